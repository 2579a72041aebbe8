import PyProof.Rows.All
import Wide.All
import OpenK.AllK
import Wide.FinOn
import KE.BitLaws
import KE.KBits
import KE.KTops
import Lean
import PySem.Challenge.RW_ph0109_01
open PySem PySem.W PyProof.Rows
set_option Elab.async false
set_option linter.unusedVariables false
namespace Mine

/-- data as the proofs see it: plain values, frozen lists, mutable objects by their address -/
inductive D where
  | undef
  | none
  | bool (b : Bool)
  | int (i : Int)
  | str (s : Str)
  | list (xs : List D)
  | tup (xs : List D)
  | ref (a : Addr)
  | ty (T : String)

abbrev FM := Addr → Option Obj

def lobj (vs : List Value) (n : Nat) : Obj := { cls := .type "list", dict := none, data := .seq vs.toArray n, slots := #[] }
def tobj (vs : List Value) (n : Nat) : Obj := { cls := .type "tuple", dict := none, data := .seq vs.toArray n, slots := #[] }

mutual
def RelV (F : FM) : D → Value → Prop
  | .undef, _ => False
  | .none, v => v = .none
  | .bool b, v => v = .bool b
  | .int i, v => ∃ t, v = .int i t
  | .str x, v => ∃ t, v = .str x t
  | .ref a, v => v = .ref a
  | .ty T, v => v = .type T
  | .list ds, v => ∃ a vs n, v = .ref a ∧ F a = some (lobj vs n) ∧ RelVs F ds vs
  | .tup ds, v => ∃ a vs n, v = .ref a ∧ F a = some (tobj vs n) ∧ RelVs F ds vs
def RelVs (F : FM) : List D → List Value → Prop
  | [], vs => vs = []
  | d :: ds, vs => ∃ v r, vs = v :: r ∧ RelV F d v ∧ RelVs F ds r
end

def FSub (F F' : FM) : Prop := ∀ a o, F a = some o → F' a = some o
theorem FSub.refl (F : FM) : FSub F F := fun _ _ h => h
theorem FSub.trans {F G H : FM} (a : FSub F G) (b : FSub G H) : FSub F H := fun x o h => b x o (a x o h)

mutual
theorem RelV.mono {F F' : FM} (hs : FSub F F') : ∀ {d : D} {v : Value}, RelV F d v → RelV F' d v
  | .undef, _, h => h
  | .none, _, h => h
  | .bool _, _, h => h
  | .int _, _, h => h
  | .str _, _, h => h
  | .ref _, _, h => h
  | .ty _, _, h => h
  | .list ds, v, h => by
    rw [RelV] at h ⊢
    obtain ⟨a, vs, n, e, hf, hr⟩ := h
    exact ⟨a, vs, n, e, hs _ _ hf, RelVs.mono hs hr⟩
  | .tup ds, v, h => by
    rw [RelV] at h ⊢
    obtain ⟨a, vs, n, e, hf, hr⟩ := h
    exact ⟨a, vs, n, e, hs _ _ hf, RelVs.mono hs hr⟩
theorem RelVs.mono {F F' : FM} (hs : FSub F F') : ∀ {ds : List D} {vs : List Value}, RelVs F ds vs → RelVs F' ds vs
  | [], _, h => h
  | d :: ds, vs, h => by
    rw [RelVs] at h ⊢
    obtain ⟨v, r, e, h1, h2⟩ := h
    exact ⟨v, r, e, RelV.mono hs h1, RelVs.mono hs h2⟩
end

theorem RelVs.length {F : FM} : ∀ {ds : List D} {vs : List Value}, RelVs F ds vs → vs.length = ds.length
  | [], vs, h => by rw [RelVs] at h; subst h; rfl
  | d :: ds, vs, h => by
    rw [RelVs] at h
    obtain ⟨v, r, rfl, _, h2⟩ := h
    simp [RelVs.length h2]

theorem RelVs.get {F : FM} : ∀ {ds : List D} {vs : List Value}, RelVs F ds vs → ∀ {i : Nat} {d : D}, ds[i]? = some d → ∃ v, vs[i]? = some v ∧ RelV F d v
  | [], vs, h, i, d, e => by simp at e
  | d :: ds, vs, h, 0, d', e => by
    rw [RelVs] at h
    obtain ⟨v, r, rfl, h1, _⟩ := h
    simp at e; subst e
    exact ⟨v, rfl, h1⟩
  | d :: ds, vs, h, i + 1, d', e => by
    rw [RelVs] at h
    obtain ⟨v, r, rfl, _, h2⟩ := h
    simp at e
    obtain ⟨v', e', hv⟩ := RelVs.get h2 e
    exact ⟨v', by simpa using e', hv⟩

theorem RelVs.append {F : FM} : ∀ {ds : List D} {vs : List Value} {es : List D} {us : List Value}, RelVs F ds vs → RelVs F es us → RelVs F (ds ++ es) (vs ++ us)
  | [], vs, es, us, h, g => by rw [RelVs] at h; subst h; exact g
  | d :: ds, vs, es, us, h, g => by
    rw [RelVs] at h
    obtain ⟨v, r, rfl, h1, h2⟩ := h
    show RelVs F (d :: (ds ++ es)) (v :: (r ++ us))
    rw [RelVs]
    exact ⟨v, _, rfl, h1, h2.append g⟩
theorem RelVs.one {F : FM} {d : D} {v : Value} (h : RelV F d v) : RelVs F [d] [v] := by
  rw [RelVs]; exact ⟨v, [], rfl, h, by rw [RelVs]⟩
theorem RelVs.nil {F : FM} : RelVs F [] [] := by rw [RelVs]
theorem RelVs.cons {F : FM} {d : D} {v : Value} {ds : List D} {vs : List Value} (h : RelV F d v) (g : RelVs F ds vs) : RelVs F (d :: ds) (v :: vs) := by
  rw [RelVs]; exact ⟨v, vs, rfl, h, g⟩
theorem RelVs.set {F : FM} : ∀ {ds : List D} {vs : List Value}, RelVs F ds vs → ∀ (i : Nat) {d : D} {v : Value}, RelV F d v → RelVs F (ds.set i d) (vs.set i v)
  | [], vs, h, i, d, v, g => by rw [RelVs] at h; subst h; simp [RelVs]
  | x :: ds, vs, h, 0, d, v, g => by
    rw [RelVs] at h; obtain ⟨u, r, rfl, _, h2⟩ := h
    exact .cons g h2
  | x :: ds, vs, h, i + 1, d, v, g => by
    rw [RelVs] at h; obtain ⟨u, r, rfl, h1, h2⟩ := h
    exact .cons h1 (h2.set i g)
theorem RelVs.take {F : FM} : ∀ {ds : List D} {vs : List Value}, RelVs F ds vs → ∀ (k : Nat), RelVs F (ds.take k) (vs.take k)
  | [], vs, h, k => by rw [RelVs] at h; subst h; simp [RelVs]
  | x :: ds, vs, h, 0 => by simp [RelVs]
  | x :: ds, vs, h, k + 1 => by
    rw [RelVs] at h; obtain ⟨u, r, rfl, h1, h2⟩ := h
    exact .cons h1 (h2.take k)
theorem RelVs.drop {F : FM} : ∀ {ds : List D} {vs : List Value}, RelVs F ds vs → ∀ (k : Nat), RelVs F (ds.drop k) (vs.drop k)
  | [], vs, h, k => by rw [RelVs] at h; subst h; simp [RelVs]
  | x :: ds, vs, h, 0 => by simpa using h
  | x :: ds, vs, h, k + 1 => by
    rw [RelVs] at h; obtain ⟨u, r, rfl, h1, h2⟩ := h
    simpa using h2.drop k

/-- mutable objects -/
inductive MObj where
  | lst (xs : List D)
  | dct (f : Int → Option D) (n : Nat)
  | itr (l : Addr) (i : Nat) (xs : List D)

def MRel (F : FM) (h : Heap) (a : Addr) : MObj → Prop
  | .lst ds => ∃ vs n, h.get? a = some (lobj vs n) ∧ RelVs F ds vs
  | .dct f n => ∃ g, h.IntMap a g ∧ h.DictLe a n ∧ ∀ k, (f k = none ∧ g k = none) ∨ ∃ d v, f k = some d ∧ g k = some v ∧ RelV F d v
  | .itr l i ds => h.IsListIter a l i ∧ ∃ vs n, F l = some (lobj vs n) ∧ RelVs F ds vs

abbrev MM := Addr → Option MObj
abbrev Ctx := List (Str × D)

end Mine

open PySem PySem.W PyProof.Rows
set_option Elab.async false
set_option linter.unusedVariables false
namespace Mine

/-- what stays fixed while the law runs: the world, the globals, the state at the law's call -/
structure Wd where
  prog : Program
  w : World
  s₁ : Shared
  mg : Str → Option Value
  mb : Str → Option Value

structure Wd.Ok (W : Wd) : Prop where
  g : W.s₁.heap.Ns mainGlobals W.mg
  b : W.s₁.heap.Ns builtinsNs W.mb
  nolimit : W.s₁.heap.NoLimit
  builtins : ∀ x : Str, x ≠ "__name__" → W.mb x = bootBuiltins x
  gens : W.s₁.gens = #[]
  gne : mainGlobals < W.s₁.heap.objs.size

abbrev Wd.M (W : Wd) : Model := model W.prog W.w

structure GoodA (A : Around) (k : Nat) : Prop where
  handled : A.handled = none
  depth : A.depth + k ≤ 400
  units : A.units + 10 * k ≤ 500

def GlobVal (W : Wd) (f : Str) (v : Value) : Prop := W.mg f = some v ∨ (W.mg f = none ∧ W.mb f = some v)

def VarIs (W : Wd) (h : Heap) (env : Env) (x : Str) (v : Value) : Prop :=
  (env.kindOf x = some .local ∧ ∃ m, h.Ns env.locals m ∧ m x = some v) ∨
  ((env.kindOf x = some .cell ∨ env.kindOf x = some .free) ∧ ∃ c, env.cells.lookup x = some c ∧ h.IsCell c (some v)) ∨
  (env.kindOf x = some .globalImplicit ∧ GlobVal W x v)

structure EnvOk (env : Env) : Prop where
  kind : env.scope.kind = .function
  globals : env.globals = mainGlobals
  builtins : env.builtins = builtinsNs
  cells : ∀ x, env.kindOf x = some .cell ∨ env.kindOf x = some .free → ∃ c, env.cells.lookup x = some c

structure St (W : Wd) (env : Env) (Δ : Ctx) (μ : MM) (F : FM) (s : Shared) : Prop where
  eok : EnvOk env
  same : ∃ h tk, s = { W.s₁ with heap := h, toks := tk }
  base : ∀ b o, W.s₁.heap.get? b = some o → F b = some o
  sub : ∀ a o, F a = some o → s.heap.get? a = some o
  vars : ∀ x d, Δ.lookup x = some d → ∃ v, VarIs W s.heap env x v ∧ RelV F d v
  mu : ∀ a m, μ a = some m → F a = none ∧ MRel F s.heap a m
  ns : ∃ m, s.heap.Ns env.locals m
  nsF : F env.locals = none
  nsM : μ env.locals = none
  cellF : ∀ x c, (x, c) ∈ env.cells → F c = none ∧ μ c = none ∧ c ≠ env.locals ∧ ∃ v, s.heap.IsCell c v
  apart : env.cells.Pairwise fun x y => x.2 ≠ y.2

structure Ext (F : FM) (s : Shared) (F' : FM) (s' : Shared) : Prop where
  keeps : Keeps s s'
  sub : FSub F F'
  inn : ∀ a o, F' a = some o → s'.heap.get? a = some o
  new : ∀ a, F' a ≠ none → F a = none → s.heap.get? a = none

theorem Keeps.get {s s' : Shared} (k : Keeps s s') {b : Addr} {o : Obj} (h : s.heap.get? b = some o) : s'.heap.get? b = some o := by
  obtain ⟨h', tk, rfl, hk⟩ := k; exact hk b o h
theorem Keeps.rfl' (s : Shared) : Keeps s s := ⟨s.heap, s.toks, rfl, fun _ _ h => h⟩
theorem Keeps.trans' {s s' s'' : Shared} (a : Keeps s s') (b : Keeps s' s'') : Keeps s s'' := by
  obtain ⟨h', tk, rfl, hk⟩ := a
  obtain ⟨h'', tk', rfl, hk'⟩ := b
  exact ⟨h'', tk', rfl, fun x o h => hk' x o (hk x o h)⟩
theorem Keeps.tok (s : Shared) (t : Nat) : Keeps s { s with toks := t } := ⟨s.heap, t, rfl, fun _ _ h => h⟩
theorem Keeps.push (s : Shared) (o : Obj) : Keeps s { s with heap := s.heap.push o } := ⟨_, s.toks, rfl, fun _ _ h => Heap.get?_push_of_some _ h⟩

theorem Ext.rfl' {F : FM} {s : Shared} (h : ∀ a o, F a = some o → s.heap.get? a = some o) : Ext F s F s :=
  ⟨Keeps.rfl' s, FSub.refl F, h, fun a h1 h2 => absurd h2 h1⟩
theorem Ext.trans {F F' F'' : FM} {s s' s'' : Shared} (a : Ext F s F' s') (b : Ext F' s' F'' s'') : Ext F s F'' s'' := by
  refine ⟨Keeps.trans' a.keeps b.keeps, a.sub.trans b.sub, b.inn, fun x h1 h2 => ?_⟩
  cases h3 : F' x with
  | some o => exact a.new x (by rw [h3]; simp) h2
  | none =>
    have h4 := b.new x h1 h3
    cases h5 : s.heap.get? x with
    | none => rfl
    | some o => rw [Keeps.get a.keeps h5] at h4; cases h4
theorem Ext.ofKeeps {F : FM} {s s' : Shared} (h : ∀ a o, F a = some o → s.heap.get? a = some o) (k : Keeps s s') : Ext F s F s' :=
  ⟨k, FSub.refl F, fun a o e => Keeps.get k (h a o e), fun a h1 h2 => absurd h2 h1⟩

/-- freeze one fresh object -/
def FM.add (F : FM) (a : Addr) (o : Obj) : FM := fun b => if b = a then some o else F b
theorem FM.add_self (F : FM) (a : Addr) (o : Obj) : F.add a o a = some o := by simp [FM.add]
theorem FM.add_sub {F : FM} {a : Addr} {o : Obj} (h : F a = none) : FSub F (F.add a o) := fun b o' e => by
  unfold FM.add; split
  · subst_vars; rw [h] at e; cases e
  · exact e
theorem Ext.addNew {F F' : FM} {s s' : Shared} {a : Addr} {o : Obj} (x : Ext F s F' s') (ho : s'.heap.get? a = some o) (hn : s.heap.get? a = none) (hF : F' a = none) : Ext F s (F'.add a o) s' := by
  refine ⟨x.keeps, x.sub.trans (FM.add_sub hF), fun b o' e => ?_, fun b h1 h2 => ?_⟩
  · unfold FM.add at e; split at e
    · subst_vars; cases e; exact ho
    · exact x.inn b o' e
  · unfold FM.add at h1; split at h1
    · subst_vars; exact hn
    · exact x.new b h1 h2
theorem Ext.push {F : FM} {s : Shared} (h : ∀ a o, F a = some o → s.heap.get? a = some o) (o : Obj) (ho : o.isFreed = false) : Ext F s (F.add s.heap.objs.size o) { s with heap := s.heap.push o } := by
  have hn : s.heap.get? s.heap.objs.size = none := by
    cases e : s.heap.get? s.heap.objs.size with
    | none => rfl
    | some o => exact absurd (Heap.lt_size e) (Nat.lt_irrefl _)
  have hF : F s.heap.objs.size = none := by
    cases e : F s.heap.objs.size with
    | none => rfl
    | some o => rw [h _ _ e] at hn; cases hn
  exact (Ext.ofKeeps h (Keeps.push s o)).addNew (Heap.get?_push_size _ ho) hn hF

theorem MRel.keeps {F F' : FM} {h h' : Heap} (hF : FSub F F') (hk : ∀ b o, h.get? b = some o → h'.get? b = some o) {a : Addr} : ∀ {m : MObj}, MRel F h a m → MRel F' h' a m
  | .lst ds, ⟨vs, n, e, r⟩ => ⟨vs, n, hk _ _ e, r.mono hF⟩
  | .dct f n, ⟨g, ⟨o, e1, e2, e3, e4⟩, hk1, hr⟩ => ⟨g, ⟨o, e1, e2, hk _ _ e3, e4⟩, (fun o' es ep x y => by rw [hk _ _ e3] at x; exact hk1 o' es ep (e3.trans x) y), fun k => (hr k).imp_right fun ⟨d, v, a1, a2, a3⟩ => ⟨d, v, a1, a2, a3.mono hF⟩⟩
  | .itr l i ds, ⟨⟨o, e1, e2⟩, vs, n, e, r⟩ => ⟨⟨o, hk _ _ e1, e2⟩, vs, n, hF _ _ e, r.mono hF⟩

theorem VarIs.keeps {W : Wd} {h h' : Heap} {env : Env} {x : Str} {v : Value} (hk : ∀ b o, h.get? b = some o → h'.get? b = some o) : VarIs W h env x v → VarIs W h' env x v
  | .inl ⟨e, m, n, hm⟩ => .inl ⟨e, m, n.keeps hk, hm⟩
  | .inr (.inl ⟨e, c, hc, hv⟩) => .inr (.inl ⟨e, c, hc, hv.keeps hk⟩)
  | .inr (.inr h) => .inr (.inr h)

theorem St.ext {W : Wd} {env : Env} {Δ : Ctx} {μ : MM} {F F' : FM} {s s' : Shared} (S : St W env Δ μ F s) (x : Ext F s F' s') : St W env Δ μ F' s' := by
  have hk : ∀ b o, s.heap.get? b = some o → s'.heap.get? b = some o := fun b o h => Keeps.get x.keeps h
  have hnone : ∀ a, F a = none → (∃ o, s.heap.get? a = some o) → F' a = none := fun a h1 ⟨o, h2⟩ => by
    cases h3 : F' a with
    | none => rfl
    | some o' => have := x.new a (by rw [h3]; simp) h1; rw [h2] at this; cases this
  refine ⟨S.eok, ?_, fun b o e => x.sub _ _ (S.base b o e), x.inn, fun y d e => ?_, fun a m e => ?_, ?_, ?_, S.nsM, fun y c hc => ?_, S.apart⟩
  · obtain ⟨h, tk, rfl⟩ := S.same
    obtain ⟨h', tk', rfl, _⟩ := x.keeps
    exact ⟨h', tk', rfl⟩
  · obtain ⟨v, h1, h2⟩ := S.vars y d e
    exact ⟨v, h1.keeps hk, h2.mono x.sub⟩
  · obtain ⟨h1, h2⟩ := S.mu a m e
    refine ⟨hnone a h1 ?_, h2.keeps x.sub hk⟩
    cases m with
    | lst ds => obtain ⟨vs, n, e, _⟩ := h2; exact ⟨_, e⟩
    | dct f n => obtain ⟨g, ⟨o, _, _, e, _⟩, _⟩ := h2; exact ⟨_, e⟩
    | itr l i ds => obtain ⟨⟨o, e, _⟩, _⟩ := h2; exact ⟨_, e⟩
  · obtain ⟨m, n⟩ := S.ns; exact ⟨m, n.keeps hk⟩
  · obtain ⟨m, o, es, ep, e, _⟩ := S.ns
    exact hnone _ S.nsF ⟨_, e⟩
  · obtain ⟨h1, h2, h3, v, h4⟩ := S.cellF y c hc
    obtain ⟨o, e, _⟩ := id h4
    exact ⟨hnone _ h1 ⟨_, e⟩, h2, h3, v, h4.keeps hk⟩

/-- e gives d, and changes nothing that stood -/
def Ev (W : Wd) (A : Around) (env : Env) (Δ : Ctx) (μ : MM) (e : Expr) (d : D) : Prop :=
  ∀ F s (E : Value → Shared → Prop), St W env Δ μ F s → wpAny W.M A (eval e env) (fun v s' => ∃ F', Ext F s F' s' ∧ RelV F' d v) E s
def Tst (W : Wd) (A : Around) (env : Env) (Δ : Ctx) (μ : MM) (e : Expr) (b : Bool) : Prop :=
  ∀ F s (E : Value → Shared → Prop), St W env Δ μ F s → wpAny W.M A (isTrue e env (eval e env)) (fun v s' => ∃ F', Ext F s F' s' ∧ v = b) E s

section
variable {W : Wd} {A : Around} {env : Env} {Δ : Ctx} {μ : MM}

/-- two in a row -/
theorem Ev.bind2 {α : Type} {l r : Expr} {a b : D} {k : Value → Value → Sem α} {Q : α → Shared → Prop} {E : Value → Shared → Prop} {F : FM} {s : Shared}
    (hl : Ev W A env Δ μ l a) (hr : Ev W A env Δ μ r b) (S : St W env Δ μ F s)
    (h : ∀ F' s' v u, Ext F s F' s' → St W env Δ μ F' s' → RelV F' a v → RelV F' b u → wpAny W.M A (k v u) Q E s') :
    wpAny W.M A (eval l env) (fun v s₁ => wpAny W.M A (eval r env) (fun u s₂ => wpAny W.M A (k v u) Q E s₂) E s₁) E s := by
  refine wpAny_mono (hl F s E S) (fun v s₁ h₁ => ?_) fun _ _ x => x
  obtain ⟨F₁, x₁, r₁⟩ := h₁
  refine wpAny_mono (hr F₁ s₁ E (S.ext x₁)) (fun u s₂ h₂ => ?_) fun _ _ x => x
  obtain ⟨F₂, x₂, r₂⟩ := h₂
  exact h F₂ s₂ v u (x₁.trans x₂) ((S.ext x₁).ext x₂) (r₁.mono x₂.sub) r₂

theorem Ev.const_int {i : Int} {k : Nat} {p : Pos} : Ev W A env Δ μ (.Constant (.int i) k p) (.int i) := fun F s E S =>
  wpAny_Constant_int ⟨F, Ext.ofKeeps S.sub (Keeps.tok s _), by rw [RelV]; exact ⟨_, rfl⟩⟩
theorem Ev.const_str {x : Str} {k : Nat} {p : Pos} : Ev W A env Δ μ (.Constant (.str x) k p) (.str x) := fun F s E S =>
  wpAny_Constant_str ⟨F, Ext.ofKeeps S.sub (Keeps.tok s _), by rw [RelV]; exact ⟨_, rfl⟩⟩
theorem Ev.const_bool {b : Bool} {k : Nat} {p : Pos} : Ev W A env Δ μ (.Constant (.bool b) k p) (.bool b) := fun F s E S =>
  wpAny_Constant_bool ⟨F, Ext.rfl' S.sub, by rw [RelV]⟩
theorem Ev.const_none {k : Nat} {p : Pos} : Ev W A env Δ μ (.Constant .none k p) .none := fun F s E S =>
  wpAny_Constant_none ⟨F, Ext.rfl' S.sub, by rw [RelV]⟩

theorem loadVar (hW : W.Ok) {x : Str} {v : Value} {Q : Value → Shared → Prop} {E : Value → Shared → Prop} {F : FM} {s : Shared} (S : St W env Δ μ F s) (hv : VarIs W s.heap env x v) (h : Q v s) (hc : (x == ("__classdict__" : Str)) = false) :
    wpAny W.M A (loadName env x) Q E s := by
  rcases hv with ⟨hl, m, hn, hm⟩ | ⟨hl | hl, c, hc', hv⟩ | ⟨hl, hm⟩
  · exact wpAny_loadName_local S.eok.kind hl hn hm h
  · exact wpAny_loadName_cell S.eok.kind hl hc' hv h
  · exact wpAny_loadName_free S.eok.kind hl hc' hv h hc
  · unfold loadName
    simp only [Env.blockKind, S.eok.kind, hl, ScopeKind.isAnnotationScope, Bool.false_and, Bool.false_eq_true, if_false]
    have hg : s.heap.Ns env.globals W.mg := by rw [S.eok.globals]; exact hW.g.keeps fun b o e => S.sub _ _ (S.base b o e)
    have hb : s.heap.Ns env.builtins W.mb := by rw [S.eok.builtins]; exact hW.b.keeps fun b o e => S.sub _ _ (S.base b o e)
    rcases hm with hm | ⟨hm, hm'⟩
    · exact Calls.loadGlobal_global hg hm h
    · exact Calls.loadGlobal_builtin hg hm hb hm' h

theorem Ev.name (hW : W.Ok) {x : Str} {p : Pos} {d : D} (h : Δ.lookup x = some d) (hd : (x == ("__debug__" : Str)) = false) (hc : (x == ("__classdict__" : Str)) = false) :
    Ev W A env Δ μ (.Name x p) d := fun F s E S => by
  obtain ⟨v, h1, h2⟩ := S.vars x d h
  exact wpAny_Name (loadVar hW S h1 ⟨F, Ext.rfl' S.sub, h2⟩ hc) hd
end
end Mine

open PySem PySem.W PyProof.Rows
set_option Elab.async false
set_option linter.unusedVariables false
namespace Mine

def asList (μ : MM) : D → Option (List D)
  | .list ds => some ds
  | .ref a => match μ a with
    | some (.lst ds) => some ds
    | _ => none
  | _ => none

theorem asList_rel {W : Wd} {env : Env} {Δ : Ctx} {μ : MM} {F : FM} {s : Shared} (S : St W env Δ μ F s) {d : D} {v : Value} {ds : List D} (hv : RelV F d v) (h : asList μ d = some ds) :
    ∃ a vs n, v = .ref a ∧ s.heap.get? a = some (lobj vs n) ∧ RelVs F ds vs := by
  cases d with
  | list es =>
    simp only [asList, Option.some.injEq] at h; subst h
    rw [RelV] at hv
    obtain ⟨a, vs, n, e, hf, hr⟩ := hv
    exact ⟨a, vs, n, e, S.sub _ _ hf, hr⟩
  | ref a =>
    simp only [asList] at h
    cases hm : μ a with
    | none => rw [hm] at h; cases h
    | some m =>
      rw [hm] at h
      cases m with
      | lst es =>
        simp only [Option.some.injEq] at h; subst h
        rw [RelV] at hv
        obtain ⟨_, vs, n, e, hr⟩ := S.mu a _ hm
        exact ⟨a, vs, n, hv, e, hr⟩
      | _ => cases h
  | _ => cases h

theorem lobj_isList {h : Heap} {a : Addr} {vs : List Value} {n : Nat} (e : h.get? a = some (lobj vs n)) : h.IsList a vs.toArray := ⟨_, e, rfl, n, rfl⟩

abbrev Gv (W : Wd) (F : FM) (s : Shared) (d : D) (v : Value) (s' : Shared) : Prop := ∃ F', Ext F s F' s' ∧ RelV F' d v

section
variable {W : Wd} {A : Around} {env : Env} {Δ : Ctx} {μ : MM} {F : FM} {s : Shared} {E : Value → Shared → Prop}

theorem gv_int (S : St W env Δ μ F s) (i : Int) (t k : Nat) : Gv W F s (.int i) (.int i t) { s with toks := k } := ⟨F, Ext.ofKeeps S.sub (Keeps.tok s k), by rw [RelV]; exact ⟨_, rfl⟩⟩
theorem gv_int0 (S : St W env Δ μ F s) (i : Int) (t : Nat) : Gv W F s (.int i) (.int i t) s := ⟨F, Ext.rfl' S.sub, by rw [RelV]; exact ⟨_, rfl⟩⟩
theorem gv_str (S : St W env Δ μ F s) (x : Str) (t k : Nat) : Gv W F s (.str x) (.str x t) { s with toks := k } := ⟨F, Ext.ofKeeps S.sub (Keeps.tok s k), by rw [RelV]; exact ⟨_, rfl⟩⟩
theorem gv_bool (S : St W env Δ μ F s) (b : Bool) : Gv W F s (.bool b) (.bool b) s := ⟨F, Ext.rfl' S.sub, by rw [RelV]⟩
theorem gv_new (S : St W env Δ μ F s) {ds : List D} {vs : List Value} (hr : RelVs F ds vs) {o : Obj} (ho : o = lobj vs 0) :
    Gv W F s (.list ds) (.ref s.heap.objs.size) { s with heap := s.heap.push o } := by
  subst ho
  have x := Ext.push (F := F) (s := s) S.sub (lobj vs 0) rfl
  exact ⟨_, x, by rw [RelV]; exact ⟨_, vs, 0, rfl, FM.add_self .., hr.mono x.sub⟩⟩

/-- arithmetic of two values -/
noncomputable def arith : Operator → Int → Int → Option Int
  | .Add, a, b => some (a + b)
  | .Sub, a, b => some (a - b)
  | .Mult, a, b => @ite _ (a.natAbs < 2 ^ 64) (Classical.propDecidable _) (some (a * b)) none
  | .FloorDiv, a, b => @ite _ (0 < b ∧ b < 1073741824) (Classical.propDecidable _) (some (a / b)) none
  | .Mod, a, b => @ite _ (0 < b) (Classical.propDecidable _) (some (a % b)) none
  | .Pow, a, b => @ite _ (0 ≤ b ∧ b ≤ 1000000 ∧ a.natAbs < 2 ^ 64) (Classical.propDecidable _) (some (a ^ b.toNat)) none
  | .LShift, a, b => @ite _ (0 ≤ b ∧ b ≤ 1000000 ∧ a.natAbs < 2 ^ 64) (Classical.propDecidable _) (some (a * 2 ^ b.toNat)) none
  | .RShift, a, b => @ite _ (0 ≤ b) (Classical.propDecidable _) (some (a / 2 ^ b.toNat)) none
  | .BitAnd, a, b => some (Builtin.bitAnd a b)
  | .BitOr, a, b => some (Builtin.bitOr a b)
  | .BitXor, a, b => some (Builtin.bitXor a b)
  | _, _, _ => none


section
variable {a b : Int}
theorem aAdd : arith .Add a b = some (a + b) := rfl
theorem aSub : arith .Sub a b = some (a - b) := rfl
theorem aMul : arith .Mult a b = @ite _ (a.natAbs < 2 ^ 64) (Classical.propDecidable _) (some (a * b)) none := rfl
theorem aDiv : arith .FloorDiv a b = @ite _ (0 < b ∧ b < 1073741824) (Classical.propDecidable _) (some (a / b)) none := rfl
theorem aMod : arith .Mod a b = @ite _ (0 < b) (Classical.propDecidable _) (some (a % b)) none := rfl
theorem aPow : arith .Pow a b = @ite _ (0 ≤ b ∧ b ≤ 1000000 ∧ a.natAbs < 2 ^ 64) (Classical.propDecidable _) (some (a ^ b.toNat)) none := rfl
theorem aShl : arith .LShift a b = @ite _ (0 ≤ b ∧ b ≤ 1000000 ∧ a.natAbs < 2 ^ 64) (Classical.propDecidable _) (some (a * 2 ^ b.toNat)) none := rfl
theorem aShr : arith .RShift a b = @ite _ (0 ≤ b) (Classical.propDecidable _) (some (a / 2 ^ b.toNat)) none := rfl
theorem aAnd : arith .BitAnd a b = some (Builtin.bitAnd a b) := rfl
theorem aOr : arith .BitOr a b = some (Builtin.bitOr a b) := rfl
theorem aXor : arith .BitXor a b = some (Builtin.bitXor a b) := rfl
end
theorem no_none {α : Type} {P : Prop} {d : α} (h : none = some d) : P := nomatch h
theorem ite_some {α : Type} {P : Prop} {x y : α} (h : @ite _ P (Classical.propDecidable _) (some x) none = some y) : P ∧ x = y := by
  split at h
  · cases h; exact ⟨by assumption, rfl⟩
  · cases h

theorem fdiv_pos {a b : Int} (h : 0 < b) : a.fdiv b = a / b := Int.fdiv_eq_ediv_of_nonneg a (Int.le_of_lt h)
theorem fmod_pos {a b : Int} (h : 0 < b) : a.fmod b = a % b := Int.fmod_eq_emod_of_nonneg a (Int.le_of_lt h)
theorem bits64 {a : Int} (h : a.natAbs < 2 ^ 64) : Builtin.Int.intBits a ≤ 64 := intBits_le_64 (by omega) (by omega)

theorem arith_sound (S : St W env Δ μ F s) {op : Operator} {a b c : Int} (h : arith op a b = some c) (t u : Tok) :
    wpAny W.M A (binaryOp op (.int a t) (.int b u)) (Gv W F s (.int c)) E s := by
  cases op with
  | Add => cases h; exact add_int (gv_int S _ _ _)
  | Sub => cases h; exact sub_int (gv_int S _ _ _)
  | Mult => obtain ⟨hb, rfl⟩ := ite_some h; exact mul_int (gv_int S _ _ _) (.of_left (bits64 hb))
  | FloorDiv => obtain ⟨hb, rfl⟩ := ite_some h; rw [← fdiv_pos hb.1]; exact floordiv_int (by omega) (gv_int S _ _ _) (.inl (PyProof.noPylong_small (by omega)))
  | Mod => obtain ⟨hb, rfl⟩ := ite_some h; rw [← fmod_pos hb]; exact mod_int (by omega) (gv_int S _ _ _)
  | Pow => obtain ⟨hb, rfl⟩ := ite_some h; exact pow_int_small hb.1 hb.2.1 hb.2.2 (gv_int S _ _ _)
  | LShift => obtain ⟨hb, rfl⟩ := ite_some h; exact lshift_int_small hb.1 hb.2.1 hb.2.2 (gv_int S _ _ _)
  | RShift =>
    obtain ⟨hb, rfl⟩ := ite_some h
    rw [← fdiv_pos (b := 2 ^ b.toNat) (Int.pow_pos (by decide))]
    exact rshift_int hb (gv_int S _ _ _)
  | BitAnd => cases h; exact and_int (gv_int S _ _ _)
  | BitOr => cases h; exact or_int (gv_int S _ _ _)
  | BitXor => cases h; exact xor_int (gv_int S _ _ _)
  | _ => exact no_none h

/-- in place: only what the texts use -/
noncomputable def iarith : Operator → Int → Int → Option Int
  | .LShift, a, b => @ite _ (0 ≤ b ∧ b ≤ 1000000 ∧ a.natAbs < 2 ^ 64) (Classical.propDecidable _) (some (a * 2 ^ b.toNat)) none
  | .BitOr, a, b => some (Builtin.bitOr a b)
  | .BitXor, a, b => some (Builtin.bitXor a b)
  | _, _, _ => none
theorem iShl {a b : Int} : iarith .LShift a b = @ite _ (0 ≤ b ∧ b ≤ 1000000 ∧ a.natAbs < 2 ^ 64) (Classical.propDecidable _) (some (a * 2 ^ b.toNat)) none := rfl
theorem iOr {a b : Int} : iarith .BitOr a b = some (Builtin.bitOr a b) := rfl
theorem iXor {a b : Int} : iarith .BitXor a b = some (Builtin.bitXor a b) := rfl
theorem iarith_sound (S : St W env Δ μ F s) {op : Operator} {a b c : Int} (h : iarith op a b = some c) (t u : Tok) :
    wpAny W.M A (inplaceOp op (.int a t) (.int b u)) (Gv W F s (.int c)) E s := by
  cases op with
  | LShift => obtain ⟨hb, rfl⟩ := ite_some h; exact ilshift_int_small hb.1 hb.2.1 hb.2.2 (gv_int S _ _ _)
  | BitOr => cases h; exact ior_int (gv_int S _ _ _)
  | BitXor => cases h; exact ixor_int (gv_int S _ _ _)
  | _ => exact no_none h

def repL (n : Nat) (ds : List D) : List D := (List.replicate n ds).flatten
theorem foldl_arr (vs : List Value) : ∀ (n : Nat) (acc : Array Value), List.foldl (fun x1 x2 => x1 ++ x2) acc (List.replicate n vs.toArray) = (acc.toList ++ (List.replicate n vs).flatten).toArray
  | 0, acc => by simp
  | n + 1, acc => by
    rw [List.replicate_succ, List.foldl_cons, foldl_arr vs n, List.replicate_succ, List.flatten_cons]
    simp
theorem RelVs.rep {ds : List D} {vs : List Value} (h : RelVs F ds vs) : ∀ n, RelVs F (repL n ds) (List.replicate n vs).flatten
  | 0 => by simp [repL, RelVs]
  | n + 1 => by
    rw [repL, List.replicate_succ, List.replicate_succ, List.flatten_cons, List.flatten_cons]
    exact h.append (RelVs.rep h n)

noncomputable def binD (μ : MM) (op : Operator) (a b : D) : Option D :=
  match a, b with
  | .int x, .int y => (arith op x y).map .int
  | .str x, .str y => @ite _ (op = .Add ∧ x.length + y.length ≤ sizeLine) (Classical.propDecidable _) (some (.str (x ++ y))) none
  | .str x, .int n => @ite _ (op = .Mult ∧ 0 ≤ n ∧ n ≤ 1000 ∧ x.length ≤ 1000) (Classical.propDecidable _) (some (.str (Txt.mul x n))) none
  | a, .int n => match asList μ a with
    | some xs => @ite _ (op = .Mult ∧ 0 ≤ n ∧ n ≤ 1000 ∧ xs.length ≤ 1000) (Classical.propDecidable _) (some (.list (repL n.toNat xs))) none
    | none => none
  | a, b => match asList μ a, asList μ b with
    | some xs, some ys => @ite _ (op = .Add ∧ xs.length + ys.length ≤ sizeLine) (Classical.propDecidable _) (some (.list (xs ++ ys))) none
    | _, _ => none

theorem add_sound (S : St W env Δ μ F s) {a b : D} {v u : Value} {xs ys : List D} (ha : RelV F a v) (hb : RelV F b u) (hx : asList μ a = some xs) (hy : asList μ b = some ys) (hs : xs.length + ys.length ≤ sizeLine) :
    wpAny W.M A (binaryOp .Add v u) (Gv W F s (.list (xs ++ ys))) E s := by
  obtain ⟨l, vs, n, rfl, e, r⟩ := asList_rel S ha hx
  obtain ⟨l', us, n', rfl, e', r'⟩ := asList_rel S hb hy
  refine P.add_list (items := vs.toArray) (items2 := us.toArray) e e' (gv_new S (r.append r') (by simp [lobj])) ?_
  simp [r.length, r'.length]; exact hs

theorem mul_sound (S : St W env Δ μ F s) {a : D} {v : Value} {n : Int} {t : Tok} {xs : List D} (ha : RelV F a v) (hx : asList μ a = some xs) (h0 : 0 ≤ n) (h1 : n ≤ 1000) (hs : xs.length ≤ 1000) :
    wpAny W.M A (binaryOp .Mult v (.int n t)) (Gv W F s (.list (repL n.toNat xs))) E s := by
  obtain ⟨l, vs, k, rfl, hl, r⟩ := asList_rel S ha hx
  have hlen := r.length
  have hmul : vs.length * n.toNat ≤ 1000000 := by
    calc vs.length * n.toNat ≤ 1000 * 1000 := Nat.mul_le_mul (by omega) (by omega)
      _ = 1000000 := rfl
  refine wpAny_binaryOp_repeat_ref (T := "list") (U := "int") (by decide) ⟨_, hl, rfl⟩ (fun s' => typeIs_int s' n t) noFill_list_mul PySem.F.fills_int_mul PySem.F.slot_int_rmul repeat_list PySem.F.slot_int_index.lookup
    (call_meets PySem.F.slot_int_rmul (typeIs_int s n t) PySem.F.entry_int_rmul (PySem.F.args_int_rmul_2 _ _) (int___rmul___int_list n t l vs.toArray k)
      ⟨hl, rfl, ⟨_, hl, rfl⟩, call_meets PySem.F.slot_list_mul ⟨_, hl, rfl⟩ PySem.F.entry_list_mul (PySem.F.args_list_mul_2 _ _)
        (AutoListH.list___mul___list_int_3 l vs.toArray k n t (by simp [Builtin.List.listFitsIndex]; omega) (by simp; omega) (by simp [Builtin.List.listTooLong, sizeLine]; omega))
        ⟨hl, ?_⟩⟩)
  have key : (List.foldl (fun x1 x2 => x1 ++ x2) #[] (List.replicate (if vs.toArray.isEmpty = true then 0 else n.toNat) vs.toArray)) = ((List.replicate n.toNat vs).flatten).toArray := by
    rw [foldl_arr]
    cases vs with
    | nil => simp
    | cons x r => simp
  exact gv_new S (r.rep n.toNat) (by rw [key]; rfl)

theorem binD_sound (S : St W env Δ μ F s) {op : Operator} {a b d : D} {v u : Value} (h : binD μ op a b = some d) (ha : RelV F a v) (hb : RelV F b u) :
    wpAny W.M A (binaryOp op v u) (Gv W F s d) E s := by
  unfold binD at h
  split at h
  · rename_i x y
    rw [RelV] at ha; rw [RelV] at hb; obtain ⟨t, rfl⟩ := ha; obtain ⟨t', rfl⟩ := hb
    obtain ⟨c, hc, rfl⟩ := Option.map_eq_some_iff.mp h
    exact arith_sound S hc _ _
  · rename_i x y
    rw [RelV] at ha; rw [RelV] at hb; obtain ⟨t, rfl⟩ := ha; obtain ⟨t', rfl⟩ := hb
    split at h
    · rename_i hc; obtain ⟨rfl, hc⟩ := hc; cases h
      exact add_str (fun t' tk => gv_str S _ _ _) hc
    · cases h
  · rename_i x n
    rw [RelV] at ha; rw [RelV] at hb; obtain ⟨t, rfl⟩ := ha; obtain ⟨t', rfl⟩ := hb
    split at h
    · rename_i hc; obtain ⟨rfl, h0, h1, h2⟩ := hc; cases h
      exact SB.mul (by
        have hm : x.length * n.toNat ≤ 1000000 := by
          calc x.length * n.toNat ≤ 1000 * 1000 := Nat.mul_le_mul (by omega) (by omega)
            _ = 1000000 := rfl
        refine ⟨by simp; omega, fun hn _ => ?_, fun _ _ => ?_⟩
        · have h3 : (1000 : Int) ≤ (2 ^ 63 - 1 : Int) / n := by
            refine (Int.le_ediv_iff_mul_le (by omega)).mpr ?_
            have : (1000 : Int) * n ≤ 1000 * 1000 := Int.mul_le_mul_of_nonneg_left h1 (by decide)
            omega
          omega
        · simp [Builtin.Str.tooLong, sizeLine]; omega) (fun t' k => gv_str S _ _ _)
    · cases h
  · rename_i n _ _
    split at h
    · rename_i xs hx
      split at h
      · rename_i hc; obtain ⟨rfl, h0, h1, h2⟩ := hc; cases h
        rw [RelV] at hb; obtain ⟨t', rfl⟩ := hb
        exact mul_sound S ha hx h0 h1 h2
      · cases h
    · cases h
  · split at h
    · rename_i xs ys hx hy
      split at h
      · rename_i hc; obtain ⟨rfl, hc⟩ := hc; cases h
        exact add_sound S ha hb hx hy hc
      · cases h
    · cases h
end
end Mine

open PySem PySem.W PyProof.Rows
set_option Elab.async false
set_option linter.unusedVariables false
namespace Mine

noncomputable def idxL {α : Type} (xs : List α) (i : Int) : Option α := @ite _ (0 ≤ i) (Classical.propDecidable _) (xs[i.toNat]?) (@ite _ (-(xs.length : Int) ≤ i) (Classical.propDecidable _) (xs[(i + xs.length).toNat]?) none)

noncomputable def idxD (μ : MM) (d : D) (i : Int) : Option D :=
  @ite _ (-(2 ^ 63) ≤ i ∧ i < 2 ^ 63) (Classical.propDecidable _) (
    match d with
    | .str x => @ite _ (0 ≤ i ∧ i < x.length) (Classical.propDecidable _) (some (.str (Txt.item x i))) none
    | d => match asList μ d with
      | some ds => idxL ds i
      | none => match d with
        | .ref a => match μ a with
          | some (.dct f _) => f i
          | _ => none
        | _ => none) none

section
variable {W : Wd} {A : Around} {env : Env} {Δ : Ctx} {μ : MM} {F : FM} {s : Shared} {E : Value → Shared → Prop}

theorem idx_list (S : St W env Δ μ F s) {d : D} {v : Value} {i : Int} {t : Tok} {ds : List D} {x : D} (hv : RelV F d v) (hl : asList μ d = some ds) (hlo : -(2 ^ 63) ≤ i) (hhi : i < 2 ^ 63) (hx : idxL ds i = some x) :
    ∃ l items, v = .ref l ∧ s.heap.IsList l items ∧ wpAny W.M A (getItem v (.int i t)) (Gv W F s x) E s := by
  obtain ⟨l, vs, n, rfl, hl, r⟩ := asList_rel S hv hl
  refine ⟨l, vs.toArray, rfl, lobj_isList hl, ?_⟩
  unfold idxL at hx
  split at hx
  · rename_i h0
    obtain ⟨y, hy, ry⟩ := r.get hx
    exact wpAny_getItem_list (lobj_isList hl) h0 hhi (by simpa using hy) ⟨F, Ext.rfl' S.sub, ry⟩
  · rename_i h0
    split at hx
    · rename_i h1
      obtain ⟨y, hy, ry⟩ := r.get hx
      exact wpAny_getItem_list_neg (lobj_isList hl) (by omega) (by simp [r.length]; omega) hlo (by simpa [r.length] using hy) ⟨F, Ext.rfl' S.sub, ry⟩
    · cases hx

theorem idxD_get (S : St W env Δ μ F s) {d x : D} {v : Value} {i : Int} {t : Tok} (hv : RelV F d v) (h : idxD μ d i = some x) :
    ∃ T id, s.TypeIs v T ∧ typeLookup (.type T) "__getitem__" = pure (some (.builtin id)) ∧ wpAny W.M A (getItem v (.int i t)) (Gv W F s x) E s := by
  unfold idxD at h
  split at h
  · rename_i hb
    split at h
    · rename_i x'
      split at h
      · rename_i hc; cases h
        rw [RelV] at hv; obtain ⟨u, rfl⟩ := hv
        refine ⟨"str", _, typeIs_str _ _ _, PySem.F.slot_str_getitem.lookup, SB.getItem ?_ ?_ (gv_str S _ _ _)⟩
        · simp [fitsSsize]; omega
        · have h1 : ¬ i < 0 := by omega
          have h2 : i.toNat < x'.cps.size := by have := hc.2; simp [Str.length] at this; omega
          have h3 : seqIndex? i x'.length = some i.toNat := by
            unfold seqIndex?; simp [h1]; omega
          simp [Txt.charAt, h3, h2]
      · cases h
    · split at h
      · rename_i ds hl
        obtain ⟨l, items, rfl, hL, hw⟩ := idx_list (A := A) (E := E) (t := t) S hv hl hb.1 hb.2 h
        exact ⟨"list", _, hL.typeIs, slot_list_getitem.lookup, hw⟩
      · split at h
        · rename_i a _ _
          split at h
          · rename_i f n hm
            rw [RelV] at hv; subst hv
            obtain ⟨_, g, hD, _, hr⟩ := S.mu a _ hm
            rcases hr i with ⟨h1, _⟩ | ⟨d', u, h1, h2, h3⟩
            · rw [h1] at h; cases h
            · rw [h1] at h; cases h
              exact ⟨"dict", _, hD.typeIs, slot_dict_getitem.lookup, wpAny_getItem_intMap hD h2 ⟨F, Ext.ofKeeps S.sub (Keeps.tok s _), h3⟩⟩
          · cases h
        · cases h
  · cases h

theorem idx_sound (S : St W env Δ μ F s) {d x : D} {v : Value} {i : Int} {t : Tok} {value slice : Expr} (hv : RelV F d v) (h : idxD μ d i = some x)
    (hs : subscripted slice false v (.int i t) = operate [v, .int i t] (getItem v (.int i t))) :
    wpAny W.M A (subscriptTail value slice v (.int i t)) (Gv W F s x) E s := by
  obtain ⟨T, id, hT, hl, hw⟩ := idxD_get (A := A) (E := E) (t := t) S hv h
  exact tail_any hT hl hw hs

/-- slices -/
def pickL {α : Type} (xs : List α) (lo hi st : Option Int) : List α :=
  (sliceRange (sliceBounds lo hi st xs.length).1 (sliceBounds lo hi st xs.length).2.1 (sliceBounds lo hi st xs.length).2.2).filterMap (xs[·]?)
theorem RelVs.pick {ds : List D} {vs : List Value} (r : RelVs F ds vs) (is : List Nat) : RelVs F (is.filterMap (ds[·]?)) (is.filterMap (vs[·]?)) := by
  induction is with
  | nil => simp [RelVs]
  | cons i is ih =>
    cases e : ds[i]? with
    | none =>
      have e' : vs[i]? = none := by
        rw [List.getElem?_eq_none_iff] at e ⊢
        rw [r.length]; exact e
      simp only [List.filterMap_cons, e, e']; exact ih
    | some d =>
      obtain ⟨v, e', rv⟩ := r.get e
      simp only [List.filterMap_cons, e, e']; exact .cons rv ih

theorem slice_list_get (S : St W env Δ μ F s) {d : D} {v : Value} {sl : Addr} {ds : List D} {vl vu vs : Value} {lo hi st : Option Int} (hv : RelV F d v) (hl : asList μ d = some ds)
    (hs : s.heap.IsSliceOf sl vl vu vs) (pl : IsPart vl lo) (pu : IsPart vu hi) (ps : IsPart vs st) (h0 : st ≠ some 0) (hsz : ds.length ≤ sizeLine) :
    s.TypeIs v "list" ∧ wpAny W.M A (getItem v (.ref sl)) (Gv W F s (.list (pickL ds lo hi st))) E s := by
  obtain ⟨l, us, n, rfl, hl, r⟩ := asList_rel S hv hl
  refine ⟨(lobj_isList hl).typeIs, wpAny_getItem_list_slice (lobj_isList hl) hs pl pu ps h0 ?_ (by simp [r.length]; exact hsz)⟩
  have hr := r.pick (sliceRange (sliceBounds lo hi st ds.length).1 (sliceBounds lo hi st ds.length).2.1 (sliceBounds lo hi st ds.length).2.2)
  exact gv_new S hr (by simp [lobj, slicePick, r.length])

theorem slice_str_get (S : St W env Δ μ F s) {x : Str} {t : Tok} {sl : Addr} {lo hi : Option (Int × Tok)} (hs : s.heap.IsSlice sl lo hi none) (hsz : x.length ≤ sizeLine) :
    wpAny W.M A (getItem (.str x t) (.ref sl)) (Gv W F s (.str (Txt.slice x (lo.map (·.1)) (hi.map (·.1))))) E s := by
  refine wpAny_getItem_str_slice (l := lo) (u := hi) (st := none) hs rfl ?_
  unfold sliceMade
  generalize hc : ((Option.map (fun x => x.fst) (none : Option (Int × Tok))).getD 1 == 1 && (slicePicked x lo hi none).length == x.length) = c
  have e : Txt.slice x (lo.map (·.1)) (hi.map (·.1)) = if c = true then x else ⟨((slicePicked x lo hi none).filterMap (x.cps[·]?)).toArray⟩ := by rw [← hc]; rfl
  have hle := Txt.slice_le x (lo.map (·.1)) (hi.map (·.1))
  rw [e] at hle ⊢
  cases c with
  | true => exact ⟨F, Ext.rfl' S.sub, by rw [RelV]; exact ⟨_, rfl⟩⟩
  | false => exact ⟨Nat.le_trans hle hsz, gv_str S _ _ _⟩
end

/-- comparison -/
def intsOf? : List D → Option (List Int)
  | [] => some []
  | .int i :: r => (intsOf? r).map (i :: ·)
  | _ => none
def strsOf? : List D → Option (List Str)
  | [] => some []
  | .str i :: r => (strsOf? r).map (i :: ·)
  | _ => none
theorem intsOf_map (ns : List Int) : intsOf? (ns.map .int) = some ns := by induction ns with | nil => rfl | cons n r ih => simp [intsOf?, ih]
theorem strsOf_map (ns : List Str) : strsOf? (ns.map .str) = some ns := by induction ns with | nil => rfl | cons n r ih => simp [strsOf?, ih]
theorem intsOf_some : ∀ {ds : List D} {ns : List Int}, intsOf? ds = some ns → ds = ns.map .int
  | [], ns, h => by simp [intsOf?] at h; subst h; rfl
  | .int i :: r, ns, h => by
    simp only [intsOf?] at h
    obtain ⟨m, hm, rfl⟩ := Option.map_eq_some_iff.mp h
    rw [intsOf_some hm]; rfl
  | .undef :: _, _, h | .none :: _, _, h | .bool _ :: _, _, h | .str _ :: _, _, h | .list _ :: _, _, h | .tup _ :: _, _, h | .ref _ :: _, _, h | .ty _ :: _, _, h => by cases h
theorem strsOf_some : ∀ {ds : List D} {ns : List Str}, strsOf? ds = some ns → ds = ns.map .str
  | [], ns, h => by simp [strsOf?] at h; subst h; rfl
  | .str i :: r, ns, h => by
    simp only [strsOf?] at h
    obtain ⟨m, hm, rfl⟩ := Option.map_eq_some_iff.mp h
    rw [strsOf_some hm]; rfl
  | .undef :: _, _, h | .none :: _, _, h | .bool _ :: _, _, h | .int _ :: _, _, h | .list _ :: _, _, h | .tup _ :: _, _, h | .ref _ :: _, _, h | .ty _ :: _, _, h => by cases h

mutual
def toPy : D → Option PyData
  | .none => some .none
  | .bool b => some (.bool b)
  | .int i => some (.int i)
  | .str x => some (.str x)
  | .list ds => (toPys ds).map .list
  | _ => none
def toPys : List D → Option (List PyData)
  | [] => some []
  | d :: ds => match toPy d, toPys ds with
    | some x, some xs => some (x :: xs)
    | _, _ => none
end

mutual
theorem toPy_reads {F : FM} {h : Heap} (hs : ∀ a o, F a = some o → h.get? a = some o) : ∀ {d : D} {v : Value} {x : PyData}, RelV F d v → toPy d = some x → ∃ as, Reads h v x as
  | .none, v, x, hv, e => by simp [toPy] at e; subst e; rw [RelV] at hv; subst hv; exact ⟨_, .none⟩
  | .bool b, v, x, hv, e => by simp [toPy] at e; subst e; rw [RelV] at hv; subst hv; exact ⟨_, .bool b⟩
  | .int i, v, x, hv, e => by simp [toPy] at e; subst e; rw [RelV] at hv; obtain ⟨t, rfl⟩ := hv; exact ⟨_, .int i t⟩
  | .str i, v, x, hv, e => by simp [toPy] at e; subst e; rw [RelV] at hv; obtain ⟨t, rfl⟩ := hv; exact ⟨_, .str i t⟩
  | .list ds, v, x, hv, e => by
    simp only [toPy] at e
    obtain ⟨xs, hx, rfl⟩ := Option.map_eq_some_iff.mp e
    rw [RelV] at hv; obtain ⟨a, vs, n, rfl, hf, hr⟩ := hv
    obtain ⟨as, q⟩ := toPys_reads hs hr hx
    exact ⟨_, reads_list_at (hs _ _ hf) rfl rfl (by simpa [lobj] using q)⟩
  | .undef, _, _, _, e | .tup _, _, _, _, e | .ref _, _, _, _, e | .ty _, _, _, _, e => by simp [toPy] at e
theorem toPys_reads {F : FM} {h : Heap} (hs : ∀ a o, F a = some o → h.get? a = some o) : ∀ {ds : List D} {vs : List Value} {xs : List PyData}, RelVs F ds vs → toPys ds = some xs → ∃ as, ReadsAll h vs xs as
  | [], vs, xs, hv, e => by simp [toPys] at e; subst e; rw [RelVs] at hv; subst hv; exact ⟨_, .nil⟩
  | d :: ds, vs, xs, hv, e => by
    rw [toPys] at e
    rw [RelVs] at hv
    obtain ⟨v, r, rfl, h1, h2⟩ := hv
    split at e
    · rename_i x' xs' e1 e2
      cases e
      obtain ⟨as, q1⟩ := toPy_reads hs h1 e1
      obtain ⟨bs, q2⟩ := toPys_reads hs h2 e2
      exact ⟨_, .cons q1 q2⟩
    · cases e
end

noncomputable def eqD (a b : D) : Option Bool :=
  match toPy a, toPy b with
  | some x, some y => @ite _ (SeqAt.shaped x && SeqAt.shaped y) (Classical.propDecidable _) (some (PyData.eqv x y)) none
  | _, _ => none

def memD (x : D) (ds : List D) : Option Bool :=
  match x with
  | .int i => (intsOf? ds).map fun ns => decide (i ∈ ns)
  | .str i => (strsOf? ds).map fun ns => decide (i ∈ ns)
  | _ => none

noncomputable def cmpD (μ : MM) (op : CmpOp) (a b : D) : Option Bool :=
  match op with
  | .Eq => (match a, b with
    | .int x, .int y => some (x == y)
    | .str x, .str y => some (x == y)
    | .list x, .list y => eqD (.list x) (.list y)
    | _, _ => none)
  | .NotEq => (match a, b with
    | .int x, .int y => some (x != y)
    | .str x, .str y => some (x != y)
    | .list x, .list y => (eqD (.list x) (.list y)).map (!·)
    | _, _ => none)
  | .Lt => (match a, b with | .int x, .int y => some (decide (x < y)) | _, _ => none)
  | .LtE => (match a, b with | .int x, .int y => some (decide (x ≤ y)) | _, _ => none)
  | .Gt => (match a, b with | .int x, .int y => some (decide (y < x)) | _, _ => none)
  | .GtE => (match a, b with | .int x, .int y => some (decide (y ≤ x)) | _, _ => none)
  | .Is => (match a, b with | .bool x, .bool y => some (x == y) | _, _ => none)
  | .In => (match a, b with
    | .str x, .str y => some (Txt.contains y x)
    | a, b => match asList μ b with
      | some ds => memD a ds
      | none => match a, b with
        | .int k, .ref d => (match μ d with | some (.dct f _) => some (f k).isSome | _ => none)
        | _, _ => none)
  | .NotIn => (match a, b with
    | .str x, .str y => some (!Txt.contains y x)
    | a, b => match asList μ b with
      | some ds => (memD a ds).map (!·)
      | none => none)
  | _ => none

section
variable {W : Wd} {A : Around} {env : Env} {Δ : Ctx} {μ : MM} {F : FM} {s : Shared} {E : Value → Shared → Prop}

def eqTo (x : Value) : Value → Bool := fun y => match y, x with
  | .int a _, .int b _ => a == b
  | .str a _, .str b _ => a.cps.toList == b.cps.toList
  | _, _ => false

theorem relInts : ∀ {ns : List Int} {vs : List Value}, RelVs F (ns.map .int) vs → ∀ (i : Int) (t : Tok), (∀ y ∈ vs, MeetsSeq.EqGives y (.int i t) (eqTo (.int i t) y)) ∧ vs.any (eqTo (.int i t)) = decide (i ∈ ns)
  | [], vs, r, i, t => by rw [List.map_nil, RelVs] at r; subst r; simp
  | n :: ns, vs, r, i, t => by
    rw [List.map_cons, RelVs] at r
    obtain ⟨v, r', rfl, h1, h2⟩ := r
    rw [RelV] at h1; obtain ⟨u, rfl⟩ := h1
    obtain ⟨q1, q2⟩ := relInts h2 i t
    refine ⟨fun y hy => ?_, ?_⟩
    · rcases List.mem_cons.mp hy with rfl | hy
      · exact MeetsSeq.EqGives.int n i u t
      · exact q1 y hy
    · rw [List.any_cons, q2]
      simp only [eqTo, List.mem_cons]
      by_cases h : n = i
      · simp [h]
      · have : ¬ i = n := fun e => h e.symm
        simp [h, this]
theorem str_eq_cps (x y : Str) : (x.cps.toList == y.cps.toList) = (x == y) := by
  by_cases h : x = y
  · subst h; simp
  · have : ¬ x.cps.toList = y.cps.toList := fun e => h (by cases x; cases y; simp at e; simp [e])
    rw [beq_eq_false_iff_ne.mpr this, beq_eq_false_iff_ne.mpr h]
theorem relStrs : ∀ {ns : List Str} {vs : List Value}, RelVs F (ns.map .str) vs → ∀ (i : Str) (t : Tok), (∀ y ∈ vs, MeetsSeq.EqGives y (.str i t) (eqTo (.str i t) y)) ∧ vs.any (eqTo (.str i t)) = decide (i ∈ ns)
  | [], vs, r, i, t => by rw [List.map_nil, RelVs] at r; subst r; simp
  | n :: ns, vs, r, i, t => by
    rw [List.map_cons, RelVs] at r
    obtain ⟨v, r', rfl, h1, h2⟩ := r
    rw [RelV] at h1; obtain ⟨u, rfl⟩ := h1
    obtain ⟨q1, q2⟩ := relStrs h2 i t
    refine ⟨fun y hy => ?_, ?_⟩
    · rcases List.mem_cons.mp hy with rfl | hy
      · exact SeqRoads2.EqGives.str n i u t
      · exact q1 y hy
    · rw [List.any_cons, q2]
      simp only [eqTo, List.mem_cons, str_eq_cps]
      by_cases h : n = i
      · simp [h]
      · have : ¬ i = n := fun e => h e.symm
        simp [h, this]

theorem mem_sound (S : St W env Δ μ F s) {a b : D} {v u : Value} {ds : List D} {r : Bool} (ha : RelV F a v) (hb : RelV F b u) (hl : asList μ b = some ds) (hm : memD a ds = some r) :
    wpAny W.M A (compareOp .In v u) (Gv W F s (.bool r)) E s ∧ wpAny W.M A (compareOp .NotIn v u) (Gv W F s (.bool (!r))) E s := by
  obtain ⟨l, us, n, rfl, hl, rr⟩ := asList_rel S hb hl
  unfold memD at hm
  split at hm
  · rename_i i
    obtain ⟨ns, hn, rfl⟩ := Option.map_eq_some_iff.mp hm
    rw [intsOf_some hn] at rr
    rw [RelV] at ha; obtain ⟨t, rfl⟩ := ha
    obtain ⟨q1, q2⟩ := relInts rr i t
    have e : us.toArray.any (eqTo (.int i t)) = decide (i ∈ ns) := by rw [List.any_toArray]; exact q2
    exact ⟨SeqRoads2.in_list (eqTo (.int i t)) (fun y hy => q1 y (by simpa using hy)) hl (by rw [e]; exact gv_bool S _),
      SeqRoads2.notIn_list (eqTo (.int i t)) (fun y hy => q1 y (by simpa using hy)) hl (by rw [e]; exact gv_bool S _)⟩
  · rename_i i
    obtain ⟨ns, hn, rfl⟩ := Option.map_eq_some_iff.mp hm
    rw [strsOf_some hn] at rr
    rw [RelV] at ha; obtain ⟨t, rfl⟩ := ha
    obtain ⟨q1, q2⟩ := relStrs rr i t
    have e : us.toArray.any (eqTo (.str i t)) = decide (i ∈ ns) := by rw [List.any_toArray]; exact q2
    exact ⟨SeqRoads2.in_list (eqTo (.str i t)) (fun y hy => q1 y (by simpa using hy)) hl (by rw [e]; exact gv_bool S _),
      SeqRoads2.notIn_list (eqTo (.str i t)) (fun y hy => q1 y (by simpa using hy)) hl (by rw [e]; exact gv_bool S _)⟩
  · cases hm

theorem eqD_sound (S : St W env Δ μ F s) {a b : D} {v u : Value} {r : Bool} (hu : A.units + 64 < cLine) (ha : RelV F a v) (hb : RelV F b u) (h : eqD a b = some r) :
    wpAny W.M A (compareOp .Eq v u) (Gv W F s (.bool r)) E s ∧ wpAny W.M A (compareOp .NotEq v u) (Gv W F s (.bool (!r))) E s := by
  unfold eqD at h
  split at h
  · rename_i x y hx hy
    split at h
    · rename_i hsh; cases h
      rw [Bool.and_eq_true] at hsh
      obtain ⟨as, q1⟩ := toPy_reads S.sub ha hx
      obtain ⟨bs, q2⟩ := toPy_reads S.sub hb hy
      exact ⟨eq_dataH q1 q2 hsh.1 hsh.2 hu (gv_bool S _), ne_dataH q1 q2 hsh.1 hsh.2 hu (gv_bool S _)⟩
    · cases h
  · cases h

theorem cmp_sound (S : St W env Δ μ F s) {op : CmpOp} {a b : D} {v u : Value} {r : Bool} (hu : A.units + 64 < cLine) (h : cmpD μ op a b = some r) (ha : RelV F a v) (hb : RelV F b u) :
    wpAny W.M A (compareOp op v u) (Gv W F s (.bool r)) E s := by
  cases op <;> simp only [cmpD] at h
  case Eq =>
    split at h
    · rw [RelV] at ha; rw [RelV] at hb; obtain ⟨t, rfl⟩ := ha; obtain ⟨t', rfl⟩ := hb; cases h; exact eq_int (gv_bool S _)
    · rw [RelV] at ha; rw [RelV] at hb; obtain ⟨t, rfl⟩ := ha; obtain ⟨t', rfl⟩ := hb; cases h; exact eq_str (gv_bool S _)
    · exact (eqD_sound S hu ha hb h).1
    · cases h
  case NotEq =>
    split at h
    · rw [RelV] at ha; rw [RelV] at hb; obtain ⟨t, rfl⟩ := ha; obtain ⟨t', rfl⟩ := hb; cases h; exact ne_int (gv_bool S _)
    · rw [RelV] at ha; rw [RelV] at hb; obtain ⟨t, rfl⟩ := ha; obtain ⟨t', rfl⟩ := hb; cases h; exact ne_str (gv_bool S _)
    · obtain ⟨r', hr, rfl⟩ := Option.map_eq_some_iff.mp h
      exact (eqD_sound S hu ha hb hr).2
    · cases h
  case Lt => split at h <;> first | (rw [RelV] at ha; rw [RelV] at hb; obtain ⟨t, rfl⟩ := ha; obtain ⟨t', rfl⟩ := hb; cases h; exact lt_int (gv_bool S _)) | cases h
  case LtE => split at h <;> first | (rw [RelV] at ha; rw [RelV] at hb; obtain ⟨t, rfl⟩ := ha; obtain ⟨t', rfl⟩ := hb; cases h; exact le_int (gv_bool S _)) | cases h
  case Gt => split at h <;> first | (rw [RelV] at ha; rw [RelV] at hb; obtain ⟨t, rfl⟩ := ha; obtain ⟨t', rfl⟩ := hb; cases h; exact gt_int (gv_bool S _)) | cases h
  case GtE => split at h <;> first | (rw [RelV] at ha; rw [RelV] at hb; obtain ⟨t, rfl⟩ := ha; obtain ⟨t', rfl⟩ := hb; cases h; exact ge_int (gv_bool S _)) | cases h
  case Is =>
    split at h
    · rename_i x y
      rw [RelV] at ha; rw [RelV] at hb; subst ha; subst hb; cases h
      show wpAny _ A (do return Value.bool (← isSame (.bool x) (.bool y))) _ E s
      have e : isSame (.bool x) (.bool y) = pure (x == y) := by cases x <;> cases y <;> rfl
      rw [e]
      exact wpAny_bind (wpAny_pure (wpAny_pure (gv_bool S _)))
    · cases h
  case In =>
    split at h
    · rw [RelV] at ha; rw [RelV] at hb; obtain ⟨t, rfl⟩ := ha; obtain ⟨t', rfl⟩ := hb; cases h; exact SB.contains (gv_bool S _)
    · split at h
      · rename_i ds hl; exact (mem_sound S ha hb hl h).1
      · split at h
        · rename_i k d _ _
          split at h
          · rename_i f n hm; cases h
            rw [RelV] at ha; rw [RelV] at hb; obtain ⟨t, rfl⟩ := ha; subst hb
            obtain ⟨_, g, hD, _, hr⟩ := S.mu d _ hm
            refine wpAny_in_intMap hD ?_
            have : (g k).isSome = (f k).isSome := by rcases hr k with ⟨h1, h2⟩ | ⟨_, _, h1, h2, _⟩ <;> rw [h1, h2] <;> rfl
            rw [this]
            exact ⟨F, Ext.ofKeeps S.sub (Keeps.tok s _), by rw [RelV]⟩
          · cases h
        · cases h
  case NotIn =>
    split at h
    · rw [RelV] at ha; rw [RelV] at hb; obtain ⟨t, rfl⟩ := ha; obtain ⟨t', rfl⟩ := hb; cases h; exact SB.notContains (gv_bool S _)
    · split at h
      · rename_i ds hl
        obtain ⟨r', hr, rfl⟩ := Option.map_eq_some_iff.mp h
        exact (mem_sound S ha hb hl hr).2
      · cases h
  all_goals cases h
end
end Mine

open PySem PySem.W PyProof.Rows
set_option Elab.async false
set_option linter.unusedVariables false
namespace Mine

def notStar : Expr → Bool
  | .Starred .. => false
  | _ => true
theorem starEach_cons {e : Expr} {rest : List Expr} {env : Env} (h : notStar e = true) : starEach (e :: rest) env = (false, eval e env) :: starEach rest env := by
  cases e <;> first | rfl | cases h

def Keeper (W : Wd) (fv : Value) : Prop := (∃ id, fv = .builtin id) ∨ (∃ T, fv = .type T) ∨ ∃ a o fd, fv = .ref a ∧ W.s₁.heap.get? a = some o ∧ o.data = .func fd

/-- a call of the global f upon data ds gives d and changes nothing that stood -/
def FnOk (W : Wd) (k : Nat) (μ : MM) (f : Str) (ds : List D) (d : D) : Prop :=
  ∃ fv, GlobVal W f fv ∧ Keeper W fv ∧ ∀ (A : Around) (env : Env) (Δ : Ctx) (F : FM) (s : Shared) (E : Value → Shared → Prop) (vs : List Value),
    GoodA A k → St W env Δ μ F s → RelVs F ds vs → wpAny W.M A (call fv vs) (Gv W F s d) E s

section
variable {W : Wd} {A : Around} {env : Env} {Δ : Ctx} {μ : MM}

inductive EvL (W : Wd) (A : Around) (env : Env) (Δ : Ctx) (μ : MM) : List Expr → List D → Prop
  | nil : EvL W A env Δ μ [] []
  | cons {e es d ds} : notStar e = true → Ev W A env Δ μ e d → EvL W A env Δ μ es ds → EvL W A env Δ μ (e :: es) (d :: ds)

theorem EvL.spliced {es : List Expr} {ds : List D} (h : EvL W A env Δ μ es ds) : ∀ {pos : Pos} {Q : List Value → Shared → Prop} {E : Value → Shared → Prop} {F : FM} {s : Shared}, St W env Δ μ F s →
    (∀ F' s' vs, Ext F s F' s' → RelVs F' ds vs → Q vs s') → wpAny W.M A (spliced (backTo pos (starEach es env))) Q E s := by
  induction h with
  | nil => intro pos Q E F s S k; exact args_nil (k F s [] (Ext.rfl' S.sub) .nil)
  | cons hn he _ ih =>
    intro pos Q E F s S k
    refine args_cons (wpAny_mono (he F s E S) (fun v s₁ h₁ => ?_) fun _ _ x => x) (starEach_cons hn)
    obtain ⟨F₁, x₁, r₁⟩ := h₁
    exact ih (S.ext x₁) fun F₂ s₂ vs x₂ r₂ => k F₂ s₂ (v :: vs) (x₁.trans x₂) (.cons (r₁.mono x₂.sub) r₂)

theorem Ev.list {es : List Expr} {ds : List D} {pos : Pos} (h : EvL W A env Δ μ es ds) (hsz : ds.length ≤ sizeLine) : Ev W A env Δ μ (.List es pos) (.list ds) := fun F s E S => by
  refine wpAny_List (h.spliced S fun F' s' vs x r => ⟨by rw [r.length]; exact hsz, ?_⟩)
  obtain ⟨F₂, x₂, r₂⟩ := gv_new (S.ext x) r (o := { cls := .type "list", data := .seq vs.toArray }) rfl
  exact ⟨F₂, x.trans x₂, r₂⟩

theorem Ev.binop {l r : Expr} {op : Operator} {pos : Pos} {a b d : D} (hl : Ev W A env Δ μ l a) (hr : Ev W A env Δ μ r b) (h : binD μ op a b = some d) : Ev W A env Δ μ (.BinOp l op r pos) d := fun F s E S => by
  refine wpAny_BinOp (Ev.bind2 (k := fun v u => binaryOp op v u) hl hr S fun F' s' v u x S' r1 r2 => wpAny_mono (binD_sound S' h r1 r2) (fun v' s'' h' => ?_) fun _ _ e => e)
  obtain ⟨F₂, x₂, r₂⟩ := h'
  exact ⟨F₂, x.trans x₂, r₂⟩

theorem Ev.compare {l r : Expr} {op : CmpOp} {pos : Pos} {a b : D} {c : Bool} (hu : A.units + 64 < cLine) (hm : behindInMarks op r = false) (hl : Ev W A env Δ μ l a) (hr : Ev W A env Δ μ r b) (h : cmpD μ op a b = some c) :
    Ev W A env Δ μ (.Compare l [op] [r] pos) (.bool c) := fun F s E S => by
  refine wpAny_Compare1 (Ev.bind2 (k := fun v u => compareOp op v u) hl hr S fun F' s' v u x S' r1 r2 => wpAny_mono (cmp_sound S' hu h r1 r2) (fun v' s'' h' => ?_) fun _ _ e => e) hm
  obtain ⟨F₂, x₂, r₂⟩ := h'
  exact ⟨F₂, x.trans x₂, r₂⟩

theorem Tst.compare {l r : Expr} {op : CmpOp} {pos : Pos} {a b : D} {c : Bool} (hu : A.units + 64 < cLine) (hm : behindInMarks op r = false) (hl : Ev W A env Δ μ l a) (hr : Ev W A env Δ μ r b) (h : cmpD μ op a b = some c) :
    Tst W A env Δ μ (.Compare l [op] [r] pos) c := fun F s E S => by
  refine wpAny_isTrue_Compare1 (Ev.bind2 (k := fun v u => compareOp op v u) hl hr S fun F' s' v u x S' r1 r2 => wpAny_mono (cmp_sound S' hu h r1 r2) (fun v' s'' h' => ?_) fun _ _ e => e) hm
  obtain ⟨F₂, x₂, r₂⟩ := h'
  rw [RelV] at r₂; subst r₂
  exact wpAny_truthy_bool ⟨F₂, x.trans x₂, rfl⟩

theorem Ev.ifexp {t a b : Expr} {pos : Pos} {c : Bool} {d : D} (ht : Tst W A env Δ μ t c) (h1 : c = true → Ev W A env Δ μ a d) (h2 : c = false → Ev W A env Δ μ b d) : Ev W A env Δ μ (.IfExp t a b pos) d := fun F s E S => by
  refine wpAny_IfExp (wpAny_mono (ht F s E S) (fun v s₁ h₁ => ?_) fun _ _ e => e)
  obtain ⟨F₁, x₁, rfl⟩ := h₁
  have key : ∀ e, Ev W A env Δ μ e d → wpAny W.M A (eval e env) (fun v s' => ∃ F', Ext F s F' s' ∧ RelV F' d v) E s₁ := fun e he =>
    wpAny_mono (he F₁ s₁ E (S.ext x₁)) (fun v s₂ h₂ => by obtain ⟨F₂, x₂, r₂⟩ := h₂; exact ⟨F₂, x₁.trans x₂, r₂⟩) fun _ _ e => e
  cases v with
  | true => exact key a (h1 rfl)
  | false => exact key b (h2 rfl)

def truthD (μ : MM) : D → Option Bool
  | .bool b => some b
  | .int i => some (i != 0)
  | _ => none

theorem truth_sound {F : FM} {s : Shared} {E : Value → Shared → Prop} (S : St W env Δ μ F s) {d : D} {v : Value} {c : Bool} {Q : Bool → Shared → Prop} (h : truthD μ d = some c) (hv : RelV F d v) (hq : Q c s) : wpAny W.M A (truthy v) Q E s := by
  cases d <;> simp only [truthD] at h
  case bool b => cases h; rw [RelV] at hv; subst hv; exact wpAny_truthy_bool hq
  case int i => cases h; rw [RelV] at hv; obtain ⟨t, rfl⟩ := hv; exact truthy_int hq
  all_goals cases h

theorem Tst.value {e : Expr} {d : D} {c : Bool} (he : ∀ whole, isTrue e env whole = (do let v ← whole; standAt e.pos; holding [v] (truthy v))) (h : Ev W A env Δ μ e d) (hc : truthD μ d = some c) : Tst W A env Δ μ e c := fun F s E S => by
  refine wpAny_isTrue_value (wpAny_mono (h F s E S) (fun v s₁ h₁ => ?_) fun _ _ e => e) (he _)
  obtain ⟨F₁, x₁, r₁⟩ := h₁
  exact truth_sound (S.ext x₁) hc r₁ ⟨F₁, x₁, rfl⟩

theorem Tst.not {e : Expr} {pos : Pos} {c : Bool} (h : Tst W A env Δ μ e c) : Tst W A env Δ μ (.UnaryOp .Not e pos) (!c) := fun F s E S =>
  wpAny_isTrue_Not (wpAny_mono (h F s E S) (fun v s₁ h₁ => by obtain ⟨F₁, x₁, rfl⟩ := h₁; exact ⟨F₁, x₁, rfl⟩) fun _ _ e => e)

theorem Ev.neg {e : Expr} {pos : Pos} {i : Int} (h : Ev W A env Δ μ e (.int i)) : Ev W A env Δ μ (.UnaryOp .USub e pos) (.int (-i)) := fun F s E S => by
  refine wpAny_UnaryOp (wpAny_mono (h F s E S) (fun v s₁ h₁ => ?_) fun _ _ e => e)
  obtain ⟨F₁, x₁, r₁⟩ := h₁
  rw [RelV] at r₁; obtain ⟨t, rfl⟩ := r₁
  refine neg_int ?_
  obtain ⟨F₂, x₂, r₂⟩ := gv_int (S.ext x₁) (-i) s₁.toks (s₁.toks + 1)
  exact ⟨F₂, x₁.trans x₂, r₂⟩

theorem Ev.subscript {v i : Expr} {pos : Pos} {d x : D} {k : Int} (hi : ∀ o w, subscripted i false o w = operate [o, w] (getItem o w)) (hv : Ev W A env Δ μ v d) (hk : Ev W A env Δ μ i (.int k)) (h : idxD μ d k = some x) :
    Ev W A env Δ μ (.Subscript v i pos) x := fun F s E S => by
  refine Subscript_ (Ev.bind2 (k := fun o w => subscriptTail v i o w) hv hk S fun F' s' o w x S' r1 r2 => ?_)
  rw [RelV] at r2; obtain ⟨t, rfl⟩ := r2
  refine wpAny_mono (idx_sound S' r1 h (hi _ _)) (fun v' s'' h' => ?_) fun _ _ e => e
  obtain ⟨F₂, x₂, r₂⟩ := h'
  exact ⟨F₂, x.trans x₂, r₂⟩
end
end Mine

open PySem PySem.W PyProof.Rows
set_option Elab.async false
set_option linter.unusedVariables false
namespace Mine
section
variable {W : Wd} {A : Around} {env : Env} {Δ : Ctx} {μ : MM}

theorem Gv.after {F F' : FM} {s s' : Shared} (x : Ext F s F' s') {d : D} {v : Value} {s'' : Shared} (h : Gv W F' s' d v s'') : Gv W F s d v s'' := by
  obtain ⟨F₂, x₂, r₂⟩ := h; exact ⟨F₂, x.trans x₂, r₂⟩

theorem loadGlob (hW : W.Ok) {f : Str} {fv : Value} {Q : Value → Shared → Prop} {E : Value → Shared → Prop} {F : FM} {s : Shared} (S : St W env Δ μ F s) (hg : GlobVal W f fv) (hk : env.kindOf f = some .globalImplicit) (h : Q fv s) :
    wpAny W.M A (loadName env f) Q E s := by
  unfold loadName
  simp only [Env.blockKind, S.eok.kind, hk, ScopeKind.isAnnotationScope, Bool.false_and, Bool.false_eq_true, if_false]
  have hg' : s.heap.Ns env.globals W.mg := by rw [S.eok.globals]; exact hW.g.keeps fun b o e => S.sub _ _ (S.base b o e)
  have hb' : s.heap.Ns env.builtins W.mb := by rw [S.eok.builtins]; exact hW.b.keeps fun b o e => S.sub _ _ (S.base b o e)
  rcases hg with hg | ⟨hg, hb⟩
  · exact Calls.loadGlobal_global hg' hg h
  · exact Calls.loadGlobal_builtin hg' hg hb' hb h

/-- callWith for the three kinds of callees -/
theorem callWith_any {fv : Value} {es : List Expr} {ds : List D} {pos : Pos} {Q : Value → Shared → Prop} {E : Value → Shared → Prop} {F : FM} {s : Shared} (hk : Keeper W fv) (hl : EvL W A env Δ μ es ds) (hne : es ≠ []) (S : St W env Δ μ F s)
    (h : ∀ F' s' vs, Ext F s F' s' → RelVs F' ds vs → wpAny W.M A (call fv vs) Q E s') : wpAny W.M A (callWith pos fv [] (backTo pos (starEach es env)) []) Q E s := by
  cases hl with
  | nil => exact absurd rfl hne
  | @cons e es d ds hn he hr =>
    have hstar := starEach_cons (rest := es) (env := env) hn
    have hplain : ∀ {es : List Expr} {ds : List D}, EvL W A env Δ μ es ds → (backTo pos (starEach es env)).any (·.1) = false := by
      intro es ds h
      induction h with
      | nil => rfl
      | cons hn _ _ ih => rw [starEach_cons hn]; exact ih
    rcases hk with ⟨id, rfl⟩ | ⟨T, rfl⟩ | ⟨a, o, fd, rfl, ho, hd⟩
    · exact callWith_builtin1 ((EvL.cons hn he hr).spliced S fun F' s' vs x r => h F' s' vs x r) hstar (hplain hr)
    · refine PySem.callWith_type (by
        have := hplain (EvL.cons hn he hr); exact this) ?_
      have sp := (EvL.cons hn he hr).spliced (pos := pos) (E := E) S (Q := fun vs s' => wpAny W.M A (call (.type T) vs) Q E s') fun F' s' vs x r => h F' s' vs x r
      rw [hstar] at sp ⊢
      exact Calls.evalArgs_plain (wpAny_mono sp (fun vs s' h' => by simpa using h') fun _ _ e => e)
    · exact callWith_def hd ((EvL.cons hn he hr).spliced S fun F' s' vs x r => ⟨x.inn _ _ (x.sub _ _ (S.base a o ho)), h F' s' vs x r⟩) hstar

theorem Ev.call (hW : W.Ok) {f : Str} {p pos : Pos} {es : List Expr} {ds : List D} {d : D} {k : Nat} (hA : GoodA A k) (hf : FnOk W k μ f ds d) (hl : EvL W A env Δ μ es ds) (hne : es ≠ [])
    (hk : env.kindOf f = some .globalImplicit) (hd : (f == ("__debug__" : Str)) = false) : Ev W A env Δ μ (.Call (.Name f p) es [] pos) d := fun F s E S => by
  obtain ⟨fv, hg, hkp, hcall⟩ := hf
  refine Call_ (wpAny_Name (loadGlob hW S hg hk ?_) hd) rfl
  refine callWith_any hkp hl hne S fun F' s' vs x r => ?_
  exact wpAny_mono (hcall A env Δ F' s' E vs hA (S.ext x) r) (fun v s'' h' => Gv.after x h') fun _ _ e => e

/-- methods of plain values -/
def plainBase : Expr → Bool
  | .Call .. => false
  | _ => true
theorem base_eq {o : Expr} {name : Str} (h : plainBase o = true) (whole : Sem Value) : attributeBase o name env whole = whole := by
  cases o <;> first | rfl | cases h

theorem strs_rel {F : FM} : ∀ {xs : List Str} {vs : List Value}, RelVs F (xs.map .str) vs → ∃ l : List (Str × Tok), vs = strValues l ∧ l.map (·.1) = xs
  | [], vs, r => by rw [List.map_nil, RelVs] at r; subst r; exact ⟨[], rfl, rfl⟩
  | x :: xs, vs, r => by
    rw [List.map_cons, RelVs] at r
    obtain ⟨v, r', rfl, h1, h2⟩ := r
    rw [RelV] at h1; obtain ⟨t, rfl⟩ := h1
    obtain ⟨l, rfl, rfl⟩ := strs_rel h2
    exact ⟨(x, t) :: l, rfl, rfl⟩
theorem strs_rel' {F : FM} : ∀ (l : List (Str × Tok)), RelVs F ((l.map (·.1)).map .str) (strValues l)
  | [] => .nil
  | (x, t) :: l => .cons (by rw [RelV]; exact ⟨t, rfl⟩) (strs_rel' l)

theorem Ev.join {o e : Expr} {apos pos : Pos} {sep : Str} {d : D} {ds : List D} {xs : List Str} (hb : plainBase o = true) (hn : notStar e = true) (hline : (apos.endLine == pos.line) = true)
    (ho : Ev W A env Δ μ o (.str sep)) (he : Ev W A env Δ μ e d) (hl : asList μ d = some ds) (hs : strsOf? ds = some xs) (hok : JoinOk sep xs = true) :
    Ev W A env Δ μ (.Call (.Attribute o "join" apos) [e] [] pos) (.str (Txt.join sep xs)) := fun F s E S => by
  refine Call_method1 (base_eq hb _) (starEach_cons hn) hline (wpAny_mono (ho F s E S) (fun v s₁ h₁ => ?_) fun _ _ e => e)
  obtain ⟨F₁, x₁, r₁⟩ := h₁
  rw [RelV] at r₁; obtain ⟨t, rfl⟩ := r₁
  refine SB.join (wpAny_mono (he F₁ s₁ E (S.ext x₁)) (fun v s₂ h₂ => ?_) fun _ _ e => e)
  obtain ⟨F₂, x₂, r₂⟩ := h₂
  have S₂ := (S.ext x₁).ext x₂
  obtain ⟨l, vs, n, rfl, hget, hr⟩ := asList_rel S₂ r₂ hl
  rw [strsOf_some hs] at hr
  obtain ⟨l', rfl, hl'⟩ := strs_rel hr
  exact ⟨l, l', rfl, lobj_isList hget, xs, hl', hok, fun t' k => Gv.after (x₁.trans x₂) (gv_str S₂ _ _ _)⟩

theorem Ev.split {o e : Expr} {apos pos : Pos} {x y : Str} (hb : plainBase o = true) (hn : notStar e = true) (hline : (apos.endLine == pos.line) = true)
    (ho : Ev W A env Δ μ o (.str x)) (he : Ev W A env Δ μ e (.str y)) (hy : (y.length == 0) = false) (hx : x.length ≤ sizeLine)
    (hparts : (Builtin.Str.partsBetween x (Builtin.Str.occurrences x y 0 x.length (x.length + 1)) y.length).length ≤ sizeLine) :
    Ev W A env Δ μ (.Call (.Attribute o "split" apos) [e] [] pos) (.list ((Txt.split x y).map .str)) := fun F s E S => by
  refine Call_method1 (base_eq hb _) (starEach_cons hn) hline (wpAny_mono (ho F s E S) (fun v s₁ h₁ => ?_) fun _ _ e => e)
  obtain ⟨F₁, x₁, r₁⟩ := h₁
  rw [RelV] at r₁; obtain ⟨t, rfl⟩ := r₁
  refine ⟨"str", _, PySem.F.plainAttrs_str, PySem.F.slot_str_split, PySem.F.type_str_split, typeIs_str _ _ _, (fun _ e => nomatch e),
    method1_meets PySem.F.slot_str_split PySem.F.entry_str_split (wpAny_mono (he F₁ s₁ E (S.ext x₁)) (fun v s₂ h₂ => ?_) fun _ _ e => e)⟩
  obtain ⟨F₂, x₂, r₂⟩ := h₂
  have S₂ := (S.ext x₁).ext x₂
  rw [RelV] at r₂; obtain ⟨u, rfl⟩ := r₂
  refine ⟨typeIs_str _ _ _, PySem.F.args_str_split_2 _ _, ?_⟩
  have fin : ∀ (l : List (Str × Tok)) (k : Nat), l.map (·.1) = Txt.split x y → Gv W F s (.list ((Txt.split x y).map .str)) (.ref s₂.heap.objs.size) { s₂ with heap := s₂.heap.push { cls := .type "list", data := .seq (strValues l).toArray }, toks := k } := by
    intro l k hl
    have hp := Ext.ofKeeps (F := F₂) S₂.sub (Keeps.tok s₂ k)
    have S₃ := S₂.ext hp
    have g := gv_new S₃ (strs_rel' l) (o := { cls := .type "list", data := .seq (strValues l).toArray }) rfl
    rw [hl] at g
    exact Gv.after ((x₁.trans x₂).trans hp) g
  cases h1 : (decide (x.length < y.length) || decide (Builtin.Str.strKind x < Builtin.Str.strKind y))
  · cases hf : (Builtin.Str.occurrences x y 0 x.length (x.length + 1)).isEmpty
    · refine ⟨_, meets_str_split_sep x y t u h1 hy hf hx hparts, ?_⟩
      have g := fin (numbered s₂.toks (Builtin.Str.partsBetween x (Builtin.Str.occurrences x y 0 x.length (x.length + 1)) y.length)) (s₂.toks + (Builtin.Str.partsBetween x (Builtin.Str.occurrences x y 0 x.length (x.length + 1)) y.length).length)
        ((numbered_texts _ _).trans ((if_neg (ne_true_of_eq_false h1)).trans (if_neg (ne_true_of_eq_false hf))).symm)
      rw [← strsFrom_eq] at g
      exact g
    · exact ⟨_, meets_str_split_not_found x y t u h1 hy hf, fin [(x, t)] s₂.toks ((if_neg (ne_true_of_eq_false h1)).trans (if_pos hf)).symm⟩
  · exact ⟨_, meets_str_split_cannot_occur x y t u h1, fin [(x, t)] s₂.toks (if_pos h1).symm⟩

/-- xs.index(v), ints or strs -/
def findIdxD (x : D) (ds : List D) : Option Nat :=
  match x with
  | .int i => (intsOf? ds).bind fun ns => if i ∈ ns then some (ns.idxOf i) else none
  | .str i => (strsOf? ds).bind fun ns => if i ∈ ns then some (ns.idxOf i) else none
  | _ => none

theorem idxOf_facts {α : Type} [DecidableEq α] : ∀ {ns : List α} {i : α}, i ∈ ns → ns.idxOf i < ns.length ∧ ns[ns.idxOf i]? = some i ∧ ∀ m, m < ns.idxOf i → ∀ y, ns[m]? = some y → y ≠ i
  | n :: ns, i, h => by
    by_cases e : n = i
    · subst e; simp
    · have hm : i ∈ ns := by rcases List.mem_cons.mp h with rfl | h; exact absurd rfl e; exact h
      obtain ⟨a, b, c⟩ := idxOf_facts hm
      have e' : (n == i) = false := by simpa using e
      rw [List.idxOf_cons, e']
      simp only [cond_false]
      refine ⟨by simp; omega, by simpa using b, fun m hm' y hy => ?_⟩
      cases m with
      | zero => simp at hy; subst hy; exact e
      | succ m => exact c m (by omega) y (by simpa using hy)

theorem Ev.index {o e : Expr} {apos pos : Pos} {d x : D} {ds : List D} {j : Nat} (hb : plainBase o = true) (hn : notStar e = true) (hline : (apos.endLine == pos.line) = true)
    (ho : Ev W A env Δ μ o d) (he : Ev W A env Δ μ e x) (hl : asList μ d = some ds) (hj : findIdxD x ds = some j) (hsz : ds.length ≤ sizeLine) :
    Ev W A env Δ μ (.Call (.Attribute o "index" apos) [e] [] pos) (.int j) := fun F s E S => by
  refine Call_method1 (base_eq hb _) (starEach_cons hn) hline (wpAny_mono (ho F s E S) (fun v s₁ h₁ => ?_) fun _ _ e => e)
  obtain ⟨F₁, x₁, r₁⟩ := h₁
  have S₁ := S.ext x₁
  obtain ⟨l, vs, n, rfl, hget, hr⟩ := asList_rel S₁ r₁ hl
  refine ⟨"list", _, PySem.F.plainAttrs_list, PySem.F.slot_list_index, PySem.F.type_list_index, ⟨_, hget, rfl⟩, (fun a e => ⟨_, by cases e; exact hget, rfl⟩), ?_⟩
  refine P.index_list (wpAny_mono (he F₁ s₁ E S₁) (fun v s₂ h₂ => ?_) fun _ _ e => e)
  obtain ⟨F₂, x₂, r₂⟩ := h₂
  have S₂ := S₁.ext x₂
  have hget₂ := Keeps.get x₂.keeps hget
  have hr₂ := hr.mono x₂.sub
  have hlen := hr₂.length
  have hfit : (sizeLine : Int) < 2 ^ 63 - 1 := by decide
  unfold findIdxD at hj
  split at hj
  · rename_i i
    obtain ⟨ns, hns, hj⟩ := Option.bind_eq_some_iff.mp hj
    rw [intsOf_some hns] at hr₂ hlen hsz
    split at hj
    · rename_i hmem; cases hj
      obtain ⟨a1, a2, a3⟩ := idxOf_facts hmem
      simp only [List.length_map] at hlen hsz
      rw [RelV] at r₂; obtain ⟨t, rfl⟩ := r₂
      obtain ⟨q1, _⟩ := relInts hr₂ i t
      have hel : ∀ m y, ns[m]? = some y → ∃ u, vs[m]? = some (Value.int y u) := fun m y hy => by
        obtain ⟨v, hv, rv⟩ := hr₂.get (i := m) (d := .int y) (by rw [List.getElem?_map, hy]; rfl)
        rw [RelV] at rv; obtain ⟨u, rfl⟩ := rv; exact ⟨u, hv⟩
      obtain ⟨u, hu⟩ := hel _ _ a2
      have hsize : vs.toArray.size = ns.length := by simpa using hlen
      refine ⟨vs.toArray, n, eqTo (.int i t), ns.idxOf i, by rw [hsize]; exact a1, hget₂, fun y hy => q1 y (by simpa using hy), by omega, ?_, fun m hm hmj => ?_, Gv.after (x₁.trans x₂) (gv_int S₂ _ _ _)⟩
      · have e : vs.toArray[ns.idxOf i]'(by rw [hsize]; exact a1) = Value.int i u := by
          have := hu; simp at this ⊢
          exact (List.getElem?_eq_some_iff.mp this).2
        rw [e]; simp [eqTo]
      · have hm' : m < ns.length := by omega
        obtain ⟨u', hu'⟩ := hel m ns[m] (by simp [hm'])
        have e : vs.toArray[m] = Value.int ns[m] u' := by
          simp
          exact (List.getElem?_eq_some_iff.mp hu').2
        rw [e]; simp [eqTo]; exact a3 m hmj ns[m] (by simp [hm'])
    · cases hj
  · rename_i i
    obtain ⟨ns, hns, hj⟩ := Option.bind_eq_some_iff.mp hj
    rw [strsOf_some hns] at hr₂ hlen hsz
    split at hj
    · rename_i hmem; cases hj
      obtain ⟨a1, a2, a3⟩ := idxOf_facts hmem
      simp only [List.length_map] at hlen hsz
      rw [RelV] at r₂; obtain ⟨t, rfl⟩ := r₂
      obtain ⟨q1, _⟩ := relStrs hr₂ i t
      have hel : ∀ m y, ns[m]? = some y → ∃ u, vs[m]? = some (Value.str y u) := fun m y hy => by
        obtain ⟨v, hv, rv⟩ := hr₂.get (i := m) (d := .str y) (by rw [List.getElem?_map, hy]; rfl)
        rw [RelV] at rv; obtain ⟨u, rfl⟩ := rv; exact ⟨u, hv⟩
      obtain ⟨u, hu⟩ := hel _ _ a2
      have hsize : vs.toArray.size = ns.length := by simpa using hlen
      refine ⟨vs.toArray, n, eqTo (.str i t), ns.idxOf i, by rw [hsize]; exact a1, hget₂, fun y hy => q1 y (by simpa using hy), by omega, ?_, fun m hm hmj => ?_, Gv.after (x₁.trans x₂) (gv_int S₂ _ _ _)⟩
      · have e : vs.toArray[ns.idxOf i]'(by rw [hsize]; exact a1) = Value.str i u := by
          have := hu; simp at this ⊢
          exact (List.getElem?_eq_some_iff.mp this).2
        rw [e]; simp [eqTo]
      · have hm' : m < ns.length := by omega
        obtain ⟨u', hu'⟩ := hel m ns[m] (by simp [hm'])
        have e : vs.toArray[m] = Value.str ns[m] u' := by
          simp
          exact (List.getElem?_eq_some_iff.mp hu').2
        rw [e]; simp only [eqTo, str_eq_cps]; simpa using a3 m hmj ns[m] (by simp [hm'])
    · cases hj
  · cases hj
end
end Mine

open PySem PySem.W PyProof.Rows
set_option Elab.async false
set_option linter.unusedVariables false
namespace Mine

theorem ns_unique {h : Heap} {a : Addr} {m m' : Str → Option Value} (x : h.Ns a m) (y : h.Ns a m') : m = m' := by
  obtain ⟨o, es, ep, e1, e2, e3, e4⟩ := x
  obtain ⟨o', es', ep', f1, f2, f3, f4⟩ := y
  rw [e1] at f1; cases f1
  rw [e2] at f2; cases f2
  funext n
  rw [← e4 n, ← f4 n]

def KeepsBut (X : List Addr) (s s' : Shared) : Prop := ∃ h' tk, s' = { s with heap := h', toks := tk } ∧ ∀ b o, b ∉ X → s.heap.get? b = some o → h'.get? b = some o
theorem KeepsBut.get {X : List Addr} {s s' : Shared} (k : KeepsBut X s s') {b : Addr} {o : Obj} (hb : b ∉ X) (h : s.heap.get? b = some o) : s'.heap.get? b = some o := by
  obtain ⟨h', tk, rfl, hk⟩ := k; exact hk b o hb h
theorem KeepsBut.ofKeeps {X : List Addr} {s s' : Shared} (k : Keeps s s') : KeepsBut X s s' := by
  obtain ⟨h', tk, rfl, hk⟩ := k; exact ⟨h', tk, rfl, fun b o _ h => hk b o h⟩
theorem KeepsBut.trans {X : List Addr} {s s' s'' : Shared} (a : KeepsBut X s s') (b : KeepsBut X s' s'') : KeepsBut X s s'' := by
  obtain ⟨h', tk, rfl, hk⟩ := a
  obtain ⟨h'', tk', rfl, hk'⟩ := b
  exact ⟨h'', tk', rfl, fun x o hx h => hk' x o hx (hk x o hx h)⟩
theorem KeepsBut.mono {X Y : List Addr} {s s' : Shared} (a : KeepsBut X s s') (h : ∀ b ∈ X, b ∈ Y) : KeepsBut Y s s' := by
  obtain ⟨h', tk, rfl, hk⟩ := a
  exact ⟨h', tk, rfl, fun x o hx e => hk x o (fun hm => hx (h x hm)) e⟩
theorem KeepsBut.rfl' {X : List Addr} (s : Shared) : KeepsBut X s s := .ofKeeps (Keeps.rfl' s)

structure ExtBut (X : List Addr) (F : FM) (s : Shared) (F' : FM) (s' : Shared) : Prop where
  keeps : KeepsBut X s s'
  sub : FSub F F'
  new : ∀ a, F' a ≠ none → F a = none → s.heap.get? a = none ∨ a ∈ X

theorem ExtBut.rfl' {X : List Addr} {F : FM} {s : Shared} : ExtBut X F s F s := ⟨.rfl' s, .refl F, fun a h1 h2 => absurd h2 h1⟩
theorem ExtBut.trans {X : List Addr} {F F' F'' : FM} {s s' s'' : Shared} (a : ExtBut X F s F' s') (b : ExtBut X F' s' F'' s'') : ExtBut X F s F'' s'' := by
  refine ⟨a.keeps.trans b.keeps, a.sub.trans b.sub, fun x h1 h2 => ?_⟩
  cases h3 : F' x with
  | some o => exact a.new x (by rw [h3]; simp) h2
  | none =>
    rcases b.new x h1 h3 with h4 | h4
    · by_cases hx : x ∈ X
      · exact .inr hx
      · left
        cases h5 : s.heap.get? x with
        | none => rfl
        | some o => rw [a.keeps.get hx h5] at h4; cases h4
    · exact .inr h4
theorem ExtBut.mono {X Y : List Addr} {F F' : FM} {s s' : Shared} (a : ExtBut X F s F' s') (h : ∀ b ∈ X, b ∈ Y) : ExtBut Y F s F' s' := ⟨a.keeps.mono h, a.sub, fun x h1 h2 => (a.new x h1 h2).imp id (h x)⟩
theorem Ext.but {X : List Addr} {F F' : FM} {s s' : Shared} (a : Ext F s F' s') : ExtBut X F s F' s' := ⟨.ofKeeps a.keeps, a.sub, fun x h1 h2 => .inl (a.new x h1 h2)⟩
theorem ExtBut.same {X : List Addr} {F : FM} {s s' : Shared} (k : KeepsBut X s s') : ExtBut X F s F s' := ⟨k, .refl F, fun a h1 h2 => absurd h2 h1⟩
/-- what is fresh need not be named -/
theorem ExtBut.drop {X Y : List Addr} {F F' : FM} {s s' : Shared} (a : ExtBut X F s F' s') (h : ∀ b ∈ X, b ∈ Y ∨ s.heap.get? b = none) : ExtBut Y F s F' s' := by
  refine ⟨?_, a.sub, fun x h1 h2 => ?_⟩
  · obtain ⟨h', tk, rfl, hk⟩ := a.keeps
    refine ⟨h', tk, rfl, fun b o hb e => hk b o (fun hX => ?_) e⟩
    rcases h b hX with h1 | h1
    · exact hb h1
    · rw [h1] at e; cases e
  · rcases a.new x h1 h2 with h3 | h3
    · exact .inl h3
    · rcases h x h3 with h4 | h4
      · exact .inr h4
      · exact .inl h4
theorem ExtBut.ext {F F' : FM} {s s' : Shared} (a : ExtBut [] F s F' s') (hin : ∀ b o, F' b = some o → s'.heap.get? b = some o) : Ext F s F' s' := by
  refine ⟨?_, a.sub, hin, fun x h1 h2 => ?_⟩
  · obtain ⟨h', tk, rfl, hk⟩ := a.keeps; exact ⟨h', tk, rfl, fun b o e => hk b o (by simp) e⟩
  · rcases a.new x h1 h2 with h3 | h3
    · exact h3
    · cases h3

theorem MRel.same {F : FM} {h h' : Heap} {a : Addr} (hk : ∀ o, h.get? a = some o → h'.get? a = some o) : ∀ {m : MObj}, MRel F h a m → MRel F h' a m
  | .lst ds, ⟨vs, n, e, r⟩ => ⟨vs, n, hk _ e, r⟩
  | .dct f n, ⟨g, ⟨o, e1, e2, e3, e4⟩, hk1, hr⟩ => ⟨g, ⟨o, e1, e2, hk _ e3, e4⟩, (fun o' es ep x y => by rw [hk _ e3] at x; exact hk1 o' es ep (e3.trans x) y), hr⟩
  | .itr l i ds, ⟨⟨o, e1, e2⟩, r⟩ => ⟨⟨o, hk _ e1, e2⟩, r⟩
theorem MRel.some {F : FM} {h : Heap} {a : Addr} : ∀ {m : MObj}, MRel F h a m → ∃ o, h.get? a = Option.some o
  | .lst ds, ⟨vs, n, e, _⟩ => ⟨_, e⟩
  | .dct f n, ⟨g, ⟨o, _, _, e, _⟩, _⟩ => ⟨_, e⟩
  | .itr l i ds, ⟨⟨o, e, _⟩, _⟩ => ⟨_, e⟩

section
variable {W : Wd} {A : Around} {env : Env} {Δ : Ctx} {μ : MM} {F : FM} {s : Shared} {E : Value → Shared → Prop}

theorem St.lookupCell (S : St W env Δ μ F s) {x y : Str} {c : Addr} (h1 : env.cells.lookup x = some c) (h2 : env.cells.lookup y = some c) : x = y :=
  name_of_addr S.apart (mem_of_lookup h1) (mem_of_lookup h2)

/-- a name of the frame's own is stored -/
theorem St.store (S : St W env Δ μ F s) {x : Str} {d : D} {v : Value} {Q : Unit → Shared → Prop} (hk : env.kindOf x = some .local ∨ env.kindOf x = some .cell) (hv : RelV F d v)
    (h : ∀ s' b, (b = env.locals ∧ env.kindOf x = some .local ∨ env.cells.lookup x = some b ∧ env.kindOf x = some .cell) → St W env ((x, d) :: Δ) μ F s' → ExtBut [b] F s F s' → Q () s') : wpAny W.M A (storeName env x v) Q E s := by
  rcases hk with hk | hk
  · obtain ⟨m, hn⟩ := S.ns
    refine wpAny_storeName_local hk hn (fun h' hn' hs' => ?_) (by rw [S.eok.kind]; rfl)
    have keep : ∀ b o, b ≠ env.locals → s.heap.get? b = some o → h'.get? b = some o := fun b o hb e => (hs'.2 b hb).trans e
    have hext : ExtBut [env.locals] F s F { s with heap := h', toks := s.toks + 1 } := .same ⟨h', _, rfl, fun b o hb e => keep b o (by simpa using hb) e⟩
    refine h _ env.locals (.inl ⟨rfl, hk⟩) ⟨S.eok, ?_, S.base, fun a o e => keep a o (fun e' => by rw [e', S.nsF] at e; cases e) (S.sub a o e), fun y d' hy => ?_, fun a mo e => ?_, ⟨_, hn'⟩, S.nsF, S.nsM, fun y c hc => ?_, S.apart⟩ hext
    · obtain ⟨h₀, tk, rfl⟩ := S.same; exact ⟨h', _, rfl⟩
    · rw [List.lookup_cons] at hy
      cases hb : y == x with
      | true => rw [hb] at hy; cases hy; rw [beq_iff_eq.mp hb]; exact ⟨v, .inl ⟨hk, _, hn', by simp⟩, hv⟩
      | false =>
        rw [hb] at hy
        have hne : y ≠ x := fun e => by simp [e] at hb
        obtain ⟨u, hu, ru⟩ := S.vars y d' hy
        refine ⟨u, ?_, ru⟩
        rcases hu with ⟨h1, m', hm', hmy⟩ | ⟨h1, c, hc, hv'⟩ | h1
        · rw [ns_unique hm' hn] at hmy
          exact .inl ⟨h1, _, hn', by simp [hne, hmy]⟩
        · refine .inr (.inl ⟨h1, c, hc, ?_⟩)
          obtain ⟨o, ho, hd⟩ := hv'
          exact ⟨o, keep c o (S.cellF y c (mem_of_lookup hc)).2.2.1 ho, hd⟩
        · exact .inr (.inr h1)
    · obtain ⟨h1, h2⟩ := S.mu a mo e
      exact ⟨h1, h2.same fun o e' => keep a o (fun e'' => by rw [e'', S.nsM] at e; cases e) e'⟩
    · obtain ⟨h1, h2, h3, u, o, ho, hd⟩ := S.cellF y c hc
      exact ⟨h1, h2, h3, u, o, keep c o h3 ho, hd⟩
  · obtain ⟨c, hc⟩ := S.eok.cells x (.inl hk)
    obtain ⟨hcF, hcM, hcL, u₀, hu₀⟩ := S.cellF x c (mem_of_lookup hc)
    refine wpAny_storeName_cell S.eok.kind hk hc hu₀ fun h' hc' hs' => ?_
    have keep : ∀ b o, b ≠ c → s.heap.get? b = some o → h'.get? b = some o := fun b o hb e => (hs'.2 b hb).trans e
    have hext : ExtBut [c] F s F { s with heap := h' } := .same ⟨h', _, rfl, fun b o hb e => keep b o (by simpa using hb) e⟩
    refine h _ c (.inr ⟨hc, hk⟩) ⟨S.eok, ?_, S.base, fun a o e => keep a o (fun e' => by rw [e', hcF] at e; cases e) (S.sub a o e), fun y d' hy => ?_, fun a mo e => ?_, ?_, S.nsF, S.nsM, fun y c' hc'' => ?_, S.apart⟩ hext
    · obtain ⟨h₀, tk, rfl⟩ := S.same; exact ⟨h', _, rfl⟩
    · rw [List.lookup_cons] at hy
      cases hb : y == x with
      | true => rw [hb] at hy; cases hy; rw [beq_iff_eq.mp hb]; exact ⟨v, .inr (.inl ⟨.inl hk, c, hc, hc'⟩), hv⟩
      | false =>
        rw [hb] at hy
        have hne : y ≠ x := fun e => by simp [e] at hb
        obtain ⟨u, hu, ru⟩ := S.vars y d' hy
        refine ⟨u, ?_, ru⟩
        rcases hu with ⟨h1, m', hm', hmy⟩ | ⟨h1, c₂, hc₂, hv'⟩ | h1
        · exact .inl ⟨h1, m', hm'.sameBut hs' (Ne.symm hcL), hmy⟩
        · refine .inr (.inl ⟨h1, c₂, hc₂, ?_⟩)
          obtain ⟨o, ho, hd⟩ := hv'
          exact ⟨o, keep c₂ o (fun e => hne (S.lookupCell hc₂ (e ▸ hc))) ho, hd⟩
        · exact .inr (.inr h1)
    · obtain ⟨h1, h2⟩ := S.mu a mo e
      exact ⟨h1, h2.same fun o e' => keep a o (fun e'' => by rw [e'', hcM] at e; cases e) e'⟩
    · obtain ⟨m, hn⟩ := S.ns; exact ⟨m, hn.sameBut hs' (Ne.symm hcL)⟩
    · obtain ⟨h1, h2, h3, u, o, ho, hd⟩ := S.cellF y c' hc''
      refine ⟨h1, h2, h3, ?_⟩
      by_cases e : c' = c
      · subst e; exact ⟨_, hc'⟩
      · exact ⟨u, o, keep c' o e ho, hd⟩

/-- objects that neither are the frame's nor frozen nor named may change -/
theorem St.frame (S : St W env Δ μ F s) {X : List Addr} {s' : Shared} (k : KeepsBut X s s') (hX : ∀ b ∈ X, F b = none ∧ μ b = none ∧ b ≠ env.locals ∧ ∀ y, (y, b) ∉ env.cells) : St W env Δ μ F s' := by
  have keepF : ∀ a o, F a = some o → s'.heap.get? a = some o := fun a o e => k.get (fun hm => by rw [(hX a hm).1] at e; cases e) (S.sub a o e)
  have keepL : ∀ o, s.heap.get? env.locals = some o → s'.heap.get? env.locals = some o := fun o e => k.get (fun hm => (hX _ hm).2.2.1 rfl) e
  have keepC : ∀ y c, (y, c) ∈ env.cells → ∀ o, s.heap.get? c = some o → s'.heap.get? c = some o := fun y c hc o e => k.get (fun hm => (hX c hm).2.2.2 y hc) e
  refine ⟨S.eok, ?_, S.base, keepF, fun y d hy => ?_, fun a mo e => ?_, ?_, S.nsF, S.nsM, fun y c hc => ?_, S.apart⟩
  · obtain ⟨h, tk, rfl⟩ := S.same
    obtain ⟨h', tk', rfl, _⟩ := k
    exact ⟨h', tk', rfl⟩
  · obtain ⟨u, hu, ru⟩ := S.vars y d hy
    refine ⟨u, ?_, ru⟩
    rcases hu with ⟨h1, m', hm', hmy⟩ | ⟨h1, c₂, hc₂, hv'⟩ | h1
    · exact .inl ⟨h1, m', hm'.at' keepL, hmy⟩
    · obtain ⟨o, ho, hd⟩ := hv'
      exact .inr (.inl ⟨h1, c₂, hc₂, o, keepC y c₂ (mem_of_lookup hc₂) o ho, hd⟩)
    · exact .inr (.inr h1)
  · obtain ⟨h1, h2⟩ := S.mu a mo e
    exact ⟨h1, h2.same fun o e' => k.get (fun hm => by rw [(hX a hm).2.1] at e; cases e) e'⟩
  · obtain ⟨m, hn⟩ := S.ns; exact ⟨m, hn.at' keepL⟩
  · obtain ⟨h1, h2, h3, u, o, ho, hd⟩ := S.cellF y c hc
    exact ⟨h1, h2, h3, u, o, keepC y c hc o ho, hd⟩
end
end Mine

open PySem PySem.W PyProof.Rows
set_option Elab.async false
set_option linter.unusedVariables false
namespace Mine

def MM.set (μ : MM) (a : Addr) (m : MObj) : MM := fun b => if b = a then some m else μ b
theorem MM.set_self (μ : MM) (a : Addr) (m : MObj) : μ.set a m a = some m := by simp [MM.set]
theorem MM.set_ne {μ : MM} {a b : Addr} {m : MObj} (h : b ≠ a) : μ.set a m b = μ b := by simp [MM.set, h]
theorem MM.set_set (μ : MM) (a : Addr) (m m' : MObj) : (μ.set a m).set a m' = μ.set a m' := by funext b; simp [MM.set]; split <;> rfl

section
variable {W : Wd} {A : Around} {env : Env} {Δ : Ctx} {μ : MM} {F : FM} {s : Shared} {E : Value → Shared → Prop}

theorem St.weakenM (S : St W env Δ μ F s) {μ' : MM} (h : ∀ a m, μ' a = some m → μ a = some m) : St W env Δ μ' F s := by
  refine ⟨S.eok, S.same, S.base, S.sub, S.vars, fun a m e => S.mu a m (h a m e), S.ns, S.nsF, ?_, fun y c hc => ?_, S.apart⟩
  · cases e : μ' env.locals with
    | none => rfl
    | some m => have := h _ _ e; rw [S.nsM] at this; cases this
  · obtain ⟨h1, h2, h3, h4⟩ := S.cellF y c hc
    refine ⟨h1, ?_, h3, h4⟩
    cases e : μ' c with
    | none => rfl
    | some m => have := h _ _ e; rw [h2] at this; cases this

theorem St.weakenV (S : St W env Δ μ F s) {Δ' : Ctx} (h : ∀ x d, Δ'.lookup x = some d → Δ.lookup x = some d) : St W env Δ' μ F s :=
  ⟨S.eok, S.same, S.base, S.sub, fun x d e => S.vars x d (h x d e), S.mu, S.ns, S.nsF, S.nsM, S.cellF, S.apart⟩

/-- a mutable object changes -/
theorem St.mutate (S : St W env Δ μ F s) {a : Addr} {m m' : MObj} (hm : μ a = some m) {s' : Shared} (hk : KeepsBut [a] s s') (hr : MRel F s'.heap a m') : St W env Δ (μ.set a m') F s' := by
  obtain ⟨hF, hR⟩ := S.mu a m hm
  have hL : a ≠ env.locals := fun e => by rw [e, S.nsM] at hm; cases hm
  have hC : ∀ y, (y, a) ∉ env.cells := fun y hc => by rw [(S.cellF y a hc).2.1] at hm; cases hm
  have S' : St W env Δ (fun b => if b = a then none else μ b) F s' :=
    (S.weakenM (μ' := fun b => if b = a then none else μ b) (fun b m e => by split at e; cases e; exact e)).frame hk (fun b hb => by
      simp at hb; subst hb; exact ⟨hF, by simp, hL, hC⟩)
  refine ⟨S'.eok, S'.same, S'.base, S'.sub, S'.vars, fun b mo e => ?_, S'.ns, S'.nsF, ?_, fun y c hc => ?_, S'.apart⟩
  · unfold MM.set at e
    split at e
    · cases e; subst_vars; exact ⟨hF, hr⟩
    · exact S'.mu b mo (by simp [*])
  · rw [MM.set_ne (Ne.symm hL)]; exact S.nsM
  · obtain ⟨h1, h2, h3, h4⟩ := S'.cellF y c hc
    have hca : c ≠ a := fun e => hC y (by rw [← e]; exact hc)
    exact ⟨h1, by rw [MM.set_ne hca]; exact (S.cellF y c hc).2.1, h3, h4⟩

/-- a new mutable object -/
theorem St.addM (S : St W env Δ μ F s) {a : Addr} {m : MObj} (ho : μ a = none) (hF : F a = none) (hL : a ≠ env.locals) (hC : ∀ y, (y, a) ∉ env.cells) (hr : MRel F s.heap a m) : St W env Δ (μ.set a m) F s := by
  refine ⟨S.eok, S.same, S.base, S.sub, S.vars, fun b mo e => ?_, S.ns, S.nsF, ?_, fun y c hc => ?_, S.apart⟩
  · unfold MM.set at e
    split at e
    · cases e; subst_vars; exact ⟨hF, hr⟩
    · exact S.mu b mo e
  · rw [MM.set_ne (Ne.symm hL)]; exact S.nsM
  · obtain ⟨h1, h2, h3, h4⟩ := S.cellF y c hc
    have hca : c ≠ a := fun e => hC y (by rw [← e]; exact hc)
    exact ⟨h1, by rw [MM.set_ne hca]; exact h2, h3, h4⟩

theorem plain_of_lobj {h : Heap} {a : Addr} {vs : List Value} {n : Nat} (e : h.get? a = some (lobj vs n)) : h.PlainList a vs.toArray := ⟨n, e⟩

theorem append_mut (S : St W env Δ μ F s) {a : Addr} {ys : List D} {d : D} {v : Value} {Q : Value → Shared → Prop} (hm : μ a = some (.lst ys)) (hv : RelV F d v) (hsz : ys.length ≤ sizeLine)
    (h : ∀ s', St W env Δ (μ.set a (.lst (ys ++ [d]))) F s' → ExtBut [a] F s F s' → Q .none s') : wpAny W.M A (call (.builtin "list.append") [.ref a, v]) Q E s := by
  obtain ⟨hF, vs, n, e, r⟩ := S.mu a _ hm
  refine wpAny_list_append_plain (hsz := by simp [r.length]; exact hsz) (plain_of_lobj e) fun h' hl' hs' => ?_
  have hk : KeepsBut [a] s { s with heap := h' } := ⟨h', s.toks, rfl, fun b o hb e' => (hs'.2 b (by simpa using hb)).trans e'⟩
  obtain ⟨n', e'⟩ := hl'
  refine h _ (S.mutate hm hk ⟨vs ++ [v], n', ?_, r.append (.one hv)⟩) (.same hk)
  show h'.get? a = _; rw [e']; simp [lobj]
end
end Mine

open PySem PySem.W PyProof.Rows
set_option Elab.async false
set_option linter.unusedVariables false
namespace Mine

def closGo (cells : List (Str × Addr)) : List (Str × NameKind) → List (Str × Addr) → List (Str × Addr)
  | [], acc => acc
  | (n, k) :: r, acc => if k == .free then (match cells.lookup n with | some c => closGo cells r ((n, c) :: acc) | none => closGo cells r acc) else closGo cells r acc

theorem closGo_forIn {env : Env} (f : Str × NameKind → List (Str × Addr) → Sem (ForInStep (List (Str × Addr))))
    (hf : ∀ n k cs, f (n, k) cs = if (k == NameKind.free) = true then (do let a ← cellOf env n; pure (ForInStep.yield ((n, a) :: cs))) else pure (ForInStep.yield cs)) :
    ∀ (names : List (Str × NameKind)) (acc : List (Str × Addr)), (∀ n, (n, NameKind.free) ∈ names → ∃ c, env.cells.lookup n = some c) → (forIn names acc f : Sem (List (Str × Addr))) = pure (closGo env.cells names acc)
  | [], acc, _ => by rw [List.forIn_nil]; rfl
  | (n, k) :: r, acc, h => by
    rw [List.forIn_cons, hf]
    have hr : ∀ m, (m, NameKind.free) ∈ r → ∃ c, env.cells.lookup m = some c := fun m hm => h m (List.mem_cons_of_mem _ hm)
    unfold closGo
    cases hk : k == NameKind.free with
    | true =>
      have hk' : k = .free := by simpa using hk
      subst hk'
      obtain ⟨c, hc⟩ := h n List.mem_cons_self
      simp only [if_true, hc]
      unfold cellOf; rw [hc]
      exact closGo_forIn f hf r ((n, c) :: acc) hr
    | false =>
      simp only [Bool.false_eq_true, if_false]
      exact closGo_forIn f hf r acc hr

theorem closureFor_eq {scope : Scope} {env : Env} (h : ∀ n, (n, NameKind.free) ∈ scope.names → ∃ c, env.cells.lookup n = some c) : closureFor scope env = pure (closGo env.cells scope.names []) := by
  simp only [closureFor]
  rw [closGo_forIn (env := env) _ (fun n k cs => by cases hk : k == NameKind.free <;> simp [hk]) scope.names [] h]
  rfl

theorem closGo_mem {cells : List (Str × Addr)} : ∀ (names : List (Str × NameKind)) (acc : List (Str × Addr)) (n : Str) (c : Addr), (n, c) ∈ closGo cells names acc → (n, c) ∈ acc ∨ (n, NameKind.free) ∈ names ∧ cells.lookup n = some c
  | [], acc, n, c, h => .inl h
  | (m, k) :: r, acc, n, c, h => by
    unfold closGo at h
    split at h
    · rename_i hk
      have hk' : k = .free := by simpa using hk
      subst hk'
      split at h
      · rename_i c' hc
        rcases closGo_mem r _ n c h with h1 | ⟨h1, h2⟩
        · rcases List.mem_cons.mp h1 with e | h1
          · cases e; exact .inr ⟨List.mem_cons_self, hc⟩
          · exact .inl h1
        · exact .inr ⟨List.mem_cons_of_mem _ h1, h2⟩
      · rcases closGo_mem r _ n c h with h1 | ⟨h1, h2⟩
        · exact .inl h1
        · exact .inr ⟨List.mem_cons_of_mem _ h1, h2⟩
    · rcases closGo_mem r _ n c h with h1 | ⟨h1, h2⟩
      · exact .inl h1
      · exact .inr ⟨List.mem_cons_of_mem _ h1, h2⟩

theorem lookup_of_mem {α : Type} : ∀ {l : List (Str × α)} {n : Str} {c : α}, (n, c) ∈ l → ∃ c', l.lookup n = some c'
  | (m, d) :: r, n, c, h => by
    rw [List.lookup_cons]
    cases hb : n == m with
    | true => exact ⟨d, rfl⟩
    | false =>
      rcases List.mem_cons.mp h with e | h
      · cases e; simp at hb
      · exact lookup_of_mem h

theorem closGo_acc {cells : List (Str × Addr)} : ∀ (names : List (Str × NameKind)) (acc : List (Str × Addr)) (p : Str × Addr), p ∈ acc → p ∈ closGo cells names acc
  | [], acc, p, h => h
  | (m, k) :: r, acc, p, h => by
    unfold closGo
    split
    · split
      · exact closGo_acc r _ p (List.mem_cons_of_mem _ h)
      · exact closGo_acc r _ p h
    · exact closGo_acc r _ p h

theorem closGo_has {cells : List (Str × Addr)} : ∀ (names : List (Str × NameKind)) (acc : List (Str × Addr)) (n : Str) (c : Addr), (n, NameKind.free) ∈ names → cells.lookup n = some c → (n, c) ∈ closGo cells names acc
  | (m, k) :: r, acc, n, c, h, hc => by
    unfold closGo
    rcases List.mem_cons.mp h with e | h
    · cases e
      simp only [beq_self_eq_true, if_true, hc]
      exact closGo_acc r _ _ List.mem_cons_self
    · split
      · split
        · exact closGo_has r _ n c h hc
        · exact closGo_has r _ n c h hc
      · exact closGo_has r _ n c h hc

theorem closGo_lookup {cells : List (Str × Addr)} {names : List (Str × NameKind)} {n : Str} {c : Addr} (h : (n, NameKind.free) ∈ names) (hc : cells.lookup n = some c) : (closGo cells names []).lookup n = some c := by
  obtain ⟨c', e⟩ := lookup_of_mem (closGo_has names [] n c h hc)
  rcases closGo_mem names [] n c' (mem_of_lookup e) with h1 | ⟨_, h2⟩
  · cases h1
  · rw [h2] at hc; cases hc; exact e

theorem cellsFrom_eq : ∀ (names : List (Str × NameKind)) (n : Nat) (acc : List (Str × Addr)), cellsFrom n names acc = cellsFrom n names [] ++ acc
  | [], n, acc => rfl
  | (m, k) :: r, n, acc => by
    unfold cellsFrom
    split
    · rw [cellsFrom_eq r (n + 1) ((m, n) :: acc), cellsFrom_eq r (n + 1) [(m, n)]]; simp
    · exact cellsFrom_eq r n acc

theorem cellsFrom_names : ∀ (names : List (Str × NameKind)) (n : Nat) (x : Str) (c : Addr), (x, c) ∈ cellsFrom n names [] → (x, NameKind.cell) ∈ names ∧ n ≤ c
  | [], n, x, c, h => by cases h
  | (m, k) :: r, n, x, c, h => by
    unfold cellsFrom at h
    split at h
    · rename_i hk
      have hk' : k = .cell := by simpa using hk
      subst hk'
      rw [cellsFrom_eq] at h
      rcases List.mem_append.mp h with h | h
      · obtain ⟨h1, h2⟩ := cellsFrom_names r (n + 1) x c h
        exact ⟨List.mem_cons_of_mem _ h1, by omega⟩
      · simp at h; obtain ⟨rfl, rfl⟩ := h; exact ⟨List.mem_cons_self, Nat.le_refl _⟩
    · obtain ⟨h1, h2⟩ := cellsFrom_names r n x c h
      exact ⟨List.mem_cons_of_mem _ h1, h2⟩

theorem cellsFrom_has : ∀ (names : List (Str × NameKind)) (n : Nat) (x : Str), (x, NameKind.cell) ∈ names → ∃ c, (x, c) ∈ cellsFrom n names []
  | (m, k) :: r, n, x, h => by
    unfold cellsFrom
    rcases List.mem_cons.mp h with e | h
    · cases e
      simp only [beq_self_eq_true, if_true]
      rw [cellsFrom_eq]
      exact ⟨n, List.mem_append_right _ (by simp)⟩
    · split
      · obtain ⟨c, hc⟩ := cellsFrom_has r (n + 1) x h
        rw [cellsFrom_eq]
        exact ⟨c, List.mem_append_left _ hc⟩
      · exact cellsFrom_has r n x h

theorem lookup_app_left {α : Type} : ∀ {l r : List (Str × α)} {n : Str} {c : α}, l.lookup n = some c → (l ++ r).lookup n = some c
  | (m, d) :: l, r, n, c, h => by
    rw [List.cons_append, List.lookup_cons] at *
    cases hb : n == m with
    | true => rw [hb] at h; exact h
    | false => rw [hb] at h; exact lookup_app_left h
theorem lookup_app_right {α : Type} : ∀ {l r : List (Str × α)} {n : Str}, (∀ c, (n, c) ∉ l) → (l ++ r).lookup n = r.lookup n
  | [], r, n, h => rfl
  | (m, d) :: l, r, n, h => by
    rw [List.cons_append, List.lookup_cons]
    cases hb : n == m with
    | true => exact absurd (by rw [beq_iff_eq.mp hb]; exact List.mem_cons_self) (h d)
    | false => exact lookup_app_right fun c hc => h c (List.mem_cons_of_mem _ hc)

/-- what a comprehension's table must be like -/
structure ScopeOk (scope : Scope) (env : Env) : Prop where
  kind : scope.kind = .function
  nodup : (scope.names.map (·.1)).Nodup
  free : ∀ n, (n, NameKind.free) ∈ scope.names → env.kindOf n = some .cell ∨ env.kindOf n = some .free

theorem lookup_nodup {α : Type} : ∀ {l : List (Str × α)} {n : Str} {k : α}, (l.map (·.1)).Nodup → (n, k) ∈ l → l.lookup n = some k
  | (m, d) :: r, n, k, hn, h => by
    rw [List.lookup_cons]
    simp only [List.map_cons, List.nodup_cons] at hn
    cases hb : n == m with
    | true =>
      rcases List.mem_cons.mp h with e | h
      · cases e; rfl
      · exact absurd (List.mem_map_of_mem (f := fun q : Str × α => q.1) h) (by rw [beq_iff_eq.mp hb]; exact hn.1)
    | false =>
      rcases List.mem_cons.mp h with e | h
      · cases e; simp at hb
      · exact lookup_nodup hn.2 h

theorem kind_unique {scope : Scope} {n : Str} {k k' : NameKind} (hn : (scope.names.map (·.1)).Nodup) (h : (n, k) ∈ scope.names) (h' : (n, k') ∈ scope.names) : k = k' := by
  have := lookup_nodup hn h; rw [lookup_nodup hn h'] at this; cases this; rfl

theorem relabel_lookup {scope : Scope} {env : Env} {x : Str} : (relabel scope env).names.lookup x = (scope.names.lookup x).map (fun k => if (k == .free && env.scope.kind == .function && env.kindOf x == some .cell) then .cell else k) := by
  unfold relabel
  generalize scope.names = names
  induction names with
  | nil => rfl
  | cons p r ih =>
    obtain ⟨n, k⟩ := p
    simp only [List.map_cons]
    by_cases hc : (k == NameKind.free && env.scope.kind == .function && env.kindOf n == some .cell) = true
    · rw [if_pos hc, List.lookup_cons, List.lookup_cons]
      cases hb : x == n with
      | true => have := beq_iff_eq.mp hb; subst this; simp only [Option.map_some]; rw [if_pos hc]
      | false => simpa using ih
    · rw [if_neg hc, List.lookup_cons, List.lookup_cons]
      cases hb : x == n with
      | true => have := beq_iff_eq.mp hb; subst this; simp only [Option.map_some]; rw [if_neg hc]
      | false => simpa using ih

def freeCtx (scope : Scope) (Δ : Ctx) : Ctx := scope.names.filterMap fun p => if p.2 == .free then (Δ.lookup p.1).map (p.1, ·) else none
theorem freeCtx_lookup {scope : Scope} {Δ : Ctx} {x : Str} {d : D} (h : (freeCtx scope Δ).lookup x = some d) : (x, NameKind.free) ∈ scope.names ∧ Δ.lookup x = some d := by
  have hm := mem_of_lookup h
  unfold freeCtx at hm
  obtain ⟨⟨n, k⟩, h1, h2⟩ := List.mem_filterMap.mp hm
  dsimp only at h2
  split at h2
  · rename_i hk
    have hk' : k = .free := by simpa using hk
    subst hk'
    obtain ⟨d', e1, e2⟩ := Option.map_eq_some_iff.mp h2
    cases e2
    exact ⟨h1, e1⟩
  · cases h2

/-- the comprehension's own place -/
structure CompEnv (W : Wd) (env : Env) (scope : Scope) (s : Shared) (cenv : Env) : Prop where
  sc : cenv.scope = relabel scope env
  locals : s.heap.get? cenv.locals = none
  own : ∀ x c, (x, NameKind.cell) ∈ scope.names → cenv.cells.lookup x = some c → s.heap.get? c = none
  cells : ∀ y c, (y, c) ∈ cenv.cells → s.heap.get? c = none ∨ (y, c) ∈ env.cells

section
variable {W : Wd} {A : Around} {env : Env} {Δ : Ctx} {μ : MM} {F : FM} {s : Shared} {E : Value → Shared → Prop}

theorem closGo_apart {cs : List (Str × Addr)} (hap : cs.Pairwise fun x y => x.2 ≠ y.2) : ∀ (names : List (Str × NameKind)) (acc : List (Str × Addr)), (names.map (·.1)).Nodup → (acc.Pairwise fun x y => x.2 ≠ y.2) → (∀ p ∈ acc, cs.lookup p.1 = some p.2 ∧ ∀ k, (p.1, k) ∉ names) → (closGo cs names acc).Pairwise fun x y => x.2 ≠ y.2 := by
  intro names
  induction names with
  | nil => intro acc _ h1 _; exact h1
  | cons p r ih =>
    obtain ⟨n, k⟩ := p
    intro acc hn h1 h2
    simp only [List.map_cons, List.nodup_cons] at hn
    have h2' : ∀ p ∈ acc, cs.lookup p.1 = some p.2 ∧ ∀ k, (p.1, k) ∉ r := fun p hp => ⟨(h2 p hp).1, fun k hk => (h2 p hp).2 k (List.mem_cons_of_mem _ hk)⟩
    unfold closGo
    split
    · split
      · rename_i c hc
        refine ih _ hn.2 (List.pairwise_cons.mpr ⟨fun q hq e => ?_, h1⟩) (fun q hq => ?_)
        · have hq1 := (h2 q hq).1
          have e' : c = q.2 := e
          have := name_of_addr hap (mem_of_lookup hc) (by rw [e']; exact mem_of_lookup hq1)
          exact (h2 q hq).2 k (by rw [← this]; exact List.mem_cons_self)
        · rcases List.mem_cons.mp hq with rfl | hq
          · exact ⟨hc, fun k' hk' => hn.1 (List.mem_map_of_mem (f := fun q : Str × NameKind => q.1) hk')⟩
          · exact h2' q hq
      · exact ih acc hn.2 h1 h2'
    · exact ih acc hn.2 h1 h2'

theorem comp_env0 (S : St W env Δ μ F s) {scope : Scope} (ok : ScopeOk scope env) {ce : Env} {H : Heap} {tk : Nat} (hsc : ce.scope = relabel scope env) (hloc : ce.locals = s.heap.objs.size) (hg : ce.globals = env.globals) (hb : ce.builtins = env.builtins)
    (hcells : ce.cells = cellsFrom (s.heap.objs.size + 1) scope.names [] ++ closGo env.cells scope.names []) (keep : ∀ b o, s.heap.get? b = some o → H.get? b = some o) (hns : ∃ m, H.Ns s.heap.objs.size m)
    (okc : CellsOk H (s.heap.objs.size + 1) (cellsFrom (s.heap.objs.size + 1) scope.names [])) : CompEnv W env scope s ce ∧ St W ce (freeCtx scope Δ) μ F { s with heap := H, toks := tk } := by
  have hkind : ∀ x, ce.kindOf x = (relabel scope env).names.lookup x := fun x => by unfold Env.kindOf; rw [hsc]
  have fresh : ∀ b, s.heap.objs.size ≤ b → s.heap.get? b = none := fun b hb => by
    cases e : s.heap.get? b with
    | none => rfl
    | some o => exact absurd (Heap.lt_size e) (Nat.not_lt.mpr hb)
  have Ffresh : ∀ b, s.heap.objs.size ≤ b → F b = none := fun b hb => by
    cases e : F b with
    | none => rfl
    | some o => have := fresh b hb; rw [S.sub _ _ e] at this; cases this
  have Mfresh : ∀ b, s.heap.objs.size ≤ b → μ b = none := fun b hb => by
    cases e : μ b with
    | none => rfl
    | some m => obtain ⟨_, hr⟩ := S.mu b m e; obtain ⟨o, ho⟩ := hr.some; rw [fresh b hb] at ho; cases ho
  have hclo : ∀ n c, (n, c) ∈ closGo env.cells scope.names [] → env.cells.lookup n = some c := fun n c hm => by
    rcases closGo_mem _ _ n c hm with h1 | h1
    · cases h1
    · exact h1.2
  have hnew : ∀ n c, (n, c) ∈ cellsFrom (s.heap.objs.size + 1) scope.names [] → (n, NameKind.cell) ∈ scope.names ∧ s.heap.objs.size + 1 ≤ c := fun n c hm => cellsFrom_names _ _ n c hm
  have hfreelk : ∀ n c, (n, NameKind.free) ∈ scope.names → env.cells.lookup n = some c → ce.cells.lookup n = some c := fun n c h1 h2 => by
    rw [hcells, lookup_app_right fun c' hc' => by have := kind_unique ok.nodup h1 (hnew n c' hc').1; cases this]
    exact closGo_lookup h1 h2
  have hcelllk : ∀ n, (n, NameKind.cell) ∈ scope.names → ∃ c, ce.cells.lookup n = some c ∧ s.heap.objs.size + 1 ≤ c := fun n h1 => by
    obtain ⟨c, hc⟩ := cellsFrom_has scope.names (s.heap.objs.size + 1) n h1
    obtain ⟨c', e⟩ := lookup_of_mem hc
    exact ⟨c', by rw [hcells]; exact lookup_app_left e, (hnew n c' (mem_of_lookup e)).2⟩
  have hin : ∀ y c, (y, c) ∈ ce.cells → (y, c) ∈ cellsFrom (s.heap.objs.size + 1) scope.names [] ∨ (y, c) ∈ closGo env.cells scope.names [] := fun y c hc => by rw [hcells] at hc; exact List.mem_append.mp hc
  refine ⟨⟨hsc, by rw [hloc]; exact fresh _ (Nat.le_refl _), fun x c h1 h2 => ?_, fun y c hc => ?_⟩, ⟨by rw [hsc]; exact ok.kind, by rw [hg]; exact S.eok.globals, by rw [hb]; exact S.eok.builtins, fun x hx => ?_⟩, ?_, S.base, fun a o e => keep a o (S.sub a o e), fun x d hx => ?_, fun a m e => ?_, by rw [hloc]; exact hns, by rw [hloc]; exact Ffresh _ (Nat.le_refl _), by rw [hloc]; exact Mfresh _ (Nat.le_refl _), fun y c hc => ?_, ?_⟩
  · obtain ⟨c', e1, e2⟩ := hcelllk x h1
    rw [e1] at h2; cases h2
    exact fresh _ (Nat.le_of_succ_le e2)
  · rcases hin y c hc with h1 | h1
    · exact .inl (fresh _ (Nat.le_of_succ_le (hnew y c h1).2))
    · exact .inr (mem_of_lookup (hclo y c h1))
  · rw [hkind, relabel_lookup] at hx
    cases hk : scope.names.lookup x with
    | none => rw [hk] at hx; simp at hx
    | some k =>
      have hm := mem_of_lookup hk
      rw [hk] at hx
      simp only [Option.map_some, Option.some.injEq] at hx
      by_cases hkc : k = .cell
      · subst hkc; obtain ⟨c, e, _⟩ := hcelllk x hm; exact ⟨c, e⟩
      · have hkf : k = .free := by
          rcases hx with h1 | h1 <;> split at h1
          · rename_i hh; simp at hh; exact hh.1.1
          · exact absurd h1 hkc
          · cases h1
          · exact h1
        subst hkf
        obtain ⟨c, hc⟩ := S.eok.cells x (ok.free x hm)
        exact ⟨c, hfreelk x c hm hc⟩
  · obtain ⟨h₀, tk, rfl⟩ := S.same; exact ⟨_, _, rfl⟩
  · obtain ⟨h1, h2⟩ := freeCtx_lookup hx
    obtain ⟨v, hv, rv⟩ := S.vars x d h2
    refine ⟨v, ?_, rv⟩
    have hkf := ok.free x h1
    rcases hv with ⟨h3, _⟩ | ⟨h3, c, hc, hv'⟩ | ⟨h3, _⟩
    · rcases hkf with e | e <;> rw [e] at h3 <;> cases h3
    · refine .inr (.inl ⟨?_, c, hfreelk x c h1 hc, hv'.keeps keep⟩)
      rw [hkind, relabel_lookup, lookup_nodup ok.nodup h1]
      simp only [Option.map_some]
      split
      · exact .inl rfl
      · exact .inr rfl
    · rcases hkf with e | e <;> rw [e] at h3 <;> cases h3
  · obtain ⟨h1, h2⟩ := S.mu a m e
    exact ⟨h1, h2.same fun o e' => keep a o e'⟩
  · rcases hin y c hc with h1 | h1
    · have h2 := (hnew y c h1).2
      exact ⟨Ffresh _ (Nat.le_of_succ_le h2), Mfresh _ (Nat.le_of_succ_le h2), by rw [hloc]; exact Nat.ne_of_gt h2, _, (okc.empty y c h1).1⟩
    · obtain ⟨q1, q2, q3, v, q4⟩ := S.cellF y c (mem_of_lookup (hclo y c h1))
      exact ⟨q1, q2, by rw [hloc]; exact Nat.ne_of_lt q4.lt, v, q4.keeps keep⟩
  · rw [hcells, List.pairwise_append]
    refine ⟨okc.apart, closGo_apart S.apart scope.names [] ok.nodup List.Pairwise.nil (fun p hp => by cases hp), fun a ha b hb => ?_⟩
    obtain ⟨n, c⟩ := a
    obtain ⟨n', c'⟩ := b
    have h1 := (hnew n c ha).2
    obtain ⟨v, hv⟩ := (S.cellF n' c' (mem_of_lookup (hclo n' c' hb))).2.2.2
    exact Nat.ne_of_gt (Nat.lt_of_lt_of_le (Nat.lt_succ_of_lt hv.lt) h1)

theorem comp_env (S : St W env Δ μ F s) {scope : Scope} (ok : ScopeOk scope env) {Q : Env → Shared → Prop}
    (h : ∀ cenv s', CompEnv W env scope s { cenv with scope := relabel scope env } → St W { cenv with scope := relabel scope env } (freeCtx scope Δ) μ F s' → Keeps s s' → Q cenv s') :
    wpAny W.M A (newFunctionEnv scope env.globals (closGo env.cells scope.names []) [] env.qual none .none (some env)) Q E s := by
  simp only [newFunctionEnv, Option.isSome_some, if_true]
  refine wpAny_bind (wpAny_alloc ?_)
  refine wpAny_bind (wpAny_layCells _ (fun name kind cells => by cases hkc : kind == NameKind.cell <;> simp [hkc]) _ _ _ _ ?_)
  have okc := cellsFrom_ok scope.names (s.heap.push { cls := .type "dict", data := .dict #[] }) (s.heap.objs.size + 1) [] ⟨fun _ _ hm => (nomatch hm), List.Pairwise.nil⟩ (by rw [Heap.size_push]; exact Nat.le_refl _)
  rw [Heap.size_push] at okc
  rw [show ({ s with heap := s.heap.push { cls := .type "dict", data := .dict #[] } } : Shared).heap.objs.size = s.heap.objs.size + 1 from Heap.size_push ..]
  refine wpAny_bind (wpAny_pure (wpAny_pure ?_))
  rw [cellsFrom_eq]
  have keep : ∀ b o, s.heap.get? b = some o → (pushCells (s.heap.push { cls := .type "dict", data := .dict #[] }) scope.names).get? b = some o := fun b o e => pushCells_keeps _ _ b o (Heap.get?_push_of_some _ e)
  obtain ⟨q1, q2⟩ := comp_env0 S ok (ce := { scope := relabel scope env, locals := s.heap.objs.size, globals := env.globals, cells := cellsFrom (s.heap.objs.size + 1) scope.names [] ++ closGo env.cells scope.names [], qual := _, func := _, code := env.code, frame := env.frame, builtins := env.builtins }) (tk := s.toks) rfl rfl rfl rfl rfl keep ⟨_, (Heap.Ns.new s.heap (.type "dict")).keeps (pushCells_keeps _ _)⟩ okc
  exact h _ _ q1 q2 ⟨_, _, rfl, keep⟩
end
end Mine

open PySem PySem.W PyProof.Rows
set_option Elab.async false
set_option linter.unusedVariables false
namespace Mine

structure Itr where
  I : Addr
  fp : List Addr
  wr : List Addr
  P : Nat → Value → Prop
  Stw : Nat → Heap → Prop
structure SrcAt (W : Wd) (A : Around) (μ : MM) (F₂ : FM) (s s₂ : Shared) (xs : List D) (i : Itr) : Prop where
  hW : Walks W.prog W.w A i.I i.fp i.wr xs.length i.P i.Stw
  now : i.Stw 0 s₂.heap
  hP : ∀ j v, i.P j v → ∃ d, xs[j]? = some d ∧ RelV F₂ d v
  hfd : ∀ b ∈ i.fp, s₂.heap.get? b ≠ none
  hfo : ∀ b ∈ i.fp, b ∈ i.wr ∨ F₂ b ≠ none ∨ μ b ≠ none
  hwr : ∀ b ∈ i.wr, F₂ b = none ∧ s.heap.get? b = none
  hex : ∀ j h, i.Stw j h → ∀ b ∈ i.wr, h.get? b ≠ none
def Src (W : Wd) (A : Around) (μ : MM) (F₂ : FM) (s s₂ : Shared) (it : Value) (xs : List D) : Prop := ∃ i : Itr, it = .ref i.I ∧ SrcAt W A μ F₂ s s₂ xs i

def IterEvF (W : Wd) (A : Around) (env : Env) (Δ : Ctx) (μ : MM) (iter : Expr) (xs : List D) : Prop :=
  ∀ F s (E : Value → Shared → Prop), St W env Δ μ F s → wpAny W.M A (eval iter env) (fun x s₁ => wpAny W.M A (pyIter x) (fun it s₂ => ∃ F₂, Ext F s F₂ s₂ ∧ Src W A (fun _ => none) F₂ s s₂ it xs) E s₁) E s

def IterEv (W : Wd) (A : Around) (env : Env) (Δ : Ctx) (μ : MM) (iter : Expr) (xs : List D) : Prop :=
  ∀ F s (E : Value → Shared → Prop), St W env Δ μ F s → wpAny W.M A (eval iter env) (fun x s₁ => wpAny W.M A (pyIter x) (fun it s₂ => ∃ F₂, Ext F s F₂ s₂ ∧ Src W A μ F₂ s s₂ it xs) E s₁) E s

section
variable {W : Wd} {A : Around} {env : Env} {Δ : Ctx} {μ : MM}

theorem iter_list {F : FM} {s : Shared} (S : St W env Δ μ F s) {d : D} {v : Value} {xs : List D} (hh : A.handled = none) {E : Value → Shared → Prop} (hv : RelV F d v) (hl : asList μ d = some xs) :
    wpAny W.M A (pyIter v) (fun it s₂ => ∃ F₂, Ext F s F₂ s₂ ∧ Src W A μ F₂ s s₂ it xs) E s := by
  obtain ⟨l, vs, n, rfl, hget, r⟩ := asList_rel S hv hl
  refine wpAny_pyIter_list (lobj_isList hget) ?_
  have hlt := Heap.lt_size hget
  have hne : l ≠ s.heap.objs.size := Nat.ne_of_lt hlt
  have hfresh : s.heap.get? s.heap.objs.size = none := by
    cases e : s.heap.get? s.heap.objs.size with
    | none => rfl
    | some o => exact absurd (Heap.lt_size e) (Nat.lt_irrefl _)
  have hF : F s.heap.objs.size = none := by
    cases e : F s.heap.objs.size with
    | none => rfl
    | some o => rw [S.sub _ _ e] at hfresh; cases hfresh
  have hw := Walks.list (prog := W.prog) (w := W.w) (A := A) hh s.heap.objs.size l hne vs.toArray
  have hlen : vs.toArray.size = xs.length := by simp [r.length]
  rw [hlen] at hw
  refine ⟨F, Ext.ofKeeps S.sub (Keeps.push s _), ⟨s.heap.objs.size, _, _, _, _⟩, rfl, hw, ⟨⟨_, Heap.get?_push_size _ rfl, rfl, rfl⟩, (lobj_isList hget).push _⟩, fun i v hv => ?_, fun b hb => ?_, fun b hb => ?_, fun b hb => ?_, fun i h st b hb => ?_⟩
  · have hi : i < xs.length := by
      have : i < vs.length := by
        have h' : vs[i]? = some v := by simpa using hv
        exact (List.getElem?_eq_some_iff.mp h').1
      rw [← r.length]; exact this
    obtain ⟨v', h1, h2⟩ := r.get (i := i) (d := xs[i]) (by simp [hi])
    have h' : vs[i]? = some v := by simpa using hv
    rw [h1] at h'; cases h'
    exact ⟨xs[i], by simp [hi], h2⟩
  · simp at hb
    rcases hb with rfl | rfl
    · rw [Heap.get?_push_size _ rfl]; simp
    · rw [Heap.get?_push_of_some _ hget]; simp
  · simp at hb
    rcases hb with rfl | rfl
    · exact .inl (by simp)
    · right
      cases d with
      | list es => rw [RelV] at hv; obtain ⟨a, vs', n', e, hf, _⟩ := hv; cases e; exact .inl (by rw [hf]; simp)
      | ref a =>
        rw [RelV] at hv; cases hv
        simp only [asList] at hl
        right
        cases hm : μ b with
        | none => rw [hm] at hl; cases hl
        | some m => simp
      | _ => cases hl
  · simp at hb; subst hb; exact ⟨hF, hfresh⟩
  · simp at hb; subst hb; obtain ⟨⟨o, e, _⟩, _⟩ := st; rw [e]; simp

theorem IterEv.list {e : Expr} {d : D} {xs : List D} (hh : A.handled = none) (he : Ev W A env Δ μ e d) (hl : asList μ d = some xs) : IterEv W A env Δ μ e xs := fun F s E S => by
  refine wpAny_mono (he F s E S) (fun v s₁ h₁ => ?_) fun _ _ e => e
  obtain ⟨F₁, x₁, r₁⟩ := h₁
  refine wpAny_mono (iter_list (S.ext x₁) hh r₁ hl) (fun it s₂ h₂ => ?_) fun _ _ e => e
  obtain ⟨F₂, x₂, i, e1, q⟩ := h₂
  refine ⟨F₂, x₁.trans x₂, i, e1, q.hW, q.now, q.hP, q.hfd, q.hfo, fun b hb => ⟨(q.hwr b hb).1, ?_⟩, q.hex⟩
  cases e : s.heap.get? b with
  | none => rfl
  | some o => have := (q.hwr b hb).2; rw [Keeps.get x₁.keeps e] at this; cases this

def rangeL (a b c : Int) : List Int := (List.range (Builtin.Range.rangeSize a b c).toNat).map fun (i : Nat) => a + (i : Int) * c

theorem iter_range {F : FM} {s : Shared} (S : St W env Δ μ F s) {r : Addr} {a b c : Int} {t u v : Tok} {E : Value → Shared → Prop} (hh : A.handled = none) (hr : IsRange s.heap r a b c t u v) (hsm : Builtin.Range.small a b c = true) (h0 : 0 ≤ Builtin.Range.rangeSize a b c) :
    wpAny W.M A (pyIter (.ref r)) (fun it s₂ => ∃ F₂, Ext F s F₂ s₂ ∧ Src W A μ F₂ s s₂ it ((rangeL a b c).map .int)) E s := by
  refine wpAny_pyIter_range hr hsm ?_
  have hfresh : s.heap.get? s.heap.objs.size = none := by
    cases e : s.heap.get? s.heap.objs.size with
    | none => rfl
    | some o => exact absurd (Heap.lt_size e) (Nat.lt_irrefl _)
  have hF : F s.heap.objs.size = none := by
    cases e : F s.heap.objs.size with
    | none => rfl
    | some o => rw [S.sub _ _ e] at hfresh; cases hfresh
  have hlen : ((rangeL a b c).map D.int).length = (Builtin.Range.rangeSize a b c).toNat := by simp [rangeL]
  have hw := Walks.range (prog := W.prog) (w := W.w) (A := A) hh s.heap.objs.size a c (Builtin.Range.rangeSize a b c).toNat
  rw [← hlen] at hw
  refine ⟨F, Ext.ofKeeps S.sub (Keeps.push s _), ⟨s.heap.objs.size, _, _, _, _⟩, rfl, hw.bound, ?_, fun i v hv => ?_, fun b hb => ?_, fun b hb => ?_, fun b hb => ?_, fun i h st b hb => ?_⟩
  · show IsRangeIter _ _ _ _ _
    rw [hlen, Int.toNat_of_nonneg h0]
    simpa using Heap.get?_push_size _ rfl
  · obtain ⟨hi, t', rfl⟩ := hv
    have hi' : i < (Builtin.Range.rangeSize a b c).toNat := by rw [← hlen]; exact hi
    refine ⟨.int (a + i * c), ?_, by rw [RelV]; exact ⟨_, rfl⟩⟩
    simp [rangeL, hi']
  · simp at hb; subst hb; rw [Heap.get?_push_size _ rfl]; simp
  · exact .inl hb
  · simp at hb; subst hb; exact ⟨hF, hfresh⟩
  · simp at hb; subst hb; have e : h.get? _ = _ := st; rw [e]; simp

theorem rangeSize_nonneg (a b c : Int) : 0 ≤ Builtin.Range.rangeSize a b c := by
  unfold Builtin.Range.rangeSize
  split
  · split
    · have : 0 ≤ (b - a - 1) / c := Int.ediv_nonneg (by omega) (by omega)
      omega
    · omega
  · split
    · by_cases hc : c = 0
      · subst hc; simp
      · have : 0 ≤ (a - b - 1) / (-c) := Int.ediv_nonneg (by omega) (by omega)
        omega
    · omega

/-- the three forms of range(..) -/
def rangeArgs : List D → Option (Int × Int × Int)
  | [.int n] => some (0, n, 1)
  | [.int a, .int b] => some (a, b, 1)
  | [.int a, .int b, .int c] => if c = -1 then some (a, b, c) else none
  | _ => none

theorem src_after {F F' : FM} {s s' s₂ : Shared} {it : Value} {xs : List D} (x : Ext F s F' s') (h : ∃ F₂, Ext F' s' F₂ s₂ ∧ Src W A μ F₂ s' s₂ it xs) : ∃ F₂, Ext F s F₂ s₂ ∧ Src W A μ F₂ s s₂ it xs := by
  obtain ⟨F₂, x₂, i, e1, q⟩ := h
  refine ⟨F₂, x.trans x₂, i, e1, q.hW, q.now, q.hP, q.hfd, q.hfo, fun b hb => ⟨(q.hwr b hb).1, ?_⟩, q.hex⟩
  cases e : s.heap.get? b with
  | none => rfl
  | some o => have := (q.hwr b hb).2; rw [Keeps.get x.keeps e] at this; cases this

theorem IterEvF.range (hW : W.Ok) {p pos : Pos} {es : List Expr} {ds : List D} {a b c : Int} (hh : A.handled = none) (hg : GlobVal W "range" (.type "range")) (hk : env.kindOf "range" = some .globalImplicit) (hl : EvL W A env Δ μ es ds)
    (hr : rangeArgs ds = some (a, b, c)) (hsm : Builtin.Range.small a b c = true) : IterEvF W A env Δ μ (.Call (.Name "range" p) es [] pos) ((rangeL a b c).map .int) := fun F s E S => by
  refine Call_ (wpAny_Name (loadGlob hW S hg hk ?_) (by decide)) rfl
  refine callWith_any (.inr (.inl ⟨_, rfl⟩)) hl (by rintro rfl; cases hl; cases hr) S fun F' s' vs x r => ?_
  have S' := S.ext x
  have fin : ∀ (o : Obj) (k : Nat), (∃ t u v, o = { cls := .type "range", data := .fields #[.int a t, .int b u, .int c v] }) →
      wpAny W.M A (pyIter (.ref s'.heap.objs.size)) (fun it s₂ => ∃ F₂, Ext F s F₂ s₂ ∧ Src W A (fun _ => none) F₂ s s₂ it ((rangeL a b c).map .int)) E { s' with heap := s'.heap.push o, toks := k } := by
    rintro o k ⟨t, u, v, rfl⟩
    have hk : Keeps s' { s' with heap := s'.heap.push { cls := .type "range", data := .fields #[.int a t, .int b u, .int c v] }, toks := k } := ⟨_, _, rfl, fun _ _ h => Heap.get?_push_of_some _ h⟩
    have x' := Ext.ofKeeps S'.sub hk
    refine wpAny_mono (iter_range ((S'.ext x').weakenM (μ' := fun _ => none) (fun _ _ e => by cases e)) hh (t := t) (u := u) (v := v) (Heap.get?_push_size _ rfl) hsm (rangeSize_nonneg a b c)) (fun it s₂ h₂ => src_after (x.trans x') h₂) fun _ _ e => e
  unfold rangeArgs at hr
  split at hr
  · cases hr
    rw [RelVs] at r; obtain ⟨v, r', rfl, h1, h2⟩ := r
    rw [RelVs] at h2; subst h2
    rw [RelV] at h1; obtain ⟨t, rfl⟩ := h1
    exact call_range_1 (fin _ _ ⟨_, _, _, rfl⟩)
  · cases hr
    rw [RelVs] at r; obtain ⟨v, r', rfl, h1, h2⟩ := r
    rw [RelVs] at h2; obtain ⟨v', r2, rfl, h3, h4⟩ := h2
    rw [RelVs] at h4; subst h4
    rw [RelV] at h1 h3; obtain ⟨t, rfl⟩ := h1; obtain ⟨t', rfl⟩ := h3
    exact call_range_2 (fin _ _ ⟨_, _, _, rfl⟩)
  · split at hr
    · rename_i hc; subst hc
      cases hr
      rw [RelVs] at r; obtain ⟨v, r', rfl, h1, h2⟩ := r
      rw [RelVs] at h2; obtain ⟨v', r2, rfl, h3, h4⟩ := h2
      rw [RelVs] at h4; obtain ⟨v3, r3, rfl, h5, h6⟩ := h4
      rw [RelVs] at h6; subst h6
      rw [RelV] at h1; rw [RelV] at h3; rw [RelV] at h5; obtain ⟨t, rfl⟩ := h1; obtain ⟨t', rfl⟩ := h3; obtain ⟨t3, rfl⟩ := h5
      exact call_range_3 (by decide) (fin _ _ ⟨_, _, _, rfl⟩) (.inl (PyProof.noPylong_small (by decide)))
    · cases hr
  · cases hr

theorem IterEvF.iter {e : Expr} {xs : List D} (h : IterEvF W A env Δ μ e xs) : IterEv W A env Δ μ e xs := fun F s E S => by
  refine wpAny_mono (h F s E S) (fun v s₁ h₁ => wpAny_mono h₁ (fun it s₂ h₂ => ?_) fun _ _ e => e) fun _ _ e => e
  obtain ⟨F₂, x₂, i, e1, q⟩ := h₂
  refine ⟨F₂, x₂, i, e1, q.hW, q.now, q.hP, q.hfd, fun b hb => ?_, q.hwr, q.hex⟩
  rcases q.hfo b hb with h | h | h
  · exact .inl h
  · exact .inr (.inl h)
  · exact absurd rfl h

theorem IterEvF.list {e : Expr} {xs : List D} (hh : A.handled = none) (he : Ev W A env Δ μ e (.list xs)) : IterEvF W A env Δ μ e xs := fun F s E S => by
  refine wpAny_mono (he F s E S) (fun v s₁ h₁ => ?_) fun _ _ e => e
  obtain ⟨F₁, x₁, r₁⟩ := h₁
  refine wpAny_mono (iter_list ((S.ext x₁).weakenM (μ' := fun _ => none) (fun _ _ e => by cases e)) hh r₁ rfl) (fun it s₂ h₂ => src_after x₁ h₂) fun _ _ e => e
end
end Mine

open PySem PySem.W PyProof.Rows
set_option Elab.async false
set_option linter.unusedVariables false
namespace Mine

abbrev testsT (ifs : List Expr) (env : Env) : Sem Bool := forIn ifs true fun c r => if r = true then do let ok ← isTrue c env (eval c env); pure (ForInStep.yield ok) else pure (ForInStep.yield r)

/-- a loop's code: what one turn is -/
def LoopCode (W : Wd) (A : Around) (env : Env) (c : Code) (it : Value) (target : Expr) (ifs : List Expr) (B : (Unit → Shared → Prop) → (Value → Shared → Prop) → Shared → Prop) : Prop :=
  ∀ (R : Result → Shared → Prop) (I : Nat → Shared → Prop),
    (∀ n s, I n s → wpAny W.M A (pyNext it) (fun r s₁ => match r with
      | none => R (.ok .next) s₁
      | some v => wpAny W.M A (assign target env v) (fun _ s₂ =>
          wpAny W.M A (testsT ifs env) (fun ok s₃ =>
            if ok = true then B (fun _ s₅ => ∃ m, m < n ∧ I m s₅) (notedBy W.M A env fun e s' => R (.error e) s') s₃
            else ∃ m, m < n ∧ I m s₃) (notedBy W.M A env fun e s' => R (.error e) s') s₂) (notedBy W.M A env fun e s' => R (.error e) s') s₁) (notedBy W.M A env fun e s' => R (.error e) s') s) →
    ∀ n s, I n s → codeAny W.M A c R s

abbrev emitT (elt : Expr) (acc : Value) (env : Env) : Sem Unit := do let _ ← call (.builtin "list.append") [acc, ← eval elt env]

section
variable {W : Wd} {A : Around} {env : Env}


abbrev turnT (iterPos : Pos) (it : Value) (target : Expr) (ifs : List Expr) (K : Sem Fin) (env : Env) (c : Code) : Sem Fin :=
  standAt iterPos >>= fun _ => pyNext it >>= fun r => match r with
    | none => pure (.done .next)
    | some v => letOwnedTupleGo target it v >>= fun _ => assign target env v >>= fun _ => testsT ifs env >>= fun ok => if ok = true then K else again c

theorem loop_of_turn {c : Code} {it : Value} {target : Expr} {ifs : List Expr} {B : (Unit → Shared → Prop) → (Value → Shared → Prop) → Shared → Prop} {K : Sem Fin} {ip : Pos} {t : Sem Fin} (hq : c.quiet = true) (hu : A.under c = A)
    (hden : W.M.den c = (t.onRaise (fun x => do noteFrame x env; theTreesLotGoes x)))
    (ht : t = turnT ip it target ifs K env c) (hlet : ∀ v, letOwnedTupleGo target it v = pure ())
    (hK : ∀ (P : Shared → Prop) (Q : Fin → Shared → Prop) (E : Value → Shared → Prop) s, (∀ s', P s' → Q (.again c) s') → B (fun _ => P) E s → wpAny W.M A K Q E s) : LoopCode W A env c it target ifs B := by
  intro R I turn n s h
  refine codeAny_loop hq I (fun n s hI => ?_) n h
  rw [hu, hden, ht]
  refine wpAny_noted ?_
  refine wpAny_bind (wpAny_standAt (wpAny_bind (wpAny_mono (turn n s hI) (fun r s₁ h₁ => ?_) fun _ _ h' => h')))
  cases r with
  | none => exact wpAny_pure h₁
  | some v =>
    refine wpAny_bind (wpAny_of_eq (hlet v) ?_)
    refine wpAny_bind (wpAny_mono h₁ (fun _ s₂ h₂ => wpAny_bind (wpAny_mono h₂ (fun ok s₃ h₃ => ?_) fun _ _ h' => h')) fun _ _ h' => h')
    cases ok with
    | false => exact wpAny_pure ⟨rfl, h₃⟩
    | true => exact hK (fun s₅ => ∃ m, m < n ∧ I m s₅) _ _ s₃ (fun s' h' => ⟨rfl, h'⟩) h₃

abbrev emitB (W : Wd) (A : Around) (elt : Expr) (acc : Value) (env : Env) : (Unit → Shared → Prop) → (Value → Shared → Prop) → Shared → Prop :=
  fun Q E s => wpAny W.M A (eval elt env) (fun v s₁ => wpAny W.M A (call (.builtin "list.append") [acc, v]) (fun _ s₂ => Q () s₂) E s₁) E s

theorem loop1 {elt iter : Expr} {x : Str} {px : Pos} {ifs : List Expr} {scope : Scope} {pos : Pos} {it acc : Value} :
    LoopCode W A env (.compLoop (.ListComp elt [⟨.Name x px, iter, ifs, 0⟩] scope pos) 0 it acc env) it (.Name x px) ifs (emitB W A elt acc env) :=
  loop_of_turn (ip := iter.pos) (t := compTurn (.ListComp elt [⟨.Name x px, iter, ifs, 0⟩] scope pos) 0 it acc env)
    (K := emitT elt acc env >>= fun _ => again (.compLoop (.ListComp elt [⟨.Name x px, iter, ifs, 0⟩] scope pos) 0 it acc env)) rfl (Around.under_of_weight rfl) rfl
    (by rw [compTurn_list]; rfl) (fun _ => rfl) fun P Q E s hp h => wpAny_bind (wpAny_bind (wpAny_mono h (fun v s₁ h₁ => wpAny_bind (wpAny_mono h₁ (fun _ s₂ h₂ => wpAny_pure (wpAny_pure (hp s₂ h₂))) fun _ _ e => e)) fun _ _ e => e))

theorem loop2_1 {elt iter iter' : Expr} {x x' : Str} {px px' : Pos} {scope : Scope} {pos : Pos} {it acc : Value} :
    LoopCode W A env (.compLoop (.ListComp elt [⟨.Name x px, iter, [], 0⟩, ⟨.Name x' px', iter', [], 0⟩] scope pos) 1 it acc env) it (.Name x' px') [] (emitB W A elt acc env) :=
  loop_of_turn (ip := iter'.pos) (t := compTurn (.ListComp elt [⟨.Name x px, iter, [], 0⟩, ⟨.Name x' px', iter', [], 0⟩] scope pos) 1 it acc env)
    (K := emitT elt acc env >>= fun _ => again (.compLoop (.ListComp elt [⟨.Name x px, iter, [], 0⟩, ⟨.Name x' px', iter', [], 0⟩] scope pos) 1 it acc env)) rfl (Around.under_of_weight rfl) rfl
    (by rfl) (fun _ => rfl) fun P Q E s hp h => wpAny_bind (wpAny_bind (wpAny_mono h (fun v s₁ h₁ => wpAny_bind (wpAny_mono h₁ (fun _ s₂ h₂ => wpAny_pure (wpAny_pure (hp s₂ h₂))) fun _ _ e => e)) fun _ _ e => e))

abbrev nestB (W : Wd) (A : Around) (e iter' : Expr) (acc : Value) (env : Env) : (Unit → Shared → Prop) → (Value → Shared → Prop) → Shared → Prop :=
  fun Q E s => wpAny W.M A (eval iter' env) (fun v s₁ => wpAny W.M A (pyIter v) (fun it s₂ => codeAny W.M A (.compStart e 1 it acc env) (fun r s' => match r with | .ok _ => Q () s' | .error x => cameBackBy W.M A env E x s') s₂) E s₁) E s

theorem loop2_0 {elt iter iter' : Expr} {x x' : Str} {px px' : Pos} {scope : Scope} {pos : Pos} {it acc : Value} (hfold : ∀ v, foldedSetIterable iter' env v = pure v) :
    LoopCode W A env (.compLoop (.ListComp elt [⟨.Name x px, iter, [], 0⟩, ⟨.Name x' px', iter', [], 0⟩] scope pos) 0 it acc env) it (.Name x px) []
      (nestB W A (.ListComp elt [⟨.Name x px, iter, [], 0⟩, ⟨.Name x' px', iter', [], 0⟩] scope pos) iter' acc env) :=
  loop_of_turn (ip := iter.pos) (t := compTurn (.ListComp elt [⟨.Name x px, iter, [], 0⟩, ⟨.Name x' px', iter', [], 0⟩] scope pos) 0 it acc env)
    (K := eval iter' env >>= fun v => standAt iter'.pos >>= fun _ => foldedSetIterable iter' env v >>= fun v => holding [v] (pyIter v) >>= fun it' =>
      runOwn (.compStart (.ListComp elt [⟨.Name x px, iter, [], 0⟩, ⟨.Name x' px', iter', [], 0⟩] scope pos) 1 it' acc env) env >>= fun _ => again (.compLoop (.ListComp elt [⟨.Name x px, iter, [], 0⟩, ⟨.Name x' px', iter', [], 0⟩] scope pos) 0 it acc env)) rfl (Around.under_of_weight rfl) rfl
    (by rfl) (fun _ => rfl) fun P Q E s hp h => wpAny_bind (wpAny_mono h (fun v s₁ h₁ => wpAny_bind (wpAny_standAt (wpAny_bind (wpAny_of_eq (hfold v) (wpAny_bind (wpAny_holding (wpAny_mono h₁ (fun it' s₂ h₂ =>
      wpAny_bind (wpAny_runOwn (codeAny_mono h₂ fun r s' hr => by cases r with | ok f => exact wpAny_pure (hp s' hr) | error x => exact hr))) fun _ _ e => e))))))) fun _ _ e => e)
end
end Mine

open PySem PySem.W PyProof.Rows
set_option Elab.async false
set_option linter.unusedVariables false
namespace Mine
section
variable {W : Wd} {A : Around} {env : Env} {Δ : Ctx} {μ : MM}

theorem lookup_cons_ne {x y : Str} {d e : D} {Δ : Ctx} (h : Δ.lookup y = some e) (hx : y ≠ x) : ((x, d) :: Δ).lookup y = some e := by
  rw [List.lookup_cons]
  have : (y == x) = false := by simpa using hx
  rw [this]; exact h

theorem St.dropM {F : FM} {s : Shared} {a : Addr} {m : MObj} (S : St W env Δ (μ.set a m) F s) (h : μ a = none) : St W env Δ μ F s :=
  S.weakenM fun b m' e => by
    by_cases hb : b = a
    · subst hb; rw [h] at e; cases e
    · rw [MM.set_ne hb]; exact e

theorem comp_core {c : Code} {x : Str} {px : Pos} {ifs : List Expr} {B : (Unit → Shared → Prop) → (Value → Shared → Prop) → Shared → Prop} {I : Addr} {fp wr : List Addr} {P : Nat → Value → Prop} {Stw : Nat → Heap → Prop}
    {xs : List D} {Acc : Addr} {xa : List Addr} {o : Nat → List D} {F : FM} {s : Shared} {R : Result → Shared → Prop} {ys₀ : List D}
    (LC : LoopCode W A env c (.ref I) (.Name x px) ifs B)
    (hW : Walks W.prog W.w A I fp wr xs.length P Stw) (hst : Stw 0 s.heap) (hP : ∀ i v, P i v → ∃ d, xs[i]? = some d ∧ RelV F d v)
    (hex : ∀ i h, Stw i h → ∀ b ∈ wr, h.get? b ≠ none)
    (hxk : env.kindOf x = some .local ∨ env.kindOf x = some .cell)
    (hxa : ∀ b, (b = env.locals ∧ env.kindOf x = some .local ∨ env.cells.lookup x = some b ∧ env.kindOf x = some .cell) → b ∈ xa)
    (hfp : ∀ b ∈ fp, b ∉ xa ∧ b ≠ Acc)
    (hwr : ∀ b ∈ wr, F b = none ∧ μ b = none ∧ b ≠ env.locals ∧ (∀ y, (y, b) ∉ env.cells) ∧ b ≠ Acc)
    (hΔ : ∀ y d, Δ.lookup y = some d → y ≠ x) (hAcc : μ Acc = none)
    (hsz : ys₀.length + ((List.range xs.length).flatMap o).length ≤ sizeLine)
    (body : ∀ i d, xs[i]? = some d → ∃ b, (∀ F s (E : Value → Shared → Prop), St W env ((x, d) :: Δ) μ F s → wpAny W.M A (testsT ifs env) (fun r s' => ∃ F', Ext F s F' s' ∧ r = b) E s) ∧ (b = false → o i = []) ∧
      (b = true → ∀ ys F s (Q : Unit → Shared → Prop) (E : Value → Shared → Prop), St W env ((x, d) :: Δ) (μ.set Acc (.lst ys)) F s → ys.length + (o i).length ≤ sizeLine →
        (∀ F' s', St W env ((x, d) :: Δ) (μ.set Acc (.lst (ys ++ o i))) F' s' → ExtBut (Acc :: xa) F s F' s' → Q () s') → B Q E s))
    (S : St W env Δ (μ.set Acc (.lst ys₀)) F s)
    (hR : ∀ F' s', St W env Δ (μ.set Acc (.lst (ys₀ ++ (List.range xs.length).flatMap o))) F' s' → ExtBut (Acc :: xa ++ wr) F s F' s' → R (.ok .next) s') :
    codeAny W.M A c R s := by
  have hmono : ∀ i, i ≤ xs.length → ((List.range i).flatMap o).length ≤ ((List.range xs.length).flatMap o).length := by
    intro i hi
    have e : List.range xs.length = List.range i ++ (List.range (xs.length - i)).map (i + ·) := by
      rw [← List.range_add]; congr 1; omega
    rw [e, List.flatMap_append, List.length_append]; omega
  refine LC R (fun k s' => ∃ i F', k = xs.length + 1 - i ∧ i ≤ xs.length ∧ St W env Δ (μ.set Acc (.lst (ys₀ ++ (List.range i).flatMap o))) F' s' ∧ ExtBut (Acc :: xa ++ wr) F s F' s' ∧ Stw i s'.heap ∧ ∀ b ∈ wr, F' b = none) ?_ (xs.length + 1) s
    ⟨0, F, rfl, Nat.zero_le _, by simpa using S, .rfl', hst, fun b hb => (hwr b hb).1⟩
  rintro k s' ⟨i, F', rfl, hi, S', x', st', hF'⟩
  have wrOk : ∀ (F' : FM) (ys : List D), (∀ b ∈ wr, F' b = none) → ∀ b ∈ wr, F' b = none ∧ (μ.set Acc (.lst ys)) b = none ∧ b ≠ env.locals ∧ ∀ y, (y, b) ∉ env.cells := fun F' ys hF b hb =>
    ⟨hF b hb, by rw [MM.set_ne (hwr b hb).2.2.2.2]; exact (hwr b hb).2.1, (hwr b hb).2.2.1, (hwr b hb).2.2.2.1⟩
  by_cases hlt : i < xs.length
  · refine hW.item i s' _ _ hlt st' fun v h₁ tk₁ hPv st₁ hk₁ => ?_
    obtain ⟨d, hd, rv⟩ := hP i v hPv
    have kb : KeepsBut wr s' { s' with heap := h₁, toks := tk₁ } := ⟨h₁, tk₁, rfl, fun b ob hb e => hk₁ b ob hb e⟩
    have S₁ := S'.frame kb (wrOk F' _ hF')
    have x₁ : ExtBut (Acc :: xa ++ wr) F s F' { s' with heap := h₁, toks := tk₁ } := x'.trans ((ExtBut.same kb).mono fun b hb => by simp [hb])
    refine wpAny_assign_Name (S₁.store hxk (rv.mono x'.sub) fun s₂ b hb S₂ x₂ => ?_)
    have hb' := hxa b hb
    have x₂' : ExtBut (Acc :: xa ++ wr) F s F' s₂ := x₁.trans (x₂.mono fun c hc => by simp at hc; subst hc; simp [hb'])
    have st₂ : Stw (i + 1) s₂.heap := hW.frame _ _ _ st₁ fun c hc oc e => x₂.keeps.get (by simp; rintro rfl; exact (hfp c hc).1 hb') e
    obtain ⟨bb, htest, hfalse, htrue⟩ := body i d hd
    refine wpAny_mono (htest F' s₂ _ (S₂.dropM hAcc)) (fun ok s₃ h₃ => ?_) fun _ _ e => e
    obtain ⟨F₃, x₃, rfl⟩ := h₃
    have S₃ := S₂.ext x₃
    have hk₃ : ∀ c oc, s₂.heap.get? c = some oc → s₃.heap.get? c = some oc := fun c oc e => Keeps.get x₃.keeps e
    have st₃ : Stw (i + 1) s₃.heap := hW.frame _ _ _ st₂ fun c _ oc e => hk₃ c oc e
    have hF₃ : ∀ b ∈ wr, F₃ b = none := fun b hb => by
      cases e : F₃ b with
      | none => rfl
      | some ob =>
        have := x₃.new b (by rw [e]; simp) (hF' b hb)
        exact absurd this (hex _ _ st₂ b hb)
    have x₃' : ExtBut (Acc :: xa ++ wr) F s F₃ s₃ := x₂'.trans x₃.but
    have hstep : (List.range (i + 1)).flatMap o = (List.range i).flatMap o ++ o i := by rw [List.range_succ, List.flatMap_append]; simp
    have back : ∀ y e, Δ.lookup y = some e → ((x, d) :: Δ).lookup y = some e := fun y e h => lookup_cons_ne h (hΔ y e h)
    cases ok with
    | false =>
      refine ⟨xs.length + 1 - (i + 1), by omega, i + 1, F₃, rfl, by omega, ?_, x₃', st₃, hF₃⟩
      rw [hstep, hfalse rfl, List.append_nil]
      exact S₃.weakenV back
    | true =>
      refine htrue rfl _ F₃ s₃ _ _ S₃ ?_ fun F₄ s₄ S₄ x₄ => ?_
      · have := hmono (i + 1) (by omega)
        rw [hstep, List.length_append] at this
        rw [List.length_append]; omega
      · have hkeep : ∀ c ∈ fp, ∀ oc, s₃.heap.get? c = some oc → s₄.heap.get? c = some oc := fun c hc oc e => x₄.keeps.get (by simp; exact ⟨(hfp c hc).2, (hfp c hc).1⟩) e
        refine ⟨xs.length + 1 - (i + 1), by omega, i + 1, F₄, rfl, by omega, ?_, x₃'.trans (x₄.mono fun c hc => by simp at hc ⊢; rcases hc with h | h <;> simp [h]), hW.frame _ _ _ st₃ hkeep, fun b hb => ?_⟩
        · rw [hstep, ← List.append_assoc]; exact S₄.weakenV back
        · cases e : F₄ b with
          | none => rfl
          | some ob =>
            rcases x₄.new b (by rw [e]; simp) (hF₃ b hb) with h1 | h1
            · exact absurd h1 (hex _ _ st₃ b hb)
            · have hbf := hfp b (hW.sub b hb)
              simp at h1
              rcases h1 with h1 | h1
              · exact absurd h1 hbf.2
              · exact absurd h1 hbf.1
  · have hin : i = xs.length := by omega
    subst hin
    refine hW.done s' _ _ st' fun h₁ tk₁ hk₁ => ?_
    have kb : KeepsBut wr s' { s' with heap := h₁, toks := tk₁ } := ⟨h₁, tk₁, rfl, fun b ob hb e => hk₁ b ob hb e⟩
    exact hR F' _ (S'.frame kb (wrOk F' _ hF')) (x'.trans ((ExtBut.same kb).mono fun b hb => by simp [hb]))
end
end Mine

open PySem PySem.W PyProof.Rows
set_option Elab.async false
set_option linter.unusedVariables false
namespace Mine

def notSet : Expr → Bool
  | .Set .. => false
  | _ => true
theorem folded_of {e : Expr} {env : Env} (h : notSet e = true) (x : Value) : foldedSetIterable e env x = pure x := by
  cases e <;> first | rfl | cases h

def xaOf (cenv : Env) (names : List Str) : List Addr := cenv.locals :: names.filterMap fun x => if cenv.kindOf x = some .cell then cenv.cells.lookup x else none

/-- a target of the comprehension's own -/
def OwnName (scope : Scope) (x : Str) : Prop := (x, NameKind.local) ∈ scope.names ∨ (x, NameKind.cell) ∈ scope.names

/-- a place that a comprehension's expression is reckoned in -/
structure In (W : Wd) (env : Env) (scope : Scope) (cenv : Env) : Prop where
  eok : EnvOk cenv
  sc : cenv.scope = relabel scope env

section
variable {W : Wd} {A : Around} {env : Env} {Δ : Ctx} {μ : MM}

theorem own_kind {scope : Scope} {cenv : Env} (ok : ScopeOk scope env) (hs : cenv.scope = relabel scope env) {x : Str} (h : OwnName scope x) :
    (cenv.kindOf x = some .local ∧ (x, NameKind.local) ∈ scope.names) ∨ (cenv.kindOf x = some .cell ∧ (x, NameKind.cell) ∈ scope.names) := by
  unfold Env.kindOf
  rw [hs, relabel_lookup]
  rcases h with h | h
  · rw [lookup_nodup ok.nodup h]; exact .inl ⟨rfl, h⟩
  · rw [lookup_nodup ok.nodup h]; exact .inr ⟨rfl, h⟩

/-- what the end of a comprehension finds -/
structure Made (W : Wd) (F : FM) (s : Shared) (out : List D) (F' : FM) (s' : Shared) (Acc C : Addr) : Prop where
  ext : Ext F s F' s'
  accF : F' Acc = none
  accN : s.heap.get? Acc = none
  locF : F' C = none
  locN : s.heap.get? C = none
  ne : Acc ≠ C
  ns : ∃ m, s'.heap.Ns C m
  rel : ∃ vs n, s'.heap.get? Acc = some (lobj vs n) ∧ RelVs F' out vs

/-- the loop of a comprehension, whatever its shape, from its own environment on -/
def CompRun (W : Wd) (A : Around) (env : Env) (Δ : Ctx) (μ : MM) (e : Expr) (scope : Scope) (names : List Str) (xs out : List D) : Prop :=
  ∀ (cenv : Env) (F : FM) (s₀ s : Shared) (it : Value) (Acc : Addr) (R : Result → Shared → Prop) fp wr P Stw I, In W env scope cenv → it = .ref I → St W cenv (freeCtx scope Δ) (μ.set Acc (.lst [])) F s → μ Acc = none →
    Walks W.prog W.w A I fp wr xs.length P Stw → Stw 0 s.heap → (∀ i v, P i v → ∃ d, xs[i]? = some d ∧ RelV F d v) → (∀ i h, Stw i h → ∀ b ∈ wr, h.get? b ≠ none) →
    (∀ b ∈ fp, b ∉ xaOf cenv names ∧ b ≠ Acc) → (∀ b ∈ wr, F b = none ∧ μ b = none ∧ b ≠ cenv.locals ∧ (∀ y, (y, b) ∉ cenv.cells) ∧ b ≠ Acc) →
    (∀ F' s', St W cenv (freeCtx scope Δ) (μ.set Acc (.lst out)) F' s' → ExtBut (Acc :: xaOf cenv names ++ wr) F s F' s' → R (.ok .next) s') →
    codeAny W.M A (.compLoop e 0 it (.ref Acc) cenv) R s

/-- what any source of a comprehension gives: its iterator, and the loop over it -/
structure Src0 (W : Wd) (A : Around) (env : Env) (Δ : Ctx) (μ : MM) (e : Expr) (scope : Scope) (names : List Str) (out : List D) (F₂ : FM) (s s₂ : Shared) (I : Addr) (fp wr : List Addr) (st : Heap → Prop) : Prop where
  sub : ∀ b ∈ wr, b ∈ fp
  now : st s₂.heap
  frame : ∀ h h' : Heap, st h → (∀ b ∈ fp, ∀ o, h.get? b = some o → h'.get? b = some o) → st h'
  self : ∀ (s : Shared) (Q E : Value → Shared → Prop), st s.heap → Q (.ref I) s → wpAny W.M A (pyIter (.ref I)) Q E s
  hfd : ∀ b ∈ fp, s₂.heap.get? b ≠ none
  hwr : ∀ b ∈ wr, F₂ b = none ∧ s.heap.get? b = none
  run : ∀ (cenv : Env) (s₄ : Shared) (Acc : Addr) (R : Result → Shared → Prop), In W env scope cenv → St W cenv (freeCtx scope Δ) (μ.set Acc (.lst [])) F₂ s₄ → μ Acc = none → st s₄.heap → (∀ b ∈ fp, b ∉ xaOf cenv names ∧ b ≠ Acc) →
      (∀ b ∈ wr, F₂ b = none ∧ μ b = none ∧ b ≠ cenv.locals ∧ (∀ y, (y, b) ∉ cenv.cells) ∧ b ≠ Acc) →
      (∀ F' s', St W cenv (freeCtx scope Δ) (μ.set Acc (.lst out)) F' s' → ExtBut (Acc :: xaOf cenv names ++ wr) F₂ s₄ F' s' → R (.ok .next) s') → codeAny W.M A (.compLoop e 0 (.ref I) (.ref Acc) cenv) R s₄

theorem comp_gen {elt : Expr} {g : Comprehension} {gs : List Comprehension} {scope : Scope} {pos p : Pos} {use : Option (Value → Sem Unit)} {names : List Str} {out : List D} {Q : Value → Shared → Prop} {E : Value → Shared → Prop} {F : FM} {s : Shared}
    (ok : ScopeOk scope env) (hown : ∀ x ∈ names, OwnName scope x) (hset : notSet g.iter = true) (hasync : g.is_async = 0)
    (hit : wpAny W.M A (eval g.iter env) (fun x s₁ => wpAny W.M A (pyIter x) (fun it s₂ => ∃ F₂ I fp wr st, it = .ref I ∧ Ext F s F₂ s₂ ∧ Src0 W A env Δ μ (.ListComp elt (g :: gs) scope p) scope names out F₂ s s₂ I fp wr st) E s₁) E s) (S : St W env Δ μ F s)
    (fin : ∀ F' s' Acc C, Made W F s out F' s' Acc C → compPost W.M A E use Q (.ref Acc) C (.ok .next) s') :
    wpAny W.M A (comprehension (.ListComp elt (g :: gs) scope p) scope env pos (newList []) false (eval g.iter env) use) Q E s := by
  refine wpAny_comprehension_free rfl (fun x => folded_of hset x) (closureFor_eq fun n hn => S.eok.cells n (ok.free n hn)) ok.kind (fun x hx hl => by obtain ⟨n, k⟩ := x; subst hl; exact lookup_nodup ok.nodup hx) ?_
  refine wpAny_mono hit (fun x s₁ h₁ => wpAny_mono h₁ (fun it s₂ h₂ => ?_) fun _ _ e => e) fun _ _ e => e
  obtain ⟨F₂, I, fp, wr, st, rfl, x₂, src⟩ := h₂
  have hfd := src.hfd
  have hwr := src.hwr
  have S₂ := S.ext x₂
  refine wpAny_newObj_type ?_
  have kacc : Keeps s₂ { s₂ with heap := s₂.heap.push { cls := .type "list", data := .seq ([] : List Value).toArray } } := Keeps.push s₂ _
  have S₃ := S₂.ext (Ext.ofKeeps S₂.sub kacc)
  have accN : s₂.heap.get? s₂.heap.objs.size = none := by
    cases e : s₂.heap.get? s₂.heap.objs.size with
    | none => rfl
    | some o => exact absurd (Heap.lt_size e) (Nat.lt_irrefl _)
  have accG : ∀ s', Keeps { s₂ with heap := s₂.heap.push { cls := .type "list", data := .seq ([] : List Value).toArray } } s' → s'.heap.get? s₂.heap.objs.size = some (lobj [] 0) := fun s' k => Keeps.get k (Heap.get?_push_size _ rfl)
  have accF : F₂ s₂.heap.objs.size = none := by
    cases e : F₂ s₂.heap.objs.size with
    | none => rfl
    | some o => rw [S₂.sub _ _ e] at accN; cases accN
  have accM : μ s₂.heap.objs.size = none := by
    cases e : μ s₂.heap.objs.size with
    | none => rfl
    | some m => obtain ⟨_, hr⟩ := S₂.mu _ m e; obtain ⟨o, ho⟩ := hr.some; rw [accN] at ho; cases ho
  refine comp_env S₃ ok fun cenv s₄ C₄ S₄ k₄ => ?_
  generalize hAcc : s₂.heap.objs.size = Acc at *
  have keep24 : ∀ b ob, s₂.heap.get? b = some ob → s₄.heap.get? b = some ob := fun b ob e => Keeps.get k₄ (Keeps.get kacc e)
  have accNeL : Acc ≠ cenv.locals := fun e => by
    have h1 := C₄.locals
    have h2 := accG _ (Keeps.rfl' _)
    rw [e] at h2
    have h1' : ({ s₂ with heap := s₂.heap.push { cls := .type "list", data := .seq ([] : List Value).toArray } } : Shared).heap.get? cenv.locals = none := h1
    rw [h2] at h1'; cases h1'
  have accC : ∀ y, (y, Acc) ∉ cenv.cells := fun y hy => by
    obtain ⟨_, _, _, v, o, ho, hd⟩ := S₄.cellF y Acc hy
    rw [accG s₄ k₄] at ho; cases ho; cases hd
  have S₅ : St W { cenv with scope := relabel scope env } (freeCtx scope Δ) (μ.set Acc (.lst [])) F₂ s₄ := S₄.addM accM accF accNeL accC ⟨[], 0, accG s₄ k₄, .nil⟩
  -- fresh seen from s
  have fresh : ∀ b, s₂.heap.get? b = none → s.heap.get? b = none := fun b h => by
    cases e : s.heap.get? b with
    | none => rfl
    | some o => rw [Keeps.get x₂.keeps e] at h; cases h
  have xaN : ∀ b ∈ xaOf { cenv with scope := relabel scope env } names, s₂.heap.get? b = none := fun b hb => by
    have key : ∀ b, ({ s₂ with heap := s₂.heap.push { cls := .type "list", data := .seq ([] : List Value).toArray } } : Shared).heap.get? b = none → s₂.heap.get? b = none := fun b h => by
      cases e : s₂.heap.get? b with
      | none => rfl
      | some o => rw [Keeps.get kacc e] at h; cases h
    unfold xaOf at hb
    rcases List.mem_cons.mp hb with rfl | hb
    · exact key _ C₄.locals
    · obtain ⟨y, hy, e⟩ := List.mem_filterMap.mp hb
      split at e
      · rename_i hk
        rcases own_kind (cenv := { cenv with scope := relabel scope env }) ok rfl (hown y hy) with ⟨h1, _⟩ | ⟨_, h2⟩
        · rw [h1] at hk; cases hk
        · exact key _ (C₄.own y b h2 e)
      · cases e
  have st₄ : st s₄.heap := src.frame _ _ src.now fun b _ o e => keep24 b o e
  have hfp : ∀ b ∈ fp, b ∉ xaOf { cenv with scope := relabel scope env } names ∧ b ≠ Acc := fun b hb => ⟨fun h => hfd b hb (xaN b h), fun e => by subst e; exact hfd b hb accN⟩
  have hwr' : ∀ b ∈ wr, F₂ b = none ∧ μ b = none ∧ b ≠ cenv.locals ∧ (∀ y, (y, b) ∉ cenv.cells) ∧ b ≠ Acc := fun b hb => by
    have hb2 := hfd b (src.sub b hb)
    refine ⟨(hwr b hb).1, ?_, ?_, ?_, ?_⟩
    · cases e : μ b with
      | none => rfl
      | some m => obtain ⟨_, hr⟩ := S.mu b m e; obtain ⟨o, ho⟩ := hr.some; rw [(hwr b hb).2] at ho; cases ho
    · rintro rfl; exact hb2 (xaN _ (by unfold xaOf; exact List.mem_cons_self))
    · intro y hy
      rcases C₄.cells y b hy with h1 | h1
      · cases e2 : s₂.heap.get? b with
        | none => exact hb2 e2
        | some o2 =>
          have h1' : ({ s₂ with heap := s₂.heap.push { cls := .type "list", data := .seq ([] : List Value).toArray } } : Shared).heap.get? b = none := h1
          rw [Keeps.get kacc e2] at h1'; cases h1'
      · obtain ⟨_, _, _, v, o, ho, hd⟩ := S.cellF y b h1
        rw [(hwr b hb).2] at ho; cases ho
    · rintro rfl; exact hb2 accN
  have main : ∀ R : Result → Shared → Prop, (∀ F' s', St W { cenv with scope := relabel scope env } (freeCtx scope Δ) (μ.set Acc (.lst out)) F' s' → ExtBut (Acc :: xaOf { cenv with scope := relabel scope env } names ++ wr) F₂ s₄ F' s' → R (.ok .next) s') →
      codeAny W.M A (.compLoop (.ListComp elt (g :: gs) scope p) 0 (.ref I) (.ref Acc) { cenv with scope := relabel scope env }) R s₄ := fun R hR =>
    src.run { cenv with scope := relabel scope env } s₄ Acc R ⟨S₄.eok, rfl⟩ S₅ accM st₄ hfp hwr' hR
  obtain ⟨target, iter, ifs, as⟩ := g
  simp only at hasync; subst hasync
  have loop := main (compPost W.M A E use Q (.ref Acc) cenv.locals) fun F' s' S' x' => ?_
  · exact codeAny_compStart_list loop (src.self _ _ _ st₄ loop)
  · obtain ⟨hF', vs, n, hget, hrel⟩ := S'.mu Acc _ (MM.set_self ..)
    have x24 : ExtBut [] F₂ s₂ F₂ s₄ := .same (.ofKeeps (Keeps.trans' kacc k₄))
    have xall : ExtBut [] F s F' s' := by
      have y1 : ExtBut (Acc :: xaOf { cenv with scope := relabel scope env } names ++ wr) F s F' s' := (x₂.but.trans (x24.mono (by simp))).trans x'
      refine y1.drop fun b hb => .inr ?_
      simp at hb
      rcases hb with rfl | hb | hb
      · exact fresh _ accN
      · exact fresh _ (xaN b hb)
      · exact (hwr b hb).2
    exact fin F' s' Acc cenv.locals ⟨xall.ext S'.sub, hF', fresh _ accN, S'.nsF, fresh _ (xaN _ (by unfold xaOf; exact List.mem_cons_self)), accNeL, S'.ns, vs, n, hget, hrel⟩

theorem comp_all {elt : Expr} {g : Comprehension} {gs : List Comprehension} {scope : Scope} {pos p : Pos} {use : Option (Value → Sem Unit)} {names : List Str} {xs out : List D} {Q : Value → Shared → Prop} {E : Value → Shared → Prop} {F : FM} {s : Shared}
    (ok : ScopeOk scope env) (hown : ∀ x ∈ names, OwnName scope x) (hset : notSet g.iter = true) (hasync : g.is_async = 0) (hit : IterEv W A env Δ μ g.iter xs)
    (run : CompRun W A env Δ μ (.ListComp elt (g :: gs) scope p) scope names xs out) (S : St W env Δ μ F s)
    (fin : ∀ F' s' Acc C, Made W F s out F' s' Acc C → compPost W.M A E use Q (.ref Acc) C (.ok .next) s') :
    wpAny W.M A (comprehension (.ListComp elt (g :: gs) scope p) scope env pos (newList []) false (eval g.iter env) use) Q E s := by
  refine comp_gen ok hown hset hasync (wpAny_mono (hit F s E S) (fun x s₁ h₁ => wpAny_mono h₁ (fun it s₂ h₂ => ?_) fun _ _ e => e) fun _ _ e => e) S fin
  obtain ⟨F₂, x₂, i, rfl, q⟩ := h₂
  exact ⟨F₂, i.I, i.fp, i.wr, i.Stw 0, rfl, x₂, q.hW.sub, q.now, q.hW.frame 0, q.hW.self 0, q.hfd, q.hwr, fun cenv s₄ Acc R hin S₅ hA st₄ hfp hwr' hR => run cenv F₂ s s₄ _ Acc R i.fp i.wr i.P i.Stw i.I hin rfl S₅ hA q.hW st₄ q.hP q.hex hfp hwr' hR⟩
end
end Mine

open PySem PySem.W PyProof.Rows
set_option Elab.async false
set_option linter.unusedVariables false
namespace Mine

def TstL (W : Wd) (A : Around) (env : Env) (Δ : Ctx) (μ : MM) (ifs : List Expr) (b : Bool) : Prop :=
  ∀ F s (E : Value → Shared → Prop), St W env Δ μ F s → wpAny W.M A (testsT ifs env) (fun r s' => ∃ F', Ext F s F' s' ∧ r = b) E s

section
variable {W : Wd} {A : Around} {env : Env} {Δ : Ctx} {μ : MM}

theorem TstL.nil : TstL W A env Δ μ [] true := fun F s E S => wpAny_tests_nil ⟨F, Ext.rfl' S.sub, rfl⟩
theorem TstL.one {c : Expr} {b : Bool} (h : Tst W A env Δ μ c b) : TstL W A env Δ μ [c] b := fun F s E S => wpAny_tests_one (h F s E S)

theorem own_ne {scope : Scope} {x y : Str} {d : D} (ok : ScopeOk scope env) (hx : OwnName scope x) (h : (freeCtx scope Δ).lookup y = some d) : y ≠ x := by
  rintro rfl
  have h1 := (freeCtx_lookup h).1
  rcases hx with hx | hx <;> (have := kind_unique ok.nodup h1 hx; cases this)

theorem own_xa {scope : Scope} {cenv : Env} (ok : ScopeOk scope env) (hs : cenv.scope = relabel scope env) {names : List Str} {x : Str} (hm : x ∈ names) {b : Addr}
    (hb : b = cenv.locals ∧ cenv.kindOf x = some .local ∨ cenv.cells.lookup x = some b ∧ cenv.kindOf x = some .cell) : b ∈ xaOf cenv names := by
  unfold xaOf
  rcases hb with ⟨rfl, _⟩ | ⟨h1, h2⟩
  · exact List.mem_cons_self
  · exact List.mem_cons_of_mem _ (List.mem_filterMap.mpr ⟨x, hm, by rw [if_pos h2]; exact h1⟩)

theorem emit_ok {elt : Expr} {Acc : Addr} {ys : List D} {y : D} {F : FM} {s : Shared} {xa : List Addr} {Q : Unit → Shared → Prop} {E : Value → Shared → Prop} (hAcc : μ Acc = none) (he : Ev W A env Δ μ elt y) (S : St W env Δ (μ.set Acc (.lst ys)) F s) (hsz : ys.length + 1 ≤ sizeLine)
    (h : ∀ F' s', St W env Δ (μ.set Acc (.lst (ys ++ [y]))) F' s' → ExtBut (Acc :: xa) F s F' s' → Q () s') : emitB W A elt (.ref Acc) env Q E s := by
  refine wpAny_mono (he F s E (S.dropM hAcc)) (fun v s₁ h₁ => ?_) fun _ _ e => e
  obtain ⟨F₁, x₁, r₁⟩ := h₁
  refine append_mut (S.ext x₁) (MM.set_self ..) r₁ (by omega) fun s' S' x' => ?_
  rw [MM.set_set] at S'
  exact h F₁ s' S' (x₁.but.trans (x'.mono fun b hb => by simp at hb; simp [hb]))

theorem run1 {elt iter : Expr} {x : Str} {px : Pos} {ifs : List Expr} {scope : Scope} {p : Pos} {xs : List D} {o : Nat → List D} (ok : ScopeOk scope env) (hx : OwnName scope x)
    (hsz : ((List.range xs.length).flatMap o).length ≤ sizeLine)
    (body : ∀ cenv, In W env scope cenv → ∀ i d, xs[i]? = some d → ∃ b, TstL W A cenv ((x, d) :: freeCtx scope Δ) μ ifs b ∧ (b = false → o i = []) ∧ (b = true → ∃ y, o i = [y] ∧ Ev W A cenv ((x, d) :: freeCtx scope Δ) μ elt y)) :
    CompRun W A env Δ μ (.ListComp elt [⟨.Name x px, iter, ifs, 0⟩] scope p) scope [x] xs ((List.range xs.length).flatMap o) := by
  intro cenv F s₀ s it Acc R fp wr P Stw I hin hit S hAcc hW hst hP hex hfp hwr hR
  subst hit
  refine comp_core (B := emitB W A elt (.ref Acc) cenv) (o := o) (ys₀ := []) (xa := xaOf cenv [x]) loop1 hW hst hP hex ?_ (fun b hb => own_xa ok hin.sc (by simp) hb) hfp hwr (fun y d h => own_ne ok hx h) hAcc (by simpa using hsz) (fun i d hd => ?_) S (by simpa using hR)
  · rcases own_kind ok hin.sc hx with h | h
    · exact .inl h.1
    · exact .inr h.1
  · obtain ⟨b, h1, h2, h3⟩ := body cenv hin i d hd
    refine ⟨b, h1, h2, fun hb ys F s Q E S hsz h => ?_⟩
    obtain ⟨y, hy, he⟩ := h3 hb
    rw [hy] at hsz h
    exact emit_ok hAcc he S (by simpa using hsz) h

theorem compStart2 {prog : Program} {w : World} {R : Result → Shared → Prop} {s : Shared} {elt iter iter' : Expr} {target target' : Expr} {scope : Scope} {pos : Pos} {it acc : Value} {env : Env}
    (h0 : codeAny (model prog w) A (.compLoop (.ListComp elt [⟨target, iter, [], 0⟩, ⟨target', iter', [], 0⟩] scope pos) 1 it acc env) R s)
    (h : wpAny (model prog w) A (pyIter it) (fun it' s' => codeAny (model prog w) A (.compLoop (.ListComp elt [⟨target, iter, [], 0⟩, ⟨target', iter', [], 0⟩] scope pos) 1 it' acc env) R s')
      (notedBy (model prog w) A env fun x s' => R (.error x) s') s) :
    codeAny (model prog w) A (.compStart (.ListComp elt [⟨target, iter, [], 0⟩, ⟨target', iter', [], 0⟩] scope pos) 1 it acc env) R s := by
  refine codeAny_of_tree ?_
  show wpAny _ _ ((compStart (.ListComp elt [⟨target, iter, [], 0⟩, ⟨target', iter', [], 0⟩] scope pos) 1 it acc env).onRaise (fun x => do noteFrame x env; standAt theWindowsPlace)) _ _ s
  refine wpAny_notedAt ?_
  unfold compStart
  show wpAny _ _ (ask >>= _) _ _ s
  refine wpAny_bind (wpAny_askSetting (wpAny_ite ?_))
  split
  · first
      | exact wpAny_bind (wpAny_pure (wpAny_pure (And.intro rfl h0)))
      | exact wpAny_pure (And.intro rfl h0)
  · first
      | exact wpAny_bind (wpAny_rule (wpAny_bind (wpAny_standAt (wpAny_bind (wpAny_mono h (fun it' s' h' => wpAny_pure (And.intro rfl h')) fun _ _ x => x)))))
      | (refine wpAny_bind (wpAny_rule ?_); show wpAny _ _ (standAt iter'.pos >>= _) _ _ s; exact wpAny_bind (wpAny_standAt (wpAny_bind (wpAny_mono h (fun it' s' h' => wpAny_pure (And.intro rfl h')) fun _ _ x => x))))

theorem run2 {elt iter iter' : Expr} {x x' : Str} {px px' : Pos} {scope : Scope} {p : Pos} {xs : List D} {o : Nat → List D} (ok : ScopeOk scope env) (hx : OwnName scope x) (hx' : OwnName scope x') (hne : x ≠ x') (hset : notSet iter' = true)
    (hsz : ((List.range xs.length).flatMap o).length ≤ sizeLine)
    (body : ∀ cenv, In W env scope cenv → ∀ i d, xs[i]? = some d → ∃ xs', IterEv W A cenv ((x, d) :: freeCtx scope Δ) μ iter' xs' ∧ ∃ o' : Nat → D, o i = (List.range xs'.length).map o' ∧
      ∀ j d', xs'[j]? = some d' → Ev W A cenv ((x', d') :: (x, d) :: freeCtx scope Δ) μ elt (o' j)) :
    CompRun W A env Δ μ (.ListComp elt [⟨.Name x px, iter, [], 0⟩, ⟨.Name x' px', iter', [], 0⟩] scope p) scope [x, x'] xs ((List.range xs.length).flatMap o) := by
  intro cenv F s₀ s it Acc R fp wr P Stw I hin hit S hAcc hW hst hP hex hfp hwr hR
  subst hit
  have kx : cenv.kindOf x = some .local ∨ cenv.kindOf x = some .cell := by
    rcases own_kind ok hin.sc hx with h | h
    · exact .inl h.1
    · exact .inr h.1
  have kx' : cenv.kindOf x' = some .local ∨ cenv.kindOf x' = some .cell := by
    rcases own_kind ok hin.sc hx' with h | h
    · exact .inl h.1
    · exact .inr h.1
  refine comp_core (B := nestB W A (.ListComp elt [⟨.Name x px, iter, [], 0⟩, ⟨.Name x' px', iter', [], 0⟩] scope p) iter' (.ref Acc) cenv) (o := o) (ys₀ := []) (xa := xaOf cenv [x, x']) (loop2_0 fun v => folded_of hset v) hW hst hP hex kx
    (fun b hb => own_xa ok hin.sc (by simp) hb) hfp hwr (fun y d h => own_ne ok hx h) hAcc (by simpa using hsz) (fun i d hd => ?_) S (by simpa using hR)
  obtain ⟨xs', hit, o', hoi, hel⟩ := body cenv hin i d hd
  refine ⟨true, TstL.nil, (fun h => by cases h), fun _ ys F₁ s₁ Q E S₁ hsz₁ h₁ => ?_⟩
  refine wpAny_mono (hit F₁ s₁ E (S₁.dropM hAcc)) (fun v s₂ h₂ => wpAny_mono h₂ (fun it s₃ h₃ => ?_) fun _ _ e => e) fun _ _ e => e
  obtain ⟨F₃, x₃, ⟨I', fp', wr', P', Stw'⟩, rfl, hW', hst', hP', hfd', hfo', hwr', hex'⟩ := h₃
  have S₃ := S₁.ext x₃
  obtain ⟨hAF, hAR⟩ := S₃.mu Acc _ (MM.set_self ..)
  obtain ⟨hAF₁, hAR₁⟩ := S₁.mu Acc _ (MM.set_self ..)
  have accSome : ∃ ob, s₁.heap.get? Acc = some ob := hAR₁.some
  have xaSome : ∀ b ∈ xaOf cenv [x, x'], (∃ ob, s₁.heap.get? b = some ob) ∧ F₃ b = none ∧ μ b = none := fun b hb => by
    have hM : (μ.set Acc (.lst ys)) b = none → μ b = none := fun h => by
      by_cases e : b = Acc
      · subst e; exact hAcc
      · rw [MM.set_ne e] at h; exact h
    unfold xaOf at hb
    rcases List.mem_cons.mp hb with rfl | hb
    · obtain ⟨m, ob, es, ep, e, _⟩ := S₁.ns
      exact ⟨⟨ob, e⟩, S₃.nsF, hM S₃.nsM⟩
    · obtain ⟨y, hy, e⟩ := List.mem_filterMap.mp hb
      split at e
      · obtain ⟨_, _, _, v, ob, e', _⟩ := S₁.cellF y b (mem_of_lookup e)
        have := S₃.cellF y b (mem_of_lookup e)
        exact ⟨⟨ob, e'⟩, this.1, hM this.2.1⟩
      · cases e
  have hfp₂ : ∀ b ∈ fp', b ∉ xaOf cenv [x, x'] ∧ b ≠ Acc := fun b hb => by
    refine ⟨fun h => ?_, fun h => ?_⟩
    · obtain ⟨⟨ob, e⟩, h2, h3⟩ := xaSome b h
      rcases hfo' b hb with h4 | h4 | h4
      · rw [(hwr' b h4).2] at e; cases e
      · exact h4 h2
      · exact h4 h3
    · subst h
      obtain ⟨ob, e⟩ := accSome
      rcases hfo' b hb with h4 | h4 | h4
      · rw [(hwr' b h4).2] at e; cases e
      · exact h4 hAF
      · exact h4 hAcc
  have hwr₂ : ∀ b ∈ wr', F₃ b = none ∧ μ b = none ∧ b ≠ cenv.locals ∧ (∀ y, (y, b) ∉ cenv.cells) ∧ b ≠ Acc := fun b hb => by
    have hn := (hwr' b hb).2
    refine ⟨(hwr' b hb).1, ?_, ?_, ?_, (hfp₂ b (hW'.sub b hb)).2⟩
    · cases e : μ b with
      | none => rfl
      | some m =>
        obtain ⟨_, hr⟩ := (S₁.dropM hAcc).mu b m e
        obtain ⟨ob, ho⟩ := hr.some
        rw [hn] at ho; cases ho
    · rintro rfl; obtain ⟨m, ob, es, ep, e, _⟩ := S₁.ns; rw [hn] at e; cases e
    · intro y hy; obtain ⟨_, _, _, v, ob, e, _⟩ := S₁.cellF y b hy; rw [hn] at e; cases e
  have loop : ∀ R' : Result → Shared → Prop, (∀ F' s', St W cenv ((x, d) :: freeCtx scope Δ) (μ.set Acc (.lst (ys ++ o i))) F' s' → ExtBut (Acc :: xaOf cenv [x, x'] ++ wr') F₃ s₃ F' s' → R' (.ok .next) s') →
      codeAny W.M A (.compLoop (.ListComp elt [⟨.Name x px, iter, [], 0⟩, ⟨.Name x' px', iter', [], 0⟩] scope p) 1 (.ref I') (.ref Acc) cenv) R' s₃ := fun R' hR' => by
    have hfl : (List.range xs'.length).flatMap (fun j => [o' j]) = o i := by rw [hoi, List.map_eq_flatMap]
    refine comp_core (B := emitB W A elt (.ref Acc) cenv) (o := fun j => [o' j]) (ys₀ := ys) (xa := xaOf cenv [x, x']) loop2_1 hW' hst' hP' hex' kx' (fun b hb => own_xa ok hin.sc (by simp) hb) hfp₂ hwr₂ (fun y e h => ?_) hAcc (by rw [hfl]; exact hsz₁) (fun j d' hd' => ?_) S₃ (by rw [hfl]; exact hR')
    · rw [List.lookup_cons] at h
      cases hb : y == x with
      | true => rw [beq_iff_eq.mp hb]; exact hne
      | false => rw [hb] at h; exact own_ne ok hx' h
    · refine ⟨true, TstL.nil, (fun h => by cases h), fun _ ys' F₄ s₄ Q' E' S₄ hsz₄ h₄ => ?_⟩
      exact emit_ok hAcc (hel j d' hd') S₄ (by simpa using hsz₄) h₄
  have fin : codeAny W.M A (.compLoop (.ListComp elt [⟨.Name x px, iter, [], 0⟩, ⟨.Name x' px', iter', [], 0⟩] scope p) 1 (.ref I') (.ref Acc) cenv)
      (fun r s' => match r with | .ok _ => Q () s' | .error x => cameBackBy W.M A cenv E x s') s₃ := loop _ fun F' s' S' x' => by
    refine h₁ F' s' S' ?_
    refine (x₃.but.trans x').drop fun b hb => ?_
    simp at hb ⊢
    rcases hb with h | h | h
    · exact .inl (.inl h)
    · exact .inl (.inr h)
    · exact .inr (hwr' b h).2
  exact compStart2 fin (hW'.self 0 _ _ _ hst' fin)
end
end Mine

open PySem PySem.W PyProof.Rows
set_option Elab.async false
set_option linter.unusedVariables false
namespace Mine

theorem Ev.comp {W : Wd} {A : Around} {env : Env} {Δ : Ctx} {μ : MM} {elt : Expr} {g : Comprehension} {gs : List Comprehension} {scope : Scope} {p : Pos} {names : List Str} {xs out : List D}
    (ok : ScopeOk scope env) (hown : ∀ x ∈ names, OwnName scope x) (hset : notSet g.iter = true) (hasync : g.is_async = 0) (hit : IterEv W A env Δ μ g.iter xs)
    (run : CompRun W A env Δ μ (.ListComp elt (g :: gs) scope p) scope names xs out) : Ev W A env Δ μ (.ListComp elt (g :: gs) scope p) (.list out) := fun F s E S => by
  rw [eval_ListComp]
  obtain ⟨target, iter, ifs, as⟩ := g
  simp only at hasync; subst hasync
  refine comp_all (use := none) ok hown hset rfl hit run S fun F' s' Acc C M => ?_
  obtain ⟨m, hn⟩ := M.ns
  refine ⟨m, hn, fun h' hs' => ?_⟩
  obtain ⟨vs, n, hget, hrel⟩ := M.rel
  have k : KeepsBut [C] s' { s' with heap := h' } := ⟨h', s'.toks, rfl, fun b o hb e => (hs'.2 b (by simpa using hb)).trans e⟩
  have hin : ∀ b o, F' b = some o → h'.get? b = some o := fun b o e => (hs'.2 b (fun e' => by rw [e', M.locF] at e; cases e)).trans (M.ext.inn b o e)
  have x : Ext F s F' { s' with heap := h' } := by
    refine ⟨?_, M.ext.sub, hin, M.ext.new⟩
    obtain ⟨h₀, tk, e, hk⟩ := M.ext.keeps
    subst e
    exact ⟨h', tk, rfl, fun b o e => (hs'.2 b (fun e' => by rw [e', M.locN] at e; cases e)).trans (hk b o e)⟩
  have hg : h'.get? Acc = some (lobj vs n) := (hs'.2 Acc M.ne).trans hget
  have x2 := x.addNew (a := Acc) hg M.accN M.accF
  exact ⟨_, x2, by rw [RelV]; exact ⟨Acc, vs, n, rfl, FM.add_self .., hrel.mono (FM.add_sub M.accF)⟩⟩

def lookEq (N : List (Str × NameKind)) (x : Str) (k : NameKind) : Bool := N.lookup x == some k

/-- a comprehension's table upon the table around it -/
def innerN (scope : Scope) (N : List (Str × NameKind)) : List (Str × NameKind) :=
  scope.names.map fun p => if (p.2 == .free && true && N.lookup p.1 == some .cell) then (p.1, .cell) else (p.1, p.2)
def scopeOkB (scope : Scope) (N : List (Str × NameKind)) : Bool :=
  (scope.kind == .function) && decide (scope.names.map (·.1)).Nodup && scope.names.all fun p => p.2 != .free || N.lookup p.1 == some .cell || N.lookup p.1 == some .free
def ownB (scope : Scope) (x : Str) : Bool := scope.names.lookup x == some .local || scope.names.lookup x == some .cell

theorem scopeOk_of {scope : Scope} {env : Env} (h : scopeOkB scope env.scope.names = true) : ScopeOk scope env := by
  simp only [scopeOkB, Bool.and_eq_true, beq_iff_eq, decide_eq_true_eq, List.all_eq_true] at h
  obtain ⟨⟨h1, h2⟩, h3⟩ := h
  refine ⟨h1, h2, fun n hn => ?_⟩
  have := h3 (n, .free) hn
  simp only [Bool.or_eq_true, bne_iff_ne, ne_eq, not_true_eq_false, beq_iff_eq, false_or] at this
  exact this
theorem own_of {scope : Scope} {x : Str} (h : ownB scope x = true) : OwnName scope x := by
  simp only [ownB, Bool.or_eq_true, beq_iff_eq] at h
  rcases h with h | h
  · exact .inl (mem_of_lookup h)
  · exact .inr (mem_of_lookup h)
theorem innerN_eq {scope : Scope} {env : Env} (h : env.scope.kind = .function) : (relabel scope env).names = innerN scope env.scope.names := by
  unfold relabel innerN Env.kindOf
  rw [h]
  rfl
end Mine

open PySem PySem.W PyProof.Rows
set_option Elab.async false
set_option linter.unusedVariables false
namespace Mine

def evs (f : Expr → Option D) : List Expr → Option (List D)
  | [] => some []
  | e :: r => match f e, evs f r with
    | some d, some ds => some (d :: ds)
    | _, _ => none
def collect (f : D → Option (List D)) : List D → Option (List D)
  | [] => some []
  | x :: r => match f x, collect f r with
    | some a, some b => some (a ++ b)
    | _, _ => none
def tstAll (op : BoolOp) (f : Expr → Option Bool) : List Expr → Option Bool
  | [] => some (op == .And)
  | e :: r => match f e with
    | some b => if b == (op == .And) then tstAll op f r else some b
    | none => none
def partI (f : Expr → Option D) : Option Expr → Option (Option Int)
  | none => some none
  | some e => match f e with
    | some (.int i) => some (some i)
    | _ => none
noncomputable def sized (ds : List D) : Option D := @ite _ (ds.length ≤ sizeLine) (Classical.propDecidable _) (some (.list ds)) none

noncomputable def sliceD (μ : MM) (d : D) (lo hi st : Option Int) : Option D :=
  match d with
  | .str x => @ite _ (st = none ∧ x.length ≤ sizeLine) (Classical.propDecidable _) (some (.str (Txt.slice x lo hi))) none
  | d => match asList μ d with
    | some ds => @ite _ (st ≠ some 0 ∧ ds.length ≤ sizeLine) (Classical.propDecidable _) (some (.list (pickL ds lo hi st))) none
    | none => none

def nmJoin : Str := "join"
def nmSplit : Str := "split"
def nmIndex : Str := "index"
def nmGet : Str := "get"
def nmRange : Str := "range"
noncomputable def methD (μ : MM) (name : Str) (ov : D) (args : List D) : Option D :=
  if name = nmJoin then
    (match ov, args with
    | .str sep, [d] => match (asList μ d).bind strsOf? with
      | some xs => @ite _ (JoinOk sep xs = true) (Classical.propDecidable _) (some (.str (Txt.join sep xs))) none
      | none => none
    | _, _ => none)
  else if name = nmSplit then
    (match ov, args with
    | .str x, [.str y] => @ite _ ((y.length == 0) = false ∧ x.length ≤ sizeLine ∧ (Builtin.Str.partsBetween x (Builtin.Str.occurrences x y 0 x.length (x.length + 1)) y.length).length ≤ sizeLine) (Classical.propDecidable _) (some (.list ((Txt.split x y).map .str))) none
    | _, _ => none)
  else if name = nmIndex then
    (match asList μ ov, args with
    | some ds, [x] => @ite _ (ds.length ≤ sizeLine) (Classical.propDecidable _) ((findIdxD x ds).map (fun (j : Nat) => D.int (j : Int))) none
    | _, _ => none)
  else none

def ownT (scope : Scope) (g : Comprehension) : Bool := match g.target with
  | .Name x _ => ownB scope x
  | _ => false
def neT (g g' : Comprehension) : Bool := match g.target with
  | .Name x _ => (match g'.target with | .Name x' _ => x != x' | _ => false)
  | _ => false
def globT (N : List (Str × NameKind)) (o : Expr) : Bool := match o with
  | .Name t _ => lookEq N t .globalImplicit
  | _ => true

def opt2 {α : Type} (f : D → D → Option α) : Option D → Option D → Option α
  | some a, some b => f a b
  | _, _ => none
theorem opt2_of {α : Type} {f : D → D → Option α} : ∀ {o o' : Option D} {d : α}, opt2 f o o' = some d → ∃ a b, o = some a ∧ o' = some b ∧ f a b = some d
  | some a, some b, _, h => ⟨a, b, rfl, rfl, h⟩
  | none, _, _, h => nomatch h
  | some _, none, _, h => nomatch h
theorem opt2_ss {α : Type} {f : D → D → Option α} {a b : D} : opt2 f (some a) (some b) = f a b := rfl
def optS (o : Option (List D)) (f : List D → Option D) : Option D := match o with
  | some ds => f ds
  | none => none
theorem optS_of {f : List D → Option D} : ∀ {o : Option (List D)} {d : D}, optS o f = some d → ∃ ds, o = some ds ∧ f ds = some d
  | some ds, _, h => ⟨ds, rfl, h⟩
  | none, _, h => nomatch h
theorem optS_s {f : List D → Option D} {ds : List D} : optS (some ds) f = f ds := rfl

noncomputable def idxV (μ : MM) (d i : D) : Option D := match i with
  | .int k => idxD μ d k
  | _ => none
theorem idxV_int {μ : MM} {d : D} {k : Int} : idxV μ d (.int k) = idxD μ d k := rfl

mutual
noncomputable def evD (Φ : Str → List D → Option D) (Ψ : Str → List D → Option D) (μ : MM) : Nat → Expr → Ctx → Option D
  | 0, _, _ => none
  | n + 1, e, Δ => match e with
    | .Constant c _ _ => (match c with
      | .int i => some (.int i)
      | .str x => some (.str x)
      | .bool b => some (.bool b)
      | .none => some .none
      | _ => none)
    | .Name x _ => Δ.lookup x
    | .BinOp l op r _ => opt2 (binD μ op) (evD Φ Ψ μ n l Δ) (evD Φ Ψ μ n r Δ)
    | .UnaryOp op x _ => (match op with
      | .USub => (match evD Φ Ψ μ n x Δ with
        | some (.int i) => some (.int (-i))
        | _ => none)
      | _ => none)
    | .Compare l ops rs _ => (match ops with
      | [op] => (match rs with
        | [r] => opt2 (fun a b => (cmpD μ op a b).map .bool) (evD Φ Ψ μ n l Δ) (evD Φ Ψ μ n r Δ)
        | _ => none)
      | _ => none)
    | .BoolOp op vs _ => (match op with
      | .And => (match vs with
        | [x, y] => (match evD Φ Ψ μ n x Δ with
          | some (.bool true) => evD Φ Ψ μ n y Δ
          | some (.bool false) => some (.bool false)
          | _ => none)
        | _ => none)
      | _ => none)
    | .IfExp t a b _ => (match tstD Φ Ψ μ n t Δ with
      | some true => evD Φ Ψ μ n a Δ
      | some false => evD Φ Ψ μ n b Δ
      | none => none)
    | .List es _ => optS (evs (fun e => evD Φ Ψ μ n e Δ) es) sized
    | .ListComp elt gens scope _ => (match gens with
      | [] => none
      | g :: gs => (match g.target with
        | .Name x _ => optS (itD Φ Ψ μ n g.iter Δ) (fun xs => match gs with
            | [] => optS (collect (fun d => match g.ifs with
                | [] => (evD Φ Ψ μ n elt ((x, d) :: freeCtx scope Δ)).map fun y => [y]
                | [c] => (match tstD Φ Ψ μ n c ((x, d) :: freeCtx scope Δ) with
                  | some true => (evD Φ Ψ μ n elt ((x, d) :: freeCtx scope Δ)).map fun y => [y]
                  | some false => some []
                  | none => none)
                | _ => none) xs) sized
            | [g'] => (match g'.target with
              | .Name x' _ => (match g.ifs with
                | [] => (match g'.ifs with
                  | [] => optS (collect (fun d => match itD Φ Ψ μ n g'.iter ((x, d) :: freeCtx scope Δ) with
                      | some xs' => collect (fun d' => (evD Φ Ψ μ n elt ((x', d') :: (x, d) :: freeCtx scope Δ)).map fun y => [y]) xs'
                      | none => none) xs) sized
                  | _ => none)
                | _ => none)
              | _ => none)
            | _ => none)
        | _ => none))
    | .Subscript v i _ => (match i with
      | .Slice lo hi st _ => (match evD Φ Ψ μ n v Δ, partI (fun e => evD Φ Ψ μ n e Δ) lo, partI (fun e => evD Φ Ψ μ n e Δ) hi, partI (fun e => evD Φ Ψ μ n e Δ) st with
        | some d, some l, some h, some s => sliceD μ d l h s
        | _, _, _, _ => none)
      | i => opt2 (idxV μ) (evD Φ Ψ μ n v Δ) (evD Φ Ψ μ n i Δ))
    | .Call f args ks _ => (match ks with
      | [] => (match f with
        | .Name f _ => optS (evs (fun e => evD Φ Ψ μ n e Δ) args) (Φ f)
        | .Attribute o name _ => (match args with
          | [a] => opt2 (fun ov x => methD μ name ov [x]) (evD Φ Ψ μ n o Δ) (evD Φ Ψ μ n a Δ)
          | [a, b] => (match o with
            | .Name t _ => opt2 (fun x y => if name = nmGet then Ψ t [x, y] else none) (evD Φ Ψ μ n a Δ) (evD Φ Ψ μ n b Δ)
            | _ => none)
          | _ => none)
        | _ => none)
      | _ => none)
    | _ => none
noncomputable def tstD (Φ : Str → List D → Option D) (Ψ : Str → List D → Option D) (μ : MM) : Nat → Expr → Ctx → Option Bool
  | 0, _, _ => none
  | n + 1, e, Δ => match e with
    | .UnaryOp op x _ => (match op with
      | .Not => (tstD Φ Ψ μ n x Δ).map fun b => !b
      | _ => none)
    | .BoolOp op vs _ => tstAll op (fun x => tstD Φ Ψ μ n x Δ) vs
    | .Compare l ops rs _ => (match ops with
      | [op] => (match rs with
        | [r] => opt2 (cmpD μ op) (evD Φ Ψ μ n l Δ) (evD Φ Ψ μ n r Δ)
        | _ => none)
      | _ => none)
    | .Name x p => (evD Φ Ψ μ n (.Name x p) Δ).bind (truthD μ)
    | .BinOp a op b p => (evD Φ Ψ μ n (.BinOp a op b p) Δ).bind (truthD μ)
    | .Call f as ks p => (evD Φ Ψ μ n (.Call f as ks p) Δ).bind (truthD μ)
    | _ => none
noncomputable def itD (Φ : Str → List D → Option D) (Ψ : Str → List D → Option D) (μ : MM) : Nat → Expr → Ctx → Option (List D)
  | 0, _, _ => none
  | n + 1, e, Δ => match e with
    | .Call (.Name f p) args [] q => if f = nmRange then
        (match evs (fun e => evD Φ Ψ μ n e Δ) args with
        | some ds => (match rangeArgs ds with
          | some (a, b, c) => @ite _ (Builtin.Range.small a b c = true) (Classical.propDecidable _) (some ((rangeL a b c).map .int)) none
          | none => none)
        | none => none)
      else (evD Φ Ψ μ n (.Call (.Name f p) args [] q) Δ).bind (asList μ)
    | e => (evD Φ Ψ μ n e Δ).bind (asList μ)
end

-- what the text alone must be like
def okG (it it' : Expr → Bool) (tst : Expr → Bool) (scope : Scope) (gens : List Comprehension) : Bool := match gens with
  | [] => false
  | g :: gs => ownT scope g && it g.iter && notSet g.iter && g.is_async == 0 && (match gs with
    | [] => g.ifs.all tst
    | [g'] => ownT scope g' && neT g g' && it' g'.iter && notSet g'.iter && g'.is_async == 0
    | _ => false)
def okS (ok : Expr → Bool) (i : Expr) : Bool := match i with
  | .Slice lo hi st _ => lo.all ok && hi.all ok && st.all ok
  | i => ok i
def okF (ok : Expr → Bool) (N : List (Str × NameKind)) (f : Expr) (args : List Expr) (pos : Pos) : Bool := match f with
  | .Name f _ => lookEq N f .globalImplicit && !(f == ("__debug__" : Str)) && !args.isEmpty
  | .Attribute o name apos => (apos.endLine == pos.line) && plainBase o && ok o && (match args with | [_, _] => globT N o | _ => true)
  | _ => false
mutual
def okE : Nat → List (Str × NameKind) → Expr → Bool
  | 0, _, _ => false
  | n + 1, N, e => match e with
    | .Constant .. => true
    | .Name x _ => !(x == ("__debug__" : Str)) && !(x == ("__classdict__" : Str))
    | .BinOp l _ r _ => okE n N l && okE n N r
    | .UnaryOp _ x _ => okE n N x
    | .BoolOp _ vs _ => vs.all (okE n N)
    | .Compare l _ rs _ => okE n N l && rs.all fun r => okE n N r && notSet r
    | .IfExp t a b _ => okT n N t && okE n N a && okE n N b
    | .List es _ => es.all fun e => okE n N e && notStar e
    | .ListComp elt gens scope _ => scopeOkB scope N && okE n (innerN scope N) elt &&
        okG (okI n N) (okI n (innerN scope N)) (okT n (innerN scope N)) scope gens
    | .Subscript v i _ => okE n N v && okS (okE n N) i
    | .Call f args _ pos => args.all (fun e => okE n N e && notStar e) && okF (okE n N) N f args pos
    | _ => false
def okT : Nat → List (Str × NameKind) → Expr → Bool
  | 0, _, _ => false
  | n + 1, N, e => match e with
    | .UnaryOp op x _ => (match op with | .Not => okT n N x | _ => false)
    | .BoolOp _ vs _ => vs.all (okT n N)
    | .Compare l _ rs _ => okE n N l && rs.all fun r => okE n N r && notSet r
    | e => okE n N e
def okI : Nat → List (Str × NameKind) → Expr → Bool
  | 0, _, _ => false
  | n + 1, N, e => match e with
    | .Call (.Name f p) args [] q => if f = nmRange then lookEq N f .globalImplicit && args.all (fun e => okE n N e && notStar e) else okE n N (.Call (.Name f p) args [] q)
    | e => okE n N e
end

section
variable {Φ Ψ : Str → List D → Option D} {μ : MM} {n : Nat} {Δ : Ctx}
theorem eI {i : Int} {a : Nat} {p : Pos} : evD Φ Ψ μ (n + 1) (.Constant (.int i) a p) Δ = some (.int i) := rfl
theorem eS {i : Str} {a : Nat} {p : Pos} : evD Φ Ψ μ (n + 1) (.Constant (.str i) a p) Δ = some (.str i) := rfl
theorem eB {i : Bool} {a : Nat} {p : Pos} : evD Φ Ψ μ (n + 1) (.Constant (.bool i) a p) Δ = some (.bool i) := rfl
theorem eN {x : Str} {p : Pos} : evD Φ Ψ μ (n + 1) (.Name x p) Δ = Δ.lookup x := rfl
theorem eBin {l r : Expr} {op : Operator} {p : Pos} : evD Φ Ψ μ (n + 1) (.BinOp l op r p) Δ = opt2 (binD μ op) (evD Φ Ψ μ n l Δ) (evD Φ Ψ μ n r Δ) := rfl
theorem eNeg {x : Expr} {p : Pos} : evD Φ Ψ μ (n + 1) (.UnaryOp .USub x p) Δ = (match evD Φ Ψ μ n x Δ with | some (.int i) => some (.int (-i)) | _ => none) := rfl
theorem eCmp {l r : Expr} {op : CmpOp} {p : Pos} : evD Φ Ψ μ (n + 1) (.Compare l [op] [r] p) Δ = opt2 (fun a b => (cmpD μ op a b).map .bool) (evD Φ Ψ μ n l Δ) (evD Φ Ψ μ n r Δ) := rfl
theorem eAnd {x y : Expr} {p : Pos} : evD Φ Ψ μ (n + 1) (.BoolOp .And [x, y] p) Δ = (match evD Φ Ψ μ n x Δ with | some (.bool true) => evD Φ Ψ μ n y Δ | some (.bool false) => some (.bool false) | _ => none) := rfl
theorem eIf {t a b : Expr} {p : Pos} : evD Φ Ψ μ (n + 1) (.IfExp t a b p) Δ = (match tstD Φ Ψ μ n t Δ with | some true => evD Φ Ψ μ n a Δ | some false => evD Φ Ψ μ n b Δ | none => none) := rfl
theorem eL {es : List Expr} {p : Pos} : evD Φ Ψ μ (n + 1) (.List es p) Δ = optS (evs (fun e => evD Φ Ψ μ n e Δ) es) sized := rfl
theorem eC1 {elt iter : Expr} {x : Str} {ifs : List Expr} {a : Int} {scope : Scope} {px p : Pos} : evD Φ Ψ μ (n + 1) (.ListComp elt [⟨.Name x px, iter, ifs, a⟩] scope p) Δ = optS (itD Φ Ψ μ n iter Δ) fun xs => optS (collect (fun d => match ifs with
                | [] => (evD Φ Ψ μ n elt ((x, d) :: freeCtx scope Δ)).map fun y => [y]
                | [c] => (match tstD Φ Ψ μ n c ((x, d) :: freeCtx scope Δ) with
                  | some true => (evD Φ Ψ μ n elt ((x, d) :: freeCtx scope Δ)).map fun y => [y]
                  | some false => some []
                  | none => none)
                | _ => none) xs) sized := rfl
theorem eC2 {elt iter iter' : Expr} {x x' : Str} {a a' : Int} {scope : Scope} {px px' p : Pos} : evD Φ Ψ μ (n + 1) (.ListComp elt [⟨.Name x px, iter, [], a⟩, ⟨.Name x' px', iter', [], a'⟩] scope p) Δ = optS (itD Φ Ψ μ n iter Δ) fun xs => optS (collect (fun d => match itD Φ Ψ μ n iter' ((x, d) :: freeCtx scope Δ) with
                      | some xs' => collect (fun d' => (evD Φ Ψ μ n elt ((x', d') :: (x, d) :: freeCtx scope Δ)).map fun y => [y]) xs'
                      | none => none) xs) sized := rfl
theorem eSl {v : Expr} {lo hi st : Option Expr} {p q : Pos} : evD Φ Ψ μ (n + 1) (.Subscript v (.Slice lo hi st p) q) Δ = (match evD Φ Ψ μ n v Δ, partI (fun e => evD Φ Ψ μ n e Δ) lo, partI (fun e => evD Φ Ψ μ n e Δ) hi, partI (fun e => evD Φ Ψ μ n e Δ) st with
        | some d, some l, some h, some s => sliceD μ d l h s
        | _, _, _, _ => none) := rfl
theorem eXn {v : Expr} {x : Str} {q p : Pos} : evD Φ Ψ μ (n + 1) (.Subscript v (.Name x q) p) Δ = opt2 (idxV μ) (evD Φ Ψ μ n v Δ) (evD Φ Ψ μ n (.Name x q) Δ) := rfl
theorem eXb {v l r : Expr} {op : Operator} {q p : Pos} : evD Φ Ψ μ (n + 1) (.Subscript v (.BinOp l op r q) p) Δ = opt2 (idxV μ) (evD Φ Ψ μ n v Δ) (evD Φ Ψ μ n (.BinOp l op r q) Δ) := rfl
theorem eXc {v : Expr} {c : Const} {a : Nat} {q p : Pos} : evD Φ Ψ μ (n + 1) (.Subscript v (.Constant c a q) p) Δ = opt2 (idxV μ) (evD Φ Ψ μ n v Δ) (evD Φ Ψ μ n (.Constant c a q) Δ) := rfl
theorem eXu {v x : Expr} {op : UnaryOp} {q p : Pos} : evD Φ Ψ μ (n + 1) (.Subscript v (.UnaryOp op x q) p) Δ = opt2 (idxV μ) (evD Φ Ψ μ n v Δ) (evD Φ Ψ μ n (.UnaryOp op x q) Δ) := rfl
theorem eXs {v l r : Expr} {q p : Pos} : evD Φ Ψ μ (n + 1) (.Subscript v (.Subscript l r q) p) Δ = opt2 (idxV μ) (evD Φ Ψ μ n v Δ) (evD Φ Ψ μ n (.Subscript l r q) Δ) := rfl
theorem eX {v i : Expr} {p : Pos} (hs : ∀ lo hi st q, i ≠ .Slice lo hi st q) : evD Φ Ψ μ (n + 1) (.Subscript v i p) Δ = opt2 (idxV μ) (evD Φ Ψ μ n v Δ) (evD Φ Ψ μ n i Δ) := by
  cases i <;> first | rfl | exact absurd rfl (hs _ _ _ _)
theorem eCall {f : Str} {args : List Expr} {q p : Pos} : evD Φ Ψ μ (n + 1) (.Call (.Name f q) args [] p) Δ = optS (evs (fun e => evD Φ Ψ μ n e Δ) args) (Φ f) := rfl
theorem eM1 {o a : Expr} {name : Str} {q p : Pos} : evD Φ Ψ μ (n + 1) (.Call (.Attribute o name q) [a] [] p) Δ = opt2 (fun ov x => methD μ name ov [x]) (evD Φ Ψ μ n o Δ) (evD Φ Ψ μ n a Δ) := rfl
theorem eM2 {t name : Str} {a b : Expr} {q q' p : Pos} : evD Φ Ψ μ (n + 1) (.Call (.Attribute (.Name t q) name q') [a, b] [] p) Δ = opt2 (fun x y => if name = nmGet then Ψ t [x, y] else none) (evD Φ Ψ μ n a Δ) (evD Φ Ψ μ n b Δ) := rfl
theorem tNot {x : Expr} {p : Pos} : tstD Φ Ψ μ (n + 1) (.UnaryOp .Not x p) Δ = (tstD Φ Ψ μ n x Δ).map fun b => !b := rfl
theorem tBool {op : BoolOp} {vs : List Expr} {p : Pos} : tstD Φ Ψ μ (n + 1) (.BoolOp op vs p) Δ = tstAll op (fun x => tstD Φ Ψ μ n x Δ) vs := rfl
theorem tCmp {l r : Expr} {op : CmpOp} {p : Pos} : tstD Φ Ψ μ (n + 1) (.Compare l [op] [r] p) Δ = opt2 (cmpD μ op) (evD Φ Ψ μ n l Δ) (evD Φ Ψ μ n r Δ) := rfl
theorem tN {x : Str} {p : Pos} : tstD Φ Ψ μ (n + 1) (.Name x p) Δ = (evD Φ Ψ μ n (.Name x p) Δ).bind (truthD μ) := rfl
theorem tBin {l r : Expr} {op : Operator} {p : Pos} : tstD Φ Ψ μ (n + 1) (.BinOp l op r p) Δ = (evD Φ Ψ μ n (.BinOp l op r p) Δ).bind (truthD μ) := rfl
theorem tCall {f : Expr} {args : List Expr} {ks : List Keyword} {p : Pos} : tstD Φ Ψ μ (n + 1) (.Call f args ks p) Δ = (evD Φ Ψ μ n (.Call f args ks p) Δ).bind (truthD μ) := rfl
theorem iRange {args : List Expr} {q p : Pos} : itD Φ Ψ μ (n + 1) (.Call (.Name "range" q) args [] p) Δ = (match evs (fun e => evD Φ Ψ μ n e Δ) args with
        | some ds => (match rangeArgs ds with
          | some (a, b, c) => @ite _ (Builtin.Range.small a b c = true) (Classical.propDecidable _) (some ((rangeL a b c).map .int)) none
          | none => none)
        | none => none) := rfl
end
end Mine

open PySem PySem.W PyProof.Rows
set_option Elab.async false
set_option linter.unusedVariables false
namespace Mine

/-- t.get(x, y) of a table of the top -/
def GetOk (W : Wd) (k : Nat) (μ : MM) (t : Str) (ds : List D) (d : D) : Prop :=
  ∃ a o, W.mg t = some (.ref a) ∧ W.s₁.heap.get? a = some o ∧ o.cls = .type "dict" ∧ o.dict = none ∧ ∀ (A : Around) (env : Env) (Δ : Ctx) (F : FM) (s : Shared) (E : Value → Shared → Prop) (vs : List Value),
    GoodA A k → St W env Δ μ F s → RelVs F ds vs → wpAny W.M A (call (.builtin "dict.get") (.ref a :: vs)) (Gv W F s d) E s

section
variable {W : Wd} {A : Around} {env : Env} {Δ : Ctx} {μ : MM}

theorem Ev.get2 (hW : W.Ok) {t : Str} {p apos pos : Pos} {e₁ e₂ : Expr} {x y d : D} {k : Nat} (hA : GoodA A k) (hg : GetOk W k μ t [x, y] d) (h1 : Ev W A env Δ μ e₁ x) (h2 : Ev W A env Δ μ e₂ y) (n1 : notStar e₁ = true) (n2 : notStar e₂ = true)
    (hk : env.kindOf t = some .globalImplicit) (hd : (t == ("__debug__" : Str)) = false) (hline : (apos.endLine == pos.line) = true) : Ev W A env Δ μ (.Call (.Attribute (.Name t p) "get" apos) [e₁, e₂] [] pos) d := fun F s E S => by
  obtain ⟨a, o, hm, ho, hc, hdct, hcall⟩ := hg
  have hl : EvL W A env Δ μ [e₁, e₂] [x, y] := .cons n1 h1 (.cons n2 h2 .nil)
  have hst : starEach [e₁, e₂] env = [(false, eval e₁ env), (false, eval e₂ env)] := by rw [starEach_cons n1, starEach_cons n2]; rfl
  refine Call_method2 (base_eq rfl _) hst hline (wpAny_Name (loadGlob hW S (.inl hm) hk ?_) hd)
  have ho' := S.sub _ _ (S.base a o ho)
  refine ⟨"dict", "dict.get", PySem.F.plainAttrs_dict, PySem.F.slot_dict_get, PySem.F.type_dict_get, ⟨o, ho', hc⟩, (fun b e => by cases e; exact ⟨o, ho', hdct⟩), ?_⟩
  have sp := hl.spliced (pos := pos) (E := E) S (Q := fun vs s' => wpAny W.M A (PySem.call (.builtin "dict.get") ([.ref a] ++ vs)) (Gv W F s d) E s') fun F' s' vs x r =>
    wpAny_mono (hcall A env Δ F' s' E vs hA (S.ext x) r) (fun v s'' h' => Gv.after x h') fun _ _ e => e
  rw [hst] at sp
  exact Calls.callWith_builtin rfl (Calls.evalArgs_plain sp)

theorem Ev.and {x y : Expr} {pos : Pos} {b : Bool} {d : D} (hx : Ev W A env Δ μ x (.bool b)) (hy : b = true → Ev W A env Δ μ y d) (hd : b = false → d = .bool false) : Ev W A env Δ μ (.BoolOp .And [x, y] pos) d := fun F s E S => by
  refine wpAny_And2 (wpAny_mono (hx F s E S) (fun v s₁ h₁ => ?_) fun _ _ e => e)
  obtain ⟨F₁, x₁, r₁⟩ := h₁
  rw [RelV] at r₁; subst r₁
  refine wpAny_truthy_bool ?_
  cases b with
  | true => exact wpAny_mono (hy rfl F₁ s₁ E (S.ext x₁)) (fun v s₂ h₂ => Gv.after (W := W) x₁ h₂) fun _ _ e => e
  | false => rw [hd rfl]; exact ⟨F₁, x₁, by rw [RelV]⟩

theorem sub_plain {i : Expr} (h : ∀ a b c p, i ≠ .Slice a b c p) (o w : Value) : subscripted i false o w = operate [o, w] (getItem o w) := by
  cases i <;> first | rfl | exact absurd rfl (h _ _ _ _)

theorem part_ev {f : Expr → Option D} {o : Option Expr} {r : Option Int} (he : ∀ e d, o = some e → f e = some d → Ev W A env Δ μ e d) (h : partI f o = some r) {F : FM} {s : Shared} {E : Value → Shared → Prop} {Q : Value → Shared → Prop} (S : St W env Δ μ F s)
    (hq : ∀ F' s' v, Ext F s F' s' → IsPart v r → (∀ i, r = some i → ∃ t, v = .int i t) → (r = none → v = .none) → Q v s') : wpAny W.M A (evalPart o env) Q E s := by
  cases o with
  | none => simp only [partI, Option.some.injEq] at h; subst h; exact wpAny_pure (hq F s .none (Ext.rfl' S.sub) .none (fun i e => by cases e) fun _ => rfl)
  | some e =>
    simp only [partI] at h
    split at h
    · rename_i i hi
      cases h
      refine wpAny_mono (he e _ rfl hi F s E S) (fun v s₁ h₁ => ?_) fun _ _ e => e
      obtain ⟨F₁, x₁, r₁⟩ := h₁
      rw [RelV] at r₁; obtain ⟨t, rfl⟩ := r₁
      exact hq F₁ s₁ _ x₁ (.int i t) (fun j e => by cases e; exact ⟨t, rfl⟩) (fun e => by cases e)
    · cases h

theorem Ev.slice {v : Expr} {lo hi st : Option Expr} {p pos : Pos} {d x : D} {l h c : Option Int} {f : Expr → Option D} (hv : Ev W A env Δ μ v d)
    (he : ∀ e d, (lo = some e ∨ hi = some e ∨ st = some e) → f e = some d → Ev W A env Δ μ e d) (hl : partI f lo = some l) (hh : partI f hi = some h) (hs : partI f st = some c) (hx : sliceD μ d l h c = some x) :
    Ev W A env Δ μ (.Subscript v (.Slice lo hi st p) pos) x := fun F s E S => by
  refine Subscript_ (wpAny_mono (hv F s E S) (fun o s₁ h₁ => ?_) fun _ _ e => e)
  obtain ⟨F₁, x₁, r₁⟩ := h₁
  refine wpAny_Slice ?_
  refine part_ev (fun e d h => he e d (.inl h)) hl (S.ext x₁) fun F₂ s₂ vl x₂ pl ql nl => ?_
  refine part_ev (fun e d h => he e d (.inr (.inl h))) hh ((S.ext x₁).ext x₂) fun F₃ s₃ vu x₃ pu qu nu => ?_
  refine part_ev (fun e d h => he e d (.inr (.inr h))) hs (((S.ext x₁).ext x₂).ext x₃) fun F₄ s₄ vc x₄ pc qc nc => ?_
  have S₄ := (((S.ext x₁).ext x₂).ext x₃).ext x₄
  have x5 := Ext.ofKeeps S₄.sub (Keeps.push s₄ { cls := .type "slice", data := .fields #[vl, vu, vc] })
  have S₅ := S₄.ext x5
  have xall := (((x₁.trans x₂).trans x₃).trans x₄).trans x5
  have r₅ : RelV F₄ d o := r₁.mono ((x₂.sub.trans x₃.sub).trans x₄.sub)
  have hsub : ∃ ops, subscripted (.Slice lo hi st p) false o (.ref s₄.heap.objs.size) = operate ops (getItem o (.ref s₄.heap.objs.size)) := by
    cases st with
    | none => exact ⟨_, rfl⟩
    | some e => exact ⟨_, rfl⟩
  obtain ⟨ops, hsub⟩ := hsub
  unfold sliceD at hx
  split at hx
  · rename_i y
    split at hx
    · rename_i hc; obtain ⟨rfl, hsz⟩ := hc; cases hx
      rw [RelV] at r₅; obtain ⟨t, rfl⟩ := r₅
      have hvc := nc rfl; subst hvc
      have key : ∀ (q : Option Int) (w : Value), (∀ i, q = some i → ∃ t, w = .int i t) → (q = none → w = .none) → ∃ z : Option (Int × Tok), z.map (·.1) = q ∧ w = partValue z := fun q w h1 h2 => by
        cases q with
        | none => exact ⟨none, rfl, h2 rfl⟩
        | some i => obtain ⟨t, rfl⟩ := h1 i rfl; exact ⟨some (i, t), rfl, rfl⟩
      obtain ⟨zl, e1, rfl⟩ := key l vl ql nl
      obtain ⟨zu, e2, rfl⟩ := key h vu qu nu
      subst e1; subst e2
      refine tail_any (typeIs_str _ _ _) PySem.F.slot_str_getitem.lookup ?_ hsub
      refine wpAny_mono (slice_str_get S₅ (lo := zl) (hi := zu) ⟨_, Heap.get?_push_size _ rfl, rfl, rfl⟩ hsz) (fun v s' h' => Gv.after (W := W) xall h') fun _ _ e => e
    · cases hx
  · split at hx
    · rename_i ds hds
      split at hx
      · rename_i hc; cases hx
        obtain ⟨hT, hw⟩ := slice_list_get (A := A) (E := E) S₅ r₅ hds (Heap.IsSliceOf.new s₄.heap vl vu vc) pl pu pc hc.1 hc.2
        exact tail_any hT slot_list_getitem.lookup (wpAny_mono hw (fun v s' h' => Gv.after (W := W) xall h') fun _ _ e => e) hsub
      · cases hx
    · cases hx
end
end Mine

open PySem PySem.W PyProof.Rows
set_option Elab.async false
set_option linter.unusedVariables false
namespace Mine

/-- the tables of functions are true of the world -/
structure TabOk (W : Wd) (k : Nat) (μ : MM) (Φ Ψ : Str → List D → Option D) : Prop where
  fn : ∀ f ds d, Φ f ds = some d → FnOk W k μ f ds d
  get : ∀ t ds d, Ψ t ds = some d → GetOk W k μ t ds d
  range : GlobVal W "range" (.type "range")

theorem sized_some {ds : List D} {d : D} (h : sized ds = some d) : d = .list ds ∧ ds.length ≤ sizeLine := by
  unfold sized at h; split at h
  · cases h; exact ⟨rfl, by assumption⟩
  · cases h

theorem collect_some {f : D → Option (List D)} : ∀ {xs out : List D}, collect f xs = some out → ∃ o : Nat → List D, out = (List.range xs.length).flatMap o ∧ ∀ i d, xs[i]? = some d → f d = some (o i)
  | [], out, h => by simp only [collect, Option.some.injEq] at h; subst h; exact ⟨fun _ => [], rfl, fun i d e => by simp at e⟩
  | x :: r, out, h => by
    simp only [collect] at h
    split at h
    · rename_i a b ha hb
      cases h
      obtain ⟨o, h1, h2⟩ := collect_some hb
      refine ⟨fun i => match i with | 0 => a | j + 1 => o j, ?_, fun i d e => ?_⟩
      · rw [List.length_cons, List.range_succ_eq_map, List.flatMap_cons, List.flatMap_map, h1]
      · cases i with
        | zero => simp at e; subst e; exact ha
        | succ j => exact h2 j d (by simpa using e)
    · cases h

theorem flatMap_congr' {α β : Type} {f g : α → List β} : ∀ {l : List α}, (∀ x ∈ l, f x = g x) → l.flatMap f = l.flatMap g
  | [], _ => rfl
  | x :: l, h => by rw [List.flatMap_cons, List.flatMap_cons, h x List.mem_cons_self, flatMap_congr' fun y hy => h y (List.mem_cons_of_mem _ hy)]

theorem ok_and {a b : Bool} (h : (a && b) = true) : a = true ∧ b = true := Bool.and_eq_true_iff.mp h

theorem behind_of {op : CmpOp} {r : Expr} (h : notSet r = true) : behindInMarks op r = false := by
  cases r <;> first | rfl | cases h

section
variable {W : Wd} {A : Around} {μ : MM} {Φ Ψ : Str → List D → Option D} {k : Nat}

theorem look_of {env : Env} {x : Str} {kd : NameKind} (h : lookEq env.scope.names x kd = true) : env.kindOf x = some kd := by
  unfold lookEq at h; exact beq_iff_eq.mp h

theorem evs_sound {n : Nat} {env : Env} {Δ : Ctx} (ih : ∀ e d, okE n env.scope.names e = true → evD Φ Ψ μ n e Δ = some d → Ev W A env Δ μ e d) :
    ∀ {es : List Expr} {ds : List D}, (es.all fun e => okE n env.scope.names e && notStar e) = true → evs (fun e => evD Φ Ψ μ n e Δ) es = some ds → EvL W A env Δ μ es ds
  | [], ds, _, h => by simp only [evs, Option.some.injEq] at h; subst h; exact .nil
  | e :: r, ds, hk, h => by
    simp only [evs] at h
    simp only [List.all_cons] at hk
    obtain ⟨hk1, hk2⟩ := ok_and hk
    obtain ⟨hk3, hk4⟩ := ok_and hk1
    split at h
    · rename_i a b ha hb
      cases h
      exact .cons hk4 (ih e a hk3 ha) (evs_sound ih hk2 hb)
    · cases h

theorem tstAll_sound {n : Nat} {env : Env} {Δ : Ctx} {op : BoolOp} (ih : ∀ e b, okT n env.scope.names e = true → tstD Φ Ψ μ n e Δ = some b → Tst W A env Δ μ e b) :
    ∀ {es : List Expr} {b : Bool}, (es.all (okT n env.scope.names)) = true → tstAll op (fun x => tstD Φ Ψ μ n x Δ) es = some b →
      ∀ F s (E : Value → Shared → Prop), St W env Δ μ F s → wpAny W.M A (allTrue op es env) (fun v s' => ∃ F', Ext F s F' s' ∧ v = b) E s
  | [], b, _, h, F, s, E, S => by
    simp only [tstAll, Option.some.injEq] at h; subst h
    cases op
    · exact wpAny_allTrue_And_nil ⟨F, Ext.rfl' S.sub, rfl⟩
    · exact wpAny_allTrue_Or_nil ⟨F, Ext.rfl' S.sub, rfl⟩
  | e :: r, b, hk, h, F, s, E, S => by
    simp only [List.all_cons] at hk
    obtain ⟨hk1, hk2⟩ := ok_and hk
    simp only [tstAll] at h
    split at h
    · rename_i c hc
      have he := ih e c hk1 hc
      have go : ∀ s₁ F₁, Ext F s F₁ s₁ → tstAll op (fun x => tstD Φ Ψ μ n x Δ) r = some b → wpAny W.M A (allTrue op r env) (fun v s' => ∃ F', Ext F s F' s' ∧ v = b) E s₁ := fun s₁ F₁ x₁ hr =>
        wpAny_mono (tstAll_sound ih hk2 hr F₁ s₁ E (S.ext x₁)) (fun v s₂ h₂ => by obtain ⟨F₂, x₂, rfl⟩ := h₂; exact ⟨F₂, x₁.trans x₂, rfl⟩) fun _ _ e => e
      cases op
      · refine wpAny_allTrue_And_cons (wpAny_mono (he F s E S) (fun v s₁ h₁ => ?_) fun _ _ e => e)
        obtain ⟨F₁, x₁, rfl⟩ := h₁
        cases v
        · simp at h; subst h; exact ⟨F₁, x₁, rfl⟩
        · simp at h; exact go s₁ F₁ x₁ h
      · refine wpAny_allTrue_Or_cons (wpAny_mono (he F s E S) (fun v s₁ h₁ => ?_) fun _ _ e => e)
        obtain ⟨F₁, x₁, rfl⟩ := h₁
        cases v
        · simp at h; exact go s₁ F₁ x₁ h
        · simp at h; subst h; exact ⟨F₁, x₁, rfl⟩
    · cases h

def SndE (W : Wd) (A : Around) (μ : MM) (Φ Ψ : Str → List D → Option D) (n : Nat) : Prop := ∀ e Δ d env, EnvOk env → okE n env.scope.names e = true → evD Φ Ψ μ n e Δ = some d → Ev W A env Δ μ e d
def SndT (W : Wd) (A : Around) (μ : MM) (Φ Ψ : Str → List D → Option D) (n : Nat) : Prop := ∀ e Δ b env, EnvOk env → okT n env.scope.names e = true → tstD Φ Ψ μ n e Δ = some b → Tst W A env Δ μ e b
def SndI (W : Wd) (A : Around) (μ : MM) (Φ Ψ : Str → List D → Option D) (n : Nat) : Prop := ∀ e Δ xs env, EnvOk env → okI n env.scope.names e = true → itD Φ Ψ μ n e Δ = some xs → IterEv W A env Δ μ e xs

/-- a comprehension that the pure evaluator has reckoned -/
def CompOk (W : Wd) (A : Around) (env : Env) (Δ : Ctx) (μ : MM) (elt : Expr) (gens : List Comprehension) (scope : Scope) (p : Pos) (d : D) : Prop :=
  ∃ g gs names xs out, gens = g :: gs ∧ d = .list out ∧ ScopeOk scope env ∧ (∀ x ∈ names, OwnName scope x) ∧ notSet g.iter = true ∧ g.is_async = 0 ∧ IterEv W A env Δ μ g.iter xs ∧
    CompRun W A env Δ μ (.ListComp elt (g :: gs) scope p) scope names xs out

theorem CompOk.ev {env : Env} {Δ : Ctx} {elt : Expr} {gens : List Comprehension} {scope : Scope} {p : Pos} {d : D} (h : CompOk W A env Δ μ elt gens scope p d) : Ev W A env Δ μ (.ListComp elt gens scope p) d := by
  obtain ⟨⟨t, i, fs, a⟩, gs, names, xs, out, rfl, rfl, h1, h2, h3, rfl, h5, h6⟩ := h
  exact Ev.comp h1 h2 h3 rfl h5 h6

theorem one_out {elt : Expr} {n : Nat} {Γ : Ctx} {l : List D} (h : ((evD Φ Ψ μ n elt Γ).map fun y => [y]) = some l) : ∃ y, l = [y] ∧ evD Φ Ψ μ n elt Γ = some y := by
  obtain ⟨y, hy, e⟩ := Option.map_eq_some_iff.mp h
  exact ⟨y, e.symm, hy⟩

theorem comp_one {n : Nat} (ihE : SndE W A μ Φ Ψ n) (ihT : SndT W A μ Φ Ψ n) {elt iter : Expr} {ifs : List Expr} {x : Str} {px p : Pos} {scope : Scope} {Δ : Ctx} {xs ds : List D} {env : Env}
    (hN : ∀ scope, (relabel scope env).names = innerN scope env.scope.names) (hs : ScopeOk scope env) (ho : OwnName scope x) (hset : notSet iter = true) (helt : okE n (innerN scope env.scope.names) elt = true) (hi : IterEv W A env Δ μ iter xs)
    (hds : collect (fun d => match ifs with
      | [] => (evD Φ Ψ μ n elt ((x, d) :: freeCtx scope Δ)).map fun y => [y]
      | [c] => (match tstD Φ Ψ μ n c ((x, d) :: freeCtx scope Δ) with
        | some true => (evD Φ Ψ μ n elt ((x, d) :: freeCtx scope Δ)).map fun y => [y]
        | some false => some []
        | none => none)
      | _ => none) xs = some ds) (hsz : ds.length ≤ sizeLine) (hifs : ifs.all (okT n (innerN scope env.scope.names)) = true) : CompOk W A env Δ μ elt [⟨.Name x px, iter, ifs, 0⟩] scope p (.list ds) := by
  obtain ⟨o, rfl, ho'⟩ := collect_some hds
  refine ⟨_, _, [x], xs, _, rfl, rfl, hs, (fun y hy => by rw [List.mem_singleton.mp hy]; exact ho), hset, rfl, hi, run1 hs ho hsz fun cenv hin i d hd => ?_⟩
  have hod := ho' i d hd
  have hcn : cenv.scope.names = innerN scope env.scope.names := by rw [hin.sc]; exact hN scope
  rw [← hcn] at helt hifs
  clear hcn
  cases ifs with
  | nil =>
    obtain ⟨y, e, hy⟩ := one_out hod
    exact ⟨true, TstL.nil, (fun e => by cases e), fun _ => ⟨y, e, ihE _ _ _ cenv hin.eok helt hy⟩⟩
  | cons c cs =>
    cases cs with
    | cons => cases hod
    | nil =>
    simp only at hod
    have hc' : okT n cenv.scope.names c = true := List.all_eq_true.mp hifs c List.mem_cons_self
    split at hod
    · rename_i ht
      obtain ⟨y, e, hy⟩ := one_out hod
      exact ⟨true, TstL.one (ihT _ _ _ cenv hin.eok hc' ht), (fun e => by cases e), fun _ => ⟨y, e, ihE _ _ _ cenv hin.eok helt hy⟩⟩
    · rename_i ht
      exact ⟨false, TstL.one (ihT _ _ _ cenv hin.eok hc' ht), (fun _ => (Option.some.inj hod).symm), fun e => by cases e⟩
    · cases hod

theorem comp_two {n : Nat} (ihE : SndE W A μ Φ Ψ n) (ihI : SndI W A μ Φ Ψ n) {elt iter iter' : Expr} {x x' : Str} {px px' p : Pos} {scope : Scope} {Δ : Ctx} {xs ds : List D} {env : Env}
    (hN : ∀ scope, (relabel scope env).names = innerN scope env.scope.names) (hs : ScopeOk scope env) (ho : OwnName scope x) (ho' : OwnName scope x') (hne : x ≠ x') (hset : notSet iter = true) (helt : okE n (innerN scope env.scope.names) elt = true) (hiter' : okI n (innerN scope env.scope.names) iter' = true) (hset' : notSet iter' = true) (hi : IterEv W A env Δ μ iter xs)
    (hds : collect (fun d => match itD Φ Ψ μ n iter' ((x, d) :: freeCtx scope Δ) with
      | some xs' => collect (fun d' => (evD Φ Ψ μ n elt ((x', d') :: (x, d) :: freeCtx scope Δ)).map fun y => [y]) xs'
      | none => none) xs = some ds) (hsz : ds.length ≤ sizeLine) : CompOk W A env Δ μ elt [⟨.Name x px, iter, [], 0⟩, ⟨.Name x' px', iter', [], 0⟩] scope p (.list ds) := by
  obtain ⟨o, rfl, ho2⟩ := collect_some hds
  refine ⟨_, _, [x, x'], xs, _, rfl, rfl, hs, (fun y hy => by rcases List.mem_cons.mp hy with rfl | hy; exact ho; rw [List.mem_singleton.mp hy]; exact ho'), hset, rfl, hi, run2 hs ho ho' hne hset' hsz fun cenv hin i d hd => ?_⟩
  have hod := ho2 i d hd
  have hcn : cenv.scope.names = innerN scope env.scope.names := by rw [hin.sc]; exact hN scope
  rw [← hcn] at helt hiter'
  clear hcn
  split at hod
  · rename_i xs' hxs'
    obtain ⟨o', ho1, ho2⟩ := collect_some hod
    have hel : ∀ j d', xs'[j]? = some d' → ∃ y, o' j = [y] ∧ evD Φ Ψ μ n elt ((x', d') :: (x, d) :: freeCtx scope Δ) = some y := fun j d' hj => one_out (ho2 j d' hj)
    refine ⟨xs', ihI _ _ _ cenv hin.eok hiter' hxs', fun j => (o' j).headD .none, ?_, fun j d' hj => ?_⟩
    · rw [ho1, List.map_eq_flatMap]
      refine flatMap_congr' fun j hj => ?_
      have hj' : j < xs'.length := List.mem_range.mp hj
      obtain ⟨y, hy, _⟩ := hel j xs'[j] (List.getElem?_eq_getElem hj')
      rw [hy]; rfl
    · obtain ⟨y, hy, he⟩ := hel j d' hj
      have e : (fun j => (o' j).headD D.none) j = y := by show (o' j).headD D.none = y; rw [hy]; rfl
      rw [e]
      exact ihE _ _ _ cenv hin.eok helt he
  · cases hod

theorem ownT_of {scope : Scope} {g : Comprehension} (h : ownT scope g = true) : ∃ x p, g.target = .Name x p ∧ OwnName scope x := by
  unfold ownT at h
  split at h
  · exact ⟨_, _, by assumption, own_of h⟩
  · cases h
theorem is_zero {a : Int} (h : (a == 0) = true) : a = 0 := beq_iff_eq.mp h

theorem comp_ih {n : Nat} (ihE : SndE W A μ Φ Ψ n) (ihT : SndT W A μ Φ Ψ n) (ihI : SndI W A μ Φ Ψ n) {elt : Expr} {gens : List Comprehension} {scope : Scope} {p : Pos} {Δ : Ctx} {d : D} {env : Env} (hE : EnvOk env)
    (hk : okE (n + 1) env.scope.names (.ListComp elt gens scope p) = true) (h : evD Φ Ψ μ (n + 1) (.ListComp elt gens scope p) Δ = some d) : CompOk W A env Δ μ elt gens scope p d := by
  have hN : ∀ scope, (relabel scope env).names = innerN scope env.scope.names := fun scope => innerN_eq hE.kind
  obtain ⟨hk1, hk2⟩ := ok_and hk
  obtain ⟨hsc, helt⟩ := ok_and hk1
  clear hk hk1
  cases gens with
  | nil => exact no_none h
  | cons g gs =>
    obtain ⟨tg, iter, ifs, a⟩ := g
    obtain ⟨hk3, hrest⟩ := ok_and hk2
    obtain ⟨hk4, ha⟩ := ok_and hk3
    obtain ⟨hk5, hset⟩ := ok_and hk4
    obtain ⟨hown, hiter⟩ := ok_and hk5
    clear hk2 hk3 hk4 hk5
    obtain ⟨x, px, e1, hown1⟩ := ownT_of hown
    obtain rfl := is_zero ha
    simp only at e1; subst e1
    cases gs with
    | nil =>
      obtain ⟨xs, hxs, h⟩ := optS_of (eC1.symm.trans h)
      obtain ⟨ds, hds, h⟩ := optS_of h
      obtain ⟨rfl, hsz⟩ := sized_some h
      exact comp_one ihE ihT hN (scopeOk_of hsc) hown1 hset helt (ihI _ _ _ env hE hiter hxs) hds hsz hrest
    | cons g' gs =>
      cases gs with
      | cons => exact no_none (optS_of h).choose_spec.2
      | nil =>
        obtain ⟨tg', iter', ifs', a'⟩ := g'
        obtain ⟨hk3, ha'⟩ := ok_and hrest
        obtain ⟨hk4, hset'⟩ := ok_and hk3
        obtain ⟨hk5, hiter'⟩ := ok_and hk4
        obtain ⟨hown', hne⟩ := ok_and hk5
        clear hrest hk3 hk4 hk5
        obtain ⟨x', px', e1, hown1'⟩ := ownT_of hown'
        obtain rfl := is_zero ha'
        simp only at e1; subst e1
        cases ifs with
        | cons => exact no_none (optS_of h).choose_spec.2
        | nil =>
          cases ifs' with
          | cons => exact no_none (optS_of h).choose_spec.2
          | nil =>
            obtain ⟨xs, hxs, h⟩ := optS_of (eC2.symm.trans h)
            obtain ⟨ds, hds, h⟩ := optS_of h
            obtain ⟨rfl, hsz⟩ := sized_some h
            exact comp_two ihE ihI hN (scopeOk_of hsc) hown1 hown1' (bne_iff_ne.mp hne) hset helt hiter' hset' (ihI _ _ _ env hE hiter hxs) hds hsz

theorem meth_ih {env : Env} {Δ : Ctx} {o e : Expr} {name : Str} {apos pos : Pos} {ov x d : D} (hb : plainBase o = true) (hn : notStar e = true) (hline : (apos.endLine == pos.line) = true)
    (eo : Ev W A env Δ μ o ov) (ea : Ev W A env Δ μ e x) (h : methD μ name ov [x] = some d) : Ev W A env Δ μ (.Call (.Attribute o name apos) [e] [] pos) d := by
  unfold methD at h
  split at h
  · rename_i hn'; subst hn'
    split at h
    · rename_i sep d' e1 e2
      cases e2
      split at h
      · rename_i xs hxs
        obtain ⟨ds, hds, hs⟩ := Option.bind_eq_some_iff.mp hxs
        split at h
        · rename_i hok; cases h
          exact Ev.join hb hn hline eo ea hds hs hok
        · exact no_none h
      · exact no_none h
    · exact no_none h
  · split at h
    · rename_i hn'; subst hn'
      split at h
      · rename_i y z e1 e2
        cases e2
        split at h
        · rename_i hc; cases h
          exact Ev.split hb hn hline eo ea hc.1 hc.2.1 hc.2.2
        · exact no_none h
      · exact no_none h
    · split at h
      · rename_i hn'; subst hn'
        split at h
        · rename_i ds x' hds e2
          cases e2
          split at h
          · rename_i hsz
            obtain ⟨j, hj, rfl⟩ := Option.map_eq_some_iff.mp h
            exact Ev.index hb hn hline eo ea hds hj hsz
          · exact no_none h
        · exact no_none h
      · exact no_none h

theorem call_ih (hW : W.Ok) (hA : GoodA A k) (hT : TabOk W k μ Φ Ψ) {n : Nat} (ihE : SndE W A μ Φ Ψ n) {f : Expr} {args : List Expr} {ks : List Keyword} {pos : Pos} {Δ : Ctx} {d : D} {env : Env} (hE : EnvOk env)
    (hk : okE (n + 1) env.scope.names (.Call f args ks pos) = true) (h : evD Φ Ψ μ (n + 1) (.Call f args ks pos) Δ = some d) : Ev W A env Δ μ (.Call f args ks pos) d := by
  obtain ⟨hargs, hkf⟩ := ok_and hk
  clear hk
  cases ks with
  | cons => exact no_none h
  | nil =>
    cases f with
    | Name f q =>
      obtain ⟨hk, hk3⟩ := ok_and hkf
      obtain ⟨hk1, hk2⟩ := ok_and hk
      obtain ⟨ds, hds, h⟩ := optS_of (eCall.symm.trans h)
      exact Ev.call hW hA (hT.fn _ _ _ h) (evs_sound (fun e d h1 h2 => ihE e _ d env hE h1 h2) hargs hds) (by rintro rfl; cases hk3) (look_of hk1) (by simpa using hk2)
    | Attribute o name apos =>
      obtain ⟨hk, hg⟩ := ok_and hkf
      clear hkf
      obtain ⟨hk', hko⟩ := ok_and hk
      obtain ⟨hline, hbase⟩ := ok_and hk'
      clear hk hk'
      cases args with
      | nil => exact no_none h
      | cons a args =>
        obtain ⟨ha, hargs⟩ := ok_and hargs
        obtain ⟨hka, hna⟩ := ok_and ha
        cases args with
        | nil =>
          obtain ⟨ov, x, ho, hx, h⟩ := opt2_of (eM1.symm.trans h)
          exact meth_ih hbase hna hline (ihE _ _ _ env hE hko ho) (ihE _ _ _ env hE hka hx) h
        | cons b args =>
          cases args with
          | cons => exact no_none h
          | nil =>
            obtain ⟨hb, _⟩ := ok_and hargs
            obtain ⟨hkb, hnb⟩ := ok_and hb
            cases o with
            | Name t p =>
              obtain ⟨x, y, hx, hy, h2⟩ := opt2_of (eM2.symm.trans h)
              split at h2
              · rename_i hn; subst hn
                have hkt : (t == ("__debug__" : Str)) = false := by
                  cases n with
                  | zero => cases hko
                  | succ m => simpa using (ok_and hko).1
                exact Ev.get2 hW hA (hT.get _ _ _ h2) (ihE _ _ _ env hE hka hx) (ihE _ _ _ env hE hkb hy) hna hnb (look_of hg) hkt hline
              · exact no_none h2
            | _ => exact no_none h
    | _ => exact no_none h

theorem idxV_of {d i x : D} (h : idxV μ d i = some x) : ∃ k, i = .int k ∧ idxD μ d k = some x := by
  cases i with
  | int k => exact ⟨k, rfl, h⟩
  | _ => exact no_none h
theorem index_ih {n : Nat} (ihE : SndE W A μ Φ Ψ n) {v i : Expr} {pos : Pos} {Δ : Ctx} {d : D} {env : Env} (hE : EnvOk env) (hns : ∀ a b c p, i ≠ .Slice a b c p)
    (hk1 : okE n env.scope.names v = true) (hk2 : okE n env.scope.names i = true) (h : opt2 (idxV μ) (evD Φ Ψ μ n v Δ) (evD Φ Ψ μ n i Δ) = some d) : Ev W A env Δ μ (.Subscript v i pos) d := by
  obtain ⟨d', i', hd, hi, h⟩ := opt2_of h
  obtain ⟨k, rfl, h⟩ := idxV_of h
  exact Ev.subscript (fun o w => sub_plain hns o w) (ihE _ _ _ env hE hk1 hd) (ihE _ _ _ env hE hk2 hi) h
theorem sub_ih {n : Nat} (ihE : SndE W A μ Φ Ψ n) {v i : Expr} {pos : Pos} {Δ : Ctx} {d : D} {env : Env} (hE : EnvOk env)
    (hk : okE (n + 1) env.scope.names (.Subscript v i pos) = true) (h : evD Φ Ψ μ (n + 1) (.Subscript v i pos) Δ = some d) : Ev W A env Δ μ (.Subscript v i pos) d := by
  obtain ⟨hk1, hk2⟩ := ok_and hk
  clear hk
  cases i with
  | Slice lo hi st p =>
    obtain ⟨hk, hst⟩ := ok_and hk2
    obtain ⟨hlo, hhi⟩ := ok_and hk
    have h := eSl.symm.trans h
    split at h
    · rename_i d' l hh c hd hl hhh hc
      refine Ev.slice (ihE _ _ _ env hE hk1 hd) (fun e d'' hor hf => ?_) hl hhh hc h
      refine ihE e _ d'' env hE ?_ hf
      rcases hor with rfl | rfl | rfl
      · exact hlo
      · exact hhi
      · exact hst
    · exact no_none h
  | _ => exact index_ih ihE hE (by intro _ _ _ _ e; cases e) hk1 hk2 h

theorem stepE (hW : W.Ok) (hA : GoodA A k) (hT : TabOk W k μ Φ Ψ) {n : Nat} (ihE : SndE W A μ Φ Ψ n) (ihT : SndT W A μ Φ Ψ n) (ihI : SndI W A μ Φ Ψ n) : SndE W A μ Φ Ψ (n + 1) := by
  intro e Δ d env hE hk h
  have hu : A.units + 64 < cLine := by have := hA.units; unfold cLine; omega
  cases e with
  | ListComp => exact (comp_ih ihE ihT ihI hE hk h).ev
  | Call => exact call_ih hW hA hT ihE hE hk h
  | Subscript => exact sub_ih ihE hE hk h
  | Constant c =>
    cases c with
    | int => cases h; exact Ev.const_int
    | str => cases h; exact Ev.const_str
    | bool => cases h; exact Ev.const_bool
    | none => cases h; exact Ev.const_none
    | _ => exact no_none h
  | Name =>
    obtain ⟨hk1, hk2⟩ := ok_and hk
    exact Ev.name hW h (by simpa using hk1) (by simpa using hk2)
  | BinOp =>
    obtain ⟨hk1, hk2⟩ := ok_and hk
    obtain ⟨a, b, ha, hb, h⟩ := opt2_of (eBin.symm.trans h)
    exact Ev.binop (ihE _ _ _ env hE hk1 ha) (ihE _ _ _ env hE hk2 hb) h
  | UnaryOp op =>
    cases op with
    | USub =>
      have h := eNeg.symm.trans h
      split at h
      · rename_i i hi; cases h
        exact Ev.neg (ihE _ _ _ env hE hk hi)
      · exact no_none h
    | _ => exact no_none h
  | Compare l ops rs =>
    obtain ⟨hk1, hk2⟩ := ok_and hk
    cases ops with
    | nil => exact no_none h
    | cons op ops =>
      cases ops with
      | cons => exact no_none h
      | nil =>
        cases rs with
        | nil => exact no_none h
        | cons r rs =>
          cases rs with
          | cons => exact no_none h
          | nil =>
            obtain ⟨hk3, hk4⟩ := ok_and (List.all_eq_true.mp hk2 r List.mem_cons_self)
            obtain ⟨a, b, ha, hb, h⟩ := opt2_of (eCmp.symm.trans h)
            obtain ⟨c, hc, rfl⟩ := Option.map_eq_some_iff.mp h
            exact Ev.compare hu (behind_of hk4) (ihE _ _ _ env hE hk1 ha) (ihE _ _ _ env hE hk3 hb) hc
  | BoolOp op vs =>
    cases op with
    | Or => exact no_none h
    | And =>
      cases vs with
      | nil => exact no_none h
      | cons x vs =>
        cases vs with
        | nil => exact no_none h
        | cons y vs =>
          cases vs with
          | cons => exact no_none h
          | nil =>
            have hk1 := List.all_eq_true.mp hk x List.mem_cons_self
            have hk2 := List.all_eq_true.mp hk y (List.mem_cons_of_mem _ List.mem_cons_self)
            have h := eAnd.symm.trans h
            split at h
            · rename_i hx
              exact Ev.and (b := true) (ihE _ _ _ env hE hk1 hx) (fun _ => ihE _ _ _ env hE hk2 h) (fun e => by cases e)
            · rename_i hx; cases h
              exact Ev.and (b := false) (ihE _ _ _ env hE hk1 hx) (fun e => by cases e) (fun _ => rfl)
            · exact no_none h
  | IfExp =>
    obtain ⟨hk1, hk2⟩ := ok_and hk
    obtain ⟨hk3, hk4⟩ := ok_and hk1
    have h := eIf.symm.trans h
    split at h
    · rename_i ht
      exact Ev.ifexp (c := true) (ihT _ _ _ env hE hk3 ht) (fun _ => ihE _ _ _ env hE hk4 h) (fun e => by cases e)
    · rename_i ht
      exact Ev.ifexp (c := false) (ihT _ _ _ env hE hk3 ht) (fun e => by cases e) (fun _ => ihE _ _ _ env hE hk2 h)
    · exact no_none h
  | List =>
    obtain ⟨ds, hds, h⟩ := optS_of (eL.symm.trans h)
    obtain ⟨rfl, hsz⟩ := sized_some h
    exact Ev.list (evs_sound (fun e d h1 h2 => ihE e _ d env hE h1 h2) hk hds) hsz
  | _ => exact no_none h

theorem stepT (hA : GoodA A k) {n : Nat} (ihE : SndE W A μ Φ Ψ n) (ihT : SndT W A μ Φ Ψ n) : SndT W A μ Φ Ψ (n + 1) := by
  intro e Δ b env hE hk h
  have hu : A.units + 64 < cLine := by have := hA.units; unfold cLine; omega
  have val : ∀ e, (∀ whole, isTrue e env whole = (do let v ← whole; standAt e.pos; holding [v] (truthy v))) → okE n env.scope.names e = true → (evD Φ Ψ μ n e Δ).bind (truthD μ) = some b → Tst W A env Δ μ e b := fun e he hk h => by
    obtain ⟨d, hd, hb⟩ := Option.bind_eq_some_iff.mp h
    exact Tst.value he (ihE _ _ _ env hE hk hd) hb
  cases e with
  | UnaryOp op =>
    cases op with
    | Not =>
      obtain ⟨c, hc, rfl⟩ := Option.map_eq_some_iff.mp (tNot.symm.trans h)
      exact Tst.not (ihT _ _ _ env hE hk hc)
    | _ => exact no_none h
  | BoolOp =>
    intro F s E S
    exact wpAny_isTrue_BoolOp (tstAll_sound (fun e b h1 h2 => ihT e _ b env hE h1 h2) hk h F s E S)
  | Compare l ops rs =>
    obtain ⟨hk1, hk2⟩ := ok_and hk
    cases ops with
    | nil => exact no_none h
    | cons op ops =>
      cases ops with
      | cons => exact no_none h
      | nil =>
        cases rs with
        | nil => exact no_none h
        | cons r rs =>
          cases rs with
          | cons => exact no_none h
          | nil =>
            obtain ⟨hk3, hk4⟩ := ok_and (List.all_eq_true.mp hk2 r List.mem_cons_self)
            obtain ⟨a, b, ha, hb, h⟩ := opt2_of (tCmp.symm.trans h)
            exact Tst.compare hu (behind_of hk4) (ihE _ _ _ env hE hk1 ha) (ihE _ _ _ env hE hk3 hb) h
  | Name => exact val _ (fun _ => rfl) hk h
  | BinOp => exact val _ (fun _ => rfl) hk h
  | Call => exact val _ (fun _ => rfl) hk h
  | _ => exact no_none h

theorem stepI (hW : W.Ok) (hA : GoodA A k) (hT : TabOk W k μ Φ Ψ) {n : Nat} (ihE : SndE W A μ Φ Ψ n) : SndI W A μ Φ Ψ (n + 1) := by
  intro e Δ xs env hE hk h
  have val : ∀ e, okE n env.scope.names e = true → (evD Φ Ψ μ n e Δ).bind (asList μ) = some xs → IterEv W A env Δ μ e xs := fun e hk h => by
    obtain ⟨d, hd, hl⟩ := Option.bind_eq_some_iff.mp h
    exact IterEv.list hA.handled (ihE _ _ _ env hE hk hd) hl
  unfold itD at h
  unfold okI at hk
  split at h
  · rename_i f p args q
    simp only at hk
    split at h
    · rename_i hf
      rw [if_pos hf] at hk
      subst hf
      obtain ⟨hk1, hk2⟩ := ok_and hk
      split at h
      · rename_i ds hds
        split at h
        · rename_i a b c habc
          split at h
          · rename_i hsm
            cases h
            exact (IterEvF.range hW hA.handled hT.range (look_of hk1) (evs_sound (fun e d h1 h2 => ihE e _ d env hE h1 h2) hk2 hds) habc hsm).iter
          · exact no_none h
        · exact no_none h
      · exact no_none h
    · rename_i hf
      rw [if_neg hf] at hk
      exact val _ hk h
  · rename_i hne
    split at hk
    · exact absurd rfl (hne _ _ _ _)
    · exact val _ hk h

theorem sound (hW : W.Ok) (hA : GoodA A k) (hT : TabOk W k μ Φ Ψ) : ∀ n : Nat, SndE W A μ Φ Ψ n ∧ SndT W A μ Φ Ψ n ∧ SndI W A μ Φ Ψ n
  | 0 => ⟨fun _ _ _ _ _ _ h => (by cases h), fun _ _ _ _ _ _ h => (by cases h), fun _ _ _ _ _ _ h => (by cases h)⟩
  | n + 1 => by
    obtain ⟨ihE, ihT, ihI⟩ := sound hW hA hT n
    exact ⟨stepE hW hA hT ihE ihT ihI, stepT hA ihE ihT, stepI hW hA hT ihE⟩
theorem comp_sound (hW : W.Ok) (hA : GoodA A k) (hT : TabOk W k μ Φ Ψ) (n : Nat) {elt : Expr} {gens : List Comprehension} {scope : Scope} {p : Pos} {Δ : Ctx} {d : D} {env : Env} (hE : EnvOk env)
    (hk : okE (n + 1) env.scope.names (.ListComp elt gens scope p) = true) (h : evD Φ Ψ μ (n + 1) (.ListComp elt gens scope p) Δ = some d) : CompOk W A env Δ μ elt gens scope p d := by
  obtain ⟨ihE, ihT, ihI⟩ := sound hW hA hT n
  exact comp_ih ihE ihT ihI hE hk h
end
end Mine

open PySem PySem.W PyProof.Rows
set_option Elab.async false
set_option linter.unusedVariables false
namespace Mine

inductive Out where
  | next | brk | cont
  | ret (d : D)

/-- a function's state: what stood at its call (B) is kept -/
structure Sf (W : Wd) (fr : List Addr) (B : FM) (F₀ : FM) (env : Env) (Δ : Ctx) (μ : MM) (F : FM) (s : Shared) : Prop where
  st : St W env Δ μ F s
  keep : ∀ b o, B b = some o → ∃ sl, s.heap.get? b = some { o with slots := sl } ∧ (b ∉ fr → sl = o.slots)
  frB : ∀ b ∈ fr, ∃ o, B b = some o ∧ ∀ vs, o.data ≠ .fields vs
  frF₀ : ∀ b ∈ fr, F₀ b = none
  loc : B env.locals = none
  cel : ∀ y c, (y, c) ∈ env.cells → B c = none
  own : ∀ a m, μ a = some m → B a = none
  fsub : FSub F₀ F
  fnew : ∀ a, F a ≠ none → F₀ a = none → B a = none

section
variable {W : Wd} {fr : List Addr} {B F₀ : FM} {env : Env} {Δ : Ctx} {μ : MM} {F : FM} {s : Shared}

theorem Sf.there (S : Sf W fr B F₀ env Δ μ F s) {b : Addr} {o : Obj} (h : B b = some o) : ∃ o', s.heap.get? b = some o' := by
  obtain ⟨sl, h1, _⟩ := S.keep b o h; exact ⟨_, h1⟩
theorem Sf.exact (S : Sf W fr B F₀ env Δ μ F s) {b : Addr} {o : Obj} (h : B b = some o) (hb : b ∉ fr) : s.heap.get? b = some o := by
  obtain ⟨sl, h1, h2⟩ := S.keep b o h; rw [h1, h2 hb]
theorem Sf.frF (S : Sf W fr B F₀ env Δ μ F s) {b : Addr} (h : b ∈ fr) : F b = none := by
  cases e : F b with
  | none => rfl
  | some o =>
    obtain ⟨o', h1, _⟩ := S.frB b h
    have := S.fnew b (by rw [e]; simp) (S.frF₀ b h); rw [h1] at this; cases this
theorem Sf.ext (S : Sf W fr B F₀ env Δ μ F s) {F' : FM} {s' : Shared} (x : Ext F s F' s') : Sf W fr B F₀ env Δ μ F' s' :=
  ⟨S.st.ext x, fun b o e => by obtain ⟨sl, h1, h2⟩ := S.keep b o e; exact ⟨sl, Keeps.get x.keeps h1, h2⟩, S.frB, S.frF₀, S.loc, S.cel, S.own, S.fsub.trans x.sub, fun a h1 h2 => by
    cases h3 : F a with
    | some o => exact S.fnew a (by rw [h3]; simp) h2
    | none =>
      have h4 := x.new a h1 h3
      cases h5 : B a with
      | none => rfl
      | some o => obtain ⟨o', h6⟩ := S.there h5; rw [h6] at h4; cases h4⟩

/-- a change of the function's own -/
theorem Sf.own' (S : Sf W fr B F₀ env Δ μ F s) {Δ' : Ctx} {μ' : MM} {s' : Shared} {X : List Addr} (S' : St W env Δ' μ' F s') (x : ExtBut X F s F s') (hX : ∀ b ∈ X, B b = none) (hm : ∀ a m, μ' a = some m → B a = none) : Sf W fr B F₀ env Δ' μ' F s' :=
  ⟨S', fun b o e => by obtain ⟨sl, h1, h2⟩ := S.keep b o e; exact ⟨sl, x.keeps.get (fun h => by rw [hX b h] at e; cases e) h1, h2⟩, S.frB, S.frF₀, S.loc, S.cel, hm, S.fsub, S.fnew⟩

theorem Sf.weakenV (S : Sf W fr B F₀ env Δ μ F s) {Δ' : Ctx} (h : ∀ x d, Δ'.lookup x = some d → Δ.lookup x = some d) : Sf W fr B F₀ env Δ' μ F s :=
  ⟨S.st.weakenV h, S.keep, S.frB, S.frF₀, S.loc, S.cel, S.own, S.fsub, S.fnew⟩
theorem Sf.weakenM (S : Sf W fr B F₀ env Δ μ F s) {μ' : MM} (h : ∀ a m, μ' a = some m → μ a = some m) : Sf W fr B F₀ env Δ μ' F s :=
  ⟨S.st.weakenM h, S.keep, S.frB, S.frF₀, S.loc, S.cel, fun a m e => S.own a m (h a m e), S.fsub, S.fnew⟩
end

def Fin' (Q : Flow → Shared → Prop) (F : FM) (s : Shared) : Out → Prop
  | .next => Q .next s
  | .brk => Q .brk s
  | .cont => Q .cont s
  | .ret d => ∀ v, RelV F d v → Q (.ret v) s

/-- the statements end as K says; they raise nothing -/
def Wp (W : Wd) (A : Around) (fr : List Addr) (env : Env) (ss : List Stmt) (Δ : Ctx) (μ : MM) (K : Out → Ctx → MM → Prop) : Prop :=
  ∀ B F₀ F s (Q : Flow → Shared → Prop) (E : Value → Shared → Prop), Sf W fr B F₀ env Δ μ F s →
    (∀ o Δ' μ' F' s', K o Δ' μ' → Sf W fr B F₀ env Δ' μ' F' s' → Fin' Q F' s' o) → wpAny W.M A (execs ss env) Q E s

/-- one statement -/
def Wp1 (W : Wd) (A : Around) (fr : List Addr) (env : Env) (st : Stmt) (Δ : Ctx) (μ : MM) (K : Out → Ctx → MM → Prop) : Prop :=
  ∀ B F₀ F s (Q : Flow → Shared → Prop) (E : Value → Shared → Prop), Sf W fr B F₀ env Δ μ F s →
    (∀ o Δ' μ' F' s', K o Δ' μ' → Sf W fr B F₀ env Δ' μ' F' s' → Fin' Q F' s' o) → wpAny W.M A (exec st env) Q E s

section
variable {W : Wd} {A : Around} {B F₀ : FM} {env : Env} {Δ : Ctx} {μ : MM} {K : Out → Ctx → MM → Prop} {fr : List Addr}

theorem Wp.nil (h : K .next Δ μ) : Wp W A fr env [] Δ μ K := fun B F₀ F s Q E S k => wpAny_execs_nil (k _ _ _ F s h S)

theorem Wp.cons {st : Stmt} {rest : List Stmt} (h : Wp1 W A fr env st Δ μ (fun o Δ' μ' => match o with | .next => Wp W A fr env rest Δ' μ' K | o => K o Δ' μ')) : Wp W A fr env (st :: rest) Δ μ K := fun B F₀ F s Q E S k => by
  refine wpAny_execs_cons (h B F₀ F s _ E S fun o Δ' μ' F' s' hk S' => ?_)
  cases o with
  | next => exact hk B F₀ F' s' Q E S' k
  | brk => exact k _ _ _ F' s' hk S'
  | cont => exact k _ _ _ F' s' hk S'
  | ret d => exact fun v hv => k _ _ _ F' s' hk S' v hv

theorem Wp1.mono {st : Stmt} {K' : Out → Ctx → MM → Prop} (h : Wp1 W A fr env st Δ μ K') (hk : ∀ o Δ' μ', K' o Δ' μ' → K o Δ' μ') : Wp1 W A fr env st Δ μ K :=
  fun B F₀ F s Q E S k => h B F₀ F s Q E S fun o Δ' μ' F' s' h' S' => k o Δ' μ' F' s' (hk _ _ _ h') S'
theorem Wp.mono {ss : List Stmt} {K' : Out → Ctx → MM → Prop} (h : Wp W A fr env ss Δ μ K') (hk : ∀ o Δ' μ', K' o Δ' μ' → K o Δ' μ') : Wp W A fr env ss Δ μ K :=
  fun B F₀ F s Q E S k => h B F₀ F s Q E S fun o Δ' μ' F' s' h' S' => k o Δ' μ' F' s' (hk _ _ _ h') S'
/-- forget names, forget objects -/
theorem Wp.weaken {ss : List Stmt} {Δ' : Ctx} {μ' : MM} (h : Wp W A fr env ss Δ' μ' K) (hΔ : ∀ x d, Δ'.lookup x = some d → Δ.lookup x = some d) (hμ : ∀ a m, μ' a = some m → μ a = some m) : Wp W A fr env ss Δ μ K :=
  fun B F₀ F s Q E S k => h B F₀ F s Q E ((S.weakenV hΔ).weakenM hμ) k

theorem store_sf (S : Sf W fr B F₀ env Δ μ F s) {x : Str} {d : D} {v : Value} {Q : Unit → Shared → Prop} {E : Value → Shared → Prop} (hk : env.kindOf x = some .local ∨ env.kindOf x = some .cell) (hv : RelV F d v)
    (h : ∀ s', Sf W fr B F₀ env ((x, d) :: Δ) μ F s' → Q () s') : wpAny W.M A (storeName env x v) Q E s :=
  S.st.store hk hv fun s' b hb S' x' => h s' (S.own' S' x' (fun c hc => by
    simp at hc; subst hc
    rcases hb with ⟨rfl, _⟩ | ⟨h1, _⟩
    · exact S.loc
    · exact S.cel _ _ (mem_of_lookup h1)) S.own)

theorem Wp1.assign {x : Str} {px pos : Pos} {e : Expr} {d : D} (hs : swapsWith e (some (.Name x px)) pos.line env = pure false) (hk : env.kindOf x = some .local ∨ env.kindOf x = some .cell) (he : Ev W A env Δ μ e d) (h : K .next ((x, d) :: Δ) μ) :
    Wp1 W A fr env (.Assign [.Name x px] e pos) Δ μ K := fun B F₀ F s Q E S k => by
  refine wpAny_Assign_Name (wpAny_mono (he F s E S.st) (fun v s₁ h₁ => ?_) fun _ _ e => e) hs
  obtain ⟨F₁, x₁, r₁⟩ := h₁
  exact store_sf (S.ext x₁) hk r₁ fun s' S' => k _ _ _ F₁ s' h S'

theorem Wp1.augName {x : Str} {px pos : Pos} {op : Operator} {e : Expr} {a b c : Int} (hW : W.Ok) (hk : env.kindOf x = some .local ∨ env.kindOf x = some .cell) (hx : Δ.lookup x = some (.int a)) (hcd : (x == ("__classdict__" : Str)) = false)
    (he : Ev W A env Δ μ e (.int b)) (ho : iarith op a b = some c) (h : K .next ((x, .int c) :: Δ) μ) : Wp1 W A fr env (.AugAssign (.Name x px) op e pos) Δ μ K := fun B F₀ F s Q E S k => by
  obtain ⟨v, hv, rv⟩ := S.st.vars x _ hx
  refine wpAny_AugAssign_Name (loadVar hW S.st hv ?_ hcd)
  refine wpAny_mono (he F s E S.st) (fun u s₁ h₁ => ?_) fun _ _ e => e
  obtain ⟨F₁, x₁, r₁⟩ := h₁
  rw [RelV] at rv; obtain ⟨t, rfl⟩ := rv
  rw [RelV] at r₁; obtain ⟨t', rfl⟩ := r₁
  have S₁ := S.ext x₁
  refine wpAny_mono (iarith_sound S₁.st ho t t') (fun r s₂ h₂ => ?_) fun _ _ e => e
  obtain ⟨F₂, x₂, r₂⟩ := h₂
  exact store_sf (S₁.ext x₂) hk r₂ fun s' S' => k _ _ _ F₂ s' h S'

theorem Wp1.if_ {t : Expr} {body orelse : List Stmt} {pos : Pos} {b : Bool} (ht : Tst W A env Δ μ t b) (h1 : b = true → Wp W A fr env body Δ μ K) (h2 : b = false → Wp W A fr env orelse Δ μ K) :
    Wp1 W A fr env (.If t body orelse pos) Δ μ K := fun B F₀ F s Q E S k => by
  refine wpAny_If (wpAny_mono (ht F s E S.st) (fun v s₁ h₁ => ?_) fun _ _ e => e)
  obtain ⟨F₁, x₁, rfl⟩ := h₁
  cases v with
  | true => exact h1 rfl B F₀ F₁ s₁ Q E (S.ext x₁) k
  | false => exact h2 rfl B F₀ F₁ s₁ Q E (S.ext x₁) k

theorem Wp1.ret {e : Expr} {pos : Pos} {d : D} (he : Ev W A env Δ μ e d) (h : K (.ret d) Δ μ) : Wp1 W A fr env (.Return (some e) pos) Δ μ K := fun B F₀ F s Q E S k => by
  refine wpAny_Return_some (wpAny_mono (he F s E S.st) (fun v s₁ h₁ => ?_) fun _ _ e => e)
  obtain ⟨F₁, x₁, r₁⟩ := h₁
  exact k (.ret d) _ _ F₁ s₁ h (S.ext x₁) v r₁

theorem Wp1.break_ {pos : Pos} (h : K .brk Δ μ) : Wp1 W A fr env (.Break pos) Δ μ K := fun B F₀ F s Q E S k => wpAny_Break (k _ _ _ F s h S)

/-- a mutable object named by x is from here on a frozen list -/
theorem Wp.freeze {ss : List Stmt} {x : Str} {a : Addr} {ds : List D} (hx : Δ.lookup x = some (.ref a)) (hm : μ a = some (.lst ds)) (h : Wp W A fr env ss ((x, .list ds) :: Δ) (fun b => if b = a then none else μ b) K) : Wp W A fr env ss Δ μ K := fun B F₀ F s Q E S k => by
  obtain ⟨hF, vs, n, hg, hr⟩ := S.st.mu a _ hm
  have hsub : FSub F (F.add a (lobj vs n)) := FM.add_sub hF
  have hL : a ≠ env.locals := fun e => by rw [e, S.st.nsM] at hm; cases hm
  have hC : ∀ y, (y, a) ∉ env.cells := fun y hc => by rw [(S.st.cellF y a hc).2.1] at hm; cases hm
  have hne : ∀ b, b ≠ a → F.add a (lobj vs n) b = F b := fun b hb => by simp [FM.add, hb]
  refine h B F₀ (F.add a (lobj vs n)) s Q E ⟨⟨S.st.eok, S.st.same, fun b o e => hsub _ _ (S.st.base b o e), fun b o e => ?_, fun y d hy => ?_, fun b m e => ?_, S.st.ns, ?_, ?_, fun y c hc => ?_, S.st.apart⟩, S.keep, S.frB, S.frF₀, S.loc, S.cel, fun b m e => ?_, S.fsub.trans hsub, fun b h1 h2 => ?_⟩ k
  · unfold FM.add at e; split at e
    · cases e; subst_vars; exact hg
    · exact S.st.sub b o e
  · rw [List.lookup_cons] at hy
    cases hb : y == x with
    | true =>
      rw [hb] at hy; cases hy
      rw [beq_iff_eq.mp hb]
      obtain ⟨v, hv, rv⟩ := S.st.vars x _ hx
      rw [RelV] at rv; subst rv
      exact ⟨_, hv, by rw [RelV]; exact ⟨a, vs, n, rfl, FM.add_self .., hr.mono hsub⟩⟩
    | false =>
      rw [hb] at hy
      obtain ⟨v, hv, rv⟩ := S.st.vars y d hy
      exact ⟨v, hv, rv.mono hsub⟩
  · split at e
    · cases e
    · rename_i hba
      obtain ⟨h1, h2⟩ := S.st.mu b m e
      exact ⟨by rw [hne b hba]; exact h1, h2.keeps hsub (fun _ _ e => e)⟩
  · rw [hne _ (Ne.symm hL)]; exact S.st.nsF
  · show (if env.locals = a then none else μ env.locals) = none
    rw [if_neg (Ne.symm hL)]; exact S.st.nsM
  · obtain ⟨h1, h2, h3, h4⟩ := S.st.cellF y c hc
    have hca : c ≠ a := fun e => hC y (by rw [← e]; exact hc)
    exact ⟨by rw [hne c hca]; exact h1, by show (if c = a then none else μ c) = none; rw [if_neg hca]; exact h2, h3, h4⟩
  · split at e
    · cases e
    · exact S.own b m e
  · by_cases hb : b = a
    · subst hb; exact S.own b _ hm
    · exact S.fnew b (by rw [← hne b hb]; exact h1) h2
end
end Mine

open PySem PySem.W PyProof.Rows
set_option Elab.async false
set_option linter.unusedVariables false
namespace Mine
section
variable {W : Wd} {A : Around} {env : Env} {Δ : Ctx} {μ : MM} {K : Out → Ctx → MM → Prop} {fr : List Addr}

theorem Wp1.for_ {x : Str} {px pos : Pos} {iter : Expr} {body orelse : List Stmt} {xs : List D} (Inv : Nat → Ctx → MM → Prop) (hset : notSet iter = true) (hk : env.kindOf x = some .local ∨ env.kindOf x = some .cell) (hit : IterEvF W A env Δ μ iter xs)
    (h0 : Inv 0 Δ μ)
    (hbody : ∀ i d Δ' μ', xs[i]? = some d → Inv i Δ' μ' → Wp W A fr env body ((x, d) :: Δ') μ' (fun o Δ'' μ'' => match o with | .next => Inv (i + 1) Δ'' μ'' | .cont => Inv (i + 1) Δ'' μ'' | .brk => K .next Δ'' μ'' | .ret d => K (.ret d) Δ'' μ''))
    (hend : ∀ Δ' μ', Inv xs.length Δ' μ' → Wp W A fr env orelse Δ' μ' K) :
    Wp1 W A fr env (.For (.Name x px) iter body orelse pos) Δ μ K := fun B F₀ F s Q E S k => by
  refine wpAny_For (wpAny_mono (hit F s E S.st) (fun v s₁ h₁ => wpAny_mono h₁ (fun it s₂ h₂ => ?_) fun _ _ e => e) fun _ _ e => e) (fun v => folded_of hset v)
  obtain ⟨F₂, x₂, ⟨I, fp, wr, P, Stw⟩, rfl, q⟩ := h₂
  have hW := q.hW
  have hst := q.now
  have hP := q.hP
  have hfo := q.hfo
  have hwr := q.hwr
  have hex := q.hex
  simp only at hW hst hP hfo hwr hex
  clear q
  have S₂ := S.ext x₂
  have hfo' : ∀ b ∈ fp, b ∈ wr ∨ F₂ b ≠ none := fun b hb => by
    rcases hfo b hb with h | h | h
    · exact .inl h
    · exact .inr h
    · exact absurd rfl h
  have hF₀wr : ∀ b ∈ wr, F₀ b = none := fun b hb => by
    cases e : F₀ b with
    | none => rfl
    | some o => have := S₂.fsub b o e; rw [(hwr b hb).1] at this; cases this
  have hBwr : ∀ b ∈ wr, B b = none := fun b hb => by
    cases e : B b with
    | none => rfl
    | some o => have := (hwr b hb).2; obtain ⟨o', h6⟩ := S.there e; rw [h6] at this; cases this
  have hwrL : ∀ b ∈ wr, b ≠ env.locals ∧ ∀ y, (y, b) ∉ env.cells := fun b hb => by
    refine ⟨?_, fun y hy => ?_⟩
    · rintro rfl; obtain ⟨m, ob, es, ep, e, _⟩ := S.st.ns; rw [(hwr _ hb).2] at e; cases e
    · obtain ⟨_, _, _, v, ob, e, _⟩ := S.st.cellF y b hy; rw [(hwr _ hb).2] at e; cases e
  have hμwr : ∀ b ∈ wr, μ b = none := fun b hb => by
    cases e : μ b with
    | none => rfl
    | some m => obtain ⟨_, hr⟩ := S.st.mu b m e; obtain ⟨o, ho⟩ := hr.some; rw [(hwr b hb).2] at ho; cases ho
  refine codeAny_forLoop (fun n s' => ∃ i Δ' μ' F', n = xs.length + 1 - i ∧ i ≤ xs.length ∧ Inv i Δ' μ' ∧ Sf W fr B F₀ env Δ' μ' F' s' ∧ FSub F₂ F' ∧ Stw i s'.heap ∧ (∀ b ∈ wr, F' b = none ∧ μ' b = none)) ?_ (xs.length + 1)
    ⟨0, Δ, μ, F₂, rfl, Nat.zero_le _, h0, S₂, .refl _, hst, fun b hb => ⟨(hwr b hb).1, hμwr b hb⟩⟩
  rintro n s' ⟨i, Δ', μ', F', rfl, hi, hinv, S', hsub, st', hwr'⟩
  have advance : ∀ h₁ tk₁, (∀ b ob, b ∉ wr → s'.heap.get? b = some ob → h₁.get? b = some ob) → Sf W fr B F₀ env Δ' μ' F' { s' with heap := h₁, toks := tk₁ } := fun h₁ tk₁ hk₁ => by
    have kb : KeepsBut wr s' { s' with heap := h₁, toks := tk₁ } := ⟨h₁, tk₁, rfl, hk₁⟩
    exact S'.own' (S'.st.frame kb fun b hb => ⟨(hwr' b hb).1, (hwr' b hb).2, (hwrL b hb).1, (hwrL b hb).2⟩) (.same kb) hBwr S'.own
  by_cases hlt : i < xs.length
  · refine hW.item i s' _ _ hlt st' fun v h₁ tk₁ hPv st₁ hk₁ => ?_
    obtain ⟨d, hd, rv⟩ := hP i v hPv
    have S₁ := advance h₁ tk₁ hk₁
    refine wpAny_assign_Name (S₁.st.store hk (rv.mono hsub) fun s₃ b hb S₃ x₃ => ?_)
    have hbB : ∀ c ∈ [b], B c = none := fun c hc => by
      simp at hc; subst hc
      rcases hb with ⟨rfl, _⟩ | ⟨h1, _⟩
      · exact S₁.loc
      · exact S₁.cel _ _ (mem_of_lookup h1)
    have hbwr : b ∉ wr := fun h => by
      rcases hb with ⟨rfl, _⟩ | ⟨h1, _⟩
      · exact (hwrL _ h).1 rfl
      · exact (hwrL _ h).2 _ (mem_of_lookup h1)
    have hbF : F' b = none := by
      rcases hb with ⟨rfl, _⟩ | ⟨h1, _⟩
      · exact S₁.st.nsF
      · exact (S₁.st.cellF _ _ (mem_of_lookup h1)).1
    have st₃ : Stw (i + 1) s₃.heap := hW.frame _ _ _ st₁ fun c hc oc e => x₃.keeps.get (by
      simp; rintro rfl
      rcases hfo' c hc with h | h
      · exact hbwr h
      · cases e2 : F₂ c with
        | none => exact h e2
        | some o2 => rw [hsub _ _ e2] at hbF; cases hbF) e
    have Sf₃ : Sf W fr B F₀ env ((x, d) :: Δ') μ' F' s₃ := S₁.own' S₃ x₃ hbB S₁.own
    -- the body may not touch the iterator
    have Sb : Sf W fr (fun c => if c ∈ wr then s₃.heap.get? c else B c) F' env ((x, d) :: Δ') μ' F' s₃ := by
      refine ⟨S₃, fun c o e => ?_, fun c hc => ?_, fun c hc => Sf₃.frF hc, ?_, fun y c hc => ?_, fun a m e => ?_, .refl _, fun a h1 h2 => absurd h2 h1⟩
      · split at e
        · exact ⟨o.slots, e, fun _ => rfl⟩
        · exact Sf₃.keep c o e
      · obtain ⟨o, q1, q2⟩ := Sf₃.frB c hc
        exact ⟨o, by rw [if_neg (fun h => by rw [hBwr c h] at q1; cases q1)]; exact q1, q2⟩
      · rw [if_neg (fun h => (hwrL _ h).1 rfl)]; exact Sf₃.loc
      · rw [if_neg (fun h => (hwrL _ h).2 _ hc)]; exact Sf₃.cel y c hc
      · rw [if_neg (fun h => by rw [(hwr' _ h).2] at e; cases e)]; exact Sf₃.own a m e
    refine hbody i d Δ' μ' hd hinv _ F' F' s₃ _ _ Sb fun o Δ'' μ'' F'' s'' hK S'' => ?_
    have hwr'' : ∀ b ∈ wr, F'' b = none ∧ μ'' b = none := fun b hb => by
      have hBb : (if b ∈ wr then s₃.heap.get? b else B b) ≠ none := by rw [if_pos hb]; exact hex _ _ st₃ b hb
      refine ⟨?_, ?_⟩
      · cases e : F'' b with
        | none => rfl
        | some ob => exact absurd (S''.fnew b (by rw [e]; simp) (hwr' b hb).1) hBb
      · cases e : μ'' b with
        | none => rfl
        | some m => exact absurd (S''.own b m e) hBb
    have Sf'' : Sf W fr B F₀ env Δ'' μ'' F'' s'' := by
      have hle : ∀ b o, B b = some o → (if b ∈ wr then s₃.heap.get? b else B b) = some o := fun b o e => by
        rw [if_neg (fun h => by rw [hBwr b h] at e; cases e)]; exact e
      have hnone : ∀ b, (if b ∈ wr then s₃.heap.get? b else B b) = none → B b = none := fun b h => by
        cases e : B b with
        | none => rfl
        | some o => rw [hle b o e] at h; cases h
      exact ⟨S''.st, fun b o e => S''.keep b o (hle b o e), Sf₃.frB, Sf₃.frF₀, S''.loc |> hnone _, fun y c hc => hnone _ (S''.cel y c hc), fun a m e => hnone _ (S''.own a m e), Sf₃.fsub.trans S''.fsub, fun a h1 h2 => by
        cases e : F' a with
        | some o => exact Sf₃.fnew a (by rw [e]; simp) h2
        | none => exact hnone _ (S''.fnew a h1 e)⟩
    have hF3 : ∀ a o, F' a = some o → F'' a = some o := S''.fsub
    have st'' : Stw (i + 1) s''.heap := hW.frame _ _ _ st₃ fun c hc oc e => by
      rcases hfo' c hc with h | h
      · exact S''.exact (by rw [if_pos h]; exact e) (fun hf => by obtain ⟨o, q1, _⟩ := Sf₃.frB c hf; rw [hBwr c h] at q1; cases q1)
      · cases e2 : F₂ c with
        | none => exact absurd e2 h
        | some o2 =>
          have h1 := S₃.sub c o2 (hsub _ _ e2)
          rw [e] at h1; cases h1
          exact S''.st.sub c oc (hF3 _ _ (hsub _ _ e2))
    cases o with
    | next => exact ⟨xs.length + 1 - (i + 1), by omega, i + 1, Δ'', μ'', F'', rfl, by omega, hK, Sf'', fun a o e => hF3 _ _ (hsub _ _ e), st'', hwr''⟩
    | cont => exact ⟨xs.length + 1 - (i + 1), by omega, i + 1, Δ'', μ'', F'', rfl, by omega, hK, Sf'', fun a o e => hF3 _ _ (hsub _ _ e), st'', hwr''⟩
    | brk => exact k _ _ _ F'' s'' hK Sf''
    | ret d => exact fun v hv => k _ _ _ F'' s'' hK Sf'' v hv
  · have hin : i = xs.length := by omega
    subst hin
    refine hW.done s' _ _ st' fun h₁ tk₁ hk₁ => ?_
    refine hend Δ' μ' hinv B F₀ F' _ _ _ (advance h₁ tk₁ hk₁) fun o Δ'' μ'' F'' s'' hK S'' => ?_
    cases o with
    | next => exact k _ _ _ F'' s'' hK S''
    | brk => exact k _ _ _ F'' s'' hK S''
    | cont => exact k _ _ _ F'' s'' hK S''
    | ret d => exact fun v hv => k _ _ _ F'' s'' hK S'' v hv
end
end Mine

open PySem PySem.W PyProof.Rows
set_option Elab.async false
set_option linter.unusedVariables false
namespace Mine

/-- e makes a new list, which nothing else knows -/
def EvNew (W : Wd) (A : Around) (env : Env) (Δ : Ctx) (μ : MM) (e : Expr) (ds : List D) : Prop :=
  ∀ F s (E : Value → Shared → Prop), St W env Δ μ F s → wpAny W.M A (eval e env) (fun v s' => ∃ F' a vs n, v = .ref a ∧ Ext F s F' s' ∧ F' a = none ∧ s.heap.get? a = none ∧ s'.heap.get? a = some (lobj vs n) ∧ RelVs F' ds vs) E s

section
variable {W : Wd} {A : Around} {env : Env} {Δ : Ctx} {μ : MM} {K : Out → Ctx → MM → Prop} {fr : List Addr}

theorem fresh_get {s : Shared} : s.heap.get? s.heap.objs.size = none := by
  cases e : s.heap.get? s.heap.objs.size with
  | none => rfl
  | some o => exact absurd (Heap.lt_size e) (Nat.lt_irrefl _)

theorem EvNew.display {es : List Expr} {ds : List D} {pos : Pos} (h : EvL W A env Δ μ es ds) (hsz : ds.length ≤ sizeLine) : EvNew W A env Δ μ (.List es pos) ds := fun F s E S => by
  refine wpAny_List (h.spliced S fun F' s' vs x r => ⟨by rw [r.length]; exact hsz, ?_⟩)
  have S' := S.ext x
  have hF : F' s'.heap.objs.size = none := by
    cases e : F' s'.heap.objs.size with
    | none => rfl
    | some o => have := S'.sub _ _ e; rw [fresh_get] at this; cases this
  refine ⟨F', s'.heap.objs.size, vs, 0, rfl, x.trans (Ext.ofKeeps S'.sub (Keeps.push s' _)), hF, ?_, Heap.get?_push_size _ rfl, r⟩
  cases e : s.heap.get? s'.heap.objs.size with
  | none => rfl
  | some o => have := Keeps.get x.keeps e; rw [fresh_get] at this; cases this

theorem EvNew.mul {l r : Expr} {pos : Pos} {xs : List D} {n : Int} (hl : Ev W A env Δ μ l (.list xs)) (hr : Ev W A env Δ μ r (.int n)) (h0 : 0 ≤ n) (h1 : n ≤ 1000) (hs : xs.length ≤ 1000) : EvNew W A env Δ μ (.BinOp l .Mult r pos) (repL n.toNat xs) := fun F s E S => by
  refine wpAny_BinOp (Ev.bind2 (k := fun v u => binaryOp .Mult v u) hl hr S fun F' s' v u x S' r1 r2 => ?_)
  rw [RelV] at r2; obtain ⟨t, rfl⟩ := r2
  obtain ⟨a, vs, k, rfl, hg, rr⟩ := asList_rel (ds := xs) S' r1 rfl
  have hlen := rr.length
  have hmul : vs.length * n.toNat ≤ 1000000 := by
    calc vs.length * n.toNat ≤ 1000 * 1000 := Nat.mul_le_mul (by omega) (by omega)
      _ = 1000000 := rfl
  have hF : F' s'.heap.objs.size = none := by
    cases e : F' s'.heap.objs.size with
    | none => rfl
    | some o => have := S'.sub _ _ e; rw [fresh_get] at this; cases this
  have key : (List.foldl (fun x1 x2 => x1 ++ x2) #[] (List.replicate (if vs.toArray.isEmpty = true then 0 else n.toNat) vs.toArray)) = ((List.replicate n.toNat vs).flatten).toArray := by
    rw [foldl_arr]
    cases vs with
    | nil => simp
    | cons x r => simp
  refine wpAny_binaryOp_repeat_ref (T := "list") (U := "int") (by decide) ⟨_, hg, rfl⟩ (fun s' => typeIs_int s' n t) noFill_list_mul PySem.F.fills_int_mul PySem.F.slot_int_rmul repeat_list PySem.F.slot_int_index.lookup
    (call_meets PySem.F.slot_int_rmul (typeIs_int s' n t) PySem.F.entry_int_rmul (PySem.F.args_int_rmul_2 _ _) (int___rmul___int_list n t a vs.toArray k)
      ⟨hg, rfl, ⟨_, hg, rfl⟩, call_meets PySem.F.slot_list_mul ⟨_, hg, rfl⟩ PySem.F.entry_list_mul (PySem.F.args_list_mul_2 _ _)
        (AutoListH.list___mul___list_int_3 a vs.toArray k n t (by simp [Builtin.List.listFitsIndex]; omega) (by simp; omega) (by simp [Builtin.List.listTooLong, sizeLine]; omega))
        ⟨hg, ?_⟩⟩)
  refine ⟨F', s'.heap.objs.size, (List.replicate n.toNat vs).flatten, 0, rfl, x.trans (Ext.ofKeeps S'.sub (Keeps.push s' _)), hF, ?_, ?_, rr.rep n.toNat⟩
  · cases e : s.heap.get? s'.heap.objs.size with
    | none => rfl
    | some o => have := Keeps.get x.keeps e; rw [fresh_get] at this; cases this
  · rw [key]; exact Heap.get?_push_size _ rfl

/-- the new object joins the function's own -/
theorem Sf.addM {B F₀ : FM} {F : FM} {s s' : Shared} (S : Sf W fr B F₀ env Δ μ F s) {F' : FM} {a : Addr} {m : MObj} (x : Ext F s F' s') (hF : F' a = none) (hn : s.heap.get? a = none) (hr : MRel F' s'.heap a m) : Sf W fr B F₀ env Δ (μ.set a m) F' s' ∧ μ a = none := by
  have S' := S.ext x
  have hμ : μ a = none := by
    cases e : μ a with
    | none => rfl
    | some m' => obtain ⟨_, hr'⟩ := S.st.mu a m' e; obtain ⟨o, ho⟩ := hr'.some; rw [hn] at ho; cases ho
  have hL : a ≠ env.locals := by rintro rfl; obtain ⟨m, ob, es, ep, e, _⟩ := S.st.ns; rw [hn] at e; cases e
  have hC : ∀ y, (y, a) ∉ env.cells := fun y hy => by obtain ⟨_, _, _, v, ob, e, _⟩ := S.st.cellF y a hy; rw [hn] at e; cases e
  have hB : B a = none := by
    cases e : B a with
    | none => rfl
    | some o => obtain ⟨o', h6⟩ := S.there e; rw [h6] at hn; cases hn
  refine ⟨⟨S'.st.addM hμ hF hL hC hr, S'.keep, S'.frB, S'.frF₀, S'.loc, S'.cel, fun b m' e => ?_, S'.fsub, S'.fnew⟩, hμ⟩
  unfold MM.set at e; split at e
  · subst_vars; exact hB
  · exact S'.own b m' e

theorem Wp1.assignNew {x : Str} {px pos : Pos} {e : Expr} {ds : List D} (hs : swapsWith e (some (.Name x px)) pos.line env = pure false) (hk : env.kindOf x = some .local ∨ env.kindOf x = some .cell) (he : EvNew W A env Δ μ e ds)
    (h : ∀ a, μ a = none → K .next ((x, .ref a) :: Δ) (μ.set a (.lst ds))) : Wp1 W A fr env (.Assign [.Name x px] e pos) Δ μ K := fun B F₀ F s Q E S k => by
  refine wpAny_Assign_Name (wpAny_mono (he F s E S.st) (fun v s₁ h₁ => ?_) fun _ _ e => e) hs
  obtain ⟨F₁, a, vs, n, rfl, x₁, hF, hn, hg, hr⟩ := h₁
  obtain ⟨S₁, hμ⟩ := S.addM x₁ hF hn (m := .lst ds) ⟨vs, n, hg, hr⟩
  exact store_sf S₁ hk (d := .ref a) (by rw [RelV]) fun s' S' => k _ _ _ F₁ s' (h a hμ) S'

theorem append_sf {B F₀ F : FM} {s : Shared} (S : Sf W fr B F₀ env Δ μ F s) {a : Addr} {ys : List D} {d : D} {v : Value} {Q : Value → Shared → Prop} {E : Value → Shared → Prop} (hm : μ a = some (.lst ys)) (hv : RelV F d v) (hsz : ys.length ≤ sizeLine)
    (h : ∀ s', Sf W fr B F₀ env Δ (μ.set a (.lst (ys ++ [d]))) F s' → Q .none s') : wpAny W.M A (call (.builtin "list.append") [.ref a, v]) Q E s :=
  append_mut S.st hm hv hsz fun s' S' x' => h s' (S.own' S' x' (fun b hb => by simp at hb; subst hb; exact S.own b _ hm) (fun b m e => by
    unfold MM.set at e; split at e
    · subst_vars; exact S.own _ _ hm
    · exact S.own b m e))

theorem interactive_fn (h : env.scope.kind = .function) : interactive env = false := by unfold interactive; rw [h]; rfl

theorem Wp1.append {o e : Expr} {apos cpos pos : Pos} {a : Addr} {ys : List D} {d : D} (hb : plainBase o = true) (hn : notStar e = true) (hline : (apos.endLine == cpos.line) = true) (ho : Ev W A env Δ μ o (.ref a)) (hm : μ a = some (.lst ys)) (he : Ev W A env Δ μ e d)
    (hsz : ys.length ≤ sizeLine) (h : K .next Δ (μ.set a (.lst (ys ++ [d])))) : Wp1 W A fr env (.Expr (.Call (.Attribute o "append" apos) [e] [] cpos) pos) Δ μ K := fun B F₀ F s Q E S k => by
  refine wpAny_Expr ?_ (interactive_fn S.st.eok.kind) rfl
  refine Call_method1 (base_eq hb _) (starEach_cons hn) hline (wpAny_mono (ho F s E S.st) (fun v s₁ h₁ => ?_) fun _ _ e => e)
  obtain ⟨F₁, x₁, r₁⟩ := h₁
  rw [RelV] at r₁; subst r₁
  have S₁ := S.ext x₁
  obtain ⟨hF, vs, n, hg, hr⟩ := S₁.st.mu a _ hm
  refine ⟨"list", "list.append", PySem.F.plainAttrs_list, PySem.F.slot_list_append, PySem.F.type_list_append, ⟨_, hg, rfl⟩, (fun b e => by cases e; exact ⟨_, hg, rfl⟩), ?_⟩
  refine Calls.callWith_builtin rfl (Calls.evalArgs_plain (Calls.spliced_cons (wpAny_mono (he F₁ s₁ E S₁.st) (fun v s₂ h₂ => Calls.spliced_nil ?_) fun _ _ e => e)))
  obtain ⟨F₂, x₂, r₂⟩ := h₂
  exact append_sf (S₁.ext x₂) hm r₂ hsz fun s' S' => k _ _ _ F₂ s' h S'
end
end Mine

open PySem PySem.W PyProof.Rows
set_option Elab.async false
set_option linter.unusedVariables false
namespace Mine

def FnAt (W : Wd) (f : Str) (params : Arguments) (body : List Stmt) (scope : Scope) : Prop :=
  ∃ a o pm code doc, W.mg f = some (.ref a) ∧ W.s₁.heap.get? a = some o ∧ o.data = .func (Calls.docDef f params body scope pm code doc) ∧ W.s₁.heap.CodeRec code f

theorem bindL_other {kd : Str → Option NameKind} {x : Str} : ∀ (r : List (Str × Value)) (m : Str → Option Value), x ∉ r.map (·.1) → bindL kd r m x = m x
  | [], m, _ => rfl
  | (n, v) :: r, m, h => by
    simp only [List.map_cons, List.mem_cons, not_or] at h
    unfold bindL
    rw [bindL_other r _ h.2]
    split
    · show (if x = n then some v else m x) = m x
      rw [if_neg h.1]
    · rfl
theorem bindC_other {kd : Str → Option NameKind} {x : Str} : ∀ (r : List (Str × Value)) (m : Str → Option Value), x ∉ r.map (·.1) → bindC kd r m x = m x
  | [], m, _ => rfl
  | (n, v) :: r, m, h => by
    simp only [List.map_cons, List.mem_cons, not_or] at h
    unfold bindC
    rw [bindC_other r _ h.2]
    split
    · rfl
    · show (if x = n then some v else m x) = m x
      rw [if_neg h.1]
theorem bindL_has {kd : Str → Option NameKind} {x : Str} {v : Value} (hk : kd x = some .local) : ∀ (r : List (Str × Value)) (m : Str → Option Value), (r.map (·.1)).Nodup → (x, v) ∈ r → bindL kd r m x = some v
  | (n, u) :: r, m, hn, h => by
    simp only [List.map_cons, List.nodup_cons] at hn
    unfold bindL
    rcases List.mem_cons.mp h with e | h
    · cases e; rw [bindL_other r _ hn.1, if_pos hk]; simp
    · exact bindL_has hk r _ hn.2 h
theorem bindC_has {kd : Str → Option NameKind} {x : Str} {v : Value} (hk : kd x ≠ some .local) : ∀ (r : List (Str × Value)) (m : Str → Option Value), (r.map (·.1)).Nodup → (x, v) ∈ r → bindC kd r m x = some v
  | (n, u) :: r, m, hn, h => by
    simp only [List.map_cons, List.nodup_cons] at hn
    unfold bindC
    rcases List.mem_cons.mp h with e | h
    · cases e; rw [bindC_other r _ hn.1, if_neg hk]; simp
    · exact bindC_has hk r _ hn.2 h

theorem cellsFrom_nodup : ∀ (names : List (Str × NameKind)) (n : Nat), (names.map (·.1)).Nodup → ((cellsFrom n names []).map (·.1)).Nodup
  | [], n, _ => by simp [cellsFrom]
  | (m, k) :: r, n, h => by
    simp only [List.map_cons, List.nodup_cons] at h
    unfold cellsFrom
    split
    · rw [cellsFrom_eq, List.map_append]
      refine List.nodup_append.mpr ⟨cellsFrom_nodup r (n + 1) h.2, by simp, fun a ha b hb => ?_⟩
      simp at hb; subst hb
      rintro rfl
      obtain ⟨⟨y, c⟩, hm, rfl⟩ := List.mem_map.mp ha
      exact h.1 (List.mem_map_of_mem (f := fun q : Str × NameKind => q.1) (cellsFrom_names r (n + 1) y c hm).1)
    · exact cellsFrom_nodup r n h.2

/-- a def's table -/
structure FnScope (scope : Scope) (ps : List Str) : Prop where
  kind : scope.kind = .function
  co : scope.isCoroutine = false
  gen : scope.isGenerator = false
  nodup : (scope.names.map (·.1)).Nodup
  free : ∀ n, (n, NameKind.free) ∉ scope.names
  psn : ps.Nodup
  pk : ∀ p ∈ ps, (p, NameKind.local) ∈ scope.names ∨ (p, NameKind.cell) ∈ scope.names
def fnScopeB (scope : Scope) (ps : List Str) : Bool :=
  (scope.kind == .function) && !scope.isCoroutine && !scope.isGenerator && decide (scope.names.map (·.1)).Nodup && (scope.names.all fun p => p.2 != .free) && decide ps.Nodup && ps.all fun p => scope.names.lookup p == some .local || scope.names.lookup p == some .cell
theorem fnScope_of {scope : Scope} {ps : List Str} (h : fnScopeB scope ps = true) : FnScope scope ps := by
  simp only [fnScopeB, Bool.and_eq_true, beq_iff_eq, decide_eq_true_eq, List.all_eq_true, Bool.not_eq_true', Bool.or_eq_true] at h
  obtain ⟨⟨⟨⟨⟨⟨h1, h2⟩, h3⟩, h4⟩, h5⟩, h6⟩, h7⟩ := h
  refine ⟨h1, h2, h3, h4, fun n hn => ?_, h6, fun p hp => ?_⟩
  · have := h5 _ hn; simp at this
  · rcases h7 p hp with h | h
    · exact .inl (mem_of_lookup h)
    · exact .inr (mem_of_lookup h)

theorem zip_rel {F : FM} : ∀ {ps : List Str} {ds : List D} {vs : List Value}, RelVs F ds vs → ps.length = ds.length → ∀ x d, (ps.zip ds).lookup x = some d → ∃ v, (x, v) ∈ ps.zip vs ∧ RelV F d v
  | [], _, _, _, _, x, d, h => by simp at h
  | p :: ps, [], _, _, hl, x, d, h => by simp at hl
  | p :: ps, e :: ds, vs, r, hl, x, d, h => by
    rw [RelVs] at r
    obtain ⟨v, r', rfl, h1, h2⟩ := r
    simp only [List.zip_cons_cons] at h ⊢
    rw [List.lookup_cons] at h
    cases hb : x == p with
    | true => rw [hb] at h; cases h; rw [beq_iff_eq.mp hb]; exact ⟨v, List.mem_cons_self, h1⟩
    | false =>
      rw [hb] at h
      obtain ⟨u, hm, hu⟩ := zip_rel h2 (by simpa using hl) x d h
      exact ⟨u, List.mem_cons_of_mem _ hm, hu⟩

section
variable {W : Wd}

/-- a def is entered: its frame is new -/
theorem enterF {k : Nat} {f : Str} {params : Arguments} {body : List Stmt} {scope : Scope} {ps : List Str} {ds : List D} (hW : W.Ok) {a : Addr} {o : Obj} {pm code doc : Value} (ho : W.s₁.heap.get? a = some o) (hd : o.data = .func (Calls.docDef f params body scope pm code doc)) (hcode : W.s₁.heap.CodeRec code f)
    (hs : FnScope scope ps) (hlen : ps.length = ds.length) (hbind : ∀ vs : List Value, vs.length = ds.length → bindArgs (Calls.docDef f params body scope pm code doc) ⟨vs, []⟩ = pure (ps.zip vs))
    {A : Around} {F : FM} {s : Shared} {vs : List Value} {fr : List Addr} {B : FM} {μ₀ : MM} {Q E : Value → Shared → Prop} (hA : GoodA A (k + 1)) (hsame : ∃ h tk, s = { W.s₁ with heap := h, toks := tk }) (hbase : ∀ b o, W.s₁.heap.get? b = some o → F b = some o) (hsub : ∀ a o, F a = some o → s.heap.get? a = some o) (r : RelVs F ds vs)
    (hmu : ∀ b m, μ₀ b = some m → F b = none ∧ B b = none ∧ MRel F s.heap b m) (hB : ∀ b o, B b = some o → s.heap.get? b = some o) (hfr : ∀ b ∈ fr, (∃ o, B b = some o ∧ ∀ vs, o.data ≠ .fields vs) ∧ F b = none)
    (h : ∀ fenv s₁, GoodA (A.deeper fenv) k → EnvOk fenv → fenv.scope = scope → fenv.frame = some fenv.locals → s.heap.get? fenv.locals = none → Sf W fr B F fenv (ps.zip ds) μ₀ F s₁ →
      wpAny W.M (A.deeper fenv) (execs body fenv) (fun fl s' => Q (match fl with | .ret v => v | _ => .none) s') (fun e s' => wpAny W.M (A.deeper fenv) (leaving fenv e) (fun _ s'' => E e s'') (fun e' s'' => E e' s'') s') s₁) : wpAny W.M A (call (.ref a) vs) Q E s := by
  have base : ∀ b ob, W.s₁.heap.get? b = some ob → s.heap.get? b = some ob := fun b ob e => hsub _ _ (hbase b ob e)
  have hvl : vs.length = ds.length := r.length
  have hroom : A.depth < recursionLimit := by have := hA.depth; unfold recursionLimit; omega
  refine wpAny_call (codeAny_call_cells (fd := Calls.docDef f params body scope pm code doc) hroom (base a o ho) hd (hW.nolimit.keeps base) (hcode.keeps base) rfl (hbind vs hvl) rfl (fun x hx => ?_) (fun s₁ IC => ?_) hs.co hs.gen hs.kind)
  · have hx' : x.1 ∈ ps := (List.of_mem_zip (a := x.1) (b := x.2) hx).1
    rcases hs.pk _ hx' with h | h
    · exact .inl (lookup_nodup hs.nodup h)
    · obtain ⟨c, hc⟩ := cellsFrom_has scope.names (s.heap.objs.size + 1) x.1 h
      obtain ⟨c', e⟩ := lookup_of_mem hc
      exact .inr ⟨lookup_nodup hs.nodup h, by show ((cellsFrom (s.heap.objs.size + 1) scope.names []).lookup x.1).isSome = true; rw [e]; rfl⟩
  have hsc : (callEnvC (Calls.docDef f params body scope pm code doc) s.heap.objs.size a).scope = scope := rfl
  have hloc : (callEnvC (Calls.docDef f params body scope pm code doc) s.heap.objs.size a).locals = s.heap.objs.size := rfl
  have hframe : (callEnvC (Calls.docDef f params body scope pm code doc) s.heap.objs.size a).frame = some (callEnvC (Calls.docDef f params body scope pm code doc) s.heap.objs.size a).locals := rfl
  have hcells : (callEnvC (Calls.docDef f params body scope pm code doc) s.heap.objs.size a).cells = cellsFrom (s.heap.objs.size + 1) scope.names [] := rfl
  have hg1 : (callEnvC (Calls.docDef f params body scope pm code doc) s.heap.objs.size a).globals = mainGlobals := rfl
  have hg2 : (callEnvC (Calls.docDef f params body scope pm code doc) s.heap.objs.size a).builtins = builtinsNs := rfl
  show wpAny W.M _ (execs body _) (fun fl s' => Q (match fl with | .ret v => v | _ => .none) s') (fun e s' => wpAny W.M _ (leaving _ e) (fun _ s'' => E e s'') (fun e' s'' => E e' s'') s') s₁
  generalize callEnvC (Calls.docDef f params body scope pm code doc) s.heap.objs.size a = fenv at *
  clear hd hbind hcode ho hroom hvl
  have hkind : ∀ x, fenv.kindOf x = scope.names.lookup x := fun x => by unfold Env.kindOf; rw [hsc]
  have fresh : ∀ b, s.heap.objs.size ≤ b → s.heap.get? b = none := fun b hb => by
    cases e : s.heap.get? b with
    | none => rfl
    | some o => exact absurd (Heap.lt_size e) (Nat.not_lt.mpr hb)
  have Ffresh : ∀ b, s.heap.objs.size ≤ b → F b = none := fun b hb => by
    cases e : F b with
    | none => rfl
    | some o => have := hsub _ _ e; rw [fresh b hb] at this; cases this
  have Bfresh : ∀ b, s.heap.objs.size ≤ b → B b = none := fun b hb => by
    cases e : B b with
    | none => rfl
    | some o => have := hB _ _ e; rw [fresh b hb] at this; cases this
  have μfresh : ∀ b, s.heap.objs.size ≤ b → μ₀ b = none := fun b hb => by
    cases e : μ₀ b with
    | none => rfl
    | some m => obtain ⟨o, ho⟩ := (hmu b m e).2.2.some; rw [fresh b hb] at ho; cases ho
  have eok : EnvOk fenv := by
    refine ⟨by rw [hsc]; exact hs.kind, hg1, hg2, fun x hx => ?_⟩
    rw [hkind] at hx
    rcases hx with hx | hx
    · obtain ⟨c, hc⟩ := cellsFrom_has scope.names (s.heap.objs.size + 1) x (mem_of_lookup hx)
      rw [hcells]; exact lookup_of_mem hc
    · exact absurd (mem_of_lookup hx) (hs.free x)
  have keep := IC.toInCall.keep
  have hcellfact : ∀ y c, (y, c) ∈ fenv.cells → s.heap.objs.size + 1 ≤ c := fun y c hc => by rw [hcells] at hc; exact (cellsFrom_names _ _ y c hc).2
  have hzn : ((ps.zip vs).map (·.1)).Nodup := by
    rw [List.map_fst_zip (by rw [hlen, r.length]; exact Nat.le_refl _)]; exact hs.psn
  have hA' : GoodA (A.deeper fenv) k := by
    have h1 := hA.depth; have h2 := hA.units
    exact ⟨hA.handled, by show A.depth + 1 + k ≤ 400; omega, by show A.units + 3 + 10 * k ≤ 500; omega⟩
  refine h fenv s₁ hA' eok hsc hframe (by rw [hloc]; exact fresh _ (Nat.le_refl _)) ⟨⟨eok, ?_, hbase, fun b ob e => keep b ob (hsub b ob e), fun x d' hx => ?_, fun b m e => ⟨(hmu b m e).1, (hmu b m e).2.2.keeps (.refl _) keep⟩, ⟨_, IC.toInCall.ns⟩, ?_, ?_, fun y c hc => ?_, IC.apart⟩, fun b ob e => ⟨ob.slots, keep b ob (hB b ob e), fun _ => rfl⟩, fun b hb => (hfr b hb).1, fun b hb => (hfr b hb).2, ?_, fun y c hc => ?_, fun b m e => (hmu b m e).2.1, .refl _, fun b h1 h2 => absurd h2 h1⟩
  · obtain ⟨h₀, tk, rfl⟩ := hsame
    obtain ⟨h', tk', e⟩ := IC.toInCall.same
    exact ⟨h', tk', e⟩
  · obtain ⟨v, hv, rv⟩ := zip_rel r hlen x d' hx
    refine ⟨v, ?_, rv⟩
    have hxp : x ∈ ps := (List.of_mem_zip hv).1
    rcases hs.pk x hxp with h | h
    · have hkl : fenv.kindOf x = some .local := by rw [hkind]; exact lookup_nodup hs.nodup h
      exact .inl ⟨hkl, _, IC.toInCall.ns, bindL_has hkl _ _ hzn hv⟩
    · have hkc : fenv.kindOf x = some .cell := by rw [hkind]; exact lookup_nodup hs.nodup h
      obtain ⟨c, hc⟩ := eok.cells x (.inl hkc)
      refine .inr (.inl ⟨.inl hkc, c, hc, ?_⟩)
      have := IC.cell x c hc
      rw [bindC_has (by rw [hkc]; simp) _ _ hzn hv] at this
      exact this
  · rw [hloc]; exact Ffresh _ (Nat.le_refl _)
  · rw [hloc]; exact μfresh _ (Nat.le_refl _)
  · have h2 := hcellfact y c hc
    refine ⟨Ffresh c (Nat.le_of_succ_le h2), μfresh c (Nat.le_of_succ_le h2), ?_, ?_⟩
    · rw [hloc]; exact Nat.ne_of_gt h2
    · obtain ⟨c', e⟩ := lookup_of_mem hc
      have e2 := lookup_nodup (l := fenv.cells) (n := y) (k := c) (by rw [hcells]; exact cellsFrom_nodup _ _ hs.nodup) hc
      exact ⟨_, IC.cell y c e2⟩
  · rw [hloc]; exact Bfresh _ (Nat.le_refl _)
  · exact Bfresh c (Nat.le_of_succ_le (hcellfact y c hc))

theorem fnOk {k : Nat} {μ : MM} {f : Str} {params : Arguments} {body : List Stmt} {scope : Scope} {ps : List Str} {ds : List D} {d : D} (hW : W.Ok) (hfn : FnAt W f params body scope) (hs : FnScope scope ps) (hlen : ps.length = ds.length)
    (hbind : ∀ pm code doc vs, vs.length = ds.length → bindArgs (Calls.docDef f params body scope pm code doc) ⟨vs, []⟩ = pure (ps.zip vs))
    (hbody : ∀ A env, GoodA A k → EnvOk env → env.scope = scope → Wp W A [] env body (ps.zip ds) (fun _ => none) (fun o _ _ => o = .ret d)) : FnOk W (k + 1) μ f ds d := by
  obtain ⟨a, o, pm, code, doc, hm, ho, hd, hcode⟩ := hfn
  refine ⟨.ref a, .inl hm, .inr (.inr ⟨a, o, _, rfl, ho, hd⟩), fun A env Δ F s E vs hA S r => ?_⟩
  refine enterF hW ho hd hcode hs hlen (hbind pm code doc) (fr := []) (B := fun b => s.heap.get? b) (μ₀ := fun _ => none) hA S.same S.base S.sub r (fun b m e => by cases e) (fun _ _ e => e) (fun b hb => by cases hb) fun fenv s₁ hA' eok hsc _ _ Sfn => ?_
  refine hbody (A.deeper fenv) fenv hA' eok hsc _ F F s₁ _ _ Sfn fun o' Δ' μ' F' s' hK S' => ?_
  subst hK
  intro v hv
  show Gv W F s d v s'
  refine ⟨F', ⟨?_, S'.fsub, S'.st.sub, S'.fnew⟩, hv⟩
  obtain ⟨h₀, tk, e0⟩ := S.same
  obtain ⟨h', tk', e1⟩ := S'.st.same
  refine ⟨h', tk', by rw [e1, e0], fun b ob e => ?_⟩
  have := S'.exact e (by simp); rw [e1] at this; exact this
end
end Mine

open PySem PySem.W PyProof.Rows
set_option Elab.async false
set_option linter.unusedVariables false
namespace Mine

/-- the n-th def of a text -/
def nthDef (p : Program) (f : Str) : Option DefRec := (recsOf p).find? fun d => d.name == f

theorem fnAt_of {p : Program} {loose : List Str} {mean : ExcName → Option Value} {W : Wd} (T : Top p loose mean W.mg W.mb W.s₁.heap) {f : Str} {d : DefRec} (h : nthDef p f = some d) : FnAt W f d.params d.body d.scope := by
  have hm := List.mem_of_find?_eq_some h
  have hn : d.name = f := by have := List.find?_some h; simpa using this
  obtain ⟨a, o, pm, code, doc, h1, h2, h3, h4⟩ := T.fn d hm
  rw [hn] at h1 h3 h4
  exact ⟨a, o, pm, code, doc, h1, h2, h3, h4⟩




section
variable {W : Wd} {A : Around} {env : Env} {Δ : Ctx} {μ : MM} {K : Out → Ctx → MM → Prop} {fr : List Addr} {Φ Ψ : Str → List D → Option D} {k : Nat}

theorem Wp.addGlobal {ss : List Stmt} {x : Str} {d : D} {v : Value} (hk : env.kindOf x = some .globalImplicit) (hm : GlobVal W x v) (hr : ∀ F, RelV F d v) (h : Wp W A fr env ss ((x, d) :: Δ) μ K) : Wp W A fr env ss Δ μ K := fun B F₀ F s Q E S c => by
  refine h B F₀ F s Q E ⟨⟨S.st.eok, S.st.same, S.st.base, S.st.sub, fun y d' hy => ?_, S.st.mu, S.st.ns, S.st.nsF, S.st.nsM, S.st.cellF, S.st.apart⟩, S.keep, S.frB, S.frF₀, S.loc, S.cel, S.own, S.fsub, S.fnew⟩ c
  rw [List.lookup_cons] at hy
  cases hb : y == x with
  | true => rw [hb] at hy; cases hy; rw [beq_iff_eq.mp hb]; exact ⟨v, .inr (.inr ⟨hk, hm⟩), hr F⟩
  | false => rw [hb] at hy; exact S.st.vars y d' hy

/-- what stands fixed while one def's body is walked -/
structure Cx (W : Wd) (A : Around) (env : Env) (μ : MM) (Φ Ψ : Str → List D → Option D) (k : Nat) (sc : Scope) : Prop where
  ok : W.Ok
  good : GoodA A k
  tab : TabOk W k μ Φ Ψ
  eok : EnvOk env
  sc : env.scope = sc

theorem Cx.ev {sc : Scope} (C : Cx W A env μ Φ Ψ k sc) (n : Nat) {e : Expr} {d : D} (ok : okE n sc.names e = true) (h : evD Φ Ψ μ n e Δ = some d) : Ev W A env Δ μ e d :=
  (sound C.ok C.good C.tab n).1 e Δ d env C.eok (by rw [C.sc]; exact ok) h
theorem Cx.tst {sc : Scope} (C : Cx W A env μ Φ Ψ k sc) (n : Nat) {e : Expr} {b : Bool} (ok : okT n sc.names e = true) (h : tstD Φ Ψ μ n e Δ = some b) : Tst W A env Δ μ e b :=
  (sound C.ok C.good C.tab n).2.1 e Δ b env C.eok (by rw [C.sc]; exact ok) h
theorem Cx.kind {sc : Scope} (C : Cx W A env μ Φ Ψ k sc) {x : Str} {kd : NameKind} (h : sc.names.lookup x = some kd) : env.kindOf x = some kd := by unfold Env.kindOf; rw [C.sc]; exact h
end

def dBody : Stmt → List Stmt
  | .FunctionDef _ _ b _ _ _ _ _ _ _ => b
  | _ => []
def dArgs : Stmt → Arguments
  | .FunctionDef _ a _ _ _ _ _ _ _ _ => a
  | _ => ⟨[], [], none, [], [], none, []⟩
def dScope : Stmt → Scope
  | .FunctionDef _ _ _ _ _ _ s _ _ _ => s
  | _ => { kind := .function, names := [], isGenerator := false, isCoroutine := false }
def dPos : Stmt → Pos
  | .FunctionDef _ _ _ _ _ _ _ _ _ p => p
  | _ => ⟨0, 0, 0, 0⟩
def sAt (l : List Stmt) : Nat → Stmt
  | 0 => match l with | s :: _ => s | [] => .Pass ⟨0, 0, 0, 0⟩
  | n + 1 => match l with | _ :: r => sAt r n | [] => .Pass ⟨0, 0, 0, 0⟩
theorem map_toNat_inj : ∀ {l l' : List Char}, l.map Char.toNat = l'.map Char.toNat → l = l'
  | [], [], _ => rfl
  | [], _ :: _, h => by simp at h
  | _ :: _, [], h => by simp at h
  | c :: l, c' :: l', h => by
    simp only [List.map_cons, List.cons.injEq] at h
    rw [map_toNat_inj h.2, Char.ext (UInt32.toNat_inj.mp h.1)]
theorem str_inj {a b : String} : Str.ofString a = Str.ofString b ↔ a = b := by
  refine ⟨fun e => ?_, fun h => by rw [h]⟩
  rw [Str.ofString_eq_toList, Str.ofString_eq_toList] at e
  simp at e
  exact String.toList_inj.mp (map_toNat_inj e)
theorem str_beq (a b : String) : (Str.ofString a == Str.ofString b) = decide (a = b) := by
  by_cases h : a = b
  · subst h; simp
  · have : Str.ofString a ≠ Str.ofString b := fun e => h (str_inj.mp e)
    simp [this, h]
end Mine

open PySem PySem.W PyProof.Rows
set_option Elab.async false
set_option linter.unusedVariables false
namespace Mine
section
variable {W : Wd}

theorem ok_len_list {k : Nat} {μ : MM} {d : D} {ds : List D} (hg : GlobVal W "len" (.builtin "len")) (hl : asList μ d = some ds) (hsz : ds.length ≤ sizeLine) : FnOk W k μ "len" [d] (.int ds.length) :=
  ⟨.builtin "len", hg, .inl ⟨_, rfl⟩, fun A env Δ F s E vs hA S r => by
    rw [RelVs] at r; obtain ⟨v, r', rfl, h1, h2⟩ := r
    rw [RelVs] at h2; subst h2
    obtain ⟨l, us, n, rfl, hget, rr⟩ := asList_rel S h1 hl
    have e : us.toArray.size = ds.length := by simp [rr.length]
    have hs : sizeLine < 2 ^ 62 := by decide
    refine len_list (lobj_isList hget) (by rw [e]; omega) ?_
    rw [e]
    exact gv_int S _ _ _⟩

theorem ok_len_str {k : Nat} {μ : MM} {x : Str} (hg : GlobVal W "len" (.builtin "len")) (hsz : x.length ≤ sizeLine) : FnOk W k μ "len" [.str x] (.int x.length) :=
  ⟨.builtin "len", hg, .inl ⟨_, rfl⟩, fun A env Δ F s E vs hA S r => by
    rw [RelVs] at r; obtain ⟨v, r', rfl, h1, h2⟩ := r
    rw [RelVs] at h2; subst h2
    rw [RelV] at h1; obtain ⟨t, rfl⟩ := h1
    have hs : sizeLine < 2 ^ 62 := by decide
    exact P.len_str (by omega) (gv_int S _ _ _)⟩

theorem rel_intItems {F : FM} : ∀ {ns : List Int} {vs : List Value}, RelVs F (ns.map .int) vs → ∃ l : List (Int × Tok), vs = l.map (fun p => Value.int p.1 p.2) ∧ l.map (·.1) = ns
  | [], vs, r => by rw [List.map_nil, RelVs] at r; subst r; exact ⟨[], rfl, rfl⟩
  | n :: ns, vs, r => by
    rw [List.map_cons, RelVs] at r
    obtain ⟨v, r', rfl, h1, h2⟩ := r
    rw [RelV] at h1; obtain ⟨t, rfl⟩ := h1
    obtain ⟨l, rfl, rfl⟩ := rel_intItems h2
    exact ⟨(n, t) :: l, rfl, rfl⟩

theorem ok_sum {k : Nat} {μ : MM} {d : D} {ds : List D} {ns : List Int} (hg : GlobVal W "sum" (.builtin "sum")) (hl : asList μ d = some ds) (hi : intsOf? ds = some ns) : FnOk W k μ "sum" [d] (.int ns.sum) :=
  ⟨.builtin "sum", hg, .inl ⟨_, rfl⟩, fun A env Δ F s E vs hA S r => by
    rw [RelVs] at r; obtain ⟨v, r', rfl, h1, h2⟩ := r
    rw [RelVs] at h2; subst h2
    obtain ⟨l, us, n, rfl, hget, rr⟩ := asList_rel S h1 hl
    rw [intsOf_some hi] at rr
    obtain ⟨ps, rfl, rfl⟩ := rel_intItems rr
    have hL : s.heap.IsList l (intItems ps.toArray) := by
      have := lobj_isList hget
      simpa [intItems] using this
    refine sum_intListG hA.handled hL fun h' tk t' hk => ?_
    have e : preSum (numAt ps.toArray) ps.toArray.size = (ps.map (·.1)).sum := by
      rw [preSum_eq, List.take_of_length_le (by simp)]
    rw [e]
    exact ⟨F, Ext.ofKeeps S.sub ⟨h', tk, rfl, hk⟩, by rw [RelV]; exact ⟨_, rfl⟩⟩⟩

theorem ok_hex {k : Nat} {μ : MM} {i : Int} (hg : GlobVal W "hex" (.builtin "hex")) (hsz : (baseText "0x" 16 i).length ≤ sizeLine) : FnOk W k μ "hex" [.int i] (.str (baseText "0x" 16 i)) :=
  ⟨.builtin "hex", hg, .inl ⟨_, rfl⟩, fun A env Δ F s E vs hA S r => by
    rw [RelVs] at r; obtain ⟨v, r', rfl, h1, h2⟩ := r
    rw [RelVs] at h2; subst h2
    rw [RelV] at h1; obtain ⟨t, rfl⟩ := h1
    exact P.hex_of_int (gv_str S _ _ _) hsz⟩

theorem sub_int_int : isSubtype (.type "int") (.type "int") = pure true := by rw [isSubtype_type]; kernel_rfl
theorem sub_int_bool : isSubtype (.type "int") (.type "bool") = pure false := by rw [isSubtype_type]; kernel_rfl

theorem ok_isi_int {k : Nat} {μ : MM} {i : Int} (hg : GlobVal W "isinstance" (.builtin "isinstance")) : FnOk W k μ "isinstance" [.int i, .ty "int"] (.bool true) :=
  ⟨.builtin "isinstance", hg, .inl ⟨_, rfl⟩, fun A env Δ F s E vs hA S r => by
    rw [RelVs] at r; obtain ⟨v, r', rfl, h1, h2⟩ := r
    rw [RelVs] at h2; obtain ⟨v', r2, rfl, h3, h4⟩ := h2
    rw [RelVs] at h4; subst h4
    rw [RelV] at h1; obtain ⟨t, rfl⟩ := h1
    rw [RelV] at h3; subst h3
    exact call_isinstance (isinstance_true (Tx := "int") rfl sub_int_int) ⟨typeIs_int _ _ _, gv_bool S _⟩⟩
theorem ok_isi_bool {k : Nat} {μ : MM} {i : Int} (hg : GlobVal W "isinstance" (.builtin "isinstance")) : FnOk W k μ "isinstance" [.int i, .ty "bool"] (.bool false) :=
  ⟨.builtin "isinstance", hg, .inl ⟨_, rfl⟩, fun A env Δ F s E vs hA S r => by
    rw [RelVs] at r; obtain ⟨v, r', rfl, h1, h2⟩ := r
    rw [RelVs] at h2; obtain ⟨v', r2, rfl, h3, h4⟩ := h2
    rw [RelVs] at h4; subst h4
    rw [RelV] at h1; obtain ⟨t, rfl⟩ := h1
    rw [RelV] at h3; subst h3
    refine call_isinstance (isinstance_false_int (by decide) rfl sub_int_bool) ?_
    exact ⟨F, Ext.ofKeeps S.sub (Keeps.tok s _), by rw [RelV]⟩⟩
end
end Mine

open PySem PySem.W PyProof.Rows
set_option Elab.async false
set_option linter.unusedVariables false
namespace Mine
section
variable {W : Wd} {A : Around} {fr : List Addr} {env : Env} {Δ : Ctx} {μ : MM} {K : Out → Ctx → MM → Prop}

theorem Wp1.assignUsed {x : Str} {px pos p : Pos} {elt : Expr} {gens : List Comprehension} {scope : Scope} {d : D} (hs : swapsWith (.ListComp elt gens scope p) (some (.Name x px)) pos.line env = pure true)
    (hk : env.kindOf x = some .local) (he : CompOk W A env Δ μ elt gens scope p d) (h : K .next ((x, d) :: Δ) μ) : Wp1 W A fr env (.Assign [.Name x px] (.ListComp elt gens scope p) pos) Δ μ K := fun B F₀ F s Q E S k => by
  obtain ⟨g, gs, names, xs, out, rfl, rfl, ok, hown, hset, hasync, hit, run⟩ := he
  obtain ⟨target, iter, ifs, as⟩ := g
  simp only at hasync; subst hasync
  rw [exec_Assign_Name_used _ _ _ _ hs]
  refine wpAny_bind (wpAny_standAt (wpAny_bind ?_))
  show wpAny _ A (do let _ ← comprehension (.ListComp elt (⟨target, iter, ifs, 0⟩ :: gs) scope p) scope env _ (newList []) false (eval iter env) (some (PySem.assign (.Name x px) env))) _ _ s
  refine wpAny_bind (wpAny_mono (comp_all (use := some (PySem.assign (.Name x px) env)) (Q := fun _ s' => Q .next s') ok hown hset rfl hit run S.st fun F' s' Acc C M => ?_) (fun _ s' hq => wpAny_pure (wpAny_pure hq)) fun _ _ e => e)
  show wpAny _ A (PySem.assign (.Name x px) env (.ref Acc)) _ _ _
  obtain ⟨vs, n, hget, hrel⟩ := M.rel
  have S₂ : Sf W fr B F₀ env Δ μ (F'.add Acc (lobj vs n)) s' := S.ext (M.ext.addNew (a := Acc) hget M.accN M.accF)
  have hLC : env.locals ≠ C := by
    rintro h0; obtain ⟨m, o, _, _, ho, _⟩ := S.st.ns; rw [h0, M.locN] at ho; cases ho
  have hCnew : ∀ b o, s.heap.get? b = some o → b ≠ C := fun b o e h0 => by rw [h0, M.locN] at e; cases e
  refine wpAny_assign_Name (S₂.st.store (.inl hk) (d := .list out) (by rw [RelV]; exact ⟨Acc, vs, n, rfl, FM.add_self .., hrel.mono (FM.add_sub M.accF)⟩) fun s₃ b hb S₃ x₃ => ?_)
  have hbL : b = env.locals := by
    rcases hb with ⟨h1, _⟩ | ⟨_, h1⟩
    · exact h1
    · rw [hk] at h1; cases h1
  have Sf₃ : Sf W fr B F₀ env ((x, .list out) :: Δ) μ (F'.add Acc (lobj vs n)) s₃ := S₂.own' S₃ x₃ (fun c hc => by simp at hc; subst hc; rw [hbL]; exact S.loc) S.own
  obtain ⟨m, hn⟩ := M.ns
  have hCF : (F'.add Acc (lobj vs n)) C = none := by
    have : C ≠ Acc := fun e => M.ne e.symm
    simp [FM.add, this, M.locF]
  have hCμ : μ C = none := by
    cases e : μ C with
    | none => rfl
    | some m' => obtain ⟨_, hr⟩ := S.st.mu C m' e; obtain ⟨o, ho⟩ := hr.some; rw [M.locN] at ho; cases ho
  have hCB : B C = none := by
    cases e : B C with
    | none => rfl
    | some o => obtain ⟨o', h6⟩ := S.there e; rw [M.locN] at h6; cases h6
  refine ⟨m, hn.at' fun o e => x₃.keeps.get (by simp; rw [hbL]; exact fun e => hLC e.symm) e, fun h' hs' => ?_⟩
  have kb : KeepsBut [C] s₃ { s₃ with heap := h' } := ⟨h', s₃.toks, rfl, fun b o hb e => (hs'.2 b (by simpa using hb)).trans e⟩
  refine k .next _ _ _ _ h (Sf₃.own' (Sf₃.st.frame kb fun b hb => ?_) (.same kb) (fun b hb => by simp at hb; subst hb; exact hCB) Sf₃.own)
  simp at hb; subst hb
  refine ⟨hCF, hCμ, fun e => hLC e.symm, fun y hy => ?_⟩
  obtain ⟨_, _, _, v, o, ho, _⟩ := S.st.cellF y b hy
  rw [M.locN] at ho; cases ho

/-- whether an assignment of a comprehension swaps: told by the text -/
def swapB (N : List (Str × NameKind)) (value : Expr) (x : Str) (px : Pos) : Option Bool :=
  match value with
  | .ListComp _ _ sc p => match N.lookup x with
    | some .local => some (px.line == p.line && !(sc.names.any fun q => q.1 == x && (q.2 == .local || q.2 == .cell)))
    | some .cell => some false
    | _ => none
  | .SetComp .. | .DictComp .. => none
  | _ => some false

theorem swap_of {env : Env} (hE : EnvOk env) {value : Expr} {x : Str} {px : Pos} {line : Nat} {b : Bool} (h : swapB env.scope.names value x px = some b) : swapsWith value (some (.Name x px)) line env = pure b := by
  unfold swapB at h
  split at h
  · rename_i elt gens sc p
    unfold swapsWith
    have hk : env.blockKind = .function := by unfold Env.blockKind; simp [hE.kind, ScopeKind.isAnnotationScope]
    split at h
    · rename_i hl
      have hkl : env.kindOf x = some .local := hl
      cases h
      simp [hk, hkl]
      rfl
    · rename_i hl
      have hkl : env.kindOf x = some .cell := hl
      cases h
      simp [hk, hkl]
      rfl
    · cases h
  · cases h
  · cases h
  · rename_i h1 h2 h3
    cases h
    cases value <;> first | rfl | exact absurd rfl (h1 _ _ _ _) | exact absurd rfl (h2 _ _ _ _) | exact absurd rfl (h3 _ _ _ _ _)
end
end Mine

open PySem PySem.W PyProof.Rows
set_option Elab.async false
set_option linter.unusedVariables false
namespace Mine

/-- e gives a value, and may make new objects of the function's own -/
def EvA (W : Wd) (A : Around) (fr : List Addr) (env : Env) (Δ : Ctx) (μ : MM) (e : Expr) (P : D → MM → Prop) : Prop :=
  ∀ B F₀ F s (E : Value → Shared → Prop), Sf W fr B F₀ env Δ μ F s →
    wpAny W.M A (eval e env) (fun v s' => ∃ d μ' F', P d μ' ∧ Sf W fr B F₀ env Δ μ' F' s' ∧ FSub F F' ∧ RelV F' d v) E s

def EvAs (W : Wd) (A : Around) (fr : List Addr) (env : Env) (Δ : Ctx) : MM → List Expr → (List D → MM → Prop) → Prop
  | μ, [], P => P [] μ
  | μ, e :: es, P => notStar e = true ∧ EvA W A fr env Δ μ e (fun d μ' => EvAs W A fr env Δ μ' es (fun ds => P (d :: ds)))

section
variable {W : Wd} {A : Around} {fr : List Addr} {env : Env} {Δ : Ctx} {μ : MM} {K : Out → Ctx → MM → Prop} {B F₀ F : FM} {s : Shared} {E : Value → Shared → Prop}

theorem Ev.a {e : Expr} {d : D} {P : D → MM → Prop} (h : Ev W A env Δ μ e d) (hp : P d μ) : EvA W A fr env Δ μ e P := fun B F₀ F s E S => by
  refine wpAny_mono (h F s E S.st) (fun v s₁ h₁ => ?_) fun _ _ e => e
  obtain ⟨F₁, x₁, r₁⟩ := h₁
  exact ⟨d, μ, F₁, hp, S.ext x₁, x₁.sub, r₁⟩

theorem EvNew.a {e : Expr} {ds : List D} {P : D → MM → Prop} (h : EvNew W A env Δ μ e ds) (hp : ∀ a, μ a = none → P (.ref a) (μ.set a (.lst ds))) : EvA W A fr env Δ μ e P := fun B F₀ F s E S => by
  refine wpAny_mono (h F s E S.st) (fun v s₁ h₁ => ?_) fun _ _ e => e
  obtain ⟨F₁, a, vs, n, rfl, x₁, hF, hn, hg, hr⟩ := h₁
  obtain ⟨S₁, hμ⟩ := S.addM x₁ hF hn (m := .lst ds) ⟨vs, n, hg, hr⟩
  exact ⟨.ref a, _, F₁, hp a hμ, S₁, x₁.sub, by rw [RelV]⟩

theorem noneF (S : St W env Δ μ F s) : F s.heap.objs.size = none := by
  cases e : F s.heap.objs.size with
  | none => rfl
  | some o => have := S.sub _ _ e; rw [fresh_get] at this; cases this

theorem EvA.dict {pos : Pos} {P : D → MM → Prop} (hp : ∀ a, μ a = none → P (.ref a) (μ.set a (.dct (fun _ => none) 0))) : EvA W A fr env Δ μ (.Dict [] [] pos) P := fun B F₀ F s E S => by
  refine wpAny_Dict_empty ?_
  have x := Ext.ofKeeps (F := F) S.st.sub (Keeps.push s { cls := .type "dict", data := .dict #[] })
  obtain ⟨S₁, hμ⟩ := S.addM (a := s.heap.objs.size) x (noneF S.st) fresh_get (m := .dct (fun _ => none) 0) ⟨fun _ => none, Heap.IntMap.new _, Heap.DictLe.new _, fun k => .inl ⟨rfl, rfl⟩⟩
  exact ⟨.ref s.heap.objs.size, _, F, hp _ hμ, S₁, .refl _, by rw [RelV]⟩

theorem EvAs.spliced {pos : Pos} : ∀ {es : List Expr} {μ : MM} {P : List D → MM → Prop} {Q : List Value → Shared → Prop} {F : FM} {s : Shared}, EvAs W A fr env Δ μ es P → Sf W fr B F₀ env Δ μ F s →
    (∀ ds μ' F' s' vs, P ds μ' → Sf W fr B F₀ env Δ μ' F' s' → FSub F F' → RelVs F' ds vs → Q vs s') → wpAny W.M A (spliced (backTo pos (starEach es env))) Q E s
  | [], μ, P, Q, F, s, h, S, k => args_nil (k [] μ F s [] h S (.refl _) .nil)
  | e :: es, μ, P, Q, F, s, h, S, k => by
    obtain ⟨hn, he⟩ := h
    refine args_cons (wpAny_mono (he B F₀ F s E S) (fun v s₁ h₁ => ?_) fun _ _ x => x) (starEach_cons hn)
    obtain ⟨d, μ₁, F₁, hr, S₁, x₁, r₁⟩ := h₁
    exact EvAs.spliced hr S₁ fun ds μ' F' s' vs hp S' x' r' => k (d :: ds) μ' F' s' (v :: vs) hp S' (x₁.trans x') (.cons (r₁.mono x') r')

theorem EvA.list {es : List Expr} {pos : Pos} {P : D → MM → Prop} (h : EvAs W A fr env Δ μ es (fun ds μ' => ds.length ≤ sizeLine ∧ ∀ a, μ' a = none → P (.ref a) (μ'.set a (.lst ds)))) : EvA W A fr env Δ μ (.List es pos) P := fun B F₀ F s E S => by
  refine wpAny_List (h.spliced S fun ds μ' F' s' vs hp S' x' r' => ⟨by rw [r'.length]; exact hp.1, ?_⟩)
  have x := Ext.ofKeeps (F := F') S'.st.sub (Keeps.push s' { cls := .type "list", data := .seq vs.toArray })
  obtain ⟨S₁, hμ⟩ := S'.addM (a := s'.heap.objs.size) x (noneF S'.st) fresh_get (m := .lst ds) ⟨vs, 0, Heap.get?_push_size _ rfl, r'⟩
  exact ⟨.ref s'.heap.objs.size, _, F', hp.2 _ hμ, S₁, x', by rw [RelV]⟩

theorem Wp1.assignA {x : Str} {px pos : Pos} {e : Expr} {P : D → MM → Prop} (hs : swapsWith e (some (.Name x px)) pos.line env = pure false) (hk : env.kindOf x = some .local ∨ env.kindOf x = some .cell) (he : EvA W A fr env Δ μ e P)
    (h : ∀ d μ', P d μ' → K .next ((x, d) :: Δ) μ') : Wp1 W A fr env (.Assign [.Name x px] e pos) Δ μ K := fun B F₀ F s Q E S k => by
  refine wpAny_Assign_Name (wpAny_mono (he B F₀ F s E S) (fun v s₁ h₁ => ?_) fun _ _ e => e) hs
  obtain ⟨d, μ', F₁, hp, S₁, x₁, r₁⟩ := h₁
  exact store_sf S₁ hk r₁ fun s' S' => k _ _ _ F₁ s' (h d μ' hp) S'

theorem Wp1.appendA {o e : Expr} {apos cpos pos : Pos} {a : Addr} {P : D → MM → Prop} (hb : plainBase o = true) (hn : notStar e = true) (hline : (apos.endLine == cpos.line) = true) (ho : Ev W A env Δ μ o (.ref a)) (hm : ∃ ys, μ a = some (.lst ys)) (he : EvA W A fr env Δ μ e P)
    (h : ∀ d μ', P d μ' → ∃ ys, μ' a = some (.lst ys) ∧ ys.length ≤ sizeLine ∧ K .next Δ (μ'.set a (.lst (ys ++ [d])))) : Wp1 W A fr env (.Expr (.Call (.Attribute o "append" apos) [e] [] cpos) pos) Δ μ K := fun B F₀ F s Q E S k => by
  refine wpAny_Expr ?_ (interactive_fn S.st.eok.kind) rfl
  refine Call_method1 (base_eq hb _) (starEach_cons hn) hline (wpAny_mono (ho F s E S.st) (fun v s₁ h₁ => ?_) fun _ _ e => e)
  obtain ⟨F₁, x₁, r₁⟩ := h₁
  rw [RelV] at r₁; subst r₁
  have S₁ := S.ext x₁
  obtain ⟨ys, hm⟩ := hm
  obtain ⟨hF, vs, n, hg, hr⟩ := S₁.st.mu a _ hm
  refine ⟨"list", "list.append", PySem.F.plainAttrs_list, PySem.F.slot_list_append, PySem.F.type_list_append, ⟨_, hg, rfl⟩, (fun b e => by cases e; exact ⟨_, hg, rfl⟩), ?_⟩
  refine Calls.callWith_builtin rfl (Calls.evalArgs_plain (Calls.spliced_cons (wpAny_mono (he B F₀ F₁ s₁ E S₁) (fun v s₂ h₂ => Calls.spliced_nil ?_) fun _ _ e => e)))
  obtain ⟨d, μ', F₂, hp, S₂, x₂, r₂⟩ := h₂
  obtain ⟨zs, hz, hsz, hk⟩ := h d μ' hp
  exact append_sf S₂ hz r₂ hsz fun s' S' => k _ _ _ F₂ s' hk S'

/-- a list's item is stored -/
theorem setItem_lobj {l : Addr} {items : List Value} {n : Nat} {k : Int} {t : Tok} {v : Value} {Q : Unit → Shared → Prop} (ho : s.heap.get? l = some (lobj items n)) (h0 : 0 ≤ k) (hfit : k < 2 ^ 63) (hn : k < items.length)
    (hQ : ∀ h' n', h'.get? l = some (lobj (items.set k.toNat v) n') → Heap.SameBut l s.heap h' → Q () { s with heap := h' }) : wpAny W.M A (setItem (.ref l) (.int k t) v) Q E s := by
  have hl := lobj_isList ho
  unfold setItem
  try with_reducible refine wpAny_holding ?_
  first | refine wpAny_bind (wpAny_pure ?_) | skip
  refine wpAny_bind (wpAny_sequenceKey hl.typeIs (by decide) ?_)
  refine wpAny_bind (wpAny_callSpecial?_slot (name := Str.ofString "__setitem__") hl.typeIs slot_list_setitem
    (wpAny_call_entry slot_list_setitem hl.typeIs entry_list_setitem ?_ (args_list_setitem _ _ _)))
  show wpAny _ _ (Builtin.List.listSubscript? (.int k t) >>= _) _ _ s
  refine wpAny_bind (wpAny_listSubscript_int (fitsIndex_of h0 hfit) ?_)
  clear hfit
  obtain ⟨j, rfl⟩ := Int.eq_ofNat_of_zero_le h0
  have hj : j < items.toArray.size := by simp; omega
  have hx' : items.toArray[j]? = some items.toArray[j] := Array.getElem?_eq_getElem hj
  show wpAny _ _ ((seqItemAt l j >>= fun r => pure (r.map (j, ·))) >>= _) _ _ s
  refine wpAny_bind (wpAny_bind (wpAny_seqItemAt ho rfl (wpAny_pure ?_)))
  rw [hx']
  show wpAny _ _ (setSeqItemAt l j v >>= _) _ _ s
  have hfin : ∃ n', (s.heap.update l (Obj.mapSeq (·.setIfInBounds j v))).get? l = some (lobj (items.set j v) n') := by
    obtain ⟨n', hd'⟩ := Obj.data_mapSeq (o := lobj items n) rfl (·.setIfInBounds j v)
    refine ⟨n', (Heap.get?_update_self _ ho (Obj.isFreed_of_seq hd')).trans ?_⟩
    have e : (Obj.mapSeq (·.setIfInBounds j v) (lobj items n)) = { lobj items n with data := (Obj.mapSeq (·.setIfInBounds j v) (lobj items n)).data } := rfl
    rw [e, hd']; simp [lobj]
  obtain ⟨n', hfin⟩ := hfin
  refine wpAny_bind (wpAny_setSeqItemAt ho rfl ?_)
  first
    | exact wpAny_bind (wpAny_pure (wpAny_pure ⟨.none, rfl, wpAny_pure (hQ _ _ hfin (Heap.SameBut.update ..))⟩))
    | exact wpAny_pure ⟨.none, rfl, wpAny_pure (hQ _ _ hfin (Heap.SameBut.update ..))⟩

theorem same_sf (S : Sf W fr B F₀ env Δ μ F s) {a : Addr} {m m' : MObj} (hm : μ a = some m) {h' : Heap} {tk : Nat} (hs : Heap.SameBut a s.heap h') (hr : MRel F h' a m') : Sf W fr B F₀ env Δ (μ.set a m') F { s with heap := h', toks := tk } := by
  have hk : KeepsBut [a] s { s with heap := h', toks := tk } := ⟨h', tk, rfl, fun b o hb e' => (hs.2 b (by simpa using hb)).trans e'⟩
  exact S.own' (S.st.mutate hm hk hr) (.same hk) (fun b hb => by simp at hb; subst hb; exact S.own _ _ hm) fun b m e => by
    unfold MM.set at e; split at e
    · subst_vars; exact S.own _ _ hm
    · exact S.own b m e

theorem store_item (S : Sf W fr B F₀ env Δ μ F s) {a : Addr} {ys : List D} {k : Int} {t : Tok} {d : D} {v : Value} {Q : Unit → Shared → Prop} (hm : μ a = some (.lst ys)) (hv : RelV F d v) (h0 : 0 ≤ k) (hfit : k < 2 ^ 63) (hn : k < ys.length)
    (h : ∀ s', Sf W fr B F₀ env Δ (μ.set a (.lst (ys.set k.toNat d))) F s' → Q () s') : wpAny W.M A (setItem (.ref a) (.int k t) v) Q E s := by
  obtain ⟨hF, vs, n, e, r⟩ := S.st.mu a _ hm
  refine setItem_lobj e h0 hfit (by rw [r.length]; exact hn) fun h' n' e' hs' => ?_
  exact h _ (same_sf S hm hs' ⟨_, n', e', r.set _ hv⟩)

theorem store_key (S : Sf W fr B F₀ env Δ μ F s) {a : Addr} {f : Int → Option D} {n : Nat} {k : Int} {t : Tok} {d : D} {v : Value} {Q : Unit → Shared → Prop} (hm : μ a = some (.dct f n)) (hv : RelV F d v) (hn : n ≤ sizeLine)
    (h : ∀ s', Sf W fr B F₀ env Δ (μ.set a (.dct (fun j => if j = k then some d else f j) (n + 1))) F s' → Q () s') : wpAny W.M A (setItem (.ref a) (.int k t) v) Q E s := by
  obtain ⟨hF, g, e, hz, r⟩ := S.st.mu a _ hm
  refine wpAny_setItem_intMap_le e hz hn fun h' e' hz' hs' => ?_
  refine h _ (same_sf S hm hs' ⟨_, e', hz', fun j => ?_⟩)
  by_cases hj : j = k
  · simp only [hj, if_true]; exact .inr ⟨d, v, rfl, rfl, hv⟩
  · simp only [hj, if_false]; exact r j

theorem Wp1.setKeyA {o i e : Expr} {tpos pos : Pos} {P : D → MM → Prop} (hs : swapsWith e (some (.Subscript o i tpos)) pos.line env = pure false) (he : EvA W A fr env Δ μ e P)
    (h : ∀ d μ', P d μ' → ∃ a f n k, Ev W A env Δ μ' o (.ref a) ∧ Ev W A env Δ μ' i (.int k) ∧ μ' a = some (.dct f n) ∧ n ≤ sizeLine ∧ K .next Δ (μ'.set a (.dct (fun j => if j = k then some d else f j) (n + 1)))) :
    Wp1 W A fr env (.Assign [.Subscript o i tpos] e pos) Δ μ K := fun B F₀ F s Q E S c => by
  refine wpAny_Assign_Subscript (wpAny_mono (he B F₀ F s E S) (fun v s₁ h₁ => ?_) fun _ _ e => e) hs
  obtain ⟨d, μ', F₁, hp, S₁, x₁, r₁⟩ := h₁
  obtain ⟨a, f, n, k, ho, hi, hm, hn, hk⟩ := h d μ' hp
  refine wpAny_mono (ho F₁ s₁ E S₁.st) (fun ov s₂ h₂ => ?_) fun _ _ e => e
  obtain ⟨F₂, x₂, r₂⟩ := h₂
  rw [RelV] at r₂; subst r₂
  have S₂ := S₁.ext x₂
  refine wpAny_mono (hi F₂ s₂ E S₂.st) (fun iv s₃ h₃ => ?_) fun _ _ e => e
  obtain ⟨F₃, x₃, r₃⟩ := h₃
  rw [RelV] at r₃; obtain ⟨t, rfl⟩ := r₃
  exact store_key (S₂.ext x₃) hm (r₁.mono (x₂.sub.trans x₃.sub)) hn fun s' S' => c .next _ _ _ s' hk S'

theorem Wp1.augItem {o i e : Expr} {tpos pos : Pos} {op : Operator} {a : Addr} {ys : List D} {k x y z : Int} (hi' : ∀ ov iv new, augStore i ov iv new = (do holding [new, ov, iv] (setItem ov iv new); release [new, ov, iv] []; pure .next))
    (ho : Ev W A env Δ μ o (.ref a)) (hi : Ev W A env Δ μ i (.int k)) (hm : μ a = some (.lst ys)) (h0 : 0 ≤ k) (hfit : k < 2 ^ 63) (hx : ys[k.toNat]? = some (.int x)) (he : Ev W A env Δ μ e (.int y)) (hop : iarith op x y = some z)
    (h : K .next Δ (μ.set a (.lst (ys.set k.toNat (.int z))))) : Wp1 W A fr env (.AugAssign (.Subscript o i tpos) op e pos) Δ μ K := fun B F₀ F s Q E S c => by
  refine wpAny_AugAssign_SubscriptAny ?_ hi'
  refine wpAny_mono (ho F s E S.st) (fun ov s₁ h₁ => ?_) fun _ _ e => e
  obtain ⟨F₁, x₁, r₁⟩ := h₁
  rw [RelV] at r₁; subst r₁
  have S₁ := S.ext x₁
  refine wpAny_mono (hi F₁ s₁ E S₁.st) (fun iv s₂ h₂ => ?_) fun _ _ e => e
  obtain ⟨F₂, x₂, r₂⟩ := h₂
  rw [RelV] at r₂; obtain ⟨t, rfl⟩ := r₂
  have S₂ := S₁.ext x₂
  obtain ⟨l, items, hl, hL, hw⟩ := idx_list (A := A) (E := E) (t := t) (ds := ys) (d := .ref a) (i := k) (v := .ref a) (x := .int x) S₂.st (by rw [RelV]) (by simp [asList, hm]) (by omega) hfit (by simp [idxL, h0, hx])
  refine wpAny_mono hw (fun old s₃ h₃ => ?_) fun _ _ e => e
  obtain ⟨F₃, x₃, r₃⟩ := h₃
  rw [RelV] at r₃; obtain ⟨t', rfl⟩ := r₃
  have S₃ := S₂.ext x₃
  refine wpAny_mono (he F₃ s₃ E S₃.st) (fun u s₄ h₄ => ?_) fun _ _ e => e
  obtain ⟨F₄, x₄, r₄⟩ := h₄
  rw [RelV] at r₄; obtain ⟨t'', rfl⟩ := r₄
  have S₄ := S₃.ext x₄
  refine wpAny_mono (iarith_sound S₄.st hop t' t'') (fun new s₅ h₅ => ?_) fun _ _ e => e
  obtain ⟨F₅, x₅, r₅⟩ := h₅
  have hlt : k < ys.length := by
    have := (List.getElem?_eq_some_iff.mp hx).1; omega
  exact store_item (S₄.ext x₅) hm r₅ h0 hfit hlt fun s' S' => c .next _ _ _ s' h S'

theorem Wp1.extend {o e : Expr} {apos cpos pos : Pos} {a : Addr} {ys zs : List D} {d : D} (hb : plainBase o = true) (hn : notStar e = true) (hline : (apos.endLine == cpos.line) = true) (ho : Ev W A env Δ μ o (.ref a)) (hm : μ a = some (.lst ys)) (he : Ev W A env Δ μ e d)
    (hz : asList μ d = some zs) (hsz : ys.length + zs.length ≤ sizeLine) (h : K .next Δ (μ.set a (.lst (ys ++ zs)))) : Wp1 W A fr env (.Expr (.Call (.Attribute o "extend" apos) [e] [] cpos) pos) Δ μ K := fun B F₀ F s Q E S k => by
  refine wpAny_Expr ?_ (interactive_fn S.st.eok.kind) rfl
  refine Call_method1 (base_eq hb _) (starEach_cons hn) hline (wpAny_mono (ho F s E S.st) (fun v s₁ h₁ => ?_) fun _ _ e => e)
  obtain ⟨F₁, x₁, r₁⟩ := h₁
  rw [RelV] at r₁; subst r₁
  have S₁ := S.ext x₁
  obtain ⟨hF, vs, n, hg, hr⟩ := S₁.st.mu a _ hm
  refine ⟨"list", "list.extend", PySem.F.plainAttrs_list, PySem.F.slot_list_extend, PySem.F.type_list_extend, ⟨_, hg, rfl⟩, (fun b e => by cases e; exact ⟨_, hg, rfl⟩), ?_⟩
  refine P.extend_list (wpAny_mono (he F₁ s₁ E S₁.st) (fun v s₂ h₂ => ?_) fun _ _ e => e)
  obtain ⟨F₂, x₂, r₂⟩ := h₂
  have S₂ := S₁.ext x₂
  obtain ⟨l, us, n', rfl, hget, hru⟩ := asList_rel S₂.st r₂ hz
  obtain ⟨hF₂, vs₂, n₂, hg₂, hr₂⟩ := S₂.st.mu a _ hm
  refine ⟨l, vs₂.toArray, us.toArray, n₂, n', by simp [hr₂.length]; omega, by simp [hr₂.length, hru.length]; omega, extend_door (by simp [hr₂.length, hru.length]; exact hsz), rfl, hg₂, hget, ?_⟩
  have hfin : ∃ n'', (s₂.heap.update a (Obj.mapSeq fun xs => xs ++ us.toArray)).get? a = some (lobj (vs₂ ++ us) n'') := by
    obtain ⟨n'', hd'⟩ := Obj.data_mapSeq (o := lobj vs₂ n₂) rfl (fun xs => xs ++ us.toArray)
    refine ⟨n'', (Heap.get?_update_self _ hg₂ (Obj.isFreed_of_seq hd')).trans ?_⟩
    have e : (Obj.mapSeq (fun xs => xs ++ us.toArray) (lobj vs₂ n₂)) = { lobj vs₂ n₂ with data := (Obj.mapSeq (fun xs => xs ++ us.toArray) (lobj vs₂ n₂)).data } := rfl
    rw [e, hd']; simp [lobj]
  obtain ⟨n'', hfin⟩ := hfin
  exact k _ _ _ F₂ _ h (same_sf (tk := s₂.toks) S₂ hm (Heap.SameBut.update ..) ⟨_, n'', hfin, hr₂.append hru⟩)
end
end Mine

open PySem PySem.W PyProof.Rows
set_option Elab.async false
set_option linter.unusedVariables false
namespace Mine

/-- d' is d with what stands at a written out -/
def Frz (a : Addr) (ds : List D) (d d' : D) : Prop := ∀ F v, (∃ vs n, F a = some (lobj vs n) ∧ RelVs F ds vs) → RelV F d v → RelV F d' v
def FrzM (a : Addr) (ds : List D) (m m' : MObj) : Prop := ∀ F h b, (∃ vs n, F a = some (lobj vs n) ∧ RelVs F ds vs) → MRel F h b m → MRel F h b m'

theorem Frz.refl {a : Addr} {ds : List D} (d : D) : Frz a ds d d := fun _ _ _ h => h
theorem Frz.ref (a : Addr) (ds : List D) : Frz a ds (.ref a) (.list ds) := fun F v ⟨vs, n, h1, h2⟩ h => by
  rw [RelV] at h; subst h; rw [RelV]; exact ⟨a, vs, n, rfl, h1, h2⟩
theorem FrzM.refl {a : Addr} {ds : List D} (m : MObj) : FrzM a ds m m := fun _ _ _ _ h => h
inductive FrzL (a : Addr) (ds : List D) : List D → List D → Prop
  | nil : FrzL a ds [] []
  | cons {e e' es es'} : Frz a ds e e' → FrzL a ds es es' → FrzL a ds (e :: es) (e' :: es')
theorem FrzL.refl {a : Addr} {ds : List D} : ∀ es, FrzL a ds es es
  | [] => .nil
  | e :: es => .cons (.refl e) (FrzL.refl es)
theorem FrzL.append {a : Addr} {ds xs xs' ys ys' : List D} (h : FrzL a ds xs xs') (g : FrzL a ds ys ys') : FrzL a ds (xs ++ ys) (xs' ++ ys') := by
  induction h with
  | nil => exact g
  | cons h _ ih => exact .cons h ih
theorem frzL {a : Addr} {ds : List D} {F : FM} (hF : ∃ vs n, F a = some (lobj vs n) ∧ RelVs F ds vs) : ∀ {es es' : List D} {vs : List Value}, FrzL a ds es es' → RelVs F es vs → RelVs F es' vs
  | _, _, _, .nil, h => h
  | _, _, vs, .cons h hr, r => by
    rw [RelVs] at r; obtain ⟨v, r', rfl, h1, h2⟩ := r
    exact .cons (h F v hF h1) (frzL hF hr h2)
theorem FrzM.lst {a : Addr} {ds es es' : List D} (h : FrzL a ds es es') : FrzM a ds (.lst es) (.lst es') := fun F hp b hF ⟨vs, n, e, r⟩ => ⟨vs, n, e, frzL hF h r⟩
theorem FrzM.dct {a : Addr} {ds : List D} {f f' : Int → Option D} {n : Nat} (h : ∀ k, (f k = none ∧ f' k = none) ∨ ∃ d d', f k = some d ∧ f' k = some d' ∧ Frz a ds d d') : FrzM a ds (.dct f n) (.dct f' n) := fun F hp b hF ⟨g, e1, e2, r⟩ => ⟨g, e1, e2, fun k => by
  rcases r k with ⟨q1, q2⟩ | ⟨d, v, q1, q2, q3⟩
  · rcases h k with ⟨_, p2⟩ | ⟨d, d', p1, p2, p3⟩
    · exact .inl ⟨p2, q2⟩
    · rw [p1] at q1; cases q1
  · rcases h k with ⟨p1, _⟩ | ⟨d₀, d', p1, p2, p3⟩
    · rw [p1] at q1; cases q1
    · rw [p1] at q1; cases q1
      exact .inr ⟨d', v, p2, q2, p3 F v hF q3⟩⟩

section
variable {W : Wd} {A : Around} {fr : List Addr} {env : Env} {Δ : Ctx} {μ : MM} {K : Out → Ctx → MM → Prop} {B F₀ F : FM} {s : Shared}

theorem Sf.freeze (S : Sf W fr B F₀ env Δ μ F s) {a : Addr} {ds : List D} {Δ' : Ctx} {μ' : MM} (hm : μ a = some (.lst ds)) (hΔ : ∀ x d', Δ'.lookup x = some d' → ∃ d, Δ.lookup x = some d ∧ Frz a ds d d')
    (hμ : ∀ b m', μ' b = some m' → b ≠ a ∧ ∃ m, μ b = some m ∧ FrzM a ds m m') : ∃ F', Sf W fr B F₀ env Δ' μ' F' s ∧ FSub F F' ∧ ∀ v, RelV F (.ref a) v → RelV F' (.list ds) v := by
  obtain ⟨hF, vs, n, hg, hr⟩ := S.st.mu a _ hm
  have hsub : FSub F (F.add a (lobj vs n)) := FM.add_sub hF
  have hL : a ≠ env.locals := fun e => by rw [e, S.st.nsM] at hm; cases hm
  have hC : ∀ y, (y, a) ∉ env.cells := fun y hc => by rw [(S.st.cellF y a hc).2.1] at hm; cases hm
  have hne : ∀ b, b ≠ a → F.add a (lobj vs n) b = F b := fun b hb => by simp [FM.add, hb]
  have hnew : ∃ vs' n', F.add a (lobj vs n) a = some (lobj vs' n') ∧ RelVs (F.add a (lobj vs n)) ds vs' := ⟨vs, n, FM.add_self .., hr.mono hsub⟩
  have hnone : ∀ b, μ b = none → μ' b = none := fun b h => by
    cases e : μ' b with
    | none => rfl
    | some m' => obtain ⟨_, m, e2, _⟩ := hμ b m' e; rw [h] at e2; cases e2
  refine ⟨F.add a (lobj vs n), ⟨⟨S.st.eok, S.st.same, fun b o e => hsub _ _ (S.st.base b o e), fun b o e => ?_, fun y d' hy => ?_, fun b m' e => ?_, S.st.ns, ?_, hnone _ S.st.nsM, fun y c hc => ?_, S.st.apart⟩, S.keep, S.frB, S.frF₀, S.loc, S.cel, fun b m' e => ?_, S.fsub.trans hsub, fun b h1 h2 => ?_⟩, hsub, fun v hv => ?_⟩
  · unfold FM.add at e; split at e
    · cases e; subst_vars; exact hg
    · exact S.st.sub b o e
  · obtain ⟨d, hd, hf⟩ := hΔ y d' hy
    obtain ⟨v, hv, rv⟩ := S.st.vars y d hd
    exact ⟨v, hv, hf _ v hnew (rv.mono hsub)⟩
  · obtain ⟨hba, m, e2, hf⟩ := hμ b m' e
    obtain ⟨h1, h2⟩ := S.st.mu b m e2
    exact ⟨by rw [hne b hba]; exact h1, hf _ _ _ hnew (h2.keeps hsub (fun _ _ e => e))⟩
  · rw [hne _ (Ne.symm hL)]; exact S.st.nsF
  · obtain ⟨h1, h2, h3, h4⟩ := S.st.cellF y c hc
    have hca : c ≠ a := fun e => hC y (by rw [← e]; exact hc)
    exact ⟨by rw [hne c hca]; exact h1, hnone c h2, h3, h4⟩
  · obtain ⟨_, m, e2, _⟩ := hμ b m' e; exact S.own b m e2
  · by_cases hb : b = a
    · subst hb; exact S.own b _ hm
    · exact S.fnew b (by rw [← hne b hb]; exact h1) h2
  · rw [RelV] at hv; subst hv; rw [RelV]; obtain ⟨vs', n', q1, q2⟩ := hnew; exact ⟨a, vs', n', rfl, q1, q2⟩

/-- what stands at a is from here on frozen, wherever it is spoken of -/
theorem Wp.freezeG {ss : List Stmt} {a : Addr} {ds : List D} {Δ' : Ctx} {μ' : MM} (hm : μ a = some (.lst ds)) (hΔ : ∀ x d', Δ'.lookup x = some d' → ∃ d, Δ.lookup x = some d ∧ Frz a ds d d')
    (hμ : ∀ b m', μ' b = some m' → b ≠ a ∧ ∃ m, μ b = some m ∧ FrzM a ds m m') (h : Wp W A fr env ss Δ' μ' K) : Wp W A fr env ss Δ μ K := fun B F₀ F s Q E S k => by
  obtain ⟨F', S', _⟩ := S.freeze hm hΔ hμ
  exact h B F₀ F' s Q E S' k
end
end Mine

open PySem PySem.W PyProof.Rows
set_option Elab.async false
set_option linter.unusedVariables false
namespace Mine

/-- the built-ins that the texts use -/
structure Bi (W : Wd) : Prop where
  ok : W.Ok
  range : GlobVal W "range" (.type "range")
  len : GlobVal W "len" (.builtin "len")
  sum : GlobVal W "sum" (.builtin "sum")
  hex : GlobVal W "hex" (.builtin "hex")
  isinstance : GlobVal W "isinstance" (.builtin "isinstance")
  int : GlobVal W "int" (.type "int")
  bool : GlobVal W "bool" (.type "bool")

def hexS (i : Int) : Str := baseText "0x" 16 i

noncomputable def Φb (μ : MM) (f : Str) (ds : List D) : Option D :=
  if f = "len" then
    (match ds with
    | [.str x] => @ite _ (x.length ≤ sizeLine) (Classical.propDecidable _) (some (.int x.length)) none
    | [d] => (match asList μ d with
      | some es => @ite _ (es.length ≤ sizeLine) (Classical.propDecidable _) (some (.int es.length)) none
      | none => none)
    | _ => none)
  else if f = "sum" then
    (match ds with
    | [d] => ((asList μ d).bind intsOf?).map fun ns => .int ns.sum
    | _ => none)
  else if f = "hex" then
    (match ds with
    | [.int i] => @ite _ (i.natAbs < 16 ^ 100) (Classical.propDecidable _) (some (.str (hexS i))) none
    | _ => none)
  else if f = "isinstance" then
    (match ds with
    | [.int i, .ty T] => if T = "int" then some (.bool true) else if T = "bool" then some (.bool false) else none
    | _ => none)
  else none

theorem hexS_len {i : Int} (h : i.natAbs < 16 ^ 100) : (hexS i).length ≤ 103 := by
  have h1 := toDigits_len_pow (b := 16) (k := 100) (by decide) (by decide) h
  have h0 : ((Str.ofString (if i < 0 then "-" else "")) : Str).length ≤ 1 := by split <;> decide
  have h2 : (Str.ofString "0x").length = 2 := by decide
  have h3 : (Str.ofString (String.ofList (Nat.toDigits 16 i.natAbs))).length ≤ 100 := by
    rw [PySem.ofString_length, String.length_ofList]; exact h1
  unfold hexS baseText
  simp only [PySem.Str.length_append]
  omega

section
variable {W : Wd}
theorem tabB (T : Bi W) (k : Nat) (μ : MM) : TabOk W k μ (Φb μ) (fun _ _ => none) := by
  refine ⟨fun f ds d h => ?_, fun _ _ _ h => (by cases h), T.range⟩
  unfold Φb at h
  split at h
  · rename_i hf; subst hf
    split at h
    · split at h
      · cases h; exact ok_len_str T.len (by assumption)
      · cases h
    · split at h
      · rename_i es he
        split at h
        · cases h; exact ok_len_list T.len he (by assumption)
        · cases h
      · cases h
    · cases h
  · split at h
    · rename_i hf; subst hf
      split at h
      · obtain ⟨ns, h1, rfl⟩ := Option.map_eq_some_iff.mp h
        obtain ⟨es, h2, h3⟩ := Option.bind_eq_some_iff.mp h1
        exact ok_sum T.sum h2 h3
      · cases h
    · split at h
      · rename_i hf; subst hf
        split at h
        · split at h
          · rename_i hlt
            cases h
            exact ok_hex T.hex (Nat.le_trans (hexS_len hlt) (by decide))
          · cases h
        · cases h
      · split at h
        · rename_i hf; subst hf
          split at h
          · split at h
            · rename_i hT; subst hT; cases h; exact ok_isi_int T.isinstance
            · split at h
              · rename_i hT; subst hT; cases h; exact ok_isi_bool T.isinstance
              · cases h
          · cases h
        · cases h

theorem TabOk.fn' {k : Nat} {μ : MM} {Φ Ψ : Str → List D → Option D} (h : TabOk W k μ Φ Ψ) {f : Str} {g : List D → Option D} (hg : ∀ ds d, g ds = some d → FnOk W k μ f ds d) : TabOk W k μ (fun x ds => if x = f then g ds else Φ x ds) Ψ := by
  refine ⟨fun x ds d e => ?_, h.get, h.range⟩
  split at e
  · subst_vars; exact hg ds d e
  · exact h.fn x ds d e
theorem TabOk.get' {k : Nat} {μ : MM} {Φ Ψ : Str → List D → Option D} (h : TabOk W k μ Φ Ψ) {t : Str} {g : List D → Option D} (hg : ∀ ds d, g ds = some d → GetOk W k μ t ds d) : TabOk W k μ Φ (fun x ds => if x = t then g ds else Ψ x ds) := by
  refine ⟨h.fn, fun x ds d e => ?_, h.range⟩
  split at e
  · subst_vars; exact hg ds d e
  · exact h.get x ds d e
end

theorem str_eq (a b : String) : (Str.ofString a = Str.ofString b) = (a = b) := by
  rw [eq_iff_iff]; exact str_inj

theorem Φb_len_str {μ : MM} {x : Str} (h : x.length ≤ sizeLine) : Φb μ "len" [.str x] = some (.int x.length) := by simp [Φb, h]
theorem Φb_len_list {μ : MM} {ds : List D} (h : ds.length ≤ sizeLine) : Φb μ "len" [.list ds] = some (.int ds.length) := by simp [Φb, asList, h]
theorem Φb_len_ref {μ : MM} {a : Addr} {ds : List D} (hm : μ a = some (.lst ds)) (h : ds.length ≤ sizeLine) : Φb μ "len" [.ref a] = some (.int ds.length) := by simp [Φb, asList, hm, h]
theorem Φb_sum {μ : MM} {ns : List Int} : Φb μ "sum" [.list (ns.map .int)] = some (.int ns.sum) := by simp [Φb, asList, intsOf_map, str_eq]
theorem Φb_hex {μ : MM} {i : Int} (h : i.natAbs < 16 ^ 100) : Φb μ "hex" [.int i] = some (.str (hexS i)) := by
  unfold Φb; simp only [str_eq, reduceCtorEq, if_false, if_true, String.reduceEq]; rw [if_pos h]
theorem Φb_int {μ : MM} {i : Int} : Φb μ "isinstance" [.int i, .ty "int"] = some (.bool true) := by simp [Φb, str_eq]
theorem Φb_bool {μ : MM} {i : Int} : Φb μ "isinstance" [.int i, .ty "bool"] = some (.bool false) := by simp [Φb, str_eq]

theorem collect_flat {α : Type} {f : D → Option (List D)} {g : α → D} {h : α → List D} : ∀ {l : List α}, (∀ x ∈ l, f (g x) = some (h x)) → collect f (l.map g) = some (l.flatMap h)
  | [], _ => rfl
  | x :: l, e => by
    rw [List.map_cons, collect, e x List.mem_cons_self, collect_flat fun y hy => e y (List.mem_cons_of_mem _ hy)]
    rfl
theorem collect_map {α : Type} {f : D → Option (List D)} {g : α → D} {h : α → D} {l : List α} (e : ∀ x ∈ l, f (g x) = some [h x]) : collect f (l.map g) = some (l.map h) := by
  rw [collect_flat (h := fun x => [h x]) e, List.map_eq_flatMap]
theorem collect_filter {α : Type} {f : D → Option (List D)} {g : α → D} {h : α → D} {p : α → Bool} {l : List α} (e : ∀ x ∈ l, f (g x) = some (if p x then [h x] else [])) : collect f (l.map g) = some ((l.filter p).map h) := by
  rw [collect_flat (h := fun x => if p x then [h x] else []) e]
  congr 1
  clear e
  induction l with
  | nil => rfl
  | cons x l ih => rw [List.flatMap_cons, ih]; cases hp : p x <;> simp [hp]
theorem sized_of {ds : List D} (h : ds.length ≤ sizeLine) : sized ds = some (.list ds) := by simp [sized, h]

theorem rangeL_up (n : Nat) : rangeL 0 n 1 = (List.range n).map fun (i : Nat) => (i : Int) := by
  unfold rangeL Builtin.Range.rangeSize
  simp only [show (1 : Int) > 0 by decide, if_true, Int.ediv_one]
  by_cases h : (n : Int) > 0
  · simp only [h, if_true]
    have e : ((n : Int) - 0 - 1 + 1).toNat = n := by omega
    simp [e]
  · have : n = 0 := by omega
    subst this; simp
theorem rangeL_from (a n : Nat) : rangeL a n 1 = (List.range (n - a)).map fun (i : Nat) => ((a + i : Nat) : Int) := by
  unfold rangeL Builtin.Range.rangeSize
  simp only [show (1 : Int) > 0 by decide, if_true, Int.ediv_one]
  by_cases h : (n : Int) > a
  · simp only [h, if_true]
    have e : ((n : Int) - a - 1 + 1).toNat = n - a := by omega
    simp [e]
  · have : n - a = 0 := by omega
    simp [this, h]
end Mine

open PySem PySem.W PyProof.Rows
set_option Elab.async false
set_option linter.unusedVariables false
namespace Mine

/-- e has just been raised: it is a new StopIteration, and but for the iterator all stands -/
def Raised (h h' : Heap) (it e : Addr) : Prop :=
  (∀ b o, b ≠ it → h.get? b = some o → h'.get? b = some o) ∧ h.get? e = none ∧ ∃ oe vs a0, h'.get? e = some oe ∧ oe.cls = .type "StopIteration" ∧ oe.data = .fields vs ∧ vs[1]? = some .none ∧ vs[0]? = some a0

section
variable {W : Wd} {A : Around} {E : Value → Shared → Prop} {s : Shared}

theorem special_item {it l : Addr} {i : Nat} {items} {x : Value} {Q : Option Value → Shared → Prop} (hit : s.heap.IsListIter it l i)
    (hl : s.heap.IsList l items) (hx : items[i]? = some x)
    (hQ : ∀ h', h'.IsListIter it l (i + 1) → Heap.SameBut it s.heap h' → Q (some x) { s with heap := h' }) :
    wpAny W.M A (callSpecial? (.ref it) (Str.ofString "__next__")) Q E s := by
  obtain ⟨o, ho, hc, hd⟩ := id hit
  obtain ⟨ol, hol, _, nl, hdl⟩ := hl
  refine wpAny_callSpecial?_slot (name := Str.ofString "__next__") hit.typeIs slot_listiter_next
    (wpAny_call_entry slot_listiter_next hit.typeIs entry_listiter_next ?_ (args_listiter_next _))
  show wpAny _ _ (field (.ref it) 0 >>= _) _ _ s
  refine wpAny_bind (wpAny_field ho hd (x := .ref l) rfl ?_)
  show wpAny _ _ (if (Value.ref l == Value.none) = true then _ else _) _ _ s
  rw [if_neg (show ¬ ((Value.ref l == Value.none) = true) from Bool.false_ne_true)]
  show wpAny _ _ (field (.ref it) 1 >>= _) _ _ s
  refine wpAny_bind (wpAny_field ho hd (x := .int i 0) rfl ?_)
  show wpAny _ _ (seqItems? (.ref l) >>= _) _ _ s
  refine wpAny_bind (wpAny_seqItems hol hdl ?_)
  simp only [Int.toNat_natCast, hx]
  refine wpAny_bind (wpAny_setField ho hd (by simp) (wpAny_pure ⟨x, rfl, hQ _ ?_ (Heap.SameBut.update ..)⟩))
  exact ⟨_, Heap.get?_update_self _ ho (Obj.isFreed_of_fields (Obj.data_mapFields hd _)), (Obj.cls_mapFields ..).trans hc, by
    rw [Obj.data_mapFields hd]; simp [rawInt]⟩

theorem special_end {it l : Addr} {i : Nat} {items} {Q : Option Value → Shared → Prop} (hh : A.handled = none)
    (hit : s.heap.IsListIter it l i) (hl : s.heap.IsList l items) (hx : items[i]? = none)
    (hE : ∀ h' e, Raised s.heap h' it e → E (.ref e) { s with heap := h' }) : wpAny W.M A (callSpecial? (.ref it) (Str.ofString "__next__")) Q E s := by
  obtain ⟨o, ho, hc, hd⟩ := id hit
  obtain ⟨ol, hol, _, nl, hdl⟩ := hl
  refine wpAny_callSpecial?_slot (name := Str.ofString "__next__") hit.typeIs slot_listiter_next
    (wpAny_call_entry slot_listiter_next hit.typeIs entry_listiter_next ?_ (args_listiter_next _))
  show wpAny _ _ (field (.ref it) 0 >>= _) _ _ s
  refine wpAny_bind (wpAny_field ho hd (x := .ref l) rfl ?_)
  show wpAny _ _ (if (Value.ref l == Value.none) = true then _ else _) _ _ s
  rw [if_neg (show ¬ ((Value.ref l == Value.none) = true) from Bool.false_ne_true)]
  show wpAny _ _ (field (.ref it) 1 >>= _) _ _ s
  refine wpAny_bind (wpAny_field ho hd (x := .int i 0) rfl ?_)
  show wpAny _ _ (seqItems? (.ref l) >>= _) _ _ s
  refine wpAny_bind (wpAny_seqItems hol hdl ?_)
  simp only [Int.toNat_natCast, hx]
  refine wpAny_bind (wpAny_rule (wpAny_bind (wpAny_setField ho hd (by simp) ?_)))
  show wpAny _ _ (newExc (.type "StopIteration") [] >>= _) _ _ _
  refine wpAny_bind ?_
  simp only [newExc, newTuple]
  refine wpAny_bind (wpAny_newObj_type ?_ (by size_fits))
  refine wpAny_bind (m := firstArgMember _ _) (wpAny_of_eq (a := Value.none) (by first | rfl | (simp only [firstArgMember]; rfl)) ?_)
  refine wpAny_newObj_type ?_ (by size_fits)
  simp only [raiseNew]
  refine wpAny_bind (wpAny_handled ?_)
  first | rw [show A.in1.handled = none from hh] | rw [hh]
  refine wpAny_bind (wpAny_pure (wpAny_throw ?_))
  refine hE _ _ ⟨fun b ob hb e => ?_, ?_, _, _, _, Heap.get?_push_size _ rfl, rfl, rfl, rfl, rfl⟩
  · exact Heap.get?_push_of_some _ (Heap.get?_push_of_some _ ((Heap.get?_update_other _ _ (Ne.symm hb)).trans e))
  · refine Heap.get?_none_of_le ?_
    simp

theorem next_item {it l : Addr} {i : Nat} {items} {x : Value} {Q : Value → Shared → Prop} (hit : s.heap.IsListIter it l i)
    (hl : s.heap.IsList l items) (hx : items[i]? = some x)
    (hQ : ∀ h', h'.IsListIter it l (i + 1) → Heap.SameBut it s.heap h' → Q x { s with heap := h' }) :
    wpAny W.M A (call (.builtin "next") [.ref it]) Q E s := by
  refine Calls.call_function_entry (by decide +kernel) (by decide +kernel) PySem.W.kdk_entry_next (PySem.W.kdk_args_next _) ?_
  unfold Builtin.«next»
  refine wpAny_bind (m := someArgs "next" 1 2 _) (wpAny_of_eq (a := [Value.ref it]) (by first | rfl | kernel_rfl!) ?_)
  dsimp only
  refine wpAny_bind (wpAny_specialOf (name := Str.ofString "__next__") hit.typeIs slot_listiter_next.lookup ?_)
  refine wpAny_ite_split (fun hab => absurd hab (by decide)) (fun _ => ?_)
  refine wpAny_bind (special_item hit hl hx fun h' h1 h2 => ?_)
  exact wpAny_pure ⟨_, rfl, hQ h' h1 h2⟩

theorem next_end {it l : Addr} {i : Nat} {items} {Q : Value → Shared → Prop} (hh : A.handled = none) (hit : s.heap.IsListIter it l i)
    (hl : s.heap.IsList l items) (hx : items[i]? = none) (hE : ∀ h' e, Raised s.heap h' it e → E (.ref e) { s with heap := h' }) :
    wpAny W.M A (call (.builtin "next") [.ref it]) Q E s := by
  refine Calls.call_function_entry (by decide +kernel) (by decide +kernel) PySem.W.kdk_entry_next (PySem.W.kdk_args_next _) ?_
  unfold Builtin.«next»
  refine wpAny_bind (m := someArgs "next" 1 2 _) (wpAny_of_eq (a := [Value.ref it]) (by first | rfl | kernel_rfl!) ?_)
  dsimp only
  refine wpAny_bind (wpAny_specialOf (name := Str.ofString "__next__") hit.typeIs slot_listiter_next.lookup ?_)
  refine wpAny_ite_split (fun hab => absurd hab (by decide)) (fun _ => ?_)
  refine wpAny_bind (special_end hh hit hl hx fun h' e hr => ?_)
  exact hE h' e hr
end
end Mine

open PySem PySem.W PyProof.Rows
set_option Elab.async false
set_option linter.unusedVariables false
namespace Mine

/-- the statements end as K says, or the iterator it is at its end (and then PX) -/
def WpX (W : Wd) (A : Around) (fr : List Addr) (env : Env) (it : Addr) (PX : Prop) (ss : List Stmt) (Δ : Ctx) (μ : MM) (K : Out → Ctx → MM → Prop) : Prop :=
  ∀ B F₀ F s (Q : Flow → Shared → Prop) (E : Value → Shared → Prop), PassesOwn W.M A env E → Sf W fr B F₀ env Δ μ F s →
    (∀ o Δ' μ' F' s', K o Δ' μ' → Sf W fr B F₀ env Δ' μ' F' s' → Fin' Q F' s' o) →
    (PX → ∀ F₁ s₁ h' e, Sf W fr B F₀ env [] (fun _ => none) F₁ s₁ → Raised s₁.heap h' it e → E (.ref e) { s₁ with heap := h' }) → wpAny W.M A (execs ss env) Q E s
def Wp1X (W : Wd) (A : Around) (fr : List Addr) (env : Env) (it : Addr) (PX : Prop) (st : Stmt) (Δ : Ctx) (μ : MM) (K : Out → Ctx → MM → Prop) : Prop :=
  ∀ B F₀ F s (Q : Flow → Shared → Prop) (E : Value → Shared → Prop), PassesOwn W.M A env E → Sf W fr B F₀ env Δ μ F s →
    (∀ o Δ' μ' F' s', K o Δ' μ' → Sf W fr B F₀ env Δ' μ' F' s' → Fin' Q F' s' o) →
    (PX → ∀ F₁ s₁ h' e, Sf W fr B F₀ env [] (fun _ => none) F₁ s₁ → Raised s₁.heap h' it e → E (.ref e) { s₁ with heap := h' }) → wpAny W.M A (exec st env) Q E s

section
variable {W : Wd} {A : Around} {fr : List Addr} {env : Env} {Δ : Ctx} {μ : MM} {K : Out → Ctx → MM → Prop} {it : Addr} {PX : Prop}

theorem WpX.nil (h : K .next Δ μ) : WpX W A fr env it PX [] Δ μ K := fun B F₀ F s Q E hE S k x => wpAny_execs_nil (k _ _ _ F s h S)
theorem WpX.cons {st : Stmt} {rest : List Stmt} (h : Wp1X W A fr env it PX st Δ μ (fun o Δ' μ' => match o with | .next => WpX W A fr env it PX rest Δ' μ' K | o => K o Δ' μ')) : WpX W A fr env it PX (st :: rest) Δ μ K := fun B F₀ F s Q E hE S k x => by
  refine wpAny_execs_cons (h B F₀ F s _ E hE S (fun o Δ' μ' F' s' hk S' => ?_) x)
  cases o with
  | next => exact hk B F₀ F' s' Q E hE S' k x
  | brk => exact k _ _ _ F' s' hk S'
  | cont => exact k _ _ _ F' s' hk S'
  | ret d => exact fun v hv => k _ _ _ F' s' hk S' v hv
theorem Wp1.x {st : Stmt} (h : Wp1 W A fr env st Δ μ K) : Wp1X W A fr env it PX st Δ μ K := fun B F₀ F s Q E hE S k x => h B F₀ F s Q E S k

theorem Wp1X.assignNext {x src : Str} {px pn ps cp pos : Pos} {l : Addr} {i : Nat} {ds : List D} (hW : W.Ok) (hh : A.handled = none) (hn : GlobVal W "next" (.builtin "next")) (hkn : env.kindOf "next" = some .globalImplicit)
    (hk : env.kindOf x = some .local ∨ env.kindOf x = some .cell) (hs : Ev W A env Δ μ (.Name src ps) (.ref it)) (hm : μ it = some (.itr l i ds))
    (hend : ds[i]? = none → PX) (hnext : ∀ d, ds[i]? = some d → K .next ((x, d) :: Δ) (μ.set it (.itr l (i + 1) ds))) :
    Wp1X W A fr env it PX (.Assign [.Name x px] (.Call (.Name "next" pn) [.Name src ps] [] cp) pos) Δ μ K := fun B F₀ F s Q E hE S k hx => by
  refine wpAny_Assign_Name ?_ rfl
  refine Call_ (wpAny_Name (loadGlob hW S.st hn hkn ?_) (by decide)) rfl
  refine callWith_any (.inl ⟨_, rfl⟩) (.cons rfl hs .nil) (by simp) S.st fun F₁ s₁ vs x₁ r => ?_
  rw [RelVs] at r; obtain ⟨v, r', rfl, h1, h2⟩ := r
  rw [RelVs] at h2; subst h2
  rw [RelV] at h1; subst h1
  have S₁ := S.ext x₁
  obtain ⟨hF, hit, us, n, hl, hr⟩ := S₁.st.mu it _ hm
  have hlist := lobj_isList (S₁.st.sub _ _ hl)
  cases hd : ds[i]? with
  | some d =>
    obtain ⟨v, hv, rv⟩ := hr.get hd
    refine next_item hit hlist (by simpa using hv) fun h' hit' hs' => ?_
    refine store_sf (same_sf (tk := s₁.toks) S₁ hm hs' (m' := .itr l (i + 1) ds) ⟨hit', us, n, hl, hr⟩) hk rv fun s' S' => k _ _ _ F₁ s' (hnext d hd) S'
  | none =>
    refine next_end hh hit hlist (by
      have := List.getElem?_eq_none_iff.mp hd
      simp [hr.length]; exact this) fun h' e hr' => ?_
    exact hx (hend hd) F₁ s₁ h' e ((S₁.weakenV fun _ _ e => by cases e).weakenM fun _ _ e => by cases e) hr'

theorem Wp1X.while_ {t : Expr} {body : List Stmt} {pos : Pos} (I : Nat → Ctx → MM → Prop) (n₀ : Nat) (h0 : I n₀ Δ μ)
    (hturn : ∀ n Δ' μ', I n Δ' μ' → ∃ b, Tst W A env Δ' μ' t b ∧ (b = false → K .next Δ' μ') ∧ (b = true → WpX W A fr env it PX body Δ' μ' (fun o Δ'' μ'' => o = .next ∧ ∃ m, m < n ∧ I m Δ'' μ''))) :
    Wp1X W A fr env it PX (.While t body [] pos) Δ μ K := fun B F₀ F s Q E hE S k hx => by
  refine wpAny_While (codeAny_whileLoop (fun n s' => ∃ Δ' μ' F', I n Δ' μ' ∧ Sf W fr B F₀ env Δ' μ' F' s') ?_ n₀ ⟨Δ, μ, F, h0, S⟩)
  rintro n s' ⟨Δ', μ', F', hI, S'⟩
  obtain ⟨b, ht, hf, htr⟩ := hturn n Δ' μ' hI
  refine wpAny_mono (ht F' s' _ S'.st) (fun v s₁ h₁ => ?_) fun _ _ e => e
  obtain ⟨F₁, x₁, rfl⟩ := h₁
  have S₁ := S'.ext x₁
  cases v with
  | false => simp only [Bool.false_eq_true, if_false]; exact wpAny_execs_nil (k .next _ _ _ _ (hf rfl) S₁)
  | true =>
    simp only [if_true]
    refine wpAny_passesOwn hE (htr rfl B F₀ F₁ s₁ _ E hE S₁ (fun o Δ'' μ'' F'' s'' hK S'' => ?_) hx)
    obtain ⟨rfl, m, hm, hIm⟩ := hK
    exact ⟨m, hm, Δ'', μ'', F'', hIm, S''⟩

theorem St.extBut {F F' : FM} {s s' : Shared} {X : List Addr} (S : St W env Δ μ F s) (x : ExtBut X F s F' s') (inn : ∀ a o, F' a = some o → s'.heap.get? a = some o)
    (hX : ∀ b ∈ X, F' b = none ∧ μ b = none ∧ b ≠ env.locals ∧ ∀ y, (y, b) ∉ env.cells) : St W env Δ μ F' s' := by
  have hFX : ∀ b ∈ X, F b = none := fun b hb => by
    cases e : F b with
    | none => rfl
    | some o => have := x.sub b o e; rw [(hX b hb).1] at this; cases this
  have S' : St W env Δ μ F s' := S.frame x.keeps fun b hb => ⟨hFX b hb, (hX b hb).2⟩
  have hnone : ∀ a, F a = none → (∃ o, s.heap.get? a = some o) → F' a = none := fun a h1 ⟨o, h2⟩ => by
    by_cases ha : a ∈ X
    · exact (hX a ha).1
    · cases h3 : F' a with
      | none => rfl
      | some o' =>
        rcases x.new a (by rw [h3]; simp) h1 with h4 | h4
        · rw [h2] at h4; cases h4
        · exact absurd h4 ha
  refine ⟨S'.eok, S'.same, fun b o e => x.sub _ _ (S.base b o e), inn, fun y d e => ?_, fun a m e => ?_, S'.ns, ?_, S'.nsM, fun y c hc => ?_, S'.apart⟩
  · obtain ⟨v, h1, h2⟩ := S'.vars y d e; exact ⟨v, h1, h2.mono x.sub⟩
  · obtain ⟨h1, h2⟩ := S'.mu a m e
    obtain ⟨_, h3⟩ := S.mu a m e
    exact ⟨hnone a h1 h3.some, h2.keeps x.sub fun _ _ e => e⟩
  · obtain ⟨m, o, es, ep, e, _⟩ := S.ns
    exact hnone _ S.nsF ⟨_, e⟩
  · obtain ⟨h1, h2, h3, h4⟩ := S'.cellF y c hc
    obtain ⟨_, _, _, v, o, e, _⟩ := S.cellF y c hc
    exact ⟨hnone _ h1 ⟨_, e⟩, h2, h3, h4⟩
end
end Mine

open PySem PySem.W PyProof.Rows
set_option Elab.async false
set_option linter.unusedVariables false
namespace Mine

def oneM (a : Addr) (m : MObj) : MM := fun b => if b = a then some m else none
def framesOf (l : List Env) : List Addr := l.filterMap (·.frame)

section
variable {W : Wd}

theorem back_sf {fr : List Addr} {B F₀ F F' : FM} {env fenv : Env} {Δ Δ' : Ctx} {μ μ' : MM} {s s' : Shared} {it l : Addr} {i n : Nat} {ds : List D} (S : Sf W fr B F₀ env Δ μ F s) (hit : μ it = some (.itr l i ds))
    (S' : Sf W [] (fun b => if b = it then none else s.heap.get? b) F fenv Δ' μ' F' s') (hmu : μ' it = some (.itr l (i + n) ds)) : Sf W fr B F₀ env Δ (μ.set it (.itr l (i + n) ds)) F' s' := by
  have hBne : ∀ b ob, b ≠ it → s.heap.get? b = some ob → (if b = it then none else s.heap.get? b) = some ob := fun b ob hb e => by rw [if_neg hb]; exact e
  obtain ⟨hF'it, hM'it⟩ := S'.st.mu it _ hmu
  have xb : ExtBut [it] F s F' s' := by
    refine ⟨?_, S'.fsub, fun b h1 h2 => ?_⟩
    · obtain ⟨h₀, tk, e0⟩ := S.st.same
      obtain ⟨h', tk', e1⟩ := S'.st.same
      refine ⟨h', tk', by rw [e1, e0], fun b ob hb e => ?_⟩
      have := S'.exact (hBne b ob (by simpa using hb) e) (by simp); rw [e1] at this; exact this
    · have := S'.fnew b h1 h2
      by_cases hb : b = it
      · exact .inr (by simp [hb])
      · rw [if_neg hb] at this; exact .inl this
  have hL : it ≠ env.locals := fun e => by rw [e, S.st.nsM] at hit; cases hit
  have hC : ∀ y, (y, it) ∉ env.cells := fun y hc => by rw [(S.st.cellF y it hc).2.1] at hit; cases hit
  have S0 : St W env Δ (fun b => if b = it then none else μ b) F' s' :=
    (S.st.weakenM (μ' := fun b => if b = it then none else μ b) (fun b m e => by split at e; cases e; exact e)).extBut xb S'.st.sub (fun b hb => by
      simp at hb; subst hb; exact ⟨hF'it, by simp, hL, hC⟩)
  have e : (MM.set (fun b => if b = it then none else μ b) it (.itr l (i + n) ds)) = μ.set it (.itr l (i + n) ds) := by
    funext b; unfold MM.set; by_cases hb : b = it <;> simp [hb]
  have S1 := S0.addM (by simp) hF'it hL hC hM'it
  rw [e] at S1
  refine ⟨S1, fun b ob hB => ?_, S.frB, S.frF₀, S.loc, S.cel, fun b m e => ?_, S.fsub.trans S'.fsub, fun b h1 h2 => ?_⟩
  · obtain ⟨sl, g1, g2⟩ := S.keep b ob hB
    have hb : b ≠ it := fun e => by rw [e, S.own it _ hit] at hB; cases hB
    exact ⟨sl, S'.exact (hBne b _ hb g1) (by simp), g2⟩
  · unfold MM.set at e; split at e
    · subst_vars; exact S.own _ _ hit
    · exact S.own b m e
  · cases e3 : F b with
    | some ob => exact S.fnew b (by rw [e3]; simp) h2
    | none =>
      have := S'.fnew b h1 e3
      by_cases hb : b = it
      · subst hb; exact S.own _ _ hit
      · rw [if_neg hb] at this
        cases e4 : B b with
        | none => rfl
        | some o4 => obtain ⟨o', h6⟩ := S.there e4; rw [this] at h6; cases h6

theorem callX {k : Nat} {f p : Str} {params : Arguments} {body : List Stmt} {scope : Scope} {it l : Addr} {i : Nat} {ds : List D} {PX : Prop} {R : Int → Nat → Prop} (hW : W.Ok) (hfn : FnAt W f params body scope) (hs : FnScope scope [p])
    (hbind : ∀ pm code doc v, bindArgs (Calls.docDef f params body scope pm code doc) ⟨[v], []⟩ = pure [(p, v)])
    (hbody : ∀ A env, GoodA A k → EnvOk env → env.scope = scope → WpX W A [] env it PX body [(p, .ref it)] (oneM it (.itr l i ds)) (fun o Δ' μ' => ∃ v n, R v n ∧ o = .ret (.int v) ∧ μ' it = some (.itr l (i + n) ds))) :
    ∃ fv, GlobVal W f fv ∧ Keeper W fv ∧ ∀ (A : Around) (env : Env) (outer : List Env) (fr : List Addr) (B F₀ F : FM) (Δ : Ctx) (μ : MM) (s : Shared) (Q : Value → Shared → Prop) (E : Value → Shared → Prop),
      GoodA A (k + 1) → A.frames = some (env :: outer) → env.frame = some env.locals → (∀ e ∈ outer, e.scope.kind ≠ .module ∧ ∃ L ∈ fr, e.frame = some L) → Sf W fr B F₀ env Δ μ F s → μ it = some (.itr l i ds) →
      (∀ v n t F' s', R v n → Sf W fr B F₀ env Δ (μ.set it (.itr l (i + n) ds)) F' s' → Q (.int v t) s') →
      (PX → ∀ s' e base a0, (∃ h tk, s' = { W.s₁ with heap := h, toks := tk }) → Heap.FlyingW base (env :: outer) e (.type "StopIteration") a0 s'.heap → s.heap.UpToSlots s'.heap →
        (∀ b o, b ≠ it → b ∉ framesOf (env :: outer) → s.heap.get? b = some o → base.get? b = some o) → E (.ref e) s') → wpAny W.M A (call fv [.ref it]) Q E s := by
  obtain ⟨a, o, pm, code, doc, hm, ho, hd, hcode⟩ := hfn
  refine ⟨.ref a, .inl hm, .inr (.inr ⟨a, o, _, rfl, ho, hd⟩), fun A env outer fr B F₀ F Δ μ s Q E hA hfr henv hout S hit hq hx => ?_⟩
  obtain ⟨hFit, hMit⟩ := S.st.mu it _ hit
  obtain ⟨oit, hoit⟩ := hMit.some
  refine enterF hW ho hd hcode hs (ds := [.ref it]) rfl (fun vs hv => by obtain ⟨v, rfl⟩ : ∃ v, vs = [v] := ⟨vs.head (by rintro rfl; cases hv), by cases vs with | nil => cases hv | cons v r => cases r with | nil => rfl | cons => cases hv⟩; exact hbind pm code doc v) (fr := []) (B := fun b => if b = it then none else s.heap.get? b) (μ₀ := oneM it (.itr l i ds)) hA S.st.same S.st.base S.st.sub (RelVs.one (by rw [RelV])) (fun b m e => ?_) (fun b ob e => ?_) (fun b hb => by cases hb) fun fenv s₁ hA' eok hsc hframe hfl Sfn => ?_
  · unfold oneM at e; split at e
    · cases e; subst_vars; exact ⟨hFit, if_pos rfl, hMit⟩
    · cases e
  · split at e
    · cases e
    · exact e
  have hBne : ∀ b ob, b ≠ it → s.heap.get? b = some ob → (if b = it then none else s.heap.get? b) = some ob := fun b ob hb e => by rw [if_neg hb]; exact e
  refine hbody (A.deeper fenv) fenv hA' eok hsc _ F F s₁ _ _ PassesOwn.leaving Sfn (fun o' Δ' μ' F' s' hK S' => ?_) fun px F₁ s₂ h' e S₂ hr => ?_
  · obtain ⟨v, n, hR, rfl, hmu⟩ := hK
    intro w hv
    rw [RelV] at hv; obtain ⟨t, rfl⟩ := hv
    show Q (.int v t) s'
    refine hq v n t F' s' hR ?_
    exact back_sf S hit S' hmu
  · obtain ⟨hr1, hr2, oe, vs, a0, he, hcls, hdat, hv1, hv0⟩ := hr
    obtain ⟨hd', tk', e1⟩ := S₂.st.same
    have keep2 : ∀ b ob, b ≠ it → s.heap.get? b = some ob → h'.get? b = some ob := fun b ob hb e => hr1 b ob hb (S₂.exact (hBne b ob hb e) (by simp))
    have hbs : ∀ b ob, (hideAll s.heap (it :: framesOf (env :: outer))).get? b = some ob → b ≠ it ∧ s.heap.get? b = some ob := fun b ob e => by
      refine ⟨fun hb => ?_, of_hideAll _ e⟩
      rw [hideAll_none _ (by simp [hb])] at e; cases e
    have hstay : (hideAll s.heap (it :: framesOf (env :: outer))).StaysIn h' := fun b ob e => by
      obtain ⟨g1, g2⟩ := hbs b ob e; exact keep2 b ob g1 g2
    have hen : (hideAll s.heap (it :: framesOf (env :: outer))).get? e = none := by
      cases e3 : (hideAll s.heap (it :: framesOf (env :: outer))).get? e with
      | none => rfl
      | some ob =>
        obtain ⟨g1, g2⟩ := hbs e ob e3
        have := S₂.exact (hBne e ob g1 g2) (by simp); rw [hr2] at this; cases this
    have hLenv : it ≠ env.locals := fun e => by rw [e, S.st.nsM] at hit; cases hit
    have hcons : h'.FunFrames (hideAll s.heap (it :: framesOf (env :: outer))) (fenv :: env :: outer) := by
      refine ⟨by rw [hsc, hs.kind]; decide, ?_, ⟨by rw [S.st.eok.kind]; decide, ?_, ?_⟩⟩
      · obtain ⟨m, oo, es, ep, q1, q2, _⟩ := S₂.st.ns
        refine ⟨fenv.locals, oo, hframe, ?_, hr1 _ _ (fun e9 => by rw [e9, hoit] at hfl; cases hfl) q1, fun vs' e => by rw [q2] at e; cases e⟩
        cases e3 : (hideAll s.heap (it :: framesOf (env :: outer))).get? fenv.locals with
        | none => rfl
        | some ob => have := (hbs _ _ e3).2; rw [hfl] at this; cases this
      · obtain ⟨m, oo, es, ep, q1, q2, _⟩ := S.st.ns
        exact ⟨env.locals, oo, henv, hideAll_none _ (by simp [framesOf, henv]), keep2 _ _ (Ne.symm hLenv) q1, fun vs' e => by rw [q2] at e; cases e⟩
      · have hall : ∀ l' : List Env, (∀ x ∈ l', x ∈ outer) → h'.FunFrames (hideAll s.heap (it :: framesOf (env :: outer))) l' := by
          intro l'
          induction l' with
          | nil => intro _; trivial
          | cons x l' ih =>
            intro hx'
            obtain ⟨g1, L, g2, g3⟩ := hout x (hx' x List.mem_cons_self)
            obtain ⟨oo, g4, g5⟩ := S.frB L g2
            obtain ⟨sl, g6, _⟩ := S.keep L oo g4
            have hLit : L ≠ it := fun e => by rw [e, S.own it _ hit] at g4; cases g4
            refine ⟨g1, ⟨L, _, g3, hideAll_none _ ?_, keep2 L _ hLit g6, g5⟩, ih fun y hy => hx' y (List.mem_cons_of_mem _ hy)⟩
            refine List.mem_cons_of_mem _ ?_
            unfold framesOf
            exact List.mem_filterMap.mpr ⟨x, List.mem_cons_of_mem _ (hx' x List.mem_cons_self), g3⟩
        exact hall outer fun _ h => h
    refine wpAny_leaving_firstW (s := { s₂ with heap := h' }) (base := hideAll s.heap (it :: framesOf (env :: outer))) (Around.frames_deeper hfr) hcons hframe he hstay hen hdat hv1 hv0 fun h'' hL => ?_
    obtain ⟨k1, ⟨_, _, k2⟩, k3, k4⟩ := hL
    rw [hcls] at k3
    refine hx px _ e (hideAll s.heap (it :: framesOf (env :: outer))) a0 ?_ ⟨k1, hen, k2, k3⟩ (fun b ob e3 hnf => ?_) fun b ob g1 g2 g3 => ?_
    · exact ⟨h'', s₂.toks, by rw [e1]⟩
    · have hb : b ≠ it := fun hb => by
        subst hb
        obtain ⟨⟨oo, q1, q2, q3⟩, _⟩ := hMit
        rw [q1] at e3; cases e3; exact hnf _ q3
      exact k4 b ob (keep2 b ob hb e3) hnf
    · exact hideAll_get _ g3 (by simp; exact ⟨g1, g2⟩)
end
end Mine

open PySem PySem.W PyProof.Rows
set_option Elab.async false
set_option linter.unusedVariables false
namespace Mine

def dropM (μ : MM) (a : Addr) : MM := fun b => if b = a then none else μ b

section
variable {W : Wd} {A : Around} {fr : List Addr} {env : Env} {Δ : Ctx} {μ : MM} {K : Out → Ctx → MM → Prop} {B F₀ F : FM} {s s' : Shared}

theorem IsCell_of {h h' : Heap} {c : Addr} {v : Option Value} (k : ∀ o, h.get? c = some o → h'.get? c = some o) (x : h.IsCell c v) : h'.IsCell c v := by
  obtain ⟨o, ho, hd⟩ := x; exact ⟨o, k o ho, hd⟩

/-- an exception has passed: but for the iterator and the frames' slots all stands -/
theorem Sf.land (S : Sf W fr B F₀ env Δ μ F s) {it : Addr} {m₀ : MObj} {outer : List Env} (hit : μ it = some m₀) (henv : env.frame = some env.locals) (hout : ∀ e ∈ outer, e.scope.kind ≠ .module ∧ ∃ L ∈ fr, e.frame = some L)
    (hsame : ∃ h tk, s' = { W.s₁ with heap := h, toks := tk }) (hk : ∀ b o, b ≠ it → b ∉ framesOf (env :: outer) → s.heap.get? b = some o → s'.heap.get? b = some o) (hup : s.heap.UpToSlots s'.heap) :
    Sf W fr B F₀ env Δ (dropM μ it) F s' := by
  have hfrm : ∀ b ∈ framesOf (env :: outer), b = env.locals ∨ b ∈ fr := fun b hb => by
    unfold framesOf at hb
    obtain ⟨x, hx, hb'⟩ := List.mem_filterMap.mp hb
    rcases List.mem_cons.mp hx with rfl | hx
    · rw [henv] at hb'; cases hb'; exact .inl rfl
    · obtain ⟨_, L, h1, h2⟩ := hout x hx
      rw [h2] at hb'; cases hb'; exact .inr h1
  have hFit : F it = none := (S.st.mu it _ hit).1
  have hFfr : ∀ b ∈ framesOf (env :: outer), F b = none := fun b hb => by
    rcases hfrm b hb with rfl | h
    · exact S.st.nsF
    · exact S.frF h
  have hMfr : ∀ b ∈ framesOf (env :: outer), μ b = none := fun b hb => by
    rcases hfrm b hb with rfl | h
    · exact S.st.nsM
    · obtain ⟨o, h1, _⟩ := S.frB b h
      cases e : μ b with
      | none => rfl
      | some m => rw [S.own b m e] at h1; cases h1
  have hCfr : ∀ y c, (y, c) ∈ env.cells → c ∉ framesOf (env :: outer) := fun y c hc hm => by
    rcases hfrm c hm with h | h
    · exact (S.st.cellF y c hc).2.2.1 h
    · obtain ⟨o, h1, _⟩ := S.frB c h
      rw [S.cel y c hc] at h1; cases h1
  have hCit : ∀ y c, (y, c) ∈ env.cells → c ≠ it := fun y c hc e => by
    have := (S.st.cellF y c hc).2.1; rw [e, hit] at this; cases this
  have keepF : ∀ a o, F a = some o → s'.heap.get? a = some o := fun a o e => hk a o (fun h => by rw [h, hFit] at e; cases e) (fun h => by rw [hFfr a h] at e; cases e) (S.st.sub a o e)
  have keepC : ∀ y c, (y, c) ∈ env.cells → ∀ o, s.heap.get? c = some o → s'.heap.get? c = some o := fun y c hc o e => hk c o (hCit y c hc) (hCfr y c hc) e
  refine ⟨⟨S.st.eok, hsame, S.st.base, keepF, fun x d hx => ?_, fun a m e => ?_, ?_, S.st.nsF, ?_, fun y c hc => ?_, S.st.apart⟩, fun b o hB => ?_, S.frB, S.frF₀, S.loc, S.cel, fun a m e => ?_, S.fsub, S.fnew⟩
  · obtain ⟨v, hv, rv⟩ := S.st.vars x d hx
    refine ⟨v, ?_, rv⟩
    rcases hv with ⟨h1, m', hm', hmy⟩ | ⟨h1, c, hc, hv'⟩ | h1
    · exact .inl ⟨h1, m', hup.ns hm', hmy⟩
    · exact .inr (.inl ⟨h1, c, hc, IsCell_of (keepC x c (mem_of_lookup hc)) hv'⟩)
    · exact .inr (.inr h1)
  · unfold dropM at e; split at e
    · cases e
    · rename_i ha
      obtain ⟨h1, h2⟩ := S.st.mu a m e
      exact ⟨h1, h2.same fun o e' => hk a o ha (fun h => by rw [hMfr a h] at e; cases e) e'⟩
  · obtain ⟨m, hn⟩ := S.st.ns; exact ⟨m, hup.ns hn⟩
  · unfold dropM; split
    · rfl
    · exact S.st.nsM
  · obtain ⟨h1, h2, h3, v, h4⟩ := S.st.cellF y c hc
    exact ⟨h1, by unfold dropM; split; rfl; exact h2, h3, v, IsCell_of (keepC y c hc) h4⟩
  · obtain ⟨sl, g1, g2⟩ := S.keep b o hB
    have hb : b ≠ it := fun e => by rw [e, S.own it _ hit] at hB; cases hB
    by_cases hf : b ∈ framesOf (env :: outer)
    · rcases hfrm b hf with h | h
      · rw [h, S.loc] at hB; cases hB
      · obtain ⟨o', h1, h2⟩ := S.frB b h
        rw [hB] at h1; cases h1
        obtain ⟨sl', q⟩ := hup b _ g1 h2
        exact ⟨sl', q, fun hn => absurd h hn⟩
    · exact ⟨sl, hk b _ hb hf g1, g2⟩
  · unfold dropM at e; split at e
    · cases e
    · exact S.own a m e

theorem exc_stop : isSubtype (.type "StopIteration") (.type "BaseException") = pure true := by rw [isSubtype_type]; kernel_rfl
theorem nt_stop : isSubtype (.type ((Manifest.find? "StopIteration").elim "type" fun x => x.metatype)) (.type "tuple") = pure false := by
  rw [show ((Manifest.find? "StopIteration").elim "type" fun x => x.metatype) = "type" by decide +kernel, isSubtype_type]; kernel_rfl

def FnX (W : Wd) (k : Nat) (f : Str) (it l : Addr) (i : Nat) (ds : List D) (PX : Prop) (R : Int → Nat → Prop) : Prop :=
    ∃ fv, GlobVal W f fv ∧ Keeper W fv ∧ ∀ (A : Around) (env : Env) (outer : List Env) (fr : List Addr) (B F₀ F : FM) (Δ : Ctx) (μ : MM) (s : Shared) (Q : Value → Shared → Prop) (E : Value → Shared → Prop),
      GoodA A (k + 1) → A.frames = some (env :: outer) → env.frame = some env.locals → (∀ e ∈ outer, e.scope.kind ≠ .module ∧ ∃ L ∈ fr, e.frame = some L) → Sf W fr B F₀ env Δ μ F s → μ it = some (.itr l i ds) →
      (∀ v n t F' s', R v n → Sf W fr B F₀ env Δ (μ.set it (.itr l (i + n) ds)) F' s' → Q (.int v t) s') →
      (PX → ∀ s' e base a0, (∃ h tk, s' = { W.s₁ with heap := h, toks := tk }) → Heap.FlyingW base (env :: outer) e (.type "StopIteration") a0 s'.heap → s.heap.UpToSlots s'.heap →
        (∀ b o, b ≠ it → b ∉ framesOf (env :: outer) → s.heap.get? b = some o → base.get? b = some o) → E (.ref e) s') → wpAny W.M A (call fv [.ref it]) Q E s

theorem Wp1.tryRead {told src f : Str} {pt ps pf apos cp cp2 ep hp np rp rp2 pos : Pos} {k : Nat} {it l a : Addr} {i : Nat} {ds ys : List D} {PX : Prop} {R : Int → Nat → Prop} {outer : List Env}
    (hW : W.Ok) (hA : GoodA A (k + 1)) (hfr : A.frames = some (env :: outer)) (henv : env.frame = some env.locals) (hout : ∀ e ∈ outer, e.scope.kind ≠ .module ∧ ∃ L ∈ fr, e.frame = some L)
    (hf : FnX W k f it l i ds PX R) (hkf : env.kindOf f = some .globalImplicit) (hdf : (f == ("__debug__" : Str)) = false) (hst : GlobVal W "StopIteration" (.type "StopIteration")) (hks : env.kindOf "StopIteration" = some .globalImplicit)
    (ht : Δ.lookup told = some (.ref a)) (hkt : (told == ("__debug__" : Str)) = false ∧ (told == ("__classdict__" : Str)) = false) (ha : μ a = some (.lst ys)) (hsrc : Δ.lookup src = some (.ref it)) (hksrc : (src == ("__debug__" : Str)) = false ∧ (src == ("__classdict__" : Str)) = false)
    (hit : μ it = some (.itr l i ds)) (hsz : ys.length ≤ sizeLine) (hline : (apos.endLine == cp.line) = true)
    (hnext : ∀ v n, R v n → K .next Δ ((μ.set it (.itr l (i + n) ds)).set a (.lst (ys ++ [.int v])))) (hstop : PX → K (.ret (.list ys)) [] (fun _ => none)) :
    Wp1 W A fr env (.Try [.Expr (.Call (.Attribute (.Name told pt) "append" apos) [.Call (.Name f pf) [.Name src ps] [] cp2] [] cp) ep]
      [.ExceptHandler (some (.Name "StopIteration" np)) none [.Return (some (.Name told rp)) rp2] hp] [] [] pos) Δ μ K := fun B F₀ F s Q E S kk => by
  obtain ⟨fv, hg, hkp, hcall⟩ := hf
  have hait : a ≠ it := fun e => by rw [e, hit] at ha; cases ha
  refine wpAny_Try_except ?_
  refine wpAny_execs_cons (wpAny_Expr ?_ (interactive_fn S.st.eok.kind) rfl)
  have ho : Ev W A env Δ μ (.Name told pt) (.ref a) := Ev.name hW ht hkt.1 hkt.2
  refine Call_method1 (base_eq rfl _) (starEach_cons rfl) hline (wpAny_mono (ho F s _ S.st) (fun v s₁ h₁ => ?_) fun _ _ e => e)
  obtain ⟨F₁, x₁, r₁⟩ := h₁
  rw [RelV] at r₁; subst r₁
  have S₁ := S.ext x₁
  obtain ⟨hF, vs, n, hg1, hr⟩ := S₁.st.mu a _ ha
  refine ⟨"list", "list.append", PySem.F.plainAttrs_list, PySem.F.slot_list_append, PySem.F.type_list_append, ⟨_, hg1, rfl⟩, (fun b e => by cases e; exact ⟨_, hg1, rfl⟩), ?_⟩
  refine Calls.callWith_builtin rfl (Calls.evalArgs_plain (Calls.spliced_cons ?_))
  refine Call_ (wpAny_Name (loadGlob hW S₁.st hg hkf ?_) hdf) rfl
  refine callWith_any hkp (.cons rfl (Ev.name hW hsrc hksrc.1 hksrc.2) .nil) (by simp) S₁.st fun F₂ s₂ vs₂ x₂ r₂ => ?_
  rw [RelVs] at r₂; obtain ⟨v₂, r', rfl, q1, q2⟩ := r₂
  rw [RelVs] at q2; subst q2
  rw [RelV] at q1; subst q1
  have S₂ := S₁.ext x₂
  refine hcall A env outer fr B F₀ F₂ Δ μ s₂ _ _ hA hfr henv hout S₂ hit (fun v n t F' s' hR S' => ?_) (fun px s' e base a0 hsame hfl hup hk => ?_)
  · refine Calls.spliced_nil ?_
    refine append_sf (d := .int v) S' (ys := ys) (by rw [MM.set_ne hait]; exact ha) (by rw [RelV]; exact ⟨_, rfl⟩) hsz fun s'' S'' => ?_
    exact wpAny_execs_nil (wpAny_execs_nil (kk .next _ _ _ _ (hnext v n hR) S''))
  · refine wpAny_looks_onW hfr henv hfl fun h₄ hheld₄ hsm₄ => ?_
    refine wpAny_landsW (s := { s' with heap := h₄ }) hheld₄ fun h₅ hfl₅ hsm₅ => ?_
    have S₅ : Sf W fr B F₀ env Δ (dropM μ it) F₂ { s' with heap := h₅ } := S₂.land hit henv hout (by obtain ⟨h, tk, e⟩ := hsame; exact ⟨h₅, s'.toks, by rw [e]⟩)
      (fun b o g1 g2 g3 => hfl₅.1 b o (hk b o g1 g2 g3)) ((hup.trans hsm₄).trans hsm₅)
    refine wpAny_handleBy_builtin (X := "StopIteration") (T := "StopIteration") (b := true) exc_stop nt_stop isSubtype_stop (wpAny_Name (loadGlob hW S₅.st hst hks ?_) (by decide))
    obtain ⟨ob, hob, hobc⟩ := hfl₅.there
    refine ⟨rfl, ⟨ob, hob, hobc⟩, ?_⟩
    simp only [if_true]
    refine lands_againW (s := { s' with heap := h₅ }) hfl₅ fun h₆ hfl₆ hsm₆ => ?_
    have S₆ : Sf W fr B F₀ env Δ (dropM μ it) F₂ { s' with heap := h₆ } := S₂.land hit henv hout (by obtain ⟨h, tk, e⟩ := hsame; exact ⟨h₆, s'.toks, by rw [e]⟩)
      (fun b o g1 g2 g3 => hfl₆.1 b o (hk b o g1 g2 g3)) (((hup.trans hsm₄).trans hsm₅).trans hsm₆)
    obtain ⟨v, hv, rv⟩ := S₆.st.vars told _ ht
    rw [RelV] at rv; subst rv
    refine wpAny_execs_cons (wpAny_Return_some (wpAny_Name (loadVar hW S₆.st hv ?_ hkt.2) hkt.1))
    obtain ⟨F₇, S₇, _, hrel⟩ := S₆.freeze (a := a) (ds := ys) (Δ' := []) (μ' := fun _ => none) (by unfold dropM; rw [if_neg hait]; exact ha) (fun _ _ e => by cases e) (fun _ _ e => by cases e)
    exact kk (.ret (.list ys)) _ _ F₇ _ (hstop px) S₇ (.ref a) (hrel _ (by rw [RelV]))

/-- iter(xs) of a frozen list -/
theorem EvA.iter {p pos : Pos} {e : Expr} {ds : List D} {P : D → MM → Prop} (hW : W.Ok) (hi : GlobVal W "iter" (.builtin "iter")) (hk : env.kindOf "iter" = some .globalImplicit) (hn : notStar e = true) (he : Ev W A env Δ μ e (.list ds))
    (hp : ∀ a l, μ a = none → P (.ref a) (μ.set a (.itr l 0 ds))) : EvA W A fr env Δ μ (.Call (.Name "iter" p) [e] [] pos) P := fun B F₀ F s E S => by
  refine Call_ (wpAny_Name (loadGlob hW S.st hi hk ?_) (by decide)) rfl
  refine callWith_any (.inl ⟨_, rfl⟩) (.cons hn he .nil) (by simp) S.st fun F₁ s₁ vs x r => ?_
  rw [RelVs] at r; obtain ⟨v, r', rfl, h1, h2⟩ := r
  rw [RelVs] at h2; subst h2
  rw [RelV] at h1; obtain ⟨l, us, n, rfl, hl, hr⟩ := h1
  have S₁ := S.ext x
  refine Calls.call_function_entry (by decide +kernel) (by decide +kernel) PySem.W.kdk_entry_iter (PySem.W.kdk_args_iter _) ?_
  unfold Builtin.«iter»
  refine wpAny_bind (m := someArgs "iter" 1 2 _) (wpAny_of_eq (a := [Value.ref l]) (by first | rfl | kernel_rfl!) ?_)
  show wpAny _ _ (pyIter (.ref l) >>= _) _ _ _
  refine wpAny_bind (wpAny_pyIter_list (lobj_isList (S₁.st.sub _ _ hl)) ?_)
  refine wpAny_pure ⟨_, rfl, ?_⟩
  have x' := Ext.ofKeeps (F := F₁) S₁.st.sub (Keeps.push s₁ { cls := .type "list_iterator", data := .fields #[.ref l, .int 0 0] })
  obtain ⟨S₂, hμ⟩ := S₁.addM (a := s₁.heap.objs.size) x' (noneF S₁.st) fresh_get (m := .itr l 0 ds) ⟨⟨_, Heap.get?_push_size _ rfl, rfl, rfl⟩, us, n, hl, hr⟩
  exact ⟨.ref s₁.heap.objs.size, _, F₁, hp _ l hμ, S₂, x.sub, by rw [RelV]⟩
end
end Mine

open PySem PySem.W PyProof.Rows
set_option Elab.async false
set_option linter.unusedVariables false
namespace Mine

section
variable {W : Wd} {A : Around} {fr : List Addr} {env : Env} {Δ : Ctx} {μ : MM} {K : Out → Ctx → MM → Prop} {B F₀ F F' : FM} {s s' : Shared}

/-- a call that may have touched the frames' slots is over -/
theorem Sf.over (S : Sf W fr B F₀ env Δ μ F s) {outer : List Env} (henv : env.frame = some env.locals) (hout : ∀ e ∈ outer, e.scope.kind ≠ .module ∧ ∃ L ∈ fr, e.frame = some L)
    (hsame : ∃ h tk, s' = { W.s₁ with heap := h, toks := tk }) (hk : ∀ b o, s.heap.get? b = some o → ∃ sl, s'.heap.get? b = some { o with slots := sl } ∧ (b ∉ framesOf (env :: outer) → sl = o.slots))
    (hsub : FSub F F') (hinn : ∀ a o, F' a = some o → s'.heap.get? a = some o) (hnew : ∀ a, F' a ≠ none → F a = none → s.heap.get? a = none) :
    Sf W fr B F₀ env Δ μ F' s' := by
  have hfrm : ∀ b ∈ framesOf (env :: outer), b = env.locals ∨ b ∈ fr := fun b hb => by
    unfold framesOf at hb
    obtain ⟨x, hx, hb'⟩ := List.mem_filterMap.mp hb
    rcases List.mem_cons.mp hx with rfl | hx
    · rw [henv] at hb'; cases hb'; exact .inl rfl
    · obtain ⟨_, L, h1, h2⟩ := hout x hx
      rw [h2] at hb'; cases hb'; exact .inr h1
  have exact' : ∀ b o, b ∉ framesOf (env :: outer) → s.heap.get? b = some o → s'.heap.get? b = some o := fun b o hb e => by
    obtain ⟨sl, g1, g2⟩ := hk b o e; rw [g1, g2 hb]
  have hMfr : ∀ b ∈ framesOf (env :: outer), μ b = none := fun b hb => by
    rcases hfrm b hb with rfl | h
    · exact S.st.nsM
    · obtain ⟨o, h1, _⟩ := S.frB b h
      cases e : μ b with
      | none => rfl
      | some m => rw [S.own b m e] at h1; cases h1
  have hCfr : ∀ y c, (y, c) ∈ env.cells → c ∉ framesOf (env :: outer) := fun y c hc hm => by
    rcases hfrm c hm with h | h
    · exact (S.st.cellF y c hc).2.2.1 h
    · obtain ⟨o, h1, _⟩ := S.frB c h
      rw [S.cel y c hc] at h1; cases h1
  have keepC : ∀ y c, (y, c) ∈ env.cells → ∀ o, s.heap.get? c = some o → s'.heap.get? c = some o := fun y c hc o e => exact' c o (hCfr y c hc) e
  have nsUp : ∀ {a : Addr} {m : Str → Option Value}, s.heap.Ns a m → s'.heap.Ns a m := fun {a m} hn => by
    obtain ⟨o, es, ep, ho, hd, r⟩ := hn
    obtain ⟨sl, g1, _⟩ := hk a o ho
    exact ⟨_, es, ep, g1, hd, r⟩
  have hnone : ∀ a, F a = none → (∃ o, s.heap.get? a = some o) → F' a = none := fun a h1 ⟨o, h2⟩ => by
    cases h3 : F' a with
    | none => rfl
    | some o' => have := hnew a (by rw [h3]; simp) h1; rw [h2] at this; cases this
  refine ⟨⟨S.st.eok, hsame, fun b o e => hsub _ _ (S.st.base b o e), hinn, fun x d hx => ?_, fun a m e => ?_, ?_, ?_, S.st.nsM, fun y c hc => ?_, S.st.apart⟩, fun b o hB => ?_, S.frB, S.frF₀, S.loc, S.cel, S.own, S.fsub.trans hsub, fun a h1 h2 => ?_⟩
  · obtain ⟨v, hv, rv⟩ := S.st.vars x d hx
    refine ⟨v, ?_, rv.mono hsub⟩
    rcases hv with ⟨h1, m', hm', hmy⟩ | ⟨h1, c, hc, hv'⟩ | h1
    · exact .inl ⟨h1, m', nsUp hm', hmy⟩
    · exact .inr (.inl ⟨h1, c, hc, IsCell_of (keepC x c (mem_of_lookup hc)) hv'⟩)
    · exact .inr (.inr h1)
  · obtain ⟨h1, h2⟩ := S.st.mu a m e
    have ha : a ∉ framesOf (env :: outer) := fun h => by rw [hMfr a h] at e; cases e
    exact ⟨hnone a h1 h2.some, (h2.same fun o e' => exact' a o ha e').keeps hsub fun _ _ e => e⟩
  · obtain ⟨m, hn⟩ := S.st.ns; exact ⟨m, nsUp hn⟩
  · obtain ⟨m, o, es, ep, e, _⟩ := S.st.ns
    exact hnone _ S.st.nsF ⟨_, e⟩
  · obtain ⟨h1, h2, h3, v, h4⟩ := S.st.cellF y c hc
    obtain ⟨o, e, _⟩ := id h4
    exact ⟨hnone _ h1 ⟨_, e⟩, h2, h3, v, IsCell_of (keepC y c hc) h4⟩
  · obtain ⟨sl, g1, g2⟩ := S.keep b o hB
    obtain ⟨sl', g3, g4⟩ := hk b _ g1
    refine ⟨sl', g3, fun hn => ?_⟩
    have hb : b ∉ framesOf (env :: outer) := fun hm => by
      rcases hfrm b hm with h | h
      · rw [h, S.loc] at hB; cases hB
      · exact hn h
    rw [g4 hb, ← g2 hn]
  · cases h3 : F a with
    | some o => exact S.fnew a (by rw [h3]; simp) h2
    | none =>
      have h4 := hnew a h1 h3
      cases h5 : B a with
      | none => rfl
      | some o => obtain ⟨o', h6⟩ := S.there h5; rw [h6] at h4; cases h4

/-- a call that catches within -/
def FnOkS (W : Wd) (k : Nat) (f : Str) (ds : List D) (d : D) : Prop :=
  ∃ fv, GlobVal W f fv ∧ Keeper W fv ∧ ∀ (A : Around) (env : Env) (outer : List Env) (fr : List Addr) (B F₀ F : FM) (Δ : Ctx) (μ : MM) (s : Shared) (E : Value → Shared → Prop) (vs : List Value),
    GoodA A k → A.frames = some (env :: outer) → env.frame = some env.locals → (∀ e ∈ outer, e.scope.kind ≠ .module ∧ ∃ L ∈ fr, e.frame = some L) → Sf W fr B F₀ env Δ μ F s → RelVs F ds vs →
      wpAny W.M A (call fv vs) (fun v s' => ∃ F', Sf W fr B F₀ env Δ μ F' s' ∧ FSub F F' ∧ RelV F' d v) E s

theorem fnOkS {k : Nat} {f : Str} {params : Arguments} {body : List Stmt} {scope : Scope} {ps : List Str} {ds : List D} {d : D} (hW : W.Ok) (hfn : FnAt W f params body scope) (hs : FnScope scope ps) (hlen : ps.length = ds.length)
    (hbind : ∀ pm code doc vs, vs.length = ds.length → bindArgs (Calls.docDef f params body scope pm code doc) ⟨vs, []⟩ = pure (ps.zip vs))
    (hbody : ∀ A env outer, GoodA A k → EnvOk env → env.scope = scope → A.frames = some (env :: outer) → env.frame = some env.locals → (∀ e ∈ outer, e.scope.kind ≠ .module ∧ ∃ L ∈ framesOf outer, e.frame = some L) →
      Wp W A (framesOf outer) env body (ps.zip ds) (fun _ => none) (fun o _ _ => o = .ret d)) : FnOkS W (k + 1) f ds d := by
  obtain ⟨a, o, pm, code, doc, hm, ho, hd, hcode⟩ := hfn
  refine ⟨.ref a, .inl hm, .inr (.inr ⟨a, o, _, rfl, ho, hd⟩), fun A env outer fr B F₀ F Δ μ s E vs hA hfr henv hout S r => ?_⟩
  have hframes : ∀ b ∈ framesOf (env :: outer), F b = none ∧ ∃ o, s.heap.get? b = some o ∧ ∀ vs, o.data ≠ .fields vs := fun b hb => by
    unfold framesOf at hb
    obtain ⟨x, hx, hb'⟩ := List.mem_filterMap.mp hb
    rcases List.mem_cons.mp hx with rfl | hx
    · rw [henv] at hb'; cases hb'
      obtain ⟨m, oo, es, ep, q1, q2, _⟩ := S.st.ns
      exact ⟨S.st.nsF, oo, q1, fun vs' e => by rw [q2] at e; cases e⟩
    · obtain ⟨_, L, h1, h2⟩ := hout x hx
      rw [h2] at hb'; cases hb'
      obtain ⟨oo, g4, g5⟩ := S.frB b h1
      obtain ⟨sl, g6, _⟩ := S.keep b oo g4
      exact ⟨S.frF h1, _, g6, g5⟩
  have hout' : ∀ e ∈ env :: outer, e.scope.kind ≠ .module ∧ ∃ L ∈ framesOf (env :: outer), e.frame = some L := fun e he => by
    have hL : ∃ L, e.frame = some L ∧ e.scope.kind ≠ .module := by
      rcases List.mem_cons.mp he with rfl | he
      · exact ⟨_, henv, by rw [S.st.eok.kind]; decide⟩
      · obtain ⟨h1, L, _, h3⟩ := hout e he; exact ⟨L, h3, h1⟩
    obtain ⟨L, h1, h2⟩ := hL
    exact ⟨h2, L, by unfold framesOf; exact List.mem_filterMap.mpr ⟨e, he, h1⟩, h1⟩
  refine enterF hW ho hd hcode hs hlen (hbind pm code doc) (fr := framesOf (env :: outer)) (B := fun b => s.heap.get? b) (μ₀ := fun _ => none) hA S.st.same S.st.base S.st.sub r (fun b m e => by cases e) (fun _ _ e => e) (fun b hb => ⟨(hframes b hb).2, (hframes b hb).1⟩) fun fenv s₁ hA' eok hsc hframe _ Sfn => ?_
  refine hbody (A.deeper fenv) fenv (env :: outer) hA' eok hsc (Around.frames_deeper hfr) hframe hout' _ F F s₁ _ _ Sfn fun o' Δ' μ' F' s' hK S' => ?_
  subst hK
  intro v hv
  exact ⟨F', S.over henv hout S'.st.same (fun b ob e => S'.keep b ob e) S'.fsub S'.st.sub S'.fnew, S'.fsub, hv⟩

theorem Wp1.assignCallS {x f : Str} {px pf pos p : Pos} {es : List Expr} {ds : List D} {d : D} {k : Nat} {outer : List Env} (hW : W.Ok) (hA : GoodA A k) (hfr : A.frames = some (env :: outer)) (henv : env.frame = some env.locals)
    (hout : ∀ e ∈ outer, e.scope.kind ≠ .module ∧ ∃ L ∈ fr, e.frame = some L) (hf : FnOkS W k f ds d) (hkf : env.kindOf f = some .globalImplicit) (hdf : (f == ("__debug__" : Str)) = false)
    (hk : env.kindOf x = some .local ∨ env.kindOf x = some .cell) (hl : EvL W A env Δ μ es ds) (hne : es ≠ []) (h : K .next ((x, d) :: Δ) μ) : Wp1 W A fr env (.Assign [.Name x px] (.Call (.Name f pf) es [] p) pos) Δ μ K := fun B F₀ F s Q E S kk => by
  obtain ⟨fv, hg, hkp, hcall⟩ := hf
  refine wpAny_Assign_Name ?_ rfl
  refine Call_ (wpAny_Name (loadGlob hW S.st hg hkf ?_) hdf) rfl
  refine callWith_any hkp hl hne S.st fun F₁ s₁ vs x₁ r => ?_
  refine wpAny_mono (hcall A env outer fr B F₀ F₁ Δ μ s₁ E vs hA hfr henv hout (S.ext x₁) r) (fun v s₂ h₂ => ?_) fun _ _ e => e
  obtain ⟨F₂, S₂, x₂, r₂⟩ := h₂
  exact store_sf S₂ hk r₂ fun s' S' => kk .next _ _ F₂ s' h S'

theorem Wp1.ifOrCall {t₁ r : Expr} {f : Str} {pf p cp bp pos : Pos} {es : List Expr} {ds : List D} {d d' : D} {b : Bool} {k : Nat} {outer : List Env} {body orelse : List Stmt} (hW : W.Ok) (hA : GoodA A k) (hfr : A.frames = some (env :: outer)) (henv : env.frame = some env.locals)
    (hout : ∀ e ∈ outer, e.scope.kind ≠ .module ∧ ∃ L ∈ fr, e.frame = some L) (ht : Tst W A env Δ μ t₁ false) (hf : FnOkS W k f ds d) (hkf : env.kindOf f = some .globalImplicit) (hdf : (f == ("__debug__" : Str)) = false)
    (hl : EvL W A env Δ μ es ds) (hne : es ≠ []) (hr : Ev W A env Δ μ r d') (hmk : behindInMarks .NotEq r = false) (hc : cmpD μ .NotEq d d' = some b) (h1 : b = true → Wp W A fr env body Δ μ K) (h2 : b = false → Wp W A fr env orelse Δ μ K) :
    Wp1 W A fr env (.If (.BoolOp .Or [t₁, .Compare (.Call (.Name f pf) es [] p) [.NotEq] [r] cp] bp) body orelse pos) Δ μ K := fun B F₀ F s Q E S kk => by
  have hu : A.units + 64 < cLine := by have := hA.units; unfold cLine; omega
  refine wpAny_If (wpAny_isTrue_BoolOp (wpAny_allTrue_Or_cons (wpAny_mono (ht F s E S.st) (fun v s₁ h₁ => ?_) fun _ _ e => e)))
  obtain ⟨F₁, x₁, rfl⟩ := h₁
  simp only [Bool.false_eq_true, if_false]
  have S₁ := S.ext x₁
  refine wpAny_allTrue_Or_cons (wpAny_isTrue_Compare1 ?_ hmk)
  obtain ⟨fv, hg, hkp, hcall⟩ := hf
  refine Call_ (wpAny_Name (loadGlob hW S₁.st hg hkf ?_) hdf) rfl
  refine callWith_any hkp hl hne S₁.st fun F₂ s₂ vs x₂ rr => ?_
  refine wpAny_mono (hcall A env outer fr B F₀ F₂ Δ μ s₂ E vs hA hfr henv hout (S₁.ext x₂) rr) (fun v s₃ h₃ => ?_) fun _ _ e => e
  obtain ⟨F₃, S₃, x₃, r₃⟩ := h₃
  refine wpAny_mono (hr F₃ s₃ E S₃.st) (fun u s₄ h₄ => ?_) fun _ _ e => e
  obtain ⟨F₄, x₄, r₄⟩ := h₄
  have S₄ := S₃.ext x₄
  refine wpAny_mono (cmp_sound S₄.st hu hc (r₃.mono x₄.sub) r₄) (fun w s₅ h₅ => ?_) fun _ _ e => e
  obtain ⟨F₅, x₅, r₅⟩ := h₅
  rw [RelV] at r₅; subst r₅
  refine wpAny_truthy_bool ?_
  cases b with
  | true => simp only [if_true]; exact h1 rfl B F₀ F₅ s₅ Q E (S₄.ext x₅) kk
  | false => simp only [Bool.false_eq_true, if_false]; exact wpAny_allTrue_Or_nil (h2 rfl B F₀ F₅ s₅ Q E (S₄.ext x₅) kk)
end
end Mine

open PySem PySem.W PyProof.Rows
set_option Elab.async false
set_option linter.unusedVariables false
namespace Mine

theorem toPys_ints (ns : List Int) : toPys (ns.map .int) = some (ns.map .int) := by induction ns with | nil => rfl | cons n r ih => simp [toPys, toPy, ih]
theorem toPys_strs (ns : List Str) : toPys (ns.map .str) = some (ns.map .str) := by induction ns with | nil => rfl | cons n r ih => simp [toPys, toPy, ih]
theorem canLay_ints (ns : List Int) : PyData.canLayAll0 (ns.map .int) = true := by induction ns with | nil => rfl | cons n r ih => simp [PyData.canLayAll0, PyData.canLay0, ih]
theorem canLay_strs (ns : List Str) : PyData.canLayAll0 (ns.map .str) = ns.all PyData.strOk := by induction ns with | nil => rfl | cons n r ih => simp [PyData.canLayAll0, PyData.canLay0, ih]
theorem depth_ints (ns : List Int) : PyData.depthAll (ns.map .int) = 0 := by induction ns with | nil => rfl | cons n r ih => simp [PyData.depthAll, PyData.depth, ih]
theorem depth_strs (ns : List Str) : PyData.depthAll (ns.map .str) = 0 := by induction ns with | nil => rfl | cons n r ih => simp [PyData.depthAll, PyData.depth, ih]
theorem shaped_ints (ns : List Int) : SeqAt.shaped (.list (ns.map .int)) = true := by simp [SeqAt.shaped, PyData.canLay0, canLay_ints, PyData.depth, depth_ints]
theorem shaped_strs {ns : List Str} (h : ∀ x ∈ ns, PyData.strOk x = true) : SeqAt.shaped (.list (ns.map .str)) = true := by
  simp [SeqAt.shaped, PyData.canLay0, canLay_strs, PyData.depth, depth_strs]; exact h
theorem eqvAll_ints : ∀ (a b : List Int), PyData.eqvAll (a.map .int) (b.map .int) = decide (a = b)
  | [], [] => rfl
  | [], _ :: _ => rfl
  | _ :: _, [] => rfl
  | x :: a, y :: b => by
    simp only [List.map_cons, PyData.eqvAll, PyData.eqv, eqvAll_ints a b]
    by_cases h : x = y <;> simp [h]
theorem eqvAll_strs : ∀ (a b : List Str), PyData.eqvAll (a.map .str) (b.map .str) = decide (a = b)
  | [], [] => rfl
  | [], _ :: _ => rfl
  | _ :: _, [] => rfl
  | x :: a, y :: b => by
    simp only [List.map_cons, PyData.eqvAll, PyData.eqv, eqvAll_strs a b]
    by_cases h : x = y <;> simp [h]
theorem eqD_ints (a b : List Int) : eqD (.list (a.map .int)) (.list (b.map .int)) = some (decide (a = b)) := by
  simp [eqD, toPy, toPys_ints, shaped_ints, PyData.eqv, eqvAll_ints]
theorem eqD_strs {a b : List Str} (ha : ∀ x ∈ a, PyData.strOk x = true) (hb : ∀ x ∈ b, PyData.strOk x = true) : eqD (.list (a.map .str)) (.list (b.map .str)) = some (decide (a = b)) := by
  simp [eqD, toPy, toPys_strs, shaped_strs ha, shaped_strs hb, PyData.eqv, eqvAll_strs]
theorem eqD_refl {d : D} {x : PyData} (h : toPy d = some x) (hs : SeqAt.shaped x = true) : eqD d d = some true := by
  simp [eqD, h, hs, SeqAt.eqv_refl x (SeqAt.canLay_of_shaped hs)]

theorem strOk_append {a b : Str} (ha : PyData.strOk a = true) (hb : PyData.strOk b = true) : PyData.strOk (a ++ b) = true := by
  unfold PyData.strOk at *
  rw [show (a ++ b).cps = a.cps ++ b.cps from rfl, Array.all_append, ha, hb]; rfl
theorem strOk_ofString (s : String) : PyData.strOk (Str.ofString s) = true := by
  unfold PyData.strOk
  rw [Str.ofString_eq_toList]
  rw [List.all_toArray, List.all_eq_true]
  intro n hn
  obtain ⟨c, _, rfl⟩ := List.mem_map.mp hn
  have := c.valid
  simp only [decide_eq_true_eq]
  rcases this with h | h
  · have : c.val.toNat < 0xd800 := h
    show c.val.toNat < _
    omega
  · exact h.2
theorem strOk_join {sep : Str} (hs : PyData.strOk sep = true) {xs : List Str} (h : ∀ x ∈ xs, PyData.strOk x = true) : PyData.strOk (Txt.join sep xs) = true := by
  have key : ∀ (l : List Str) (acc : Array Nat), (∀ x ∈ l, PyData.strOk x = true) → PyData.strOk ⟨acc⟩ = true → PyData.strOk ⟨l.foldl (fun acc p => acc ++ sep.cps ++ p.cps) acc⟩ = true := by
    intro l
    induction l with
    | nil => intro acc _ h; exact h
    | cons x r ih =>
      intro acc hl ha
      rw [List.foldl_cons]
      refine ih _ (fun z hz => hl z (List.mem_cons_of_mem _ hz)) ?_
      exact strOk_append (a := ⟨acc ++ sep.cps⟩) (b := x) (strOk_append (a := ⟨acc⟩) (b := sep) ha hs) (hl x List.mem_cons_self)
  show PyData.strOk ⟨(xs.drop 1).foldl (fun acc p => acc ++ sep.cps ++ p.cps) (xs.headD Str.empty).cps⟩ = true
  refine key _ _ (fun x hx => h x (List.mem_of_mem_drop hx)) ?_
  cases xs with
  | nil => decide +kernel
  | cons x r => exact h x List.mem_cons_self
end Mine
namespace Mine
theorem binD_int {μ : MM} {op : Operator} {x y : Int} : binD μ op (.int x) (.int y) = (arith op x y).map .int := rfl
theorem binD_str {μ : MM} {x y : Str} : binD μ .Add (.str x) (.str y) = if x.length + y.length ≤ sizeLine then some (.str (x ++ y)) else none := by simp [binD]
theorem binD_strmul {μ : MM} {x : Str} {n : Int} : binD μ .Mult (.str x) (.int n) = if 0 ≤ n ∧ n ≤ 1000 ∧ x.length ≤ 1000 then some (.str (Txt.mul x n)) else none := by simp [binD]
theorem binD_addl {μ : MM} {xs ys : List D} : binD μ .Add (.list xs) (.list ys) = if xs.length + ys.length ≤ sizeLine then some (.list (xs ++ ys)) else none := by simp [binD, asList]
theorem binD_mull {μ : MM} {xs : List D} {n : Int} : binD μ .Mult (.list xs) (.int n) = if 0 ≤ n ∧ n ≤ 1000 ∧ xs.length ≤ 1000 then some (.list (repL n.toNat xs)) else none := by simp [binD, asList]
theorem asList_list {μ : MM} {xs : List D} : asList μ (.list xs) = some xs := rfl
theorem asList_ref {μ : MM} {a : Addr} {xs : List D} (h : μ a = some (.lst xs)) : asList μ (.ref a) = some xs := by simp [asList, h]
theorem idxD_list {μ : MM} {xs : List D} {i : Nat} {x : D} (h : xs[i]? = some x) (hi : i < 2 ^ 63) : idxD μ (.list xs) i = some x := by
  unfold idxD; rw [if_pos ⟨by omega, by omega⟩]; simp only [asList]; simp [idxL, h]
theorem idxD_ref {μ : MM} {a : Addr} {xs : List D} {i : Nat} {x : D} (hm : μ a = some (.lst xs)) (h : xs[i]? = some x) (hi : i < 2 ^ 63) : idxD μ (.ref a) i = some x := by
  unfold idxD; rw [if_pos ⟨by omega, by omega⟩]; simp only [asList_ref hm]; simp [idxL, h]
theorem idxD_str {μ : MM} {x : Str} {i : Nat} (h : i < x.length) (hi : x.length < 2 ^ 62) : idxD μ (.str x) i = some (.str (Txt.item x i)) := by
  unfold idxD; rw [if_pos ⟨by omega, by omega⟩]; simp only []; rw [if_pos ⟨by omega, by omega⟩]
theorem idxD_dct {μ : MM} {a : Addr} {f : Int → Option D} {n : Nat} {i : Int} {x : D} (hm : μ a = some (.dct f n)) (h : f i = some x) (h1 : -(2 ^ 63) ≤ i) (h2 : i < 2 ^ 63) : idxD μ (.ref a) i = some x := by
  unfold idxD; rw [if_pos ⟨h1, h2⟩]; simp [asList, hm, h]
end Mine
namespace Mine
section
variable {Φ Ψ : Str → List D → Option D} {μ : MM} {Δ : Ctx} {n : Nat}
theorem evD_comp {α : Type} {elt iter : Expr} {x : Str} {p q : Pos} {as : Int} {scope : Scope} {l : List α} {g h : α → D} (hi : itD Φ Ψ μ n iter Δ = some (l.map g)) (he : ∀ y ∈ l, evD Φ Ψ μ n elt ((x, g y) :: freeCtx scope Δ) = some (h y)) (hs : l.length ≤ sizeLine) :
    evD Φ Ψ μ (n + 1) (.ListComp elt [⟨.Name x p, iter, [], as⟩] scope q) Δ = some (.list (l.map h)) := by
  rw [eC1, hi, optS_s]
  refine (congrArg (optS · sized) (collect_map (h := h) fun y hy => ?_)).trans (sized_of (by simpa using hs))
  show Option.map _ (evD Φ Ψ μ n elt _) = _
  rw [he y hy]; rfl
theorem evD_compIf {α : Type} {elt iter c : Expr} {x : Str} {p q : Pos} {as : Int} {scope : Scope} {l : List α} {g h : α → D} {f : α → Bool} (hi : itD Φ Ψ μ n iter Δ = some (l.map g)) (hc : ∀ y ∈ l, tstD Φ Ψ μ n c ((x, g y) :: freeCtx scope Δ) = some (f y))
    (he : ∀ y ∈ l, f y = true → evD Φ Ψ μ n elt ((x, g y) :: freeCtx scope Δ) = some (h y)) (hs : l.length ≤ sizeLine) :
    evD Φ Ψ μ (n + 1) (.ListComp elt [⟨.Name x p, iter, [c], as⟩] scope q) Δ = some (.list ((l.filter f).map h)) := by
  rw [eC1, hi, optS_s]
  refine (congrArg (optS · sized) (collect_filter (h := h) (p := f) fun y hy => ?_)).trans (sized_of (by rw [List.length_map]; exact Nat.le_trans (List.length_filter_le ..) hs))
  simp only []
  rw [hc y hy]
  cases e : f y with
  | true => simp only [he y hy e]; rfl
  | false => rfl
theorem evD_comp2 {α β : Type} {elt iter iter' : Expr} {x x' : Str} {p p' q : Pos} {as as' : Int} {scope : Scope} {l : List α} {g : α → D} {l' : α → List β} {g' : α → β → D} {h : α → β → D} (hi : itD Φ Ψ μ n iter Δ = some (l.map g))
    (hi' : ∀ y ∈ l, itD Φ Ψ μ n iter' ((x, g y) :: freeCtx scope Δ) = some ((l' y).map (g' y))) (he : ∀ y ∈ l, ∀ z ∈ l' y, evD Φ Ψ μ n elt ((x', g' y z) :: (x, g y) :: freeCtx scope Δ) = some (h y z)) (hs : (l.flatMap fun y => (l' y).map (h y)).length ≤ sizeLine) :
    evD Φ Ψ μ (n + 1) (.ListComp elt [⟨.Name x p, iter, [], as⟩, ⟨.Name x' p', iter', [], as'⟩] scope q) Δ = some (.list (l.flatMap fun y => (l' y).map (h y))) := by
  rw [eC2, hi, optS_s]
  refine (congrArg (optS · sized) (collect_flat (h := fun y => (l' y).map (h y)) fun y hy => ?_)).trans (sized_of hs)
  rw [hi' y hy]
  exact collect_map (h := h y) fun z hz => by rw [he y hy z hz]; rfl
theorem itD_of {e : Expr} {d : D} {xs : List D} (h : evD Φ Ψ μ n e Δ = some d) (hl : asList μ d = some xs) (hn : ∀ f p as q, e ≠ .Call (.Name f p) as [] q) : itD Φ Ψ μ (n + 1) e Δ = some xs := by
  have key : itD Φ Ψ μ (n + 1) e Δ = (evD Φ Ψ μ n e Δ).bind (asList μ) := by
    cases e with
    | Call f as ks q => cases f with
      | Name f p => cases ks with
        | nil => exact absurd rfl (hn f p as q)
        | cons => rfl
      | _ => rfl
    | _ => rfl
  rw [key, h]; exact hl
end
end Mine

open PySem PySem.W PyProof.Rows
set_option Elab.async false
set_option linter.unusedVariables false
namespace Mine

theorem pick_run' {α : Type} (xs : List α) (a b : Nat) (hb : b ≤ xs.length) : ((List.range (b - a)).map (a + ·)).filterMap (xs[·]?) = (xs.drop a).take (b - a) := by
  apply List.ext_getElem?
  intro i
  rw [List.filterMap_map]
  have key : ∀ n, a + n ≤ xs.length → (List.range n).filterMap ((xs[·]?) ∘ (a + ·)) = (xs.drop a).take n := by
    intro n
    induction n with
    | zero => intro _; simp
    | succ n ih =>
      intro h
      rw [List.range_succ, List.filterMap_append, ih (by omega)]
      have h1 : a + n < xs.length := by omega
      have h2 : n < (xs.drop a).length := by simp; omega
      rw [List.take_succ_eq_append_getElem h2]
      simp [h1]
  by_cases hab : a ≤ b
  · rw [key (b - a) (by omega)]
  · have : b - a = 0 := by omega
    simp [this]

theorem pickL_plain {α : Type} (xs : List α) (lo hi : Option Int) : pickL xs lo hi none = (xs.drop (lo.elim 0 (clipAt xs.length))).take (hi.elim xs.length (clipAt xs.length) - lo.elim 0 (clipAt xs.length)) := by
  unfold pickL
  rw [sliceBounds_plain]
  simp only [sliceRange_one]
  refine pick_run' xs _ _ ?_
  cases hi with
  | none => exact Nat.le_refl _
  | some h => have := clipAt_cast xs.length h; simp only [Option.elim_some]; omega
theorem pickL_from {α : Type} (xs : List α) (n : Nat) : pickL xs (some (n : Int)) none none = xs.drop n := by
  rw [pickL_plain]
  simp only [Option.elim_some, Option.elim_none, clipAt_nat]
  rw [List.take_of_length_le (by simp)]
  by_cases h : n ≤ xs.length
  · rw [Nat.min_eq_left h]
  · rw [Nat.min_eq_right (by omega), List.drop_length, List.drop_eq_nil_of_le (by omega)]
theorem pickL_to {α : Type} (xs : List α) (n : Nat) : pickL xs none (some (n : Int)) none = xs.take n := by
  rw [pickL_plain]
  simp only [Option.elim_some, Option.elim_none, clipAt_nat, List.drop_zero, Nat.sub_zero]
  by_cases h : n ≤ xs.length
  · rw [Nat.min_eq_left h]
  · rw [Nat.min_eq_right (by omega), List.take_length, List.take_of_length_le (by omega)]
theorem pickL_but {α : Type} (xs : List α) (n : Nat) (hn : 1 ≤ n) : pickL xs none (some (-(n : Int))) none = xs.take (xs.length - n) := by
  rw [pickL_plain]
  simp only [Option.elim_some, Option.elim_none, clipAt_neg _ _ hn, List.drop_zero, Nat.sub_zero]
theorem pickL_mid {α : Type} (xs : List α) (a b : Nat) : pickL xs (some (a : Int)) (some (b : Int)) none = (xs.drop a).take (b - a) := by
  rw [pickL_plain]
  simp only [Option.elim_some, clipAt_nat]
  by_cases h : a ≤ xs.length
  · rw [Nat.min_eq_left h]
    by_cases h2 : b ≤ xs.length
    · rw [Nat.min_eq_left h2]
    · rw [Nat.min_eq_right (by omega), List.take_of_length_le (by simp), List.take_of_length_le (by simp; omega)]
  · rw [Nat.min_eq_right (by omega : xs.length ≤ a), List.drop_length, List.drop_eq_nil_of_le (by omega)]; simp

section
variable {W : Wd} {A : Around} {fr : List Addr} {env : Env} {Δ : Ctx} {μ : MM} {K : Out → Ctx → MM → Prop}

/-- a call that gives back a new object -/
def FnOkM (W : Wd) (k : Nat) (f : Str) (ds : List D) (m : MObj) : Prop :=
  ∃ fv, GlobVal W f fv ∧ Keeper W fv ∧ ∀ (A : Around) (env : Env) (fr : List Addr) (B F₀ F : FM) (Δ : Ctx) (μ : MM) (s : Shared) (E : Value → Shared → Prop) (vs : List Value),
    GoodA A k → Sf W fr B F₀ env Δ μ F s → RelVs F ds vs → wpAny W.M A (call fv vs) (fun v s' => ∃ a F', μ a = none ∧ v = .ref a ∧ Sf W fr B F₀ env Δ (μ.set a m) F' s' ∧ FSub F F') E s

theorem fnOkM {k : Nat} {f : Str} {params : Arguments} {body : List Stmt} {scope : Scope} {ps : List Str} {ds : List D} {m : MObj} (hW : W.Ok) (hfn : FnAt W f params body scope) (hs : FnScope scope ps) (hlen : ps.length = ds.length)
    (hbind : ∀ pm code doc vs, vs.length = ds.length → bindArgs (Calls.docDef f params body scope pm code doc) ⟨vs, []⟩ = pure (ps.zip vs))
    (hbody : ∀ A env, GoodA A k → EnvOk env → env.scope = scope → Wp W A [] env body (ps.zip ds) (fun _ => none) (fun o _ μ' => ∃ a, o = .ret (.ref a) ∧ μ' a = some m)) : FnOkM W (k + 1) f ds m := by
  obtain ⟨a, o, pm, code, doc, hm, ho, hd, hcode⟩ := hfn
  refine ⟨.ref a, .inl hm, .inr (.inr ⟨a, o, _, rfl, ho, hd⟩), fun A env fr B F₀ F Δ μ s E vs hA S r => ?_⟩
  refine enterF hW ho hd hcode hs hlen (hbind pm code doc) (fr := []) (B := fun b => s.heap.get? b) (μ₀ := fun _ => none) hA S.st.same S.st.base S.st.sub r (fun b m e => by cases e) (fun _ _ e => e) (fun b hb => by cases hb) fun fenv s₁ hA' eok hsc _ _ Sfn => ?_
  refine hbody (A.deeper fenv) fenv hA' eok hsc _ F F s₁ _ _ Sfn fun o' Δ' μ' F' s' hK S' => ?_
  obtain ⟨c, rfl, hc⟩ := hK
  intro v hv
  rw [RelV] at hv; subst hv
  have x : Ext F s F' s' := by
    refine ⟨?_, S'.fsub, S'.st.sub, S'.fnew⟩
    obtain ⟨h₀, tk, e0⟩ := S.st.same
    obtain ⟨h', tk', e1⟩ := S'.st.same
    refine ⟨h', tk', by rw [e1, e0], fun b ob e => ?_⟩
    have := S'.exact e (by simp); rw [e1] at this; exact this
  obtain ⟨hFc, hMc⟩ := S'.st.mu c m hc
  obtain ⟨S₂, hμ⟩ := S.addM x hFc (S'.own c m hc) hMc
  exact ⟨c, F', hμ, rfl, S₂, x.sub⟩

theorem Wp1.assignCallM {x f : Str} {px pf pos p : Pos} {es : List Expr} {ds : List D} {m : MObj} {k : Nat} (hW : W.Ok) (hA : GoodA A k) (hf : FnOkM W k f ds m) (hkf : env.kindOf f = some .globalImplicit) (hdf : (f == ("__debug__" : Str)) = false)
    (hk : env.kindOf x = some .local ∨ env.kindOf x = some .cell) (hl : EvL W A env Δ μ es ds) (hne : es ≠ []) (h : ∀ a, μ a = none → K .next ((x, .ref a) :: Δ) (μ.set a m)) : Wp1 W A fr env (.Assign [.Name x px] (.Call (.Name f pf) es [] p) pos) Δ μ K := fun B F₀ F s Q E S kk => by
  obtain ⟨fv, hg, hkp, hcall⟩ := hf
  refine wpAny_Assign_Name ?_ rfl
  refine Call_ (wpAny_Name (loadGlob hW S.st hg hkf ?_) hdf) rfl
  refine callWith_any hkp hl hne S.st fun F₁ s₁ vs x₁ r => ?_
  refine wpAny_mono (hcall A env fr B F₀ F₁ Δ μ s₁ E vs hA (S.ext x₁) r) (fun v s₂ h₂ => ?_) fun _ _ e => e
  obtain ⟨a, F₂, hμ, rfl, S₂, x₂⟩ := h₂
  exact store_sf S₂ hk (d := .ref a) (by rw [RelV]) fun s' S' => kk .next _ _ F₂ s' (h a hμ) S'
end
end Mine

open PySem PySem.W PyProof.Rows
set_option Elab.async false
set_option linter.unusedVariables false
namespace Mine

def FrzS (X : List Addr) (ds : Addr → List D) (d d' : D) : Prop := ∀ F v, (∀ a ∈ X, ∃ vs n, F a = some (lobj vs n) ∧ RelVs F (ds a) vs) → RelV F d v → RelV F d' v
def FrzSM (X : List Addr) (ds : Addr → List D) (m m' : MObj) : Prop := ∀ F h b, (∀ a ∈ X, ∃ vs n, F a = some (lobj vs n) ∧ RelVs F (ds a) vs) → MRel F h b m → MRel F h b m'
theorem FrzS.refl {X : List Addr} {ds : Addr → List D} (d : D) : FrzS X ds d d := fun _ _ _ h => h
theorem FrzS.ref {X : List Addr} {ds : Addr → List D} {a : Addr} (h : a ∈ X) : FrzS X ds (.ref a) (.list (ds a)) := fun F v hF hv => by
  rw [RelV] at hv; subst hv; rw [RelV]; obtain ⟨vs, n, q1, q2⟩ := hF a h; exact ⟨a, vs, n, rfl, q1, q2⟩
theorem FrzSM.refl {X : List Addr} {ds : Addr → List D} (m : MObj) : FrzSM X ds m m := fun _ _ _ _ h => h
theorem FrzSM.dct {X : List Addr} {ds : Addr → List D} {f f' : Int → Option D} {n : Nat} (h : ∀ k, (f k = none ∧ f' k = none) ∨ ∃ d d', f k = some d ∧ f' k = some d' ∧ FrzS X ds d d') : FrzSM X ds (.dct f n) (.dct f' n) := fun F hp b hF ⟨g, e1, e2, r⟩ => ⟨g, e1, e2, fun k => by
  rcases r k with ⟨q1, q2⟩ | ⟨d, v, q1, q2, q3⟩
  · rcases h k with ⟨_, p2⟩ | ⟨d, d', p1, p2, p3⟩
    · exact .inl ⟨p2, q2⟩
    · rw [p1] at q1; cases q1
  · rcases h k with ⟨p1, _⟩ | ⟨d₀, d', p1, p2, p3⟩
    · rw [p1] at q1; cases q1
    · rw [p1] at q1; cases q1
      exact .inr ⟨d', v, p2, q2, p3 F v hF q3⟩⟩

section
variable {W : Wd} {A : Around} {fr : List Addr} {env : Env} {Δ : Ctx} {μ : MM} {K : Out → Ctx → MM → Prop} {B F₀ F : FM} {s : Shared}

theorem Sf.freezeS (S : Sf W fr B F₀ env Δ μ F s) {X : List Addr} {ds : Addr → List D} {Δ' : Ctx} {μ' : MM} (hm : ∀ a ∈ X, μ a = some (.lst (ds a))) (hΔ : ∀ x d', Δ'.lookup x = some d' → ∃ d, Δ.lookup x = some d ∧ FrzS X ds d d')
    (hμ : ∀ b m', μ' b = some m' → b ∉ X ∧ ∃ m, μ b = some m ∧ FrzSM X ds m m') : ∃ F', Sf W fr B F₀ env Δ' μ' F' s ∧ FSub F F' := by
  have hX : ∀ a ∈ X, F a = none ∧ ∃ vs n, s.heap.get? a = some (lobj vs n) ∧ RelVs F (ds a) vs := fun a ha => by
    obtain ⟨h1, vs, n, h2, h3⟩ := S.st.mu a _ (hm a ha); exact ⟨h1, vs, n, h2, h3⟩
  let F' : FM := fun b => if b ∈ X then s.heap.get? b else F b
  have hsub : FSub F F' := fun b o e => by
    show (if b ∈ X then s.heap.get? b else F b) = some o
    rw [if_neg (fun h => by rw [(hX b h).1] at e; cases e)]; exact e
  have hne : ∀ b, b ∉ X → F' b = F b := fun b hb => if_neg hb
  have hL : env.locals ∉ X := fun h => by have := hm _ h; rw [S.st.nsM] at this; cases this
  have hC : ∀ y c, (y, c) ∈ env.cells → c ∉ X := fun y c hc h => by have := hm _ h; rw [(S.st.cellF y c hc).2.1] at this; cases this
  have hnew : ∀ a ∈ X, ∃ vs n, F' a = some (lobj vs n) ∧ RelVs F' (ds a) vs := fun a ha => by
    obtain ⟨_, vs, n, h2, h3⟩ := hX a ha
    exact ⟨vs, n, by show (if a ∈ X then s.heap.get? a else F a) = _; rw [if_pos ha]; exact h2, h3.mono hsub⟩
  have hnone : ∀ b, μ b = none → μ' b = none := fun b h => by
    cases e : μ' b with
    | none => rfl
    | some m' => obtain ⟨_, m, e2, _⟩ := hμ b m' e; rw [h] at e2; cases e2
  refine ⟨F', ⟨⟨S.st.eok, S.st.same, fun b o e => hsub _ _ (S.st.base b o e), fun b o e => ?_, fun y d' hy => ?_, fun b m' e => ?_, S.st.ns, ?_, hnone _ S.st.nsM, fun y c hc => ?_, S.st.apart⟩, S.keep, S.frB, S.frF₀, S.loc, S.cel, fun b m' e => ?_, S.fsub.trans hsub, fun b h1 h2 => ?_⟩, hsub⟩
  · by_cases hb : b ∈ X
    · have e' : (if b ∈ X then s.heap.get? b else F b) = some o := e
      rw [if_pos hb] at e'; exact e'
    · rw [hne b hb] at e; exact S.st.sub b o e
  · obtain ⟨d, hd, hf⟩ := hΔ y d' hy
    obtain ⟨v, hv, rv⟩ := S.st.vars y d hd
    exact ⟨v, hv, hf _ v hnew (rv.mono hsub)⟩
  · obtain ⟨hba, m, e2, hf⟩ := hμ b m' e
    obtain ⟨h1, h2⟩ := S.st.mu b m e2
    exact ⟨by rw [hne b hba]; exact h1, hf _ _ _ hnew (h2.keeps hsub (fun _ _ e => e))⟩
  · rw [hne _ hL]; exact S.st.nsF
  · obtain ⟨h1, h2, h3, h4⟩ := S.st.cellF y c hc
    exact ⟨by rw [hne c (hC y c hc)]; exact h1, hnone c h2, h3, h4⟩
  · obtain ⟨_, m, e2, _⟩ := hμ b m' e; exact S.own b m e2
  · by_cases hb : b ∈ X
    · exact S.own b _ (hm b hb)
    · exact S.fnew b (by rw [← hne b hb]; exact h1) h2

theorem Wp.freezeS {ss : List Stmt} {X : List Addr} {ds : Addr → List D} {Δ' : Ctx} {μ' : MM} (hm : ∀ a ∈ X, μ a = some (.lst (ds a))) (hΔ : ∀ x d', Δ'.lookup x = some d' → ∃ d, Δ.lookup x = some d ∧ FrzS X ds d d')
    (hμ : ∀ b m', μ' b = some m' → b ∉ X ∧ ∃ m, μ b = some m ∧ FrzSM X ds m m') (h : Wp W A fr env ss Δ' μ' K) : Wp W A fr env ss Δ μ K := fun B F₀ F s Q E S k => by
  obtain ⟨F', S', _⟩ := S.freezeS hm hΔ hμ
  exact h B F₀ F' s Q E S' k
end
end Mine

open PySem PySem.W PyProof.Rows
set_option Elab.async false
set_option linter.unusedVariables false
namespace Mine

/-- the loop of a comprehension over pairs -/
def CompRunT (W : Wd) (A : Around) (env : Env) (Δ : Ctx) (μ : MM) (e : Expr) (scope : Scope) (names : List Str) (xs : List (D × D)) (out : List D) : Prop :=
  ∀ (cenv : Env) (F : FM) (s₀ s : Shared) (it : Value) (Acc : Addr) (R : Result → Shared → Prop) fp wr P Stw Mid I, In W env scope cenv → it = .ref I → St W cenv (freeCtx scope Δ) (μ.set Acc (.lst [])) F s → μ Acc = none →
    WalksT W.prog W.w A I fp wr xs.length P Stw Mid → Stw 0 s.heap → (∀ i vals, P i vals → ∃ d v₁ v₂, xs[i]? = some d ∧ vals = #[v₁, v₂] ∧ RelV F d.1 v₁ ∧ RelV F d.2 v₂) → (∀ i h, Stw i h → ∀ b ∈ wr, h.get? b ≠ none) →
    (∀ b ∈ fp, b ∉ xaOf cenv names ∧ b ≠ Acc) → (∀ b ∈ wr, F b = none ∧ μ b = none ∧ b ≠ cenv.locals ∧ (∀ y, (y, b) ∉ cenv.cells) ∧ b ≠ Acc) →
    (∀ F' s', St W cenv (freeCtx scope Δ) (μ.set Acc (.lst out)) F' s' → ExtBut (Acc :: xaOf cenv names ++ wr) F s F' s' → R (.ok .next) s') →
    codeAny W.M A (.compLoop e 0 it (.ref Acc) cenv) R s

structure ItrT where
  I : Addr
  fp : List Addr
  wr : List Addr
  P : Nat → Array Value → Prop
  Stw : Nat → Heap → Prop
  Mid : Nat → Addr → Heap → Prop
structure SrcTAt (W : Wd) (A : Around) (F₂ : FM) (s s₂ : Shared) (xs : List (D × D)) (i : ItrT) : Prop where
  hW : WalksT W.prog W.w A i.I i.fp i.wr xs.length i.P i.Stw i.Mid
  now : i.Stw 0 s₂.heap
  hP : ∀ j vals, i.P j vals → ∃ d v₁ v₂, xs[j]? = some d ∧ vals = #[v₁, v₂] ∧ RelV F₂ d.1 v₁ ∧ RelV F₂ d.2 v₂
  hfd : ∀ b ∈ i.fp, s₂.heap.get? b ≠ none
  hwr : ∀ b ∈ i.wr, F₂ b = none ∧ s.heap.get? b = none
  hex : ∀ j h, i.Stw j h → ∀ b ∈ i.wr, h.get? b ≠ none
def SrcT (W : Wd) (A : Around) (F₂ : FM) (s s₂ : Shared) (it : Value) (xs : List (D × D)) : Prop := ∃ i : ItrT, it = .ref i.I ∧ SrcTAt W A F₂ s s₂ xs i
def IterEvT (W : Wd) (A : Around) (env : Env) (Δ : Ctx) (μ : MM) (iter : Expr) (xs : List (D × D)) : Prop :=
  ∀ F s (E : Value → Shared → Prop), St W env Δ μ F s → wpAny W.M A (eval iter env) (fun x s₁ => wpAny W.M A (pyIter x) (fun it s₂ => ∃ F₂, Ext F s F₂ s₂ ∧ SrcT W A F₂ s s₂ it xs) E s₁) E s

section
variable {W : Wd} {A : Around} {env : Env} {Δ : Ctx} {μ : MM}

theorem comp_allT {elt : Expr} {g : Comprehension} {gs : List Comprehension} {scope : Scope} {pos p : Pos} {use : Option (Value → Sem Unit)} {names : List Str} {xs : List (D × D)} {out : List D} {Q : Value → Shared → Prop} {E : Value → Shared → Prop} {F : FM} {s : Shared}
    (ok : ScopeOk scope env) (hown : ∀ x ∈ names, OwnName scope x) (hset : notSet g.iter = true) (hasync : g.is_async = 0) (hit : IterEvT W A env Δ μ g.iter xs)
    (run : CompRunT W A env Δ μ (.ListComp elt (g :: gs) scope p) scope names xs out) (S : St W env Δ μ F s)
    (fin : ∀ F' s' Acc C, Made W F s out F' s' Acc C → compPost W.M A E use Q (.ref Acc) C (.ok .next) s') :
    wpAny W.M A (comprehension (.ListComp elt (g :: gs) scope p) scope env pos (newList []) false (eval g.iter env) use) Q E s := by
  refine comp_gen ok hown hset hasync (wpAny_mono (hit F s E S) (fun x s₁ h₁ => wpAny_mono h₁ (fun it s₂ h₂ => ?_) fun _ _ e => e) fun _ _ e => e) S fin
  obtain ⟨F₂, x₂, i, rfl, q⟩ := h₂
  exact ⟨F₂, i.I, i.fp, i.wr, i.Stw 0, rfl, x₂, q.hW.sub, q.now, q.hW.frame 0, q.hW.self 0, q.hfd, q.hwr, fun cenv s₄ Acc R hin S₅ hA st₄ hfp hwr' hR => run cenv F₂ s s₄ _ Acc R i.fp i.wr i.P i.Stw i.Mid i.I hin rfl S₅ hA q.hW st₄ q.hP q.hex hfp hwr' hR⟩

/-- the turn of a comprehension over pairs -/
def LoopCodeT (W : Wd) (A : Around) (env : Env) (c : Code) (it : Value) (target : Expr) (B : (Unit → Shared → Prop) → (Value → Shared → Prop) → Shared → Prop) : Prop :=
  ∀ (R : Result → Shared → Prop) (I : Nat → Shared → Prop),
    (∀ n s, I n s → wpAny W.M A (pyNext it) (fun r s₁ => match r with
      | none => R (.ok .next) s₁
      | some v => wpAny W.M A (letOwnedTupleGo target it v) (fun _ s₁' => wpAny W.M A (assign target env v) (fun _ s₂ =>
          B (fun _ s₅ => ∃ m, m < n ∧ I m s₅) (notedBy W.M A env fun e s' => R (.error e) s') s₂) (notedBy W.M A env fun e s' => R (.error e) s') s₁') (notedBy W.M A env fun e s' => R (.error e) s') s₁) (notedBy W.M A env fun e s' => R (.error e) s') s) →
    ∀ n s, I n s → codeAny W.M A c R s

theorem loop1T {elt iter target : Expr} {scope : Scope} {pos : Pos} {it acc : Value} :
    LoopCodeT W A env (.compLoop (.ListComp elt [⟨target, iter, [], 0⟩] scope pos) 0 it acc env) it target (emitB W A elt acc env) := by
  intro R I turn n s h
  refine codeAny_loop rfl I (fun n s hI => ?_) n h
  rw [Around.under_of_weight rfl]
  show wpAny W.M A ((compTurn (.ListComp elt [⟨target, iter, [], 0⟩] scope pos) 0 it acc env).onRaise (fun x => do noteFrame x env; theTreesLotGoes x)) _ _ s
  rw [compTurn_list]
  refine wpAny_noted ?_
  refine wpAny_bind (wpAny_standAt (wpAny_bind (wpAny_mono (turn n s hI) (fun r s₁ h₁ => ?_) fun _ _ h' => h')))
  cases r with
  | none => exact wpAny_pure h₁
  | some v =>
    refine wpAny_bind (wpAny_mono h₁ (fun _ s₁' h₁' => ?_) fun _ _ h' => h')
    refine wpAny_bind (wpAny_mono h₁' (fun _ s₂ h₂ => ?_) fun _ _ h' => h')
    refine wpAny_bind (wpAny_tests_nil ?_)
    simp only [if_true]
    exact wpAny_bind (wpAny_bind (wpAny_mono h₂ (fun v s₁ h₁ => wpAny_bind (wpAny_mono h₁ (fun _ s₂ h₂ => wpAny_pure (wpAny_pure ⟨rfl, h₂⟩)) fun _ _ e => e)) fun _ _ e => e))
end
end Mine

open PySem PySem.W PyProof.Rows
set_option Elab.async false
set_option linter.unusedVariables false
namespace Mine
section
variable {W : Wd} {A : Around} {env : Env} {Δ : Ctx} {μ : MM}

theorem SrcT.after {F F' : FM} {s s' s₂ : Shared} {it : Value} {xs : List (D × D)} (x : Ext F s F' s') (h : ∃ F₂, Ext F' s' F₂ s₂ ∧ SrcT W A F₂ s' s₂ it xs) : ∃ F₂, Ext F s F₂ s₂ ∧ SrcT W A F₂ s s₂ it xs := by
  obtain ⟨F₂, x₂, i, e1, q⟩ := h
  refine ⟨F₂, x.trans x₂, i, e1, q.hW, q.now, q.hP, q.hfd, fun b hb => ⟨(q.hwr b hb).1, ?_⟩, q.hex⟩
  cases e : s.heap.get? b with
  | none => rfl
  | some o => have := (q.hwr b hb).2; rw [Keeps.get x.keeps e] at this; cases this

/-- enumerate(list) -/
def enumL (ds : List D) : List (D × D) := (List.range ds.length).map fun (i : Nat) => (D.int ((i : Nat) : Int), ds[i]?.getD .none)

theorem IterEvT.enumerate (hW : W.Ok) {p pos : Pos} {e : Expr} {ds : List D} (hh : A.handled = none) (hg : GlobVal W "enumerate" (.type "enumerate")) (hk : env.kindOf "enumerate" = some .globalImplicit) (hn : notStar e = true) (he : Ev W A env Δ μ e (.list ds)) :
    IterEvT W A env Δ μ (.Call (.Name "enumerate" p) [e] [] pos) (enumL ds) := fun F s E S => by
  refine Call_ (wpAny_Name (loadGlob hW S hg hk ?_) (by decide)) rfl
  refine callWith_any (.inr (.inl ⟨_, rfl⟩)) (.cons hn he .nil) (by simp) S fun F' s' vs x r => ?_
  have S' := S.ext x
  rw [RelVs] at r; obtain ⟨v, r', rfl, h1, h2⟩ := r
  rw [RelVs] at h2; subst h2
  rw [RelV] at h1; obtain ⟨l, vs, n, rfl, hFl, hrel⟩ := h1
  have hget := S'.sub _ _ hFl
  have hL := lobj_isList hget
  have hlt : l < s'.heap.objs.size := Heap.lt_size hget
  refine call_enumerate_list hL fun h' hE hI hsz hkp => ?_
  refine wpAny_pyIter_enum hE ?_
  have kp : Keeps s' { s' with heap := h' } := ⟨h', s'.toks, rfl, hkp⟩
  refine SrcT.after x ⟨F', Ext.ofKeeps S'.sub kp, ?_⟩
  have hw := WalksT.enumerate (prog := W.prog) (w := W.w) (A := A) hh (s'.heap.objs.size + 1) s'.heap.objs.size l (Nat.succ_ne_self _) (Nat.ne_of_lt (Nat.lt_succ_of_lt hlt)) (Nat.ne_of_lt hlt) vs.toArray
  have hlen : vs.toArray.size = (enumL ds).length := by simp [enumL, hrel.length]
  rw [hlen] at hw
  have fresh : ∀ k, s'.heap.get? (s'.heap.objs.size + k) = none := fun k => by
    cases e : s'.heap.get? (s'.heap.objs.size + k) with
    | none => rfl
    | some o => exact absurd (Heap.lt_size e) (Nat.not_lt.mpr (Nat.le_add_right _ _))
  have freshF : ∀ k, F' (s'.heap.objs.size + k) = none := fun k => by
    cases e : F' (s'.heap.objs.size + k) with
    | none => rfl
    | some o => have := S'.sub _ _ e; rw [fresh k] at this; cases this
  refine ⟨⟨_, _, _, _, _, _⟩, rfl, hw, ⟨⟨_, hE⟩, hI, hL.at fun o e => hkp _ o e⟩, fun i vals hv => ?_, fun b hb => ?_, fun b hb => ?_, fun i h st b hb => ?_⟩
  · obtain ⟨t, y, hy, rfl⟩ := hv
    have h' : vs[i]? = some y := by simpa using hy
    have hi : i < ds.length := by rw [← hrel.length]; exact (List.getElem?_eq_some_iff.mp h').1
    obtain ⟨v', h1, h2⟩ := hrel.get (i := i) (d := ds[i]) (by simp [hi])
    rw [h1] at h'; cases h'
    exact ⟨(.int (i : Int), ds[i]), _, _, by simp [enumL, hi], rfl, by rw [RelV]; exact ⟨t, rfl⟩, h2⟩
  · simp at hb
    have hE' : h'.get? _ = some _ := hE
    obtain ⟨oI, eI, _⟩ := hI
    rcases hb with rfl | rfl | rfl
    · show h'.get? _ ≠ none
      rw [hE']; simp
    · show h'.get? _ ≠ none
      rw [eI]; simp
    · show h'.get? _ ≠ none
      rw [hkp _ _ hget]; simp
  · simp at hb
    rcases hb with rfl | rfl
    · exact ⟨freshF 1, fresh 1⟩
    · exact ⟨freshF 0, fresh 0⟩
  · obtain ⟨⟨old, hE'⟩, ⟨oI, eI, _⟩, _⟩ := st
    have hE'' : h.get? _ = some _ := hE'
    simp at hb
    rcases hb with rfl | rfl
    · rw [hE'']; simp
    · rw [eI]; simp

theorem comp_coreT {c : Code} {x x' : Str} {px px' tp : Pos} {tk : Nat} {B : (Unit → Shared → Prop) → (Value → Shared → Prop) → Shared → Prop} {I : Addr} {fp wr : List Addr} {P : Nat → Array Value → Prop} {Stw : Nat → Heap → Prop} {Mid : Nat → Addr → Heap → Prop}
    {xs : List (D × D)} {Acc : Addr} {xa : List Addr} {o : Nat → D} {F : FM} {s : Shared} {R : Result → Shared → Prop} (hh : A.handled = none)
    (LC : LoopCodeT W A env c (.ref I) (.Tuple [.Name x px, .Name x' px'] tk tp) B)
    (hW : WalksT W.prog W.w A I fp wr xs.length P Stw Mid) (hst : Stw 0 s.heap) (hP : ∀ i vals, P i vals → ∃ d v₁ v₂, xs[i]? = some d ∧ vals = #[v₁, v₂] ∧ RelV F d.1 v₁ ∧ RelV F d.2 v₂)
    (hex : ∀ i h, Stw i h → ∀ b ∈ wr, h.get? b ≠ none)
    (hxk : env.kindOf x = some .local ∨ env.kindOf x = some .cell) (hxk' : env.kindOf x' = some .local ∨ env.kindOf x' = some .cell)
    (hxa : ∀ b, (b = env.locals ∧ env.kindOf x = some .local ∨ env.cells.lookup x = some b ∧ env.kindOf x = some .cell) → b ∈ xa)
    (hxa' : ∀ b, (b = env.locals ∧ env.kindOf x' = some .local ∨ env.cells.lookup x' = some b ∧ env.kindOf x' = some .cell) → b ∈ xa)
    (hfp : ∀ b ∈ fp, b ∉ xa ∧ b ≠ Acc)
    (hwr : ∀ b ∈ wr, F b = none ∧ μ b = none ∧ b ≠ env.locals ∧ (∀ y, (y, b) ∉ env.cells) ∧ b ≠ Acc)
    (hΔ : ∀ y d, Δ.lookup y = some d → y ≠ x) (hΔ' : ∀ y d, Δ.lookup y = some d → y ≠ x') (hAcc : μ Acc = none)
    (hsz : xs.length ≤ sizeLine)
    (body : ∀ i d, xs[i]? = some d → ∀ ys F s (Q : Unit → Shared → Prop) (E : Value → Shared → Prop), St W env ((x', d.2) :: (x, d.1) :: Δ) (μ.set Acc (.lst ys)) F s → ys.length + 1 ≤ sizeLine →
        (∀ F' s', St W env ((x', d.2) :: (x, d.1) :: Δ) (μ.set Acc (.lst (ys ++ [o i]))) F' s' → ExtBut (Acc :: xa) F s F' s' → Q () s') → B Q E s)
    (S : St W env Δ (μ.set Acc (.lst [])) F s)
    (hR : ∀ F' s', St W env Δ (μ.set Acc (.lst ((List.range xs.length).map o))) F' s' → ExtBut (Acc :: xa ++ wr) F s F' s' → R (.ok .next) s') :
    codeAny W.M A c R s := by
  refine LC R (fun k s' => ∃ i F', k = xs.length + 1 - i ∧ i ≤ xs.length ∧ St W env Δ (μ.set Acc (.lst ((List.range i).map o))) F' s' ∧ ExtBut (Acc :: xa ++ wr) F s F' s' ∧ Stw i s'.heap ∧ ∀ b ∈ wr, F' b = none) ?_ (xs.length + 1) s
    ⟨0, F, rfl, Nat.zero_le _, by simpa using S, .rfl', hst, fun b hb => (hwr b hb).1⟩
  rintro k s' ⟨i, F', rfl, hi, S', x1, st', hF'⟩
  have wrOk : ∀ (F' : FM) (ys : List D), (∀ b ∈ wr, F' b = none) → ∀ b ∈ wr, F' b = none ∧ (μ.set Acc (.lst ys)) b = none ∧ b ≠ env.locals ∧ ∀ y, (y, b) ∉ env.cells := fun F' ys hF b hb =>
    ⟨hF b hb, by rw [MM.set_ne (hwr b hb).2.2.2.2]; exact (hwr b hb).2.1, (hwr b hb).2.2.1, (hwr b hb).2.2.2.1⟩
  by_cases hlt : i < xs.length
  · refine hW.item i s' _ _ hlt st' fun T vals h₁ tk₁ hPv hTs hT hMid hk₁ => ?_
    obtain ⟨d, v₁, v₂, hd, rfl, rv₁, rv₂⟩ := hP i vals hPv
    have kb : KeepsBut wr s' { s' with heap := h₁, toks := tk₁ } := ⟨h₁, tk₁, rfl, fun b ob hb e => hk₁ b ob hb e⟩
    have S₁ := S'.frame kb (wrOk F' _ hF')
    have hTw : T ∉ wr := hW.apart _ _ _ hMid
    refine hW.go _ _ _ i T _ _ _ hMid fun h₂ st₂ hk₂ => ?_
    have kb₂ : KeepsBut wr { s' with heap := h₁, toks := tk₁ } { s' with heap := h₂, toks := tk₁ } := ⟨h₂, tk₁, rfl, fun b ob hb e => hk₂ b ob hb e⟩
    have S₂ := S₁.frame kb₂ (wrOk F' _ hF')
    have hT₂ : h₂.IsTuple T #[v₁, v₂] := hT.at fun ob e => hk₂ T ob hTw e
    refine wpAny_assign_Tuple hh (s := { s' with heap := h₂, toks := tk₁ }) hT₂ rfl rfl fun h₃ hx₃ => ?_
    have kp₃ : Keeps { s' with heap := h₂, toks := tk₁ } { s' with heap := h₃, toks := tk₁ } := ⟨h₃, tk₁, rfl, fun b ob e => hx₃ b ob (Nat.ne_of_lt (Heap.lt_size e)) e⟩
    have S₃ := S₂.ext (Ext.ofKeeps S₂.sub kp₃)
    have st₃ : Stw (i + 1) h₃ := hW.frame _ _ _ st₂ fun c _ oc e => Keeps.get kp₃ e
    have x₃ : ExtBut (Acc :: xa ++ wr) F s F' { s' with heap := h₃, toks := tk₁ } := x1.trans ((ExtBut.same ((kb.trans kb₂).trans (KeepsBut.ofKeeps kp₃))).mono fun b hb => by simp [hb])
    refine assignInOrder_cons (wpAny_assign_Name (S₃.store hxk (rv₁.mono x1.sub) fun s₄ b hb S₄ x₄ => ?_))
    refine assignInOrder_cons (wpAny_assign_Name (S₄.store hxk' (rv₂.mono x1.sub) fun s₅ b' hb' S₅ x₅ => ?_))
    refine assignInOrder_nil ?_
    have hm := hxa b hb
    have hm' := hxa' b' hb'
    have x₅' : ExtBut (Acc :: xa ++ wr) F s F' s₅ := (x₃.trans (x₄.mono fun c hc => by simp at hc; subst hc; simp [hm])).trans (x₅.mono fun c hc => by simp at hc; subst hc; simp [hm'])
    have st₅ : Stw (i + 1) s₅.heap := hW.frame _ _ _ st₃ fun c hc oc e => x₅.keeps.get (by simp; rintro rfl; exact (hfp c hc).1 hm') (x₄.keeps.get (by simp; rintro rfl; exact (hfp c hc).1 hm) e)
    refine body i d hd _ F' s₅ _ _ S₅ (by simp; omega) fun F₆ s₆ S₆ x₆ => ?_
    have hkeep : ∀ c ∈ fp, ∀ oc, s₅.heap.get? c = some oc → s₆.heap.get? c = some oc := fun c hc oc e => x₆.keeps.get (by simp; exact ⟨(hfp c hc).2, (hfp c hc).1⟩) e
    refine ⟨xs.length + 1 - (i + 1), by omega, i + 1, F₆, rfl, by omega, ?_, x₅'.trans (x₆.mono fun c hc => by simp at hc ⊢; rcases hc with h | h <;> simp [h]), hW.frame _ _ _ st₅ hkeep, fun b hb => ?_⟩
    · have hstep : (List.range (i + 1)).map o = (List.range i).map o ++ [o i] := by rw [List.range_succ, List.map_append]; rfl
      rw [hstep]
      exact S₆.weakenV fun y e h => by
        refine lookup_cons_ne (lookup_cons_ne h (hΔ y e h)) (hΔ' y e h)
    · cases e : F₆ b with
      | none => rfl
      | some ob =>
        rcases x₆.new b (by rw [e]; simp) (hF' b hb) with h1 | h1
        · exact absurd h1 (hex _ _ st₅ b hb)
        · have hbf := hfp b (hW.sub b hb)
          simp at h1
          rcases h1 with h1 | h1
          · exact absurd h1 hbf.2
          · exact absurd h1 hbf.1
  · have hin : i = xs.length := by omega
    subst hin
    refine hW.done s' _ _ st' fun h₁ tk₁ hk₁ => ?_
    have kb : KeepsBut wr s' { s' with heap := h₁, toks := tk₁ } := ⟨h₁, tk₁, rfl, fun b ob hb e => hk₁ b ob hb e⟩
    exact hR F' _ (S'.frame kb (wrOk F' _ hF')) (x1.trans ((ExtBut.same kb).mono fun b hb => by simp [hb]))

theorem run1T {elt iter : Expr} {x x' : Str} {px px' tp : Pos} {tk : Nat} {scope : Scope} {p : Pos} {xs : List (D × D)} {o : Nat → D} (hh : A.handled = none) (ok : ScopeOk scope env) (hx : OwnName scope x) (hx' : OwnName scope x')
    (hsz : xs.length ≤ sizeLine)
    (body : ∀ cenv, In W env scope cenv → ∀ i d, xs[i]? = some d → Ev W A cenv ((x', d.2) :: (x, d.1) :: freeCtx scope Δ) μ elt (o i)) :
    CompRunT W A env Δ μ (.ListComp elt [⟨.Tuple [.Name x px, .Name x' px'] tk tp, iter, [], 0⟩] scope p) scope [x, x'] xs ((List.range xs.length).map o) := by
  intro cenv F s₀ s it Acc R fp wr P Stw Mid I hin hit S hAcc hW hst hP hex hfp hwr hR
  subst hit
  have kx : cenv.kindOf x = some .local ∨ cenv.kindOf x = some .cell := by
    rcases own_kind ok hin.sc hx with h | h
    · exact .inl h.1
    · exact .inr h.1
  have kx' : cenv.kindOf x' = some .local ∨ cenv.kindOf x' = some .cell := by
    rcases own_kind ok hin.sc hx' with h | h
    · exact .inl h.1
    · exact .inr h.1
  refine comp_coreT (B := emitB W A elt (.ref Acc) cenv) (o := o) (xa := xaOf cenv [x, x']) hh loop1T hW hst hP hex kx kx' (fun b hb => own_xa ok hin.sc (by simp) hb) (fun b hb => own_xa ok hin.sc (by simp) hb) hfp hwr
    (fun y d h => own_ne ok hx h) (fun y d h => own_ne ok hx' h) hAcc hsz (fun i d hd ys F s Q E S hsz h => ?_) S hR
  exact emit_ok hAcc (body cenv hin i d hd) S hsz h

variable {fr : List Addr} {K : Out → Ctx → MM → Prop}

theorem Wp1.assignUsedT {x y y' : Str} {px pos p py py' tp : Pos} {tk : Nat} {elt iter : Expr} {scope : Scope} {xs : List (D × D)} {o : Nat → D} (hh : A.handled = none) (hs : swapsWith (.ListComp elt [⟨.Tuple [.Name y py, .Name y' py'] tk tp, iter, [], 0⟩] scope p) (some (.Name x px)) pos.line env = pure true)
    (hk : env.kindOf x = some .local) (ok : ScopeOk scope env) (hy : OwnName scope y) (hy' : OwnName scope y') (hset : notSet iter = true) (hsz : xs.length ≤ sizeLine) (hit : IterEvT W A env Δ μ iter xs)
    (body : ∀ cenv, In W env scope cenv → ∀ i d, xs[i]? = some d → Ev W A cenv ((y', d.2) :: (y, d.1) :: freeCtx scope Δ) μ elt (o i))
    (h : K .next ((x, .list ((List.range xs.length).map o)) :: Δ) μ) : Wp1 W A fr env (.Assign [.Name x px] (.ListComp elt [⟨.Tuple [.Name y py, .Name y' py'] tk tp, iter, [], 0⟩] scope p) pos) Δ μ K := fun B F₀ F s Q E S k => by
  have run := run1T (p := p) (px := py) (px' := py') (tp := tp) (tk := tk) (iter := iter) hh ok hy hy' hsz body
  generalize (List.range xs.length).map o = out at run h
  have hown : ∀ z ∈ [y, y'], OwnName scope z := fun z hz => by simp at hz; rcases hz with rfl | rfl <;> assumption
  rw [exec_Assign_Name_used _ _ _ _ hs]
  refine wpAny_bind (wpAny_standAt (wpAny_bind ?_))
  show wpAny _ A (do let _ ← comprehension (.ListComp elt [⟨.Tuple [.Name y py, .Name y' py'] tk tp, iter, [], 0⟩] scope p) scope env _ (newList []) false (eval iter env) (some (PySem.assign (.Name x px) env))) _ _ s
  refine wpAny_bind (wpAny_mono (comp_allT (use := some (PySem.assign (.Name x px) env)) (Q := fun _ s' => Q .next s') ok hown hset rfl hit run S.st fun F' s' Acc C M => ?_) (fun _ s' hq => wpAny_pure (wpAny_pure hq)) fun _ _ e => e)
  show wpAny _ A (PySem.assign (.Name x px) env (.ref Acc)) _ _ _
  obtain ⟨vs, n, hget, hrel⟩ := M.rel
  have S₂ : Sf W fr B F₀ env Δ μ (F'.add Acc (lobj vs n)) s' := S.ext (M.ext.addNew (a := Acc) hget M.accN M.accF)
  have hLC : env.locals ≠ C := by
    rintro h0; obtain ⟨m, o, _, _, ho, _⟩ := S.st.ns; rw [h0, M.locN] at ho; cases ho
  refine wpAny_assign_Name (S₂.st.store (.inl hk) (d := .list out) (by rw [RelV]; exact ⟨Acc, vs, n, rfl, FM.add_self .., hrel.mono (FM.add_sub M.accF)⟩) fun s₃ b hb S₃ x₃ => ?_)
  have hbL : b = env.locals := by
    rcases hb with ⟨h1, _⟩ | ⟨_, h1⟩
    · exact h1
    · rw [hk] at h1; cases h1
  have Sf₃ : Sf W fr B F₀ env ((x, .list out) :: Δ) μ (F'.add Acc (lobj vs n)) s₃ := S₂.own' S₃ x₃ (fun c hc => by simp at hc; subst hc; rw [hbL]; exact S.loc) S.own
  obtain ⟨m, hn⟩ := M.ns
  have hCF : (F'.add Acc (lobj vs n)) C = none := by
    have : C ≠ Acc := fun e => M.ne e.symm
    simp [FM.add, this, M.locF]
  have hCμ : μ C = none := by
    cases e : μ C with
    | none => rfl
    | some m' => obtain ⟨_, hr⟩ := S.st.mu C m' e; obtain ⟨o, ho⟩ := hr.some; rw [M.locN] at ho; cases ho
  have hCB : B C = none := by
    cases e : B C with
    | none => rfl
    | some o => obtain ⟨o', h6⟩ := S.there e; rw [M.locN] at h6; cases h6
  refine ⟨m, hn.at' fun o e => x₃.keeps.get (by simp; rw [hbL]; exact fun e => hLC e.symm) e, fun h' hs' => ?_⟩
  have kb : KeepsBut [C] s₃ { s₃ with heap := h' } := ⟨h', s₃.toks, rfl, fun b o hb e => (hs'.2 b (by simpa using hb)).trans e⟩
  refine k .next _ _ _ _ h (Sf₃.own' (Sf₃.st.frame kb fun b hb => ?_) (.same kb) (fun b hb => by simp at hb; subst hb; exact hCB) Sf₃.own)
  simp at hb; subst hb
  refine ⟨hCF, hCμ, fun e => hLC e.symm, fun y hy => ?_⟩
  obtain ⟨_, _, _, v, o, ho, _⟩ := S.st.cellF y b hy
  rw [M.locN] at ho; cases ho
end
end Mine

open PySem PySem.W PyProof.Rows
set_option Elab.async false
set_option linter.unusedVariables false
namespace Mine
section
variable {W : Wd}
/-- the law's own call -/
theorem lawRun {k : Nat} {f : Str} {params : Arguments} {body : List Stmt} {scope : Scope} {ps : List Str} {ds : List D} {d : D} (hW : W.Ok) (hfn : FnAt W f params body scope) (hs : FnScope scope ps) (hlen : ps.length = ds.length)
    (hbind : ∀ pm code doc vs, vs.length = ds.length → bindArgs (Calls.docDef f params body scope pm code doc) ⟨vs, []⟩ = pure (ps.zip vs))
    (hbody : ∀ A env, GoodA A k → EnvOk env → env.scope = scope → A.frames = some [env] → env.frame = some env.locals → Wp W A [] env body (ps.zip ds) (fun _ => none) (fun o _ _ => o = .ret d)) :
    ∃ a, W.mg f = some (.ref a) ∧ ∀ (A : Around) (F : FM) (s : Shared) (Q : Value → Shared → Prop) (E : Value → Shared → Prop) (vs : List Value), GoodA A (k + 1) → A.frames = some [] → (∃ h tk, s = { W.s₁ with heap := h, toks := tk }) →
      (∀ b o, W.s₁.heap.get? b = some o → F b = some o) → (∀ a o, F a = some o → s.heap.get? a = some o) → RelVs F ds vs →
      (∀ v F' s', RelV F' d v → (∃ h tk, s' = { W.s₁ with heap := h, toks := tk }) → (∀ a o, F' a = some o → s'.heap.get? a = some o) → FSub F F' → (∀ b o, s.heap.get? b = some o → ∃ sl, s'.heap.get? b = some { o with slots := sl }) → Q v s') →
      wpAny W.M A (call (.ref a) vs) Q E s := by
  obtain ⟨a, o, pm, code, doc, hm, ho, hd, hcode⟩ := hfn
  refine ⟨a, hm, fun A F s Q E vs hA hfr hsame hbase hsub r hQ => ?_⟩
  refine enterF hW ho hd hcode hs hlen (hbind pm code doc) (fr := []) (B := fun b => s.heap.get? b) (μ₀ := fun _ => none) hA hsame hbase hsub r (fun b m e => by cases e) (fun _ _ e => e) (fun b hb => by cases hb) fun fenv s₁ hA' eok hsc hframe _ Sfn => ?_
  refine hbody (A.deeper fenv) fenv hA' eok hsc (Around.frames_deeper hfr) hframe _ F F s₁ _ _ Sfn fun o' Δ' μ' F' s' hK S' => ?_
  subst hK
  intro v hv
  exact hQ v F' s' hv S'.st.same S'.st.sub S'.fsub fun b ob e => by
    obtain ⟨sl, h1, _⟩ := S'.keep b ob e
    exact ⟨sl, h1⟩
end
end Mine

set_option linter.unusedSimpArgs false
open PySem PySem.W PyProof.Rows
set_option Elab.async false
set_option linter.unusedVariables false
namespace Mine

set_option maxRecDepth 100000
section
variable {W : Wd} {A : Around} {env : Env} {Δ : Ctx} {μ : MM} {K : Out → Ctx → MM → Prop} {Φ Ψ : Str → List D → Option D} {k : Nat} {sc : Scope}

theorem Cx.swap (C : Cx W A env μ Φ Ψ k sc) {value : Expr} {x : Str} {px : Pos} {line : Nat} {b : Bool} (h : swapB sc.names value x px = some b) : swapsWith value (some (.Name x px)) line env = pure b :=
  swap_of C.eok (by rw [C.sc]; exact h)
theorem Cx.evs (C : Cx W A env μ Φ Ψ k sc) (n : Nat) {es : List Expr} {ds : List D} (ok : (es.all fun e => okE n sc.names e && notStar e) = true) (h : evs (fun e => evD Φ Ψ μ n e Δ) es = some ds) : EvL W A env Δ μ es ds :=
  evs_sound (fun e d h1 h2 => (sound C.ok C.good C.tab n).1 e Δ d env C.eok h1 h2) (by rw [C.sc]; exact ok) h
theorem Cx.rangeF (C : Cx W A env μ Φ Ψ k sc) (n : Nat) {p pos : Pos} {es : List Expr} {ds : List D} {a b c : Int} (hk : sc.names.lookup (Str.ofString "range") = some .globalImplicit) (ok : (es.all fun e => okE n sc.names e && notStar e) = true) (h : Mine.evs (fun e => evD Φ Ψ μ n e Δ) es = some ds)
    (hr : rangeArgs ds = some (a, b, c)) (hsm : Builtin.Range.small a b c = true) : IterEvF W A env Δ μ (.Call (.Name "range" p) es [] pos) ((rangeL a b c).map .int) :=
  IterEvF.range C.ok C.good.handled C.tab.range (C.kind hk) (C.evs n ok h) hr hsm
theorem Cx.listF (C : Cx W A env μ Φ Ψ k sc) (n : Nat) {e : Expr} {xs : List D} (ok : okE n sc.names e = true) (h : evD Φ Ψ μ n e Δ = some (.list xs)) : IterEvF W A env Δ μ e xs := IterEvF.list C.good.handled (C.ev n ok h)
theorem Cx.iterE (C : Cx W A env μ Φ Ψ k sc) (n : Nat) {e : Expr} {xs : List D} (ok : okE n sc.names e = true) (h : evD Φ Ψ μ n e Δ = some (.list xs)) : IterEvF W A env Δ μ e xs := IterEvF.list C.good.handled (C.ev n ok h)
end
theorem Cx.comp {W : Wd} {A : Around} {env : Env} {Δ : Ctx} {μ : MM} {Φ Ψ : Str → List D → Option D} {k : Nat} {sc : Scope} (C : Cx W A env μ Φ Ψ k sc) (n : Nat) {elt : Expr} {gens : List Comprehension} {scope : Scope} {p : Pos} {d : D}
    (ok : okE (n + 1) sc.names (.ListComp elt gens scope p) = true) (h : evD Φ Ψ μ (n + 1) (.ListComp elt gens scope p) Δ = some d) : CompOk W A env Δ μ elt gens scope p d :=
  comp_sound C.ok C.good C.tab n C.eok (by rw [C.sc]; exact ok) h

/-- one function's frame, all in one -/
structure Fr (Φ Ψ : MM → Str → List D → Option D) (sc : Scope) where
  W : Wd
  A : Around
  fr : List Addr
  env : Env
  k : Nat
  cx : ∀ μ, Cx W A env μ (Φ μ) (Ψ μ) k sc

def R {Φ Ψ : MM → Str → List D → Option D} {sc : Scope} (F : Fr Φ Ψ sc) (ss : List Stmt) (Δ : Ctx) (μ : MM) (K : Out → Ctx → MM → Prop) : Prop := Wp F.W F.A F.fr F.env ss Δ μ K

abbrev Kg (P R : Ctx → MM → Prop) (T : D → Ctx → MM → Prop) : Out → Ctx → MM → Prop := fun o Δ μ => match o with
  | .next => P Δ μ
  | .cont => P Δ μ
  | .brk => R Δ μ
  | .ret d => T d Δ μ
abbrev Ko (P : Ctx → MM → Prop) : Out → Ctx → MM → Prop := fun o Δ μ => match o with
  | .next => P Δ μ
  | .cont => False
  | .brk => False
  | .ret _ => False
abbrev Kn (P : Ctx → MM → Prop) : Out → Ctx → MM → Prop := fun o Δ μ => match o with
  | .next => P Δ μ
  | .cont => P Δ μ
  | .brk => False
  | .ret _ => False

def nmB (sc : Scope) (x : Str) : Bool := sc.names.lookup x == some .local || sc.names.lookup x == some .cell
def asgB (n : Nat) (sc : Scope) (x : Str) (px : Pos) (e : Expr) : Bool := nmB sc x && swapB sc.names e x px == some false && okE n sc.names e
def appB (n : Nat) (sc : Scope) (o e : Expr) (apos cpos : Pos) : Bool := plainBase o && notStar e && (apos.endLine == cpos.line) && okE n sc.names o && okE n sc.names e
def rngB (n : Nat) (sc : Scope) (x : Str) (es : List Expr) : Bool := nmB sc x && sc.names.lookup (Str.ofString "range") == some .globalImplicit && es.all fun e => okE n sc.names e && notStar e

theorem mem_mapD {α : Type} {l : List α} {g : α → D} {i : Nat} {d : D} (h : (l.map g)[i]? = some d) : ∃ hi : i < l.length, d = g l[i] := by
  rw [List.getElem?_map] at h
  obtain ⟨x, hx, rfl⟩ := Option.map_eq_some_iff.mp h
  obtain ⟨hi, rfl⟩ := List.getElem?_eq_some_iff.mp hx
  exact ⟨hi, rfl⟩
theorem look_ne {x y : Str} {d : D} {Δ : Ctx} (h : (y == x) = false) : ((x, d) :: Δ).lookup y = Δ.lookup y := by rw [List.lookup_cons, h]
theorem look_eq {x : Str} {d : D} {Δ : Ctx} : ((x, d) :: Δ).lookup x = some d := by rw [List.lookup_cons, beq_self_eq_true]
theorem look_tl {x y : Str} {d e : D} {Δ : Ctx} (h : (y == x) = false) (h' : Δ.lookup y = some e) : ((x, d) :: Δ).lookup y = some e := (look_ne h).trans h'


/-- names that x is not among -/
def offN (N : List Str) (x : Str) : Bool := N.all fun y => !(y == x)
theorem offN_of {N : List Str} {x y : Str} (h : offN N x = true) (hy : N.elem y = true) : (y == x) = false := by
  have := List.all_eq_true.mp h y (List.elem_iff.mp hy)
  simpa using this
theorem look_off {N : List Str} {x y : Str} {d e : D} {Δ : Ctx} (h : offN N x = true) (hy : N.elem y = true) (h' : Δ.lookup y = some e) : ((x, d) :: Δ).lookup y = some e := look_tl (offN_of h hy) h'
theorem offN_sub {N N' : List Str} {x : Str} (hs : (N'.all fun y => N.elem y) = true) (h : offN N x = true) : offN N' x = true :=
  List.all_eq_true.mpr fun y hy => List.all_eq_true.mp h y (List.elem_iff.mp (List.all_eq_true.mp hs y hy))
theorem free_look {scope : Scope} {Δ : Ctx} {x : Str} {d : D} (h : (scope.names.lookup x == some .free) = true) (hd : Δ.lookup x = some d) : (freeCtx scope Δ).lookup x = some d := by
  have key : ∀ l : List (Str × NameKind), l.lookup x = some .free → (l.filterMap fun p => if p.2 == .free then (Δ.lookup p.1).map (p.1, ·) else none).lookup x = some d := by
    intro l
    induction l with
    | nil => intro h; cases h
    | cons p l ih =>
      obtain ⟨y, k⟩ := p
      intro h
      rw [List.lookup_cons] at h
      cases e : x == y with
      | true =>
        rw [e] at h; cases h
        obtain rfl := beq_iff_eq.mp e
        rw [List.filterMap_cons_some (b := (x, d)) (by show (Δ.lookup x).map (x, ·) = _; rw [hd]; rfl), List.lookup_cons, beq_self_eq_true]
      | false =>
        rw [e] at h
        have ih := ih h
        rw [List.filterMap_cons]
        split
        · exact ih
        · rename_i q hq
          split at hq
          · obtain ⟨z, _, rfl⟩ := Option.map_eq_some_iff.mp hq
            rw [List.lookup_cons, e]; exact ih
          · cases hq
  exact key _ (beq_iff_eq.mp h)
def eltE : Expr → Expr
  | .ListComp e _ _ _ => e
  | e => e
def whileB : Stmt → List Stmt
  | .While _ b _ _ => b
  | _ => []
theorem evN {Φ Ψ : Str → List D → Option D} {μ : MM} {Δ : Ctx} {n : Nat} {x : Str} {p : Pos} {d : D} (h : Δ.lookup x = some d) : evD Φ Ψ μ (n + 1) (.Name x p) Δ = some d := h
def forB : Stmt → List Stmt
  | .For _ _ b _ _ => b
  | _ => []
def valE : Stmt → Expr
  | .Assign _ e _ => e
  | _ => .Constant .none 0 ⟨0, 0, 0, 0⟩
theorem line_big : sizeLine = 16777216 := by decide
theorem sized_le {ds : List D} (h : ds.length ≤ 1000000) : sized ds = some (.list ds) := if_pos (by have := line_big; omega)
theorem len1 {α : Type} {l : List α} (h : l.length = 1) : ∃ a, l = [a] := by
  match l, h with
  | [a], _ => exact ⟨a, rfl⟩
theorem lenS {α : Type} {l : List α} {n : Nat} (h : l.length = n + 1) : ∃ a r, l = a :: r ∧ r.length = n := by
  cases l with
  | nil => cases h
  | cons a r => exact ⟨a, r, rfl, by simpa using h⟩
theorem len2 {α : Type} {l : List α} (h : l.length = 2) : ∃ a b, l = [a, b] := by
  obtain ⟨a, r, rfl, h'⟩ := lenS h; obtain ⟨b, rfl⟩ := len1 h'; exact ⟨a, b, rfl⟩
theorem len3 {α : Type} {l : List α} (h : l.length = 3) : ∃ a b c, l = [a, b, c] := by
  obtain ⟨a, r, rfl, h'⟩ := lenS h; obtain ⟨b, c, rfl⟩ := len2 h'; exact ⟨a, b, c, rfl⟩

section
variable {Φ Ψ : MM → Str → List D → Option D} {sc : Scope} {F : Fr Φ Ψ sc} {rest : List Stmt} {Δ : Ctx} {μ : MM} {K : Out → Ctx → MM → Prop}

theorem and3 {a b c : Bool} (h : (a && b && c) = true) : a = true ∧ b = true ∧ c = true := by cases a <;> cases b <;> cases c <;> first | exact ⟨rfl, rfl, rfl⟩ | cases h
theorem Fr.nm {x : Str} (h : nmB sc x = true) : F.env.kindOf x = some .local ∨ F.env.kindOf x = some .cell := by
  unfold nmB at h
  rcases Bool.or_eq_true _ _ ▸ h with h | h
  · exact .inl ((F.cx fun _ => none).kind (beq_iff_eq.mp h))
  · exact .inr ((F.cx fun _ => none).kind (beq_iff_eq.mp h))
theorem Fr.ev (n : Nat) {e : Expr} {d : D} (ok : okE n sc.names e = true) (h : evD (Φ μ) (Ψ μ) μ n e Δ = some d) : Ev F.W F.A F.env Δ μ e d := (F.cx μ).ev n ok h
theorem Fr.swap {e : Expr} {x : Str} {px : Pos} {line : Nat} {b : Bool} (h : (swapB sc.names e x px == some b) = true) : swapsWith e (some (.Name x px)) line F.env = pure b := (F.cx fun _ => none).swap (beq_iff_eq.mp h)

theorem R.mono {ss : List Stmt} {K' : Out → Ctx → MM → Prop} (h : R F ss Δ μ K') (hk : ∀ o Δ' μ', K' o Δ' μ' → K o Δ' μ') : R F ss Δ μ K := Wp.mono h hk
theorem R.nil (h : K .next Δ μ) : R F [] Δ μ K := Wp.nil h
theorem R.assign (n : Nat) {x : Str} {px pos : Pos} {e : Expr} {d : D} (ok : asgB n sc x px e = true) (h : evD (Φ μ) (Ψ μ) μ n e Δ = some d) (hr : R F rest ((x, d) :: Δ) μ K) :
    R F (.Assign [.Name x px] e pos :: rest) Δ μ K := by
  obtain ⟨h1, h2, h3⟩ := and3 ok
  exact Wp.cons (Wp1.assign (Fr.swap h2) (Fr.nm h1) (Fr.ev n h3 h) hr)
theorem R.new (n : Nat) {x : Str} {px pos : Pos} {e : Expr} {ds : List D} (ok : asgB n sc x px e = true) (he : EvNew F.W F.A F.env Δ μ e ds) (hr : ∀ a, μ a = none → R F rest ((x, .ref a) :: Δ) (μ.set a (.lst ds)) K) :
    R F (.Assign [.Name x px] e pos :: rest) Δ μ K := by
  obtain ⟨h1, h2, h3⟩ := and3 ok
  exact Wp.cons (Wp1.assignNew (Fr.swap h2) (Fr.nm h1) he hr)
theorem R.made {x : Str} {px pos : Pos} {e : Expr} {P : D → MM → Prop} (ok : (nmB sc x && swapB sc.names e x px == some false) = true) (he : EvA F.W F.A F.fr F.env Δ μ e P) (hr : ∀ d μ', P d μ' → R F rest ((x, d) :: Δ) μ' K) :
    R F (.Assign [.Name x px] e pos :: rest) Δ μ K := by
  obtain ⟨h1, h2⟩ := Bool.and_eq_true_iff.mp ok
  exact Wp.cons (Wp1.assignA (Fr.swap h2) (Fr.nm h1) he hr)
theorem R.used (n : Nat) {x : Str} {px pos p : Pos} {elt : Expr} {gens : List Comprehension} {scope : Scope} {d : D} (ok : (sc.names.lookup x == some .local && swapB sc.names (.ListComp elt gens scope p) x px == some true && okE (n + 1) sc.names (.ListComp elt gens scope p)) = true)
    (h : evD (Φ μ) (Ψ μ) μ (n + 1) (.ListComp elt gens scope p) Δ = some d) (hr : R F rest ((x, d) :: Δ) μ K) : R F (.Assign [.Name x px] (.ListComp elt gens scope p) pos :: rest) Δ μ K := by
  obtain ⟨h1, h2, h3⟩ := and3 ok
  exact Wp.cons (Wp1.assignUsed (Fr.swap h2) ((F.cx fun _ => none).kind (beq_iff_eq.mp h1)) ((F.cx μ).comp n h3 h) hr)
theorem R.aug (n : Nat) {x : Str} {px pos : Pos} {op : Operator} {e : Expr} {a b c : Int} (ok : (nmB sc x && !(x == ("__classdict__" : Str)) && okE n sc.names e) = true) (hx : Δ.lookup x = some (.int a)) (h : evD (Φ μ) (Ψ μ) μ n e Δ = some (.int b)) (ho : iarith op a b = some c)
    (hr : R F rest ((x, .int c) :: Δ) μ K) : R F (.AugAssign (.Name x px) op e pos :: rest) Δ μ K := by
  obtain ⟨h1, h2, h3⟩ := and3 ok
  exact Wp.cons (Wp1.augName (F.cx μ).ok (Fr.nm h1) hx (by simpa using h2) (Fr.ev n h3 h) ho hr)
theorem R.ret (n : Nat) {e : Expr} {pos : Pos} {d : D} (ok : okE n sc.names e = true) (h : evD (Φ μ) (Ψ μ) μ n e Δ = some d) (hk : K (.ret d) Δ μ) : R F (.Return (some e) pos :: rest) Δ μ K := Wp.cons (Wp1.ret (Fr.ev n ok h) hk)
theorem R.brk {pos : Pos} (hk : K .brk Δ μ) : R F (.Break pos :: rest) Δ μ K := Wp.cons (Wp1.break_ hk)
theorem R.append (n : Nat) {o e : Expr} {apos cpos pos : Pos} {a : Addr} {ys : List D} {d : D} (ok : appB n sc o e apos cpos = true) (ho : evD (Φ μ) (Ψ μ) μ n o Δ = some (.ref a)) (hm : μ a = some (.lst ys)) (he : evD (Φ μ) (Ψ μ) μ n e Δ = some d)
    (hsz : ys.length ≤ sizeLine) (hr : R F rest Δ (μ.set a (.lst (ys ++ [d]))) K) : R F (.Expr (.Call (.Attribute o "append" apos) [e] [] cpos) pos :: rest) Δ μ K := by
  obtain ⟨h1, h5⟩ := Bool.and_eq_true_iff.mp ok
  obtain ⟨h1, h4⟩ := Bool.and_eq_true_iff.mp h1
  obtain ⟨h1, h2, h3⟩ := and3 h1
  exact Wp.cons (Wp1.append h1 h2 h3 (Fr.ev n h4 ho) hm (Fr.ev n h5 he) hsz hr)
theorem R.extend (n : Nat) {o e : Expr} {apos cpos pos : Pos} {a : Addr} {ys zs : List D} {d : D} (ok : appB n sc o e apos cpos = true) (ho : evD (Φ μ) (Ψ μ) μ n o Δ = some (.ref a)) (hm : μ a = some (.lst ys)) (he : evD (Φ μ) (Ψ μ) μ n e Δ = some d)
    (hz : asList μ d = some zs) (hsz : ys.length + zs.length ≤ sizeLine) (hr : R F rest Δ (μ.set a (.lst (ys ++ zs))) K) : R F (.Expr (.Call (.Attribute o "extend" apos) [e] [] cpos) pos :: rest) Δ μ K := by
  obtain ⟨h1, h5⟩ := Bool.and_eq_true_iff.mp ok
  obtain ⟨h1, h4⟩ := Bool.and_eq_true_iff.mp h1
  obtain ⟨h1, h2, h3⟩ := and3 h1
  exact Wp.cons (Wp1.extend h1 h2 h3 (Fr.ev n h4 ho) hm (Fr.ev n h5 he) hz hsz hr)
theorem R.appendA {o e : Expr} {apos cpos pos : Pos} {a : Addr} {ys : List D} {P : D → MM → Prop} (n : Nat) (ok : appB n sc o e apos cpos = true) (ho : evD (Φ μ) (Ψ μ) μ n o Δ = some (.ref a)) (hm : μ a = some (.lst ys)) (he : EvA F.W F.A F.fr F.env Δ μ e P)
    (hr : ∀ d μ', P d μ' → ∃ ys, μ' a = some (.lst ys) ∧ ys.length ≤ sizeLine ∧ R F rest Δ (μ'.set a (.lst (ys ++ [d]))) K) : R F (.Expr (.Call (.Attribute o "append" apos) [e] [] cpos) pos :: rest) Δ μ K := by
  obtain ⟨h1, h5⟩ := Bool.and_eq_true_iff.mp ok
  obtain ⟨h1, h4⟩ := Bool.and_eq_true_iff.mp h1
  obtain ⟨h1, h2, h3⟩ := and3 h1
  exact Wp.cons (Wp1.appendA h1 h2 h3 (Fr.ev n h4 ho) ⟨_, hm⟩ he hr)
theorem R.if_ (n : Nat) {t : Expr} {body orelse : List Stmt} {pos : Pos} {b : Bool} (ok : okT n sc.names t = true) (ht : tstD (Φ μ) (Ψ μ) μ n t Δ = some b) (h1 : b = true → R F body Δ μ K) (h2 : b = false → R F orelse Δ μ K) : R F [.If t body orelse pos] Δ μ K :=
  Wp.cons (Wp1.mono (Wp1.if_ ((F.cx μ).tst n ok ht) h1 h2) fun o Δ' μ' h => by cases o <;> first | exact Wp.nil h | exact h)
/-- an if with statements behind it: what holds behind it is told -/
theorem R.ifM (n : Nat) (M : Ctx → MM → Prop) {t : Expr} {body orelse : List Stmt} {pos : Pos} {b : Bool} (ok : okT n sc.names t = true) (ht : tstD (Φ μ) (Ψ μ) μ n t Δ = some b) (h1 : ∀ P : Ctx → MM → Prop, (∀ Δ μ, M Δ μ → P Δ μ) → b = true → R F body Δ μ (Kg P (K .brk) fun d => K (.ret d)))
    (h2 : ∀ P : Ctx → MM → Prop, (∀ Δ μ, M Δ μ → P Δ μ) → b = false → R F orelse Δ μ (Kg P (K .brk) fun d => K (.ret d))) (hr : ∀ Δ μ, M Δ μ → R F rest Δ μ K) (hc : ∀ Δ μ, M Δ μ → K .cont Δ μ) : R F (.If t body orelse pos :: rest) Δ μ K :=
  Wp.cons (Wp1.mono (Wp1.if_ ((F.cx μ).tst n ok ht) (h1 M fun _ _ h => h) (h2 M fun _ _ h => h)) fun o Δ' μ' h => by
    cases o with
    | next => exact hr _ _ h
    | brk => exact h
    | cont => exact hc _ _ h
    | ret => exact h)
theorem R.forB {x : Str} {px pos : Pos} {iter : Expr} {body : List Stmt} {xs : List D} (Inv : Nat → Ctx → MM → Prop) (ok : (nmB sc x && notSet iter) = true) (hit : IterEvF F.W F.A F.env Δ μ iter xs) (h0 : Inv 0 Δ μ)
    (hbody : ∀ i d Δ μ (P R' : Ctx → MM → Prop) (T : D → Ctx → MM → Prop), xs[i]? = some d → Inv i Δ μ → (∀ Δ μ, Inv (i + 1) Δ μ → P Δ μ) → (∀ Δ μ, R F rest Δ μ K → R' Δ μ) → (∀ d Δ μ, K (.ret d) Δ μ → T d Δ μ) → R F body ((x, d) :: Δ) μ (Kg P R' T))
    (hrest : ∀ Δ μ, Inv xs.length Δ μ → R F rest Δ μ K) : R F (.For (.Name x px) iter body [] pos :: rest) Δ μ K := by
  obtain ⟨h1, h2⟩ := Bool.and_eq_true_iff.mp ok
  refine Wp.cons (Wp1.for_ Inv h2 (Fr.nm h1) hit h0 (fun i d Δ μ hd hi => Wp.mono (hbody i d Δ μ (Inv (i + 1)) (fun Δ μ => R F rest Δ μ K) (fun d => K (.ret d)) hd hi (fun _ _ h => h) (fun _ _ h => h) (fun _ _ _ h => h)) fun o Δ' μ' h => ?_) fun Δ μ h => Wp.nil (hrest Δ μ h))
  cases o <;> exact h
theorem R.for_ {x : Str} {px pos : Pos} {iter : Expr} {body : List Stmt} {xs : List D} (Inv : Nat → Ctx → MM → Prop) (ok : (nmB sc x && notSet iter) = true) (hit : IterEvF F.W F.A F.env Δ μ iter xs) (h0 : Inv 0 Δ μ)
    (hbody : ∀ i d Δ μ (P : Ctx → MM → Prop), xs[i]? = some d → Inv i Δ μ → (∀ Δ μ, Inv (i + 1) Δ μ → P Δ μ) → R F body ((x, d) :: Δ) μ (Kn P))
    (hrest : ∀ Δ μ, Inv xs.length Δ μ → R F rest Δ μ K) : R F (.For (.Name x px) iter body [] pos :: rest) Δ μ K :=
  R.forB Inv ok hit h0 (fun i d Δ μ P R' T hd hi hp _ _ => R.mono (hbody i d Δ μ P hd hi hp) fun o Δ' μ' h => by cases o <;> first | exact h | exact False.elim h) hrest
theorem R.forE {x : Str} {px pos : Pos} {iter : Expr} {body orelse : List Stmt} {xs : List D} (Inv : Nat → Ctx → MM → Prop) (ok : (nmB sc x && notSet iter) = true) (hit : IterEvF F.W F.A F.env Δ μ iter xs) (h0 : Inv 0 Δ μ)
    (hbody : ∀ i d Δ μ (P R' : Ctx → MM → Prop), xs[i]? = some d → Inv i Δ μ → (∀ Δ μ, Inv (i + 1) Δ μ → P Δ μ) → (∀ Δ μ, R F rest Δ μ K → R' Δ μ) → R F body ((x, d) :: Δ) μ (Kg P R' fun d Δ μ => False))
    (hend : ∀ Δ μ (P : Ctx → MM → Prop), Inv xs.length Δ μ → (∀ Δ μ, R F rest Δ μ K → P Δ μ) → R F orelse Δ μ (Ko P)) : R F (.For (.Name x px) iter body orelse pos :: rest) Δ μ K := by
  obtain ⟨h1, h2⟩ := Bool.and_eq_true_iff.mp ok
  refine Wp.cons (Wp1.for_ Inv h2 (Fr.nm h1) hit h0 (fun i d Δ μ hd hi => Wp.mono (hbody i d Δ μ (Inv (i + 1)) (fun Δ μ => R F rest Δ μ K) hd hi (fun _ _ h => h) (fun _ _ h => h)) fun o Δ' μ' h => ?_) fun Δ μ h => Wp.mono (hend Δ μ (fun Δ μ => R F rest Δ μ K) h (fun _ _ h => h)) fun o Δ' μ' h => ?_)
  · cases o <;> first | exact h | exact False.elim h
  · cases o <;> first | exact h | exact False.elim h
theorem Fr.rangeF (n : Nat) {p pos : Pos} {es : List Expr} {ds : List D} {a b c : Int} (ok : (sc.names.lookup (Str.ofString "range") == some .globalImplicit && es.all fun e => okE n sc.names e && notStar e) = true) (h : evs (fun e => evD (Φ μ) (Ψ μ) μ n e Δ) es = some ds)
    (hr : rangeArgs ds = some (a, b, c)) (hsm : Builtin.Range.small a b c = true) : IterEvF F.W F.A F.env Δ μ (.Call (.Name "range" p) es [] pos) ((rangeL a b c).map .int) := by
  obtain ⟨h1, h2⟩ := Bool.and_eq_true_iff.mp ok
  exact (F.cx μ).rangeF n (beq_iff_eq.mp h1) h2 h hr hsm
theorem small_of {a b c : Int} (h1 : a.natAbs ≤ 1000000) (h2 : b.natAbs ≤ 1000000) (h3 : c = 1 ∨ c = -1) : Builtin.Range.small a b c = true := by
  have hf : ∀ x : Int, x.natAbs ≤ 3000000 → Builtin.Range.rangeFitsLong x = true := fun x hx => by
    unfold Builtin.Range.rangeFitsLong; simp; omega
  have hs : (Builtin.Range.rangeSize a b c).natAbs ≤ 3000000 := by
    unfold Builtin.Range.rangeSize
    rcases h3 with rfl | rfl
    · simp only [show (1 : Int) > 0 by decide, if_true, Int.ediv_one]; split <;> omega
    · simp only [show ¬ (-1 : Int) > 0 by decide, if_false, Int.neg_neg, Int.ediv_one]; split <;> omega
  have hb : (Builtin.Range.rangeFitsLong b) = true := hf b (by omega)
  unfold Builtin.Range.small
  rcases h3 with rfl | rfl
  · simp [hf a (by omega), hb, hf 1 (by decide), hf _ hs]
  · simp [hf a (by omega), hb, hf (-1) (by decide), hf _ hs]
theorem small_up {a m : Nat} (ha : a ≤ 1000000) (hm : m ≤ 1000000) : Builtin.Range.small (a : Int) (m : Int) 1 = true := small_of (by omega) (by omega) (.inl rfl)
/-- for x in range(e) -/
theorem R.forN (n m : Nat) {x : Str} {px pos p cp : Pos} {e : Expr} {body : List Stmt} (Inv : Nat → Ctx → MM → Prop) (ok : rngB n sc x [e] = true) (he : evD (Φ μ) (Ψ μ) μ n e Δ = some (.int (m : Nat))) (hm : m ≤ 1000000) (h0 : Inv 0 Δ μ)
    (hbody : ∀ i Δ μ (P : Ctx → MM → Prop), i < m → Inv i Δ μ → (∀ Δ μ, Inv (i + 1) Δ μ → P Δ μ) → R F body ((x, .int (i : Nat)) :: Δ) μ (Kn P))
    (hrest : ∀ Δ μ, Inv m Δ μ → R F rest Δ μ K) : R F (.For (.Name x px) (.Call (.Name "range" p) [e] [] cp) body [] pos :: rest) Δ μ K := by
  obtain ⟨h1, h2, h3⟩ := and3 ok
  have e1 : (rangeL 0 (m : Nat) 1).map D.int = (List.range m).map fun (p : Nat) => D.int p := by rw [rangeL_up, List.map_map]; rfl
  have hit := Fr.rangeF (F := F) (μ := μ) (Δ := Δ) n (p := p) (pos := cp) (ds := [.int (m : Nat)]) (Bool.and_eq_true_iff.mpr ⟨h2, h3⟩) (by simp only [evs, he]) rfl (small_up (a := 0) (by decide) hm)
  rw [e1] at hit
  refine R.for_ Inv (Bool.and_eq_true_iff.mpr ⟨h1, rfl⟩) hit h0 (fun i d Δ μ P hd hi hp => ?_) fun Δ μ h => hrest Δ μ (by simpa using h)
  obtain ⟨hlt, rfl⟩ := mem_mapD hd
  simp only [List.length_range] at hlt
  simp only [List.getElem_range]
  exact hbody i Δ μ P hlt hi hp
/-- for x in range(e, e') -/
theorem R.forR (n a m : Nat) {x : Str} {px pos p cp : Pos} {e e' : Expr} {body : List Stmt} (Inv : Nat → Ctx → MM → Prop) (ok : rngB n sc x [e, e'] = true) (he : evD (Φ μ) (Ψ μ) μ n e Δ = some (.int (a : Nat))) (he' : evD (Φ μ) (Ψ μ) μ n e' Δ = some (.int (m : Nat))) (ha : a ≤ 1000000) (hm : m ≤ 1000000) (h0 : Inv 0 Δ μ)
    (hbody : ∀ i Δ μ (P : Ctx → MM → Prop), a + i < m → Inv i Δ μ → (∀ Δ μ, Inv (i + 1) Δ μ → P Δ μ) → R F body ((x, .int ((a + i : Nat) : Int)) :: Δ) μ (Kn P))
    (hrest : ∀ Δ μ, Inv (m - a) Δ μ → R F rest Δ μ K) : R F (.For (.Name x px) (.Call (.Name "range" p) [e, e'] [] cp) body [] pos :: rest) Δ μ K := by
  obtain ⟨h1, h2, h3⟩ := and3 ok
  have e1 : (rangeL a (m : Nat) 1).map D.int = (List.range (m - a)).map fun (p : Nat) => D.int ((a + p : Nat) : Int) := by rw [rangeL_from, List.map_map]; rfl
  have hit := Fr.rangeF (F := F) (μ := μ) (Δ := Δ) n (p := p) (pos := cp) (ds := [.int (a : Nat), .int (m : Nat)]) (Bool.and_eq_true_iff.mpr ⟨h2, h3⟩) (by simp only [evs, he, he']) rfl (small_up ha hm)
  rw [e1] at hit
  refine R.for_ Inv (Bool.and_eq_true_iff.mpr ⟨h1, rfl⟩) hit h0 (fun i d Δ μ P hd hi hp => ?_) fun Δ μ h => hrest Δ μ (by simpa using h)
  obtain ⟨hlt, rfl⟩ := mem_mapD hd
  simp only [List.length_range] at hlt
  simp only [List.getElem_range]
  exact hbody i Δ μ P (by omega) hi hp
theorem R.augItem (n : Nat) {o i e : Expr} {tpos pos : Pos} {op : Operator} {a : Addr} {ys : List D} {k : Nat} {x y z : Int} (ok : (okE n sc.names o && okE n sc.names i && okE n sc.names e) = true) (hi' : ∀ ov iv new, augStore i ov iv new = (do holding [new, ov, iv] (setItem ov iv new); release [new, ov, iv] []; pure .next))
    (ho : evD (Φ μ) (Ψ μ) μ n o Δ = some (.ref a)) (hi : evD (Φ μ) (Ψ μ) μ n i Δ = some (.int (k : Nat))) (hm : μ a = some (.lst ys)) (hfit : k ≤ 1000000) (hx : ys[k]? = some (.int x)) (he : evD (Φ μ) (Ψ μ) μ n e Δ = some (.int y)) (hop : iarith op x y = some z)
    (hr : R F rest Δ (μ.set a (.lst (ys.set k (.int z)))) K) : R F (.AugAssign (.Subscript o i tpos) op e pos :: rest) Δ μ K := by
  obtain ⟨h1, h2, h3⟩ := and3 ok
  exact Wp.cons (Wp1.augItem hi' (Fr.ev n h1 ho) (Fr.ev n h2 hi) hm (by omega) (by omega) hx (Fr.ev n h3 he) hop hr)
theorem R.setKey (n : Nat) {o i e : Expr} {tpos pos : Pos} {P : D → MM → Prop} (ok : (okE n sc.names o && okE n sc.names i) = true) (hs : swapsWith e (some (.Subscript o i tpos)) pos.line F.env = pure false) (he : EvA F.W F.A F.fr F.env Δ μ e P)
    (hr : ∀ d μ', P d μ' → ∃ a f m k, evD (Φ μ') (Ψ μ') μ' n o Δ = some (.ref a) ∧ evD (Φ μ') (Ψ μ') μ' n i Δ = some (.int k) ∧ μ' a = some (.dct f m) ∧ m ≤ sizeLine ∧ R F rest Δ (μ'.set a (.dct (fun j => if j = k then some d else f j) (m + 1))) K) :
    R F (.Assign [.Subscript o i tpos] e pos :: rest) Δ μ K := by
  obtain ⟨h1, h2⟩ := Bool.and_eq_true_iff.mp ok
  refine Wp.cons (Wp1.setKeyA hs he fun d μ' h => ?_)
  obtain ⟨a, f, m, k, q1, q2, q3, q4, q5⟩ := hr d μ' h
  exact ⟨a, f, m, k, Fr.ev n h1 q1, Fr.ev n h2 q2, q3, q4, q5⟩
end
section
variable {Φ Ψ : Str → List D → Option D} {μ : MM} {Δ : Ctx} {n : Nat}
theorem evD_bin {l r : Expr} {op : Operator} {p : Pos} {a b : D} (hl : evD Φ Ψ μ n l Δ = some a) (hr : evD Φ Ψ μ n r Δ = some b) : evD Φ Ψ μ (n + 1) (.BinOp l op r p) Δ = binD μ op a b := by simp only [eI, eS, eN, eBin, eNeg, eCmp, eIf, eL, eSl, eXn, eXb, eXc, eXu, eXs, eCall, eM1, eM2, eB, opt2_ss, optS_s, idxV_int, hl, hr]
theorem evD_call1 {f : Str} {e : Expr} {p q : Pos} {a : D} (h : evD Φ Ψ μ n e Δ = some a) : evD Φ Ψ μ (n + 1) (.Call (.Name f p) [e] [] q) Δ = Φ f [a] := by simp only [eI, eS, eN, eBin, eNeg, eCmp, eIf, eL, eSl, eXn, eXb, eXc, eXu, eXs, eCall, eM1, eM2, eB, opt2_ss, optS_s, idxV_int, evs, h]
theorem evD_call2 {f : Str} {e e' : Expr} {p q : Pos} {a b : D} (h : evD Φ Ψ μ n e Δ = some a) (h' : evD Φ Ψ μ n e' Δ = some b) : evD Φ Ψ μ (n + 1) (.Call (.Name f p) [e, e'] [] q) Δ = Φ f [a, b] := by simp only [eI, eS, eN, eBin, eNeg, eCmp, eIf, eL, eSl, eXn, eXb, eXc, eXu, eXs, eCall, eM1, eM2, eB, opt2_ss, optS_s, idxV_int, evs, h, h']
theorem evD_meth {o e : Expr} {m : Str} {p q : Pos} {a b : D} (ho : evD Φ Ψ μ n o Δ = some a) (h : evD Φ Ψ μ n e Δ = some b) : evD Φ Ψ μ (n + 1) (.Call (.Attribute o m p) [e] [] q) Δ = methD μ m a [b] := by simp only [eI, eS, eN, eBin, eNeg, eCmp, eIf, eL, eSl, eXn, eXb, eXc, eXu, eXs, eCall, eM1, eM2, eB, opt2_ss, optS_s, idxV_int, ho, h]
theorem evD_slice {v : Expr} {lo hi st : Option Expr} {p q : Pos} {d : D} {l h s : Option Int} (hv : evD Φ Ψ μ n v Δ = some d) (h1 : partI (fun e => evD Φ Ψ μ n e Δ) lo = some l) (h2 : partI (fun e => evD Φ Ψ μ n e Δ) hi = some h) (h3 : partI (fun e => evD Φ Ψ μ n e Δ) st = some s) :
    evD Φ Ψ μ (n + 1) (.Subscript v (.Slice lo hi st p) q) Δ = sliceD μ d l h s := by simp only [eI, eS, eN, eBin, eNeg, eCmp, eIf, eL, eSl, eXn, eXb, eXc, eXu, eXs, eCall, eM1, eM2, eB, opt2_ss, optS_s, idxV_int, hv, h1, h2, h3]
theorem itD_range1 {e : Expr} {p q : Pos} {m : Nat} (h : evD Φ Ψ μ n e Δ = some (.int (m : Nat))) (hm : m ≤ 1000000) : itD Φ Ψ μ (n + 1) (.Call (.Name "range" p) [e] [] q) Δ = some ((List.range m).map fun (k : Nat) => .int k) := by
  have e1 : (rangeL 0 (m : Nat) 1).map D.int = (List.range m).map fun (p : Nat) => D.int p := by rw [rangeL_up, List.map_map]; rfl
  simp only [iRange, evs, h, nmRange, if_true, rangeArgs]
  rw [if_pos (small_of (by decide) (by omega) (.inl rfl)), e1]
theorem itD_range2 {e e' : Expr} {p q : Pos} {a m : Nat} (h0 : evD Φ Ψ μ n e Δ = some (.int (a : Nat))) (h : evD Φ Ψ μ n e' Δ = some (.int (m : Nat))) (ha : a ≤ 1000000) (hm : m ≤ 1000000) :
    itD Φ Ψ μ (n + 1) (.Call (.Name "range" p) [e, e'] [] q) Δ = some ((List.range (m - a)).map fun (k : Nat) => .int ((a + k : Nat) : Int)) := by
  have e1 : (rangeL a (m : Nat) 1).map D.int = (List.range (m - a)).map fun (p : Nat) => D.int ((a + p : Nat) : Int) := by rw [rangeL_from, List.map_map]; rfl
  simp only [iRange, evs, h0, h, nmRange, if_true, rangeArgs]
  rw [if_pos (small_of (by omega) (by omega) (.inl rfl)), e1]
theorem evD_list1 {e : Expr} {p : Pos} {d : D} (h : evD Φ Ψ μ n e Δ = some d) : evD Φ Ψ μ (n + 1) (.List [e] p) Δ = some (.list [d]) := by
  have hle : sizeLine = 16777216 := by decide
  simp only [eI, eS, eN, eBin, eNeg, eCmp, eIf, eL, eSl, eXn, eXb, eXc, eXu, eXs, eCall, eM1, eM2, eB, opt2_ss, optS_s, idxV_int, evs, h]; exact sized_of (by simp; omega)
theorem evD_name {x : Str} {p : Pos} : evD Φ Ψ μ (n + 1) (.Name x p) Δ = Δ.lookup x := by simp only [eI, eS, eN, eBin, eNeg, eCmp, eIf, eL, eSl, eXn, eXb, eXc, eXu, eXs, eCall, eM1, eM2, eB, opt2_ss, optS_s, idxV_int]
theorem evD_int {i : Int} {a : Nat} {p : Pos} : evD Φ Ψ μ (n + 1) (.Constant (.int i) a p) Δ = some (.int i) := by simp only [eI, eS, eN, eBin, eNeg, eCmp, eIf, eL, eSl, eXn, eXb, eXc, eXu, eXs, eCall, eM1, eM2, eB, opt2_ss, optS_s, idxV_int]
end
section
variable {μ : MM} {x y : Int} {e : Nat}
theorem b_add : binD μ .Add (.int x) (.int y) = some (.int (x + y)) := rfl
theorem b_sub : binD μ .Sub (.int x) (.int y) = some (.int (x - y)) := rfl
theorem b_mod (h : 0 < y) : binD μ .Mod (.int x) (.int y) = some (.int (x % y)) := by rw [binD_int]; simp only [aAdd, aSub, aMul, aDiv, aMod, aPow, aShl, aShr, aAnd, aOr, aXor]; rw [if_pos h]; rfl
theorem b_div (h : 0 < y) (h' : y < 1073741824) : binD μ .FloorDiv (.int x) (.int y) = some (.int (x / y)) := by rw [binD_int]; simp only [aAdd, aSub, aMul, aDiv, aMod, aPow, aShl, aShr, aAnd, aOr, aXor]; rw [if_pos ⟨h, h'⟩]; rfl
theorem b_pow (h : x.natAbs < 2 ^ 64) (he : e ≤ 1000000) : binD μ .Pow (.int x) (.int (e : Nat)) = some (.int (x ^ e)) := by rw [binD_int]; simp only [aAdd, aSub, aMul, aDiv, aMod, aPow, aShl, aShr, aAnd, aOr, aXor]; rw [if_pos ⟨by omega, by omega, h⟩]; rfl
end
theorem evD_ifInt {Φ Ψ : Str → List D → Option D} {μ : MM} {Δ : Ctx} {n : Nat} {t : Expr} {x y : Int} {a b : Nat} {p q r : Pos} {c : Bool} (h : tstD Φ Ψ μ (n + 1) t Δ = some c) :
    evD Φ Ψ μ (n + 2) (.IfExp t (.Constant (.int x) a p) (.Constant (.int y) b q) r) Δ = some (.int (if c = true then x else y)) := by
  rw [eIf, h]; cases c <;> rfl
theorem ite_iff {p q : Prop} [Decidable p] [Decidable q] (h : p ↔ q) (x y : Int) : (if p then x else y) = if q then x else y := by
  by_cases hp : p
  · rw [if_pos hp, if_pos (h.mp hp)]
  · rw [if_neg hp, if_neg fun hq => hp (h.mpr hq)]
section
variable {Φ Ψ : Str → List D → Option D} {μ : MM} {Δ : Ctx} {n : Nat}
theorem tstD_cmp {l r : Expr} {op : CmpOp} {p : Pos} {a b : D} (hl : evD Φ Ψ μ n l Δ = some a) (hr : evD Φ Ψ μ n r Δ = some b) : tstD Φ Ψ μ (n + 1) (.Compare l [op] [r] p) Δ = cmpD μ op a b := by simp only [tNot, tBool, tCmp, tN, tBin, tCall, opt2_ss, hl, hr]
theorem evD_if {t a b : Expr} {p : Pos} {c : Bool} (h : tstD Φ Ψ μ n t Δ = some c) : evD Φ Ψ μ (n + 1) (.IfExp t a b p) Δ = if c = true then evD Φ Ψ μ n a Δ else evD Φ Ψ μ n b Δ := by
  simp only [eI, eS, eN, eBin, eNeg, eCmp, eIf, eL, eSl, eXn, eXb, eXc, eXu, eXs, eCall, eM1, eM2, eB, opt2_ss, optS_s, idxV_int, h]; cases c <;> rfl
theorem evD_idx {v i : Expr} {p : Pos} {d : D} {j : Int} (hs : ∀ lo hi st q, i ≠ .Slice lo hi st q) (hv : evD Φ Ψ μ n v Δ = some d) (hi : evD Φ Ψ μ n i Δ = some (.int j)) : evD Φ Ψ μ (n + 1) (.Subscript v i p) Δ = idxD μ d j := by
  rw [eX hs, hv, hi, opt2_ss, idxV_int]
end
/-- what all values of a table have, has what is found -/
theorem lookP {P : PyData → Prop} : ∀ (D : List (PyData × PyData)), (∀ p ∈ D, P p.2) → ∀ x d, PySem.Spec.lookup x D = some d → P d
  | [], _, _, _, h => nomatch h
  | p :: D, hp, x, d, h => by
    unfold PySem.Spec.lookup at h
    split at h
    · cases h; exact hp p List.mem_cons_self
    · exact lookP D (fun q hq => hp q (List.mem_cons_of_mem _ hq)) x d h
end Mine

open PySem PySem.W PyProof.Rows
set_option Elab.async false
set_option linter.unusedVariables false
namespace Mine
/-! small facts on numbers, once -/
theorem lt3 : ∀ {i : Nat}, i < 3 → i = 0 ∨ i = 1 ∨ i = 2
  | 0, _ => .inl rfl
  | 1, _ => .inr (.inl rfl)
  | 2, _ => .inr (.inr rfl)
  | n + 3, h => absurd (Nat.lt_of_add_lt_add_right (show n + 3 < 0 + 3 from h)) (Nat.not_lt_zero n)
theorem le_line {n : Nat} (h : n ≤ 1000000) : n ≤ sizeLine := Nat.le_trans h (by decide)
theorem le_mil {n k : Nat} (h : n ≤ k) (hk : k ≤ 1000000 := by decide) : n ≤ 1000000 := Nat.le_trans h hk
theorem lt63 {n : Nat} (h : n ≤ 1000000) : n < 2 ^ 63 := Nat.lt_of_le_of_lt h (by decide)
theorem mod_nat {m b : Int} (hb : b ≠ 0) : m % b = ((m % b).toNat : Int) := (Int.toNat_of_nonneg (Int.emod_nonneg m hb)).symm
theorem mod_natlt {m : Int} {b : Nat} (hb : 0 < b) : (m % (b : Int)).toNat < b := (Int.toNat_lt (Int.emod_nonneg m (Int.ne_of_gt (Int.natCast_pos.mpr hb)))).mpr (Int.emod_lt_of_pos m (Int.natCast_pos.mpr hb))
theorem add_sub_lt {s m n : Nat} (h : m < n - s) : s + m < n := Nat.add_comm m s ▸ Nat.add_lt_of_lt_sub h
theorem abs_lt {a : Int} {B : Nat} (h0 : 0 ≤ a) (h1 : a < B) : a.natAbs < B := by omega
theorem abs_lt_neg {a c : Int} {B : Nat} (h0 : 0 ≤ a) (h1 : 0 ≤ c) (h2 : a + c < B) : (-c - a).natAbs < B := by omega
theorem abs_mod {m b : Int} {B : Nat} (hb : 0 < b) (h : b ≤ B) : (m % b).natAbs < B := abs_lt (Int.emod_nonneg m (Int.ne_of_gt hb)) (Int.lt_of_lt_of_le (Int.emod_lt_of_pos m hb) h)
theorem sub_nat {p k : Nat} (h : k ≤ p) : (p : Int) - (k : Int) = ((p - k : Nat) : Int) := (Int.ofNat_sub h).symm
theorem sub_lt_of {p k m : Nat} (h : k ≤ p) (hp : p < k + m) : p - k < m := Nat.sub_lt_left_of_lt_add h hp
end Mine

open PySem PySem.W PyProof.Rows
set_option Elab.async false
set_option linter.unusedVariables false
set_option linter.unusedSimpArgs false
set_option maxRecDepth 100000
namespace Mine
abbrev top : List Stmt := PySem.Challenge.pw_ph0109_01.main.body

def flagD : List (PyData × PyData) := [(.int 1, .str "OPTIMIZED"), (.int 2, .str "NEWLOCALS"), (.int 4, .str "VARARGS"), (.int 8, .str "VARKEYWORDS"), (.int 16, .str "NESTED"), (.int 32, .str "GENERATOR"), (.int 64, .str "NOFREE"), (.int 128, .str "COROUTINE"), (.int 256, .str "ITERABLE_COROUTINE"), (.int 512, .str "ASYNC_GENERATOR")]

/-- what the top gives, in both laws -/
structure Tp (W : Wd) : Prop where
  b : Bi W
  fpretty : FnAt W "pretty_flags" (dArgs (sAt top 2)) (dBody (sAt top 2)) (dScope (sAt top 2))
  fvar : FnAt W "_parse_varint" (dArgs (sAt top 3)) (dBody (sAt top 3)) (dScope (sAt top 3))
  fT : FnAt W "ISTERMINAL" (dArgs (sAt top 56)) (dBody (sAt top 56)) (dScope (sAt top 56))
  fN : FnAt W "ISNONTERMINAL" (dArgs (sAt top 57)) (dBody (sAt top 57)) (dScope (sAt top 57))
  fE : FnAt W "ISEOF" (dArgs (sAt top 58)) (dBody (sAt top 58)) (dScope (sAt top 58))
  cNT : ∃ t, W.mg "NT_OFFSET" = some (.int 256 t)
  cEM : ∃ t, W.mg "ENDMARKER" = some (.int 0 t)
  flags : ∃ a, W.mg "COMPILER_FLAG_NAMES" = some (.ref a) ∧ IntTab W.prog W.w W.s₁.heap a flagD


def nmFlag (i : Int) (dflt : Str) : Str := match PySem.Spec.lookup (.int i) flagD with
  | some (.str x) => x
  | _ => dflt

theorem flag_str (p) (hp : p ∈ flagD) : ∃ y, p.2 = PyData.str y := by
  have : (flagD.all fun p => match p.2 with | .str _ => true | _ => false) = true := by decide +kernel
  have := List.all_eq_true.mp this p hp
  split at this
  · exact ⟨_, by assumption⟩
  · cases this
theorem get_flags {W : Wd} (T : Tp W) (k : Nat) (μ : MM) (i : Int) (x : Str) : GetOk W k μ "COMPILER_FLAG_NAMES" [.int i, .str x] (.str (nmFlag i x)) := by
  obtain ⟨a, hm, hT⟩ := T.flags
  obtain ⟨lo, kvs, ⟨o, es, ep, ho, hx, hd, _⟩, hf⟩ := id hT
  refine ⟨a, o, hm, ho, hx.1, hx.2.1, fun A env Δ F s E vs hA S r => ?_⟩
  rw [RelVs] at r; obtain ⟨v, r', rfl, h1, h2⟩ := r
  rw [RelVs] at h2; obtain ⟨v', r2, rfl, h3, h4⟩ := h2
  rw [RelVs] at h4; subst h4
  rw [RelV] at h1; obtain ⟨t, rfl⟩ := h1
  rw [RelV] at h3; obtain ⟨t', rfl⟩ := h3
  refine call_get2_intTab (hT.keep fun b ob e => S.sub _ _ (S.base b ob e)) (PyProof.V.Flat.str x t') fun v hv => ?_
  have key : ∃ t, v = .str (nmFlag i x) t := by
    unfold nmFlag
    cases e : PySem.Spec.lookup (.int i) flagD with
    | none => rw [e] at hv; simp only [Option.getD_none] at hv; cases hv s.heap; exact ⟨_, rfl⟩
    | some d =>
      obtain ⟨y, rfl⟩ := lookP (P := fun d => ∃ y, d = .str y) flagD flag_str _ d e
      rw [e] at hv; simp only [Option.getD_some] at hv; cases hv s.heap; exact ⟨_, rfl⟩
  obtain ⟨t'', rfl⟩ := key
  exact ⟨F, Ext.ofKeeps S.sub (Keeps.tok s _), by rw [RelV]; exact ⟨_, rfl⟩⟩

section
variable {W : Wd}
theorem ok_ISTERMINAL (T : Tp W) (k : Nat) (μ : MM) (i : Int) : FnOk W (k + 1) μ "ISTERMINAL" [.int i] (.bool (decide (i < 256))) := by
  refine fnOk (ps := ["x"]) T.b.ok T.fT (fnScope_of (by kernel_rfl)) rfl (fun pm code doc vs h => ?_) fun A env hA hE hsc => ?_
  · obtain ⟨v, rfl⟩ := len1 h; rfl
  · have C : Cx W A env (fun _ => none) (Φb fun _ => none) (fun _ _ => none) k (dScope (sAt top 56)) := ⟨T.b.ok, hA, tabB T.b k _, hE, hsc⟩
    obtain ⟨t, ht⟩ := T.cNT
    refine Wp.addGlobal (x := "NT_OFFSET") (d := .int 256) (C.kind (by kernel_rfl)) (.inl ht) (fun F => by rw [RelV]; exact ⟨t, rfl⟩) ?_
    refine Wp.cons (Wp1.ret (C.ev 10 (by kernel_rfl) ?_) rfl)
    simp [eI, eS, eN, eBin, eNeg, eCmp, eIf, eL, eSl, eXn, eXb, eXc, eXu, eXs, eCall, eM1, eM2, eB, opt2_ss, optS_s, idxV_int, List.lookup_cons, str_beq, cmpD]

theorem ok_ISNONTERMINAL (T : Tp W) (k : Nat) (μ : MM) (i : Int) : FnOk W (k + 1) μ "ISNONTERMINAL" [.int i] (.bool (decide (256 ≤ i))) := by
  refine fnOk (ps := ["x"]) T.b.ok T.fN (fnScope_of (by kernel_rfl)) rfl (fun pm code doc vs h => ?_) fun A env hA hE hsc => ?_
  · obtain ⟨v, rfl⟩ := len1 h; rfl
  · have C : Cx W A env (fun _ => none) (Φb fun _ => none) (fun _ _ => none) k (dScope (sAt top 57)) := ⟨T.b.ok, hA, tabB T.b k _, hE, hsc⟩
    obtain ⟨t, ht⟩ := T.cNT
    refine Wp.addGlobal (x := "NT_OFFSET") (d := .int 256) (C.kind (by kernel_rfl)) (.inl ht) (fun F => by rw [RelV]; exact ⟨t, rfl⟩) ?_
    refine Wp.cons (Wp1.ret (C.ev 10 (by kernel_rfl) ?_) rfl)
    simp [eI, eS, eN, eBin, eNeg, eCmp, eIf, eL, eSl, eXn, eXb, eXc, eXu, eXs, eCall, eM1, eM2, eB, opt2_ss, optS_s, idxV_int, List.lookup_cons, str_beq, cmpD]

theorem ok_ISEOF (T : Tp W) (k : Nat) (μ : MM) (i : Int) : FnOk W (k + 1) μ "ISEOF" [.int i] (.bool (i == 0)) := by
  refine fnOk (ps := ["x"]) T.b.ok T.fE (fnScope_of (by kernel_rfl)) rfl (fun pm code doc vs h => ?_) fun A env hA hE hsc => ?_
  · obtain ⟨v, rfl⟩ := len1 h; rfl
  · have C : Cx W A env (fun _ => none) (Φb fun _ => none) (fun _ _ => none) k (dScope (sAt top 58)) := ⟨T.b.ok, hA, tabB T.b k _, hE, hsc⟩
    obtain ⟨t, ht⟩ := T.cEM
    refine Wp.addGlobal (x := "ENDMARKER") (d := .int 0) (C.kind (by kernel_rfl)) (.inl ht) (fun F => by rw [RelV]; exact ⟨t, rfl⟩) ?_
    refine Wp.cons (Wp1.ret (C.ev 10 (by kernel_rfl) ?_) rfl)
    simp [eI, eS, eN, eBin, eNeg, eCmp, eIf, eL, eSl, eXn, eXb, eXc, eXu, eXs, eCall, eM1, eM2, eB, opt2_ss, optS_s, idxV_int, List.lookup_cons, str_beq, cmpD]
end
end Mine

open PySem PySem.W PyProof.Rows
set_option Elab.async false
set_option linter.unusedVariables false
set_option linter.unusedSimpArgs false
set_option maxRecDepth 100000
namespace Mine

def nm (k : Nat) : Str := nmFlag (2 ^ k) (hexS (2 ^ k))
def bitsTo (i : Nat) (n : Int) : List Nat := (List.range i).filter fun k => n / 2 ^ k % 2 == 1
def clr (i : Nat) (n : Int) : Int := n / 2 ^ i * 2 ^ i
def wordsL (ks : List Nat) (above : Int) : List Str := ks.map nm ++ if above ≠ 0 ∨ ks = [] then [hexS above] else []
def prettyS (n : Int) : Str := Txt.join ", " (wordsL (bitsTo 32 n) (clr 32 n))

theorem pow_pos' (i : Nat) : (0 : Int) < 2 ^ i := Int.pow_pos (by decide)
theorem half (n : Int) (i : Nat) : n / 2 ^ i = 2 * (n / 2 ^ (i + 1)) + n / 2 ^ i % 2 := by
  have e : n / 2 ^ (i + 1) = n / 2 ^ i / 2 := by rw [Int.pow_succ, ← Int.ediv_ediv_of_nonneg (Int.le_of_lt (pow_pos' i))]
  rw [e]; omega
theorem bitsTo_succ (i : Nat) (n : Int) : bitsTo (i + 1) n = bitsTo i n ++ if n / 2 ^ i % 2 == 1 then [i] else [] := by
  unfold bitsTo
  rw [List.range_succ, List.filter_append]
  cases h : n / 2 ^ i % 2 == 1 <;> simp [h]
theorem clr_div (i : Nat) (n : Int) : clr i n / 2 ^ i = n / 2 ^ i := Int.mul_ediv_cancel _ (Int.ne_of_gt (pow_pos' i))
theorem clr_same (i : Nat) (n : Int) (h : ¬ n / 2 ^ i % 2 = 1) : clr (i + 1) n = clr i n := by
  unfold clr
  have h1 := half n i
  have h2 : n / 2 ^ i % 2 = 0 := by omega
  rw [h2] at h1
  rw [h1, Int.pow_succ]
  rw [Int.add_zero, Int.mul_comm 2, Int.mul_assoc, Int.mul_comm 2]
theorem clr_xor (i : Nat) (n : Int) (h : n / 2 ^ i % 2 = 1) : Builtin.bitXor (clr i n) (2 ^ i) = clr (i + 1) n := by
  rw [bitXor_and, kbt_bit, clr_div, h]
  unfold clr
  have h1 := half n i
  rw [h] at h1
  rw [h1, Int.pow_succ]
  generalize n / (2 ^ i * 2) = q
  generalize (2 : Int) ^ i = p
  have : (2 * q + 1) * p = 2 * (q * p) + p := by rw [Int.add_mul, Int.mul_assoc, Int.one_mul]
  have h2 : q * (p * 2) = 2 * (q * p) := by rw [← Int.mul_assoc, Int.mul_comm]
  omega
theorem clr_zero_bits {i j : Nat} {n : Int} (h : clr i n = 0) (hij : i ≤ j) : n / 2 ^ j = 0 := by
  have h0 : n / 2 ^ i = 0 := by
    unfold clr at h
    rcases Int.mul_eq_zero.mp h with h | h
    · exact h
    · have := pow_pos' i; omega
  have e : (2 : Int) ^ j = 2 ^ i * 2 ^ (j - i) := by rw [← Int.pow_add]; congr 1; omega
  rw [e, ← Int.ediv_ediv_of_nonneg (Int.le_of_lt (pow_pos' i)), h0, Int.zero_ediv]
theorem bitsTo_stable {i j : Nat} {n : Int} (h : clr i n = 0) (hij : i ≤ j) : bitsTo j n = bitsTo i n := by
  obtain ⟨d, rfl⟩ := Nat.exists_eq_add_of_le hij
  induction d with
  | zero => rfl
  | succ d ih =>
    rw [show i + (d + 1) = (i + d) + 1 from rfl, bitsTo_succ, ih (by omega), clr_zero_bits h (by omega)]
    simp
theorem clr_stable {i j : Nat} {n : Int} (h : clr i n = 0) (hij : i ≤ j) : clr j n = 0 := by unfold clr; rw [clr_zero_bits h hij]; simp

theorem mem_rangeD {n i : Nat} {d : D} (h : ((rangeL 0 n 1).map D.int)[i]? = some d) : d = .int i ∧ i < n := by
  rw [rangeL_up, List.map_map, List.getElem?_map] at h
  obtain ⟨j, hj, rfl⟩ := Option.map_eq_some_iff.mp h
  have hi : i < n := by have := (List.getElem?_eq_some_iff.mp hj).1; simpa using this
  rw [List.getElem?_range hi] at hj
  cases hj
  exact ⟨rfl, hi⟩

def Ψf (t : Str) (ds : List D) : Option D := if t = "COMPILER_FLAG_NAMES" then (match ds with
  | [.int i, .str x] => some (.str (nmFlag i x))
  | _ => none) else none

theorem tabP {W : Wd} (T : Tp W) (k : Nat) (μ : MM) : TabOk W k μ (Φb μ) Ψf := by
  have := (tabB T.b k μ).get' (t := "COMPILER_FLAG_NAMES") (g := fun ds => match ds with
    | [.int i, .str x] => some (.str (nmFlag i x))
    | _ => none) (fun ds d h => by
      split at h
      · cases h; exact get_flags T k μ _ _
      · cases h)
  exact this
end Mine

open PySem PySem.W PyProof.Rows
set_option Elab.async false
set_option linter.unusedVariables false
set_option linter.unusedSimpArgs false
set_option maxRecDepth 100000
namespace Mine
theorem joinOk_of {sep : Str} {texts : List Str} {m n : Nat} (hs : sep.length ≤ 8) (h : ∀ x ∈ texts, x.length ≤ m) (hl : texts.length ≤ n) (hz : n * (m + 8) ≤ 1000000) : JoinOk sep texts = true := by
  have key : ∀ (l : List Str) (acc : Nat), (∀ x ∈ l, x.length ≤ m) → l.foldl (fun a (x : Str) => a + x.length + sep.length) acc ≤ acc + l.length * (m + 8) := by
    intro l
    induction l with
    | nil => intro acc _; simp
    | cons x l ih =>
      intro acc hx
      rw [List.foldl_cons]
      refine Nat.le_trans (ih _ fun y hy => hx y (List.mem_cons_of_mem _ hy)) ?_
      have := hx x List.mem_cons_self
      rw [List.length_cons, Nat.succ_mul]
      omega
  have h1 := key texts 0 h
  have h2 : texts.length * (m + 8) ≤ n * (m + 8) := Nat.mul_le_mul_right _ hl
  unfold JoinOk Builtin.Str.tooLong
  rw [List.foldl_toArray]
  simp only [Bool.not_eq_true', decide_eq_false_iff_not]
  have h3 : sizeLine = 16777216 := by decide
  omega
theorem flag_small (p) (hp : p ∈ flagD) : ∃ y : Str, p.2 = PyData.str y ∧ y.length ≤ 18 := by
  have : (flagD.all fun p => match p.2 with | .str y => decide (y.length ≤ 18) | _ => false) = true := by decide +kernel
  have := List.all_eq_true.mp this p hp
  split at this
  · exact ⟨_, by assumption, of_decide_eq_true this⟩
  · cases this
theorem nmFlag_len {i : Int} {x : Str} {m : Nat} (hm : 18 ≤ m) (h : x.length ≤ m) : (nmFlag i x).length ≤ m := by
  unfold nmFlag
  cases e : PySem.Spec.lookup (.int i) flagD with
  | none => exact h
  | some d => obtain ⟨y, rfl, hy⟩ := lookP (P := fun d => ∃ y : Str, d = .str y ∧ y.length ≤ 18) flagD flag_small _ d e; exact Nat.le_trans hy hm
theorem nm_len {k : Nat} (h : k < 32) : (nm k).length ≤ 103 := by
  refine nmFlag_len (by decide) (hexS_len ?_)
  have : (2 : Int) ^ k < 2 ^ 32 := by
    have : (2 : Nat) ^ k < 2 ^ 32 := Nat.pow_lt_pow_right (by decide) h
    exact_mod_cast this
  have := pow_pos' k
  omega
theorem wordsL_join {ks : List Nat} {above : Int} (h : ∀ k ∈ ks, k < 32) (hl : ks.length ≤ 32) (ha : above.natAbs < 16 ^ 100) : JoinOk ", " (wordsL ks above) = true := by
  refine joinOk_of (m := 103) (n := 33) (by decide) (fun x hx => ?_) ?_ (by decide)
  · unfold wordsL at hx
    rcases List.mem_append.mp hx with hx | hx
    · obtain ⟨k, hk, rfl⟩ := List.mem_map.mp hx; exact nm_len (h k hk)
    · split at hx
      · simp at hx; subst hx; exact hexS_len ha
      · cases hx
  · unfold wordsL
    rw [List.length_append, List.length_map]
    split <;> simp <;> omega

theorem clr_small (n : Int) (hn : n.natAbs < 2 ^ 90) : (clr 32 n).natAbs < 16 ^ 100 := by
  unfold clr
  rw [Int.natAbs_mul]
  exact Nat.lt_of_le_of_lt (Nat.mul_le_mul_right _ (Int.natAbs_ediv_le_natAbs ..)) (Nat.lt_of_lt_of_le (Nat.mul_lt_mul_of_pos_right hn (by decide)) (by decide +kernel))
theorem turn_succ {t : Nat} (ht : t < 99) : 99 - t = (99 - (t + 1)) + 1 := (Nat.succ_sub (m := 98) (Nat.le_of_lt_succ ht)).trans (congrArg (· + 1) (Nat.succ_sub_succ 98 t).symm)
theorem bits_len (i : Nat) (n : Int) : (bitsTo i n).length ≤ i := Nat.le_trans (List.length_filter_le ..) (by simp)
theorem pow32 {i : Nat} (hi : i < 32) : (2 : Int) ^ i < 2 ^ 32 := by
  have : (2 : Nat) ^ i < 2 ^ 32 := Nat.pow_lt_pow_right (by decide) hi
  exact_mod_cast this

abbrev fPretty : Stmt := sAt top 2
abbrev bPretty : List Stmt := forB (sAt (dBody fPretty) 1)
/-- while the flags are told -/
structure PF (n : Int) (a : Addr) (i : Nat) (c : Int) (l : List Str) (Δ : Ctx) (μ : MM) : Prop where
  names : Δ.lookup ("names" : Str) = some (.ref a)
  flags : Δ.lookup ("flags" : Str) = some (.int c)
  cell : μ a = some (.lst (l.map .str))

section
variable {F : Fr Φb (fun _ => Ψf) (dScope fPretty)} {n : Int} {a : Addr} {i : Nat} {c : Int} {l : List Str} {Δ : Ctx} {μ : MM} {K : Out → Ctx → MM → Prop}
theorem PF.cons (S : PF n a i c l Δ μ) {x : Str} {d : D} (h : offN ["names", "flags"] x = true) : PF n a i c l ((x, d) :: Δ) μ := ⟨look_off h (by decide +kernel) S.names, look_off h (by decide +kernel) S.flags, S.cell⟩

theorem pretty_one (hi : i < 32) (S : PF n a i (clr i n) ((bitsTo i n).map nm) Δ μ) (h4 : bitsTo i n = [] ∨ clr i n ≠ 0) (hb : ∀ Δ μ, Δ.lookup ("names" : Str) = some (.ref a) → μ a = some (.lst ((wordsL (bitsTo 32 n) (clr 32 n)).map .str)) → K .brk Δ μ)
    (hk : ∀ Δ μ, PF n a (i + 1) (clr (i + 1) n) ((bitsTo (i + 1) n).map nm) Δ μ → (bitsTo (i + 1) n = [] ∨ clr (i + 1) n ≠ 0) → K .next Δ μ) : R F bPretty (("i", .int i) :: Δ) μ K := by
  have hle := line_big
  have S := S.cons (x := "i") (d := .int i) (by decide +kernel)
  have hii : ((("i" : Str), D.int i) :: Δ).lookup ("i" : Str) = some (.int i) := look_eq
  generalize ((("i" : Str), D.int i) :: Δ) = Δ at *
  have hp := pow32 hi
  have hp0 := pow_pos' i
  have hsh : binD μ .LShift (.int 1) (.int i) = some (.int (2 ^ i)) := by rw [binD_int]; simp only [aAdd, aSub, aMul, aDiv, aMod, aPow, aShl, aShr, aAnd, aOr, aXor]; rw [if_pos ⟨by omega, by omega, by decide⟩]; simp
  refine R.assign 10 (d := .int (2 ^ i)) (by kernel_rfl) ((evD_bin eI (by rw [eN, hii])).trans hsh) ?_
  have S := S.cons (x := "flag") (d := .int (2 ^ i)) (by decide +kernel)
  have hfl : ((("flag" : Str), D.int (2 ^ i)) :: Δ).lookup ("flag" : Str) = some (.int (2 ^ i)) := look_eq
  generalize ((("flag" : Str), D.int (2 ^ i)) :: Δ) = Δ at *
  have hand : binD μ .BitAnd (.int (clr i n)) (.int (2 ^ i)) = some (.int (if n / 2 ^ i % 2 = 1 then 2 ^ i else 0)) := by
    rw [binD_int]; simp only [aAdd, aSub, aMul, aDiv, aMod, aPow, aShl, aShr, aAnd, aOr, aXor]; rw [kbt_bit, clr_div]
    by_cases h : n / 2 ^ i % 2 = 1
    · rw [if_pos h, h]; simp
    · rw [if_neg h, show n / 2 ^ i % 2 = 0 by omega]; simp
  refine R.if_ 10 (b := n / 2 ^ i % 2 == 1) (by kernel_rfl) ?_ (fun hbt => ?_) (fun hbt => ?_)
  · rw [tBin, evD_bin (a := .int (clr i n)) (b := .int (2 ^ i)) (by rw [eN, S.flags]) (by rw [eN, hfl]), hand]
    by_cases h : n / 2 ^ i % 2 = 1
    · rw [if_pos h]; simp [truthD, h]; omega
    · rw [if_neg h]; simp [truthD, h]
  · have hbit : n / 2 ^ i % 2 = 1 := beq_iff_eq.mp hbt
    have hlen := bits_len i n
    have e1 : ((bitsTo i n).map nm).map D.str ++ [D.str (nm i)] = ((bitsTo (i + 1) n).map nm).map D.str := by rw [bitsTo_succ]; simp [hbit]
    have hne : bitsTo (i + 1) n ≠ [] := by rw [bitsTo_succ]; simp [hbit]
    have hhex : Φb μ "hex" [.int (2 ^ i)] = some (.str (hexS (2 ^ i))) := Φb_hex (by omega)
    refine R.append 10 (a := a) (d := .str (nm i)) (by kernel_rfl) (by rw [eN, S.names]) S.cell ?_ (by simp; omega) ?_
    · rw [eM2]
      simp only [eN, eCall, evs, hfl, optS_s, hhex, opt2_ss, Ψf, nmGet]
      simp [nm]
    rw [e1]
    have S : PF n a i (clr i n) ((bitsTo (i + 1) n).map nm) Δ (μ.set a (.lst (((bitsTo (i + 1) n).map nm).map .str))) := ⟨S.names, S.flags, MM.set_self ..⟩
    generalize μ.set a (.lst (((bitsTo (i + 1) n).map nm).map .str)) = μ at *
    clear hand hsh
    refine R.aug 10 (a := clr i n) (b := 2 ^ i) (c := clr (i + 1) n) (by kernel_rfl) S.flags (by rw [eN, hfl]) (by simp only [iShl, iOr, iXor]; rw [clr_xor i n hbit]) ?_
    have S : PF n a (i + 1) (clr (i + 1) n) ((bitsTo (i + 1) n).map nm) ((("flags" : Str), .int (clr (i + 1) n)) :: Δ) μ := ⟨look_tl (by decide +kernel) S.names, look_eq, S.cell⟩
    generalize ((("flags" : Str), D.int (clr (i + 1) n)) :: Δ) = Δ at *
    refine R.if_ 10 (b := clr (i + 1) n == 0) (by kernel_rfl) ?_ (fun hz => ?_) (fun hz => R.nil (hk _ _ S (.inr fun e => by rw [e] at hz; cases hz)))
    · rw [tNot, tN, eN, S.flags]
      simp only [Option.bind_some, truthD, Option.map_some, bne, Bool.not_not]
    · have hz := beq_iff_eq.mp hz
      refine R.brk (hb _ _ S.names ?_)
      rw [S.cell]
      unfold wordsL
      rw [bitsTo_stable hz (by omega : i + 1 ≤ 32), clr_stable hz (by omega : i + 1 ≤ 32)]
      simp [hne]
  · have hbit : ¬ n / 2 ^ i % 2 = 1 := fun e => by rw [e] at hbt; cases hbt
    have e1 : bitsTo (i + 1) n = bitsTo i n := by rw [bitsTo_succ]; simp [hbit]
    rw [e1, clr_same i n hbit] at hk
    exact R.nil (hk _ _ ⟨S.names, S.flags, S.cell⟩ h4)
end

section
variable {W : Wd}
theorem ok_pretty (T : Tp W) (k : Nat) (μ : MM) (n : Int) (hn : n.natAbs < 2 ^ 90) : FnOk W (k + 1) μ "pretty_flags" [.int n] (.str (prettyS n)) := by
  refine fnOk (ps := ["flags"]) T.b.ok T.fpretty (fnScope_of (by kernel_rfl)) rfl (fun pm code doc vs h => ?_) fun A env hA hE hsc => ?_
  · obtain ⟨v, rfl⟩ := len1 h; rfl
  generalize hF : (⟨W, A, [], env, k, fun μ => ⟨T.b.ok, hA, tabP T k _, hE, hsc⟩⟩ : Fr Φb (fun _ => Ψf) (dScope fPretty)) = F
  have hR : ∀ {ss Δ μ K}, R F ss Δ μ K → Wp W A [] env ss Δ μ K := by subst hF; exact fun h => h
  refine hR ?_
  clear hR hF hA hE hsc
  have hle := line_big
  have hc := clr_small n hn
  have hlen := bits_len 32 n
  have hj : JoinOk ", " (wordsL (bitsTo 32 n) (clr 32 n)) = true := wordsL_join (fun k hk => by have := (List.mem_filter.mp hk).1; simpa using this) hlen hc
  have fin : ∀ (a : Addr) Δ μ, Δ.lookup ("names" : Str) = some (.ref a) → μ a = some (.lst ((wordsL (bitsTo 32 n) (clr 32 n)).map .str)) → R F ((dBody fPretty).drop 2) Δ μ (fun o _ _ => o = .ret (.str (prettyS n))) := fun a Δ μ h1 h2 => by
    refine R.ret 10 (by kernel_rfl) ((evD_meth (a := .str ", ") (b := .ref a) eS (by rw [eN, h1])).trans ?_) rfl
    simp only [methD, nmJoin, if_true, asList_ref h2, Option.bind_some, strsOf_map, if_pos hj, prettyS]
  refine R.new 5 (by kernel_rfl) (EvNew.display .nil (by decide)) fun a ha => ?_
  refine R.forE (xs := (rangeL 0 32 1).map .int) (fun i Δ μ => PF n a i (clr i n) ((bitsTo i n).map nm) Δ μ ∧ (bitsTo i n = [] ∨ clr i n ≠ 0)) (by kernel_rfl) (Fr.rangeF 10 (by kernel_rfl) (ds := [.int 32]) (by simp only [evs, eI]) rfl (by decide))
    ⟨⟨look_eq, look_tl (by decide +kernel) (by rw [show clr 0 n = n by simp [clr]]; exact look_eq), MM.set_self ..⟩, .inl rfl⟩ (fun i d Δ μ P R' hd S hP hR => ?_) (fun Δ μ P S hP => ?_)
  · obtain ⟨rfl, hi⟩ := mem_rangeD (n := 32) hd
    exact pretty_one hi S.1 S.2 (fun Δ μ h1 h2 => hR Δ μ (fin a Δ μ h1 h2)) fun Δ μ S h4 => hP Δ μ ⟨S, h4⟩
  · obtain ⟨S, h4⟩ := S
    have e32 : ((rangeL 0 32 1).map D.int).length = 32 := by decide
    rw [e32] at S h4
    refine R.append 10 (a := a) (d := .str (hexS (clr 32 n))) (by kernel_rfl) (by rw [eN, S.names]) S.cell ?_ (by simp; omega) (R.nil (hP _ _ (fin a _ _ S.names ?_)))
    · have := Φb_hex (μ := μ) hc
      simp only [eCall, evs, eN, S.flags, optS_s, this]
    · rw [MM.set_self]
      unfold wordsL
      rw [if_pos h4.symm]; simp
end
end Mine

open PySem PySem.W PyProof.Rows
set_option Elab.async false
set_option linter.unusedVariables false
set_option linter.unusedSimpArgs false
set_option maxRecDepth 100000
namespace Mine

def octSize (m : Int) : Nat := if m < 64 then 1 else if m < 4096 then 2 else 3
def octet (k : Nat) (m : Int) (j : Nat) : Int := m / 64 ^ j % 64 + (if j > 0 then 64 else 0) + (if (k + j) % 3 = 0 then 128 else 0)
/-- the octets of the k-th number, the highest first -/
def octs (k : Nat) (m : Int) : List Int := (List.range (octSize m + k % 2)).map fun i => octet k m (octSize m + k % 2 - 1 - i)
def octsTo (n : Nat) (ns : List Int) : List Int := (List.range n).flatMap fun k => octs k (ns.getD k 0)

theorem octs_len (k : Nat) (m : Int) : (octs k m).length ≤ 4 := by
  unfold octs octSize; simp; split <;> (try split) <;> omega
theorem octsTo_len (n : Nat) (ns : List Int) : (octsTo n ns).length ≤ 4 * n := by
  unfold octsTo
  induction n with
  | zero => simp
  | succ n ih =>
    rw [List.range_succ, List.flatMap_append, List.length_append]
    have := octs_len n (ns.getD n 0)
    simp at ih ⊢
    simp at this
    omega
theorem octsTo_succ (n : Nat) (ns : List Int) : octsTo (n + 1) ns = octsTo n ns ++ octs n (ns.getD n 0) := by
  unfold octsTo; rw [List.range_succ, List.flatMap_append]; simp

theorem rangeL_down (a : Nat) : rangeL ((a : Int) - 1) (-1) (-1) = (List.range a).map fun i => ((a - 1 - i : Nat) : Int) := by
  unfold rangeL Builtin.Range.rangeSize
  simp only [show ¬ (-1 : Int) > 0 by decide, if_false, Int.neg_neg, Int.ediv_one]
  by_cases h : (a : Int) - 1 > -1
  · have e : ((a : Int) - 1 - -1 - 1 + 1).toNat = a := by omega
    rw [if_pos h, e]
    refine List.map_congr_left fun i hi => ?_
    have := List.mem_range.mp hi
    omega
  · have : a = 0 := by omega
    subst this; simp

theorem mem_rangeDown {a i : Nat} {d : D} (h : ((rangeL ((a : Int) - 1) (-1) (-1)).map D.int)[i]? = some d) : d = .int ((a - 1 - i : Nat) : Int) ∧ i < a := by
  rw [rangeL_down, List.map_map, List.getElem?_map] at h
  obtain ⟨j, hj, rfl⟩ := Option.map_eq_some_iff.mp h
  have hi : i < a := by have := (List.getElem?_eq_some_iff.mp hj).1; simpa using this
  rw [List.getElem?_range hi] at hj
  cases hj
  exact ⟨rfl, hi⟩

end Mine

open PySem PySem.W PyProof.Rows
set_option Elab.async false
set_option linter.unusedVariables false
set_option linter.unusedSimpArgs false
set_option maxRecDepth 100000
namespace Mine
abbrev fOct : Stmt := sAt top 60
abbrev bOct : List Stmt := forB (sAt (dBody fOct) 1)
abbrev bOctIn : List Stmt := forB (sAt bOct 1)

theorem idxL_nat {α : Type} {xs : List α} {i : Nat} {x : α} (h : xs[i]? = some x) : idxL xs (i : Int) = some x := by simp [idxL, h]

/-- while the octets are laid -/
structure OC (ns : List Int) (a : Addr) (acc : List Int) (Δ : Ctx) (μ : MM) : Prop where
  tape : Δ.lookup ("tape" : Str) = some (.ref a)
  numbers : Δ.lookup ("numbers" : Str) = some (.list (ns.map .int))
  cell : μ a = some (.lst (acc.map .int))
abbrev nOC : List Str := ["tape", "numbers", "k", "size"]

theorem pow64_lt : ∀ {e : Nat}, e ≤ 3 → 0 < (64 : Int) ^ e ∧ (64 : Int) ^ e < 1073741824
  | 0, _ => by decide
  | 1, _ => by decide
  | 2, _ => by decide
  | 3, _ => by decide
theorem octet_eq (i : Nat) (m : Int) (e : Nat) : m / 64 ^ e % 64 + (if decide ((0 : Int) < (e : Nat)) = true then 64 else 0) + (if (((i : Nat) : Int) + (e : Nat)) % 3 == 0 then 128 else 0) = octet i m e := by
  unfold octet
  rw [ite_iff (by rw [decide_eq_true_eq]; omega : decide ((0 : Int) < (e : Nat)) = true ↔ e > 0), ite_iff (by rw [beq_iff_eq]; omega : ((((i : Nat) : Int) + (e : Nat)) % 3 == 0) = true ↔ (i + e) % 3 = 0)]

section
variable {F : Fr Φb (fun _ _ _ => none) (dScope fOct)} {ns : List Int} {a : Addr} {i : Nat} {m : Int} {acc : List Int} {Δ : Ctx} {μ : MM} {K : Out → Ctx → MM → Prop}

theorem OC.cons (S : OC ns a acc Δ μ) {x : Str} {d : D} (h : offN ["tape", "numbers"] x = true) : OC ns a acc ((x, d) :: Δ) μ := ⟨look_off h (by decide +kernel) S.tape, look_off h (by decide +kernel) S.numbers, S.cell⟩

theorem oct_in {e : Nat} (hx : idxD μ (.list (ns.map .int)) i = some (.int m)) (he : e ≤ 3) (hlen : acc.length ≤ 5000) (S : OC ns a acc Δ μ) (hki : Δ.lookup ("k" : Str) = some (.int i)) (hk : OC ns a (acc ++ [octet i m e]) (("j", .int e) :: Δ) (μ.set a (.lst ((acc ++ [octet i m e]).map .int))) → K .next (("j", .int e) :: Δ) (μ.set a (.lst ((acc ++ [octet i m e]).map .int)))) :
    R F bOctIn (("j", .int e) :: Δ) μ K := by
  have S := S.cons (x := "j") (d := .int e) (by decide +kernel)
  have hj : ((("j" : Str), D.int e) :: Δ).lookup ("j" : Str) = some (.int e) := look_eq
  have hki : ((("j" : Str), D.int e) :: Δ).lookup ("k" : Str) = some (.int i) := look_tl (by decide +kernel) hki
  generalize ((("j" : Str), D.int e) :: Δ) = Δ at *
  have hp := pow64_lt he
  have e1 : acc.map D.int ++ [.int (octet i m e)] = (acc ++ [octet i m e]).map .int := by rw [List.map_append]; rfl
  refine R.append 12 (a := a) (d := .int (octet i m e)) (by kernel_rfl) (by simp only [eN]; exact S.tape) S.cell ?_ (by have := line_big; rw [List.length_map]; omega) (R.nil (by rw [e1]; exact hk ⟨S.tape, S.numbers, MM.set_self ..⟩))
  rw [← octet_eq]
  rw [eBin, eBin, evD_ifInt (c := decide ((0 : Int) < (e : Nat))) (by simp only [tCmp, eN, eI, hj, opt2_ss, cmpD]), evD_ifInt (c := (((i : Nat) : Int) + (e : Nat)) % 3 == 0) (by simp only [tCmp, eBin, eN, eI, hj, hki, opt2_ss, cmpD, b_add, b_mod (show (0 : Int) < 3 by decide)])]
  simp only [eBin, eXn, eN, eI, hj, hki, S.numbers, opt2_ss, idxV_int, hx, b_pow (x := 64) (by decide) (Nat.le_trans he (by decide)), b_div hp.1 hp.2, b_mod (show (0 : Int) < 64 by decide), b_add]

theorem octSize_le (m : Int) : octSize m ≤ 3 := by unfold octSize; split <;> (try split) <;> omega

theorem oct_one (hx : (ns.map D.int)[i]? = some (.int m)) (hi : i < 1000) (hlen : acc.length ≤ 4000) (S : OC ns a acc Δ μ) (hk : ∀ Δ μ, OC ns a (acc ++ octs i m) Δ μ → K .next Δ μ) : R F bOct (("k", .int i) :: Δ) μ K := by
  have S := S.cons (x := "k") (d := .int i) (by decide +kernel)
  have hki : ((("k" : Str), D.int i) :: Δ).lookup ("k" : Str) = some (.int i) := look_eq
  generalize ((("k" : Str), D.int i) :: Δ) = Δ at *
  have hidx : ∀ μ, idxD μ (.list (ns.map .int)) i = some (.int m) := fun μ => idxD_list hx (by omega)
  refine R.assign 10 (d := .int (octSize m)) (by kernel_rfl) ?_ ?_
  · simp only [eIf, eI, eXn, eN, hki, S.numbers, opt2_ss, idxV_int, hidx, tCmp, cmpD]
    unfold octSize
    by_cases q1 : m < 64
    · simp only [decide_eq_true q1, if_pos q1]; rfl
    · by_cases q2 : m < 4096
      · simp only [decide_eq_false q1, if_neg q1, decide_eq_true q2, if_pos q2]; rfl
      · simp only [decide_eq_false q1, if_neg q1, decide_eq_false q2, if_neg q2]; rfl
  have hsz := octSize_le m
  have S := S.cons (x := "size") (d := .int (octSize m)) (by decide +kernel)
  have hki : ((("size" : Str), D.int (octSize m)) :: Δ).lookup ("k" : Str) = some (.int i) := look_tl (by decide +kernel) hki
  have hsi : ((("size" : Str), D.int (octSize m)) :: Δ).lookup ("size" : Str) = some (.int (octSize m)) := look_eq
  generalize ((("size" : Str), D.int (octSize m)) :: Δ) = Δ at *
  refine R.for_ (xs := (rangeL ((octSize m + i % 2 : Nat) - 1 : Int) (-1) (-1)).map .int) (fun j Δ μ => OC ns a (acc ++ (octs i m).take j) Δ μ ∧ Δ.lookup ("k" : Str) = some (.int i)) (by kernel_rfl)
    (Fr.rangeF 10 (by kernel_rfl) (ds := [.int ((octSize m + i % 2 : Nat) - 1 : Int), .int (-1), .int (-1)]) ?_ rfl (small_of (by omega) (by decide) (.inr rfl))) ⟨by rw [List.take_zero, List.append_nil]; exact S, hki⟩ (fun j d Δ μ P hd S hP => ?_) fun Δ μ S => ?_
  · simp only [evs, eBin, eNeg, eN, eI, hsi, hki, opt2_ss, b_add, b_sub, b_mod (show (0 : Int) < 2 by decide)]
    rfl
  · obtain ⟨S, hki⟩ := S
    obtain ⟨rfl, hj⟩ := mem_rangeDown hd
    have hjl : j < (octs i m).length := by unfold octs; simpa using hj
    have hoct : (octs i m)[j] = octet i m (octSize m + i % 2 - 1 - j) := by simp [octs]
    refine oct_in (hidx μ) (by omega) (by rw [List.length_append, List.length_take]; have := octs_len i m; omega) S hki fun S => hP _ _ ⟨?_, look_tl (by decide +kernel) hki⟩
    rw [List.take_succ_eq_append_getElem hjl, hoct, ← List.append_assoc]
    exact S
  · have e : ((rangeL ((octSize m + i % 2 : Nat) - 1 : Int) (-1) (-1)).map D.int).length = (octs i m).length := by rw [rangeL_down]; unfold octs; simp
    rw [e, List.take_length] at S
    exact R.nil (hk _ _ S.1)

theorem oct_all {rest : List Stmt} (hn : ns.length ≤ 1000) (S : OC ns a [] Δ μ) (hk : ∀ Δ μ, OC ns a (octsTo ns.length ns) Δ μ → R F rest Δ μ K) : R F (sAt (dBody fOct) 1 :: rest) Δ μ K := by
  refine R.forN 10 ns.length (fun i Δ μ => OC ns a (octsTo i ns) Δ μ) (by kernel_rfl) ?_ (by omega) S (fun i Δ μ P hi S hP => ?_) hk
  · have := Φb_len_list (μ := μ) (ds := ns.map D.int) (by have := line_big; rw [List.length_map]; omega)
    rw [List.length_map] at this
    simp only [eCall, evs, eN, S.numbers, optS_s, this]
  · have hx : (ns.map D.int)[i]? = some (.int (ns.getD i 0)) := by simp [List.getD, hi]
    exact oct_one hx (by omega) (Nat.le_trans (octsTo_len i ns) (by omega)) S fun Δ μ S => hP Δ μ (by rw [octsTo_succ]; exact S)
end

section
variable {W : Wd}
theorem ok_octets (T : Tp W) (hf : FnAt W "_law_octets" (dArgs fOct) (dBody fOct) (dScope fOct)) (k : Nat) (μ : MM) (ns : List Int) (hn : ns.length ≤ 1000) (hns : ∀ m ∈ ns, 0 ≤ m ∧ m < 262144) :
    FnOk W (k + 1) μ "_law_octets" [.list (ns.map .int)] (.list ((octsTo ns.length ns).map .int)) := by
  refine fnOk (ps := ["numbers"]) T.b.ok hf (fnScope_of (by kernel_rfl)) rfl (fun pm code doc vs h => ?_) fun A env hA hE hsc => ?_
  · obtain ⟨v, rfl⟩ := len1 h; rfl
  generalize hF : (⟨W, A, [], env, k, fun μ => ⟨T.b.ok, hA, tabB T.b k _, hE, hsc⟩⟩ : Fr Φb (fun _ _ _ => none) (dScope fOct)) = F
  have hR : ∀ {ss Δ μ K}, R F ss Δ μ K → Wp W A [] env ss Δ μ K := by subst hF; exact fun h => h
  refine hR ?_
  clear hR hF hA hE hsc
  refine R.new 5 (by kernel_rfl) (EvNew.display .nil (by decide)) fun a ha => oct_all hn ⟨look_eq, look_tl (by decide +kernel) look_eq, MM.set_self ..⟩ fun Δ μ S => ?_
  refine Wp.freeze S.tape S.cell ?_
  show R F _ _ _ _
  exact R.ret 10 (by kernel_rfl) (by simp only [eN]; exact look_eq) rfl
end
end Mine

open PySem PySem.W PyProof.Rows
set_option Elab.async false
set_option linter.unusedVariables false
set_option linter.unusedSimpArgs false
set_option maxRecDepth 100000
namespace Mine

inductive PV where
  | val (v : Int) (n : Nat)
  | stop | big
def pvGo : Nat → Int → Int → List Int → Nat → PV
  | 0, _, _, _, _ => .big
  | f + 1, val, b, r, n => if b / 64 % 2 = 1 then (match r with
    | [] => .stop
    | c :: r' => pvGo f (val * 64 + c % 64) c r' (n + 1)) else .val val n
/-- what _parse_varint reads off the front -/
def pv : List Int → PV
  | [] => .stop
  | b :: r => pvGo 5 (b % 64) b r 1

theorem bitAnd_shift (k : Nat) (x y : Int) (h0 : 0 ≤ y) (h1 : y < 2 ^ k) : Builtin.bitAnd (x * 2 ^ k) y = 0 := by
  induction k generalizing y with
  | zero =>
    have : y = 0 := by simp at h1; omega
    subst this; exact bitAnd_zero _
  | succ k ih =>
    rw [kbt_halves]
    have e1 : x * 2 ^ (k + 1) / 2 = x * 2 ^ k := by rw [Int.pow_succ, ← Int.mul_assoc, Int.mul_ediv_cancel _ (by decide)]
    have e2 : x * 2 ^ (k + 1) % 2 = 0 := by rw [Int.pow_succ, ← Int.mul_assoc, Int.mul_emod_left]
    rw [e1, e2, ih (y / 2) (by omega) (by rw [Int.pow_succ] at h1; omega)]
    simp
theorem bitOr_shift6 (x y : Int) (h0 : 0 ≤ y) (h1 : y < 64) : Builtin.bitOr (x * 64) y = x * 64 + y := by
  rw [bitOr_and]
  have := bitAnd_shift 6 x y h0 (by simpa using h1)
  have e : x * 2 ^ 6 = x * 64 := rfl
  rw [e] at this
  omega

/-- the words of a frame whose statements may end at an iterator's end -/
def RX {Φ Ψ : MM → Str → List D → Option D} {sc : Scope} (F : Fr Φ Ψ sc) (it : Addr) (PX : Prop) (ss : List Stmt) (Δ : Ctx) (μ : MM) (K : Out → Ctx → MM → Prop) : Prop := WpX F.W F.A F.fr F.env it PX ss Δ μ K
section
variable {Φ Ψ : MM → Str → List D → Option D} {sc : Scope} {F : Fr Φ Ψ sc} {it : Addr} {PX : Prop} {rest : List Stmt} {Δ : Ctx} {μ : MM} {K : Out → Ctx → MM → Prop}
theorem RX.assign (n : Nat) {x : Str} {px pos : Pos} {e : Expr} {d : D} (ok : asgB n sc x px e = true) (h : evD (Φ μ) (Ψ μ) μ n e Δ = some d) (hr : RX F it PX rest ((x, d) :: Δ) μ K) : RX F it PX (.Assign [.Name x px] e pos :: rest) Δ μ K := by
  obtain ⟨h1, h2, h3⟩ := and3 ok
  exact WpX.cons (Wp1.x (Wp1.assign (Fr.swap h2) (Fr.nm h1) (Fr.ev n h3 h) hr))
theorem RX.aug (n : Nat) {x : Str} {px pos : Pos} {op : Operator} {e : Expr} {a b c : Int} (ok : (nmB sc x && !(x == ("__classdict__" : Str)) && okE n sc.names e) = true) (hx : Δ.lookup x = some (.int a)) (h : evD (Φ μ) (Ψ μ) μ n e Δ = some (.int b)) (ho : iarith op a b = some c)
    (hr : RX F it PX rest ((x, .int c) :: Δ) μ K) : RX F it PX (.AugAssign (.Name x px) op e pos :: rest) Δ μ K := by
  obtain ⟨h1, h2, h3⟩ := and3 ok
  exact WpX.cons (Wp1.x (Wp1.augName (F.cx μ).ok (Fr.nm h1) hx (by simpa using h2) (Fr.ev n h3 h) ho hr))
theorem RX.ret (n : Nat) {e : Expr} {pos : Pos} {d : D} (ok : okE n sc.names e = true) (h : evD (Φ μ) (Ψ μ) μ n e Δ = some d) (hk : K (.ret d) Δ μ) : RX F it PX (.Return (some e) pos :: rest) Δ μ K := WpX.cons (Wp1.x (Wp1.ret (Fr.ev n ok h) hk))
theorem RX.next {x src : Str} {px pn ps cp pos : Pos} {l : Addr} {i : Nat} {ds : List D} (ok : (nmB sc x && sc.names.lookup (Str.ofString "next") == some .globalImplicit && okE 5 sc.names (.Name src ps)) = true) (hn : GlobVal F.W "next" (.builtin "next")) (hs : Δ.lookup src = some (.ref it)) (hm : μ it = some (.itr l i ds))
    (hend : ds[i]? = none → PX) (hr : ∀ d, ds[i]? = some d → RX F it PX rest ((x, d) :: Δ) (μ.set it (.itr l (i + 1) ds)) K) : RX F it PX (.Assign [.Name x px] (.Call (.Name "next" pn) [.Name src ps] [] cp) pos :: rest) Δ μ K := by
  obtain ⟨h1, h2, h3⟩ := and3 ok
  exact WpX.cons (Wp1X.assignNext (F.cx μ).ok (F.cx μ).good.handled hn ((F.cx μ).kind (beq_iff_eq.mp h2)) (Fr.nm h1) (Fr.ev 5 h3 hs) hm hend hr)
end

abbrev fVar : Stmt := sAt top 3
abbrev bVar : List Stmt := whileB (sAt (dBody fVar) 2)
/-- while a number is read -/
structure PS (xs : List Int) (it l : Addr) (i m j : Nat) (val b : Int) (Δ : Ctx) (μ : MM) : Prop where
  hv : Δ.lookup ("val" : Str) = some (.int val)
  hb : Δ.lookup ("b" : Str) = some (.int b)
  hi : Δ.lookup ("iterator" : Str) = some (.ref it)
  hm : μ it = some (.itr l (i + j) (xs.map .int))
  go : pvGo m val b (xs.drop (i + j)) j = pv (xs.drop i)
  v0 : 0 ≤ val
  v1 : val < 64 ^ (6 - m)
  m5 : m ≤ 5

theorem b_and63 {μ : MM} {b : Int} : binD μ .BitAnd (.int b) (.int 63) = some (.int (b % 64)) := by rw [binD_int]; simp only [aAdd, aSub, aMul, aDiv, aMod, aPow, aShl, aShr, aAnd, aOr, aXor]; rw [bitAnd_m6]; rfl
theorem b_and64 {μ : MM} {b : Int} : binD μ .BitAnd (.int b) (.int 64) = some (.int (b / 64 % 2 * 64)) := by
  rw [binD_int]; simp only [aAdd, aSub, aMul, aDiv, aMod, aPow, aShl, aShr, aAnd, aOr, aXor]
  rw [show (64 : Int) = 2 ^ 6 from rfl, kbt_bit]; rfl
theorem at_some {xs : List Int} {j : Nat} {d : D} (h : (xs.map D.int)[j]? = some d) : ∃ c, d = .int c ∧ xs.drop j = c :: xs.drop (j + 1) := by
  rw [List.getElem?_map] at h
  obtain ⟨c, hc, rfl⟩ := Option.map_eq_some_iff.mp h
  obtain ⟨hj, rfl⟩ := List.getElem?_eq_some_iff.mp hc
  exact ⟨_, rfl, List.drop_eq_getElem_cons hj⟩
theorem at_none {xs : List Int} {j : Nat} (h : (xs.map D.int)[j]? = none) : xs.drop j = [] := by
  rw [List.getElem?_eq_none_iff] at h
  exact List.drop_eq_nil_of_le (by simpa using h)
theorem pow64_le : ∀ m ≤ 4, (64 : Int) ^ (5 - m) ≤ 1073741824 := by decide
theorem pow64_up' : ∀ m ≤ 4, (64 : Int) ^ (6 - m) = 64 ^ (5 - m) * 64 := by decide
theorem pow64_up {m : Nat} (h : m ≤ 4) : (64 : Int) ^ (6 - m) = 64 ^ (5 - m) * 64 := pow64_up' m h

section
variable {F : Fr Φb (fun _ _ _ => none) (dScope fVar)} {xs : List Int} {it l : Addr} {i m j : Nat} {val b : Int} {Δ : Ctx} {μ : MM} {K : Out → Ctx → MM → Prop}

theorem pv_turn (hn : GlobVal F.W "next" (.builtin "next")) (hb : b / 64 % 2 = 1) (S : PS xs it l i (m + 1) j val b Δ μ) (hk : ∀ j val b Δ μ, PS xs it l i m j val b Δ μ → K .next Δ μ) : RX F it (pv (xs.drop i) = .stop) bVar Δ μ K := by
  have h5 := S.m5
  have hlt := pow64_le m (by omega)
  have hup := pow64_up (m := m) (by omega)
  have h7 := S.v1
  have h6 := S.v0
  rw [Nat.succ_sub_succ] at h7
  refine RX.aug 5 (a := val) (b := 6) (c := val * 64) (by kernel_rfl) S.hv eI (by simp only [iShl, iOr, iXor]; rw [if_pos ⟨by omega, by omega, by omega⟩]; rfl) ?_
  have hi2 : ((("val" : Str), D.int (val * 64)) :: Δ).lookup ("iterator" : Str) = some (.ref it) := look_tl (by decide +kernel) S.hi
  have hv2 : ((("val" : Str), D.int (val * 64)) :: Δ).lookup ("val" : Str) = some (.int (val * 64)) := look_eq
  generalize ((("val" : Str), D.int (val * 64)) :: Δ) = Δ' at *
  have hgo : pvGo (m + 1) val b (xs.drop (i + j)) j = (match xs.drop (i + j) with | [] => .stop | c :: r' => pvGo m (val * 64 + c % 64) c r' (j + 1)) := if_pos hb
  rw [S.go] at hgo
  refine RX.next (i := i + j) (by kernel_rfl) hn hi2 S.hm (fun h => by rw [hgo, at_none h]) fun d h => ?_
  obtain ⟨c, rfl, hc⟩ := at_some h
  rw [hc] at hgo
  refine RX.aug 10 (a := val * 64) (b := c % 64) (c := val * 64 + c % 64) (by kernel_rfl) (look_tl (by decide +kernel) hv2) ((evD_bin (evN look_eq) eI).trans b_and63) (by simp only [iShl, iOr, iXor]; rw [bitOr_shift6 _ _ (by omega) (by omega)]) ?_
  exact WpX.nil (hk (j + 1) _ c _ _ ⟨look_eq, look_tl (by decide +kernel) look_eq, look_tl (by decide +kernel) (look_tl (by decide +kernel) hi2), MM.set_self .., hgo.symm, by omega, by omega, by omega⟩)
end

section
variable {W : Wd}
theorem parseX (T : Tp W) (hn : GlobVal W "next" (.builtin "next")) (k : Nat) (it l : Addr) (i : Nat) (xs : List Int) (hbig : pv (xs.drop i) ≠ .big) :
    FnX W k "_parse_varint" it l i (xs.map .int) (pv (xs.drop i) = .stop) (fun v n => pv (xs.drop i) = .val v n) := by
  refine callX (p := "iterator") T.b.ok T.fvar (fnScope_of (by kernel_rfl)) (fun pm code doc v => rfl) fun A env hA hE hsc => ?_
  generalize hF : (⟨W, A, [], env, k, fun μ => ⟨T.b.ok, hA, tabB T.b k _, hE, hsc⟩⟩ : Fr Φb (fun _ _ _ => none) (dScope fVar)) = F
  have hn : GlobVal F.W "next" (.builtin "next") := by subst hF; exact hn
  have hR : ∀ {PX ss Δ μ K}, RX F it PX ss Δ μ K → WpX W A [] env it PX ss Δ μ K := by subst hF; exact fun h => h
  refine hR ?_
  clear hR hF hA hE hsc
  refine RX.next (i := i) (l := l) (ds := xs.map .int) (by kernel_rfl) hn look_eq (if_pos rfl) (fun h => by rw [at_none h]; rfl) fun d h => ?_
  obtain ⟨b, rfl, hb⟩ := at_some h
  have hpv : pv (xs.drop i) = pvGo 5 (b % 64) b (xs.drop (i + 1)) 1 := by rw [hb]; rfl
  refine RX.assign 10 (d := .int (b % 64)) (by kernel_rfl) ((evD_bin (evN look_eq) eI).trans b_and63) ?_
  refine WpX.cons (Wp1X.while_ (fun m Δ μ => ∃ j val b, PS xs it l i m j val b Δ μ) 5 ⟨1, b % 64, b, look_eq, look_tl (by decide +kernel) look_eq, look_tl (by decide +kernel) (look_tl (by decide +kernel) look_eq), MM.set_self .., hpv.symm, by omega, by simp; omega, by decide⟩ fun m Δ μ hI => ?_)
  obtain ⟨j, val, b, S⟩ := hI
  refine ⟨b / 64 % 2 == 1, (F.cx μ).tst 10 (by kernel_rfl) ?_, fun hb => ?_, fun hb => ?_⟩
  · rw [tBin, evD_bin (evN S.hb) eI, b_and64]
    by_cases h : b / 64 % 2 = 1
    · rw [h]; rfl
    · rw [show b / 64 % 2 = 0 by omega]; rfl
  · have hb' : ¬ b / 64 % 2 = 1 := fun e => by rw [e] at hb; cases hb
    refine RX.ret (F := F) 5 (by kernel_rfl) (evN S.hv) ⟨val, j, ?_, rfl, S.hm⟩
    cases m with
    | zero => rw [← S.go] at hbig; exact absurd rfl hbig
    | succ m => rw [← S.go]; exact if_neg hb'
  · cases m with
    | zero => rw [← S.go] at hbig; exact absurd rfl hbig
    | succ m => exact pv_turn hn (beq_iff_eq.mp hb) S fun j val b Δ μ S => ⟨rfl, m, Nat.lt_succ_self m, j, val, b, S⟩
end
end Mine

open PySem PySem.W PyProof.Rows
set_option Elab.async false
set_option linter.unusedVariables false
set_option linter.unusedSimpArgs false
set_option maxRecDepth 100000
namespace Mine
abbrev fRead : Stmt := sAt top 61

theorem pvGo_bounds : ∀ {f : Nat} {val b : Int} {r : List Int} {m : Nat} {v : Int} {n : Nat}, pvGo f val b r m = .val v n → m ≤ n ∧ n ≤ m + r.length
  | 0, _, _, _, _, _, _, h => by cases h
  | f + 1, val, b, r, m, v, n, h => by
    unfold pvGo at h
    split at h
    · split at h
      · cases h
      · have := pvGo_bounds h
        simp; omega
    · cases h; omega
theorem pv_bounds {l : List Int} {v : Int} {n : Nat} (h : pv l = .val v n) : 1 ≤ n ∧ n ≤ l.length := by
  cases l with
  | nil => cases h
  | cons b r => have := pvGo_bounds h; simp; omega

/-- from xs the numbers vs are read, and then no more -/
def readsTo : List Int → List Int → Prop
  | xs, [] => pv xs = .stop
  | xs, v :: vs => ∃ n, pv xs = .val v n ∧ readsTo (xs.drop n) vs

theorem reads_big {xs vs : List Int} (h : readsTo xs vs) : pv xs ≠ .big := fun e => by
  cases vs with
  | nil => unfold readsTo at h; rw [e] at h; cases h
  | cons v r => obtain ⟨n, h, _⟩ := h; rw [e] at h; cases h
theorem reads_val {xs vs : List Int} {v : Int} {n : Nat} (h : readsTo xs vs) (hv : pv xs = .val v n) : ∃ r, vs = v :: r ∧ readsTo (xs.drop n) r := by
  cases vs with
  | nil => unfold readsTo at h; rw [hv] at h; cases h
  | cons v' r => obtain ⟨n', h, h9⟩ := h; rw [hv] at h; cases h; exact ⟨r, rfl, h9⟩
theorem reads_stop {xs vs : List Int} (h : readsTo xs vs) (hv : pv xs = .stop) : vs = [] := by
  cases vs with
  | nil => rfl
  | cons v r => obtain ⟨n, h, _⟩ := h; rw [hv] at h; cases h

/-- while the numbers are read -/
structure RD (xs vs : List Int) (a it l : Addr) (t i : Nat) (Δ : Ctx) (μ : MM) : Prop where
  told : Δ.lookup ("told" : Str) = some (.ref a)
  source : Δ.lookup ("source" : Str) = some (.ref it)
  cell : μ a = some (.lst ((vs.take t).map .int))
  at_ : μ it = some (.itr l i (xs.map .int))
  ti : t ≤ i
  ix : i ≤ xs.length
  tv : t ≤ vs.length
  rest : readsTo (xs.drop i) (vs.drop t)

theorem RD.next {xs vs : List Int} {a it l : Addr} {t i n : Nat} {v : Int} {Δ : Ctx} {μ : MM} {x : Str} {d : D} (S : RD xs vs a it l t i Δ μ) (hne : it ≠ a) (hx : offN ["told", "source"] x = true) (hR : pv (xs.drop i) = .val v n) :
    RD xs vs a it l (t + 1) (i + n) ((x, d) :: Δ) ((μ.set it (.itr l (i + n) (xs.map .int))).set a (.lst ((vs.take t).map .int ++ [.int v]))) := by
  obtain ⟨r, hv, h9⟩ := reads_val S.rest hR
  obtain ⟨b1, b2⟩ := pv_bounds hR
  rw [List.length_drop] at b2
  have h5 := S.ti
  have htl : t < vs.length := by
    rcases Nat.lt_or_ge t vs.length with h | h
    · exact h
    · rw [List.drop_eq_nil_of_le h] at hv; cases hv
  rw [List.drop_eq_getElem_cons htl] at hv
  injection hv with hv1 hv2
  refine ⟨look_off hx (by decide +kernel) S.told, look_off hx (by decide +kernel) S.source, ?_, by rw [MM.set_ne hne, MM.set_self], by omega, by omega, htl, by rw [hv2, ← List.drop_drop]; exact h9⟩
  rw [MM.set_self, List.take_succ_eq_append_getElem htl, hv1, List.map_append]; rfl
theorem RD.stop {xs vs : List Int} {a it l : Addr} {t i : Nat} {Δ : Ctx} {μ : MM} (S : RD xs vs a it l t i Δ μ) (h : pv (xs.drop i) = .stop) : vs.take t = vs :=
  List.take_of_length_le (by
    have := reads_stop S.rest h
    rcases Nat.lt_or_ge t vs.length with h | h
    · rw [List.drop_eq_getElem_cons h] at this; cases this
    · exact h)

section
variable {W : Wd}
theorem ok_read (T : Tp W) (hn : GlobVal W "next" (.builtin "next")) (hi : GlobVal W "iter" (.builtin "iter")) (hst : GlobVal W "StopIteration" (.type "StopIteration")) (hf : FnAt W "_law_read" (dArgs fRead) (dBody fRead) (dScope fRead))
    (k : Nat) (xs vs : List Int) (hr : readsTo xs vs) (hl : xs.length ≤ 10000) : FnOkS W (k + 2) "_law_read" [.list (xs.map .int)] (.list (vs.map .int)) := by
  refine fnOkS (ps := ["tape"]) T.b.ok hf (fnScope_of (by kernel_rfl)) rfl (fun pm code doc vs h => ?_) fun A env outer hA hE hsc hfr henv hout => ?_
  · obtain ⟨v, rfl⟩ := len1 h; rfl
  generalize hF : (⟨W, A, framesOf outer, env, k + 1, fun μ => ⟨T.b.ok, hA, tabB T.b (k + 1) _, hE, hsc⟩⟩ : Fr Φb (fun _ _ _ => none) (dScope fRead)) = F
  have hR : ∀ {ss Δ μ K}, R F ss Δ μ K → Wp W A (framesOf outer) env ss Δ μ K := by subst hF; exact fun h => h
  refine hR ?_
  have hX : ∀ it l i, pv (xs.drop i) ≠ .big → FnX F.W k "_parse_varint" it l i (xs.map .int) (pv (xs.drop i) = .stop) (fun v n => pv (xs.drop i) = .val v n) := by subst hF; exact fun it l i h => parseX T hn k it l i xs h
  have hA : GoodA F.A (k + 1) := by subst hF; exact hA
  have hfr : F.A.frames = some (F.env :: outer) := by subst hF; exact hfr
  have henv : F.env.frame = some F.env.locals := by subst hF; exact henv
  have hout : ∀ e ∈ outer, e.scope.kind ≠ .module ∧ ∃ L ∈ F.fr, e.frame = some L := by subst hF; exact hout
  have hst : GlobVal F.W "StopIteration" (.type "StopIteration") := by subst hF; exact hst
  have hi : GlobVal F.W "iter" (.builtin "iter") := by subst hF; exact hi
  clear hR hF hE hsc hf hn
  have hle := line_big
  refine R.new 5 (by kernel_rfl) (EvNew.display .nil (by decide)) fun a ha => ?_
  refine R.made (P := fun d μ' => ∃ it l, d = .ref it ∧ it ≠ a ∧ μ' a = some (.lst []) ∧ μ' it = some (.itr l 0 (xs.map .int))) (by kernel_rfl)
    (EvA.iter (ds := xs.map .int) (F.cx fun _ => none).ok hi ((F.cx fun _ => none).kind (by kernel_rfl)) rfl (Fr.ev 5 (by kernel_rfl) (evN (look_tl (by decide +kernel) look_eq))) fun it l hit => ?_) ?_
  · have hne : it ≠ a := fun e => by rw [e, MM.set_self] at hit; cases hit
    exact ⟨it, l, rfl, hne, by rw [MM.set_ne (Ne.symm hne), MM.set_self], MM.set_self ..⟩
  rintro d μ ⟨it, l, rfl, hne, hma, hmi⟩
  have S : RD xs vs a it l 0 0 ((("source" : Str), .ref it) :: ("told", .ref a) :: [("tape" : Str)].zip [.list (xs.map .int)]) μ := ⟨look_tl (by decide +kernel) look_eq, look_eq, hma, hmi, Nat.le_refl _, Nat.zero_le _, Nat.zero_le _, hr⟩
  have htp : ((("source" : Str), D.ref it) :: ("told", .ref a) :: [("tape" : Str)].zip [.list (xs.map .int)]).lookup ("tape" : Str) = some (.list (xs.map .int)) := look_tl (by decide +kernel) (look_tl (by decide +kernel) look_eq)
  generalize ((("source" : Str), D.ref it) :: ("told", .ref a) :: [("tape" : Str)].zip [.list (xs.map .int)]) = Δ at *
  clear hma hmi
  refine R.forB (xs := (rangeL 0 (xs.length + 1 : Nat) 1).map .int) (fun t Δ μ => ∃ i, RD xs vs a it l t i Δ μ) (by kernel_rfl) (Fr.rangeF 10 (by kernel_rfl) (ds := [.int (xs.length + 1 : Nat)]) ?_ rfl (small_up (a := 0) (by decide) (by omega))) ⟨0, S⟩ (fun t d Δ μ P R' T' hd hI hP _ hT => ?_) fun Δ μ hI => ?_
  · have := Φb_len_list (μ := μ) (ds := xs.map D.int) (by rw [List.length_map]; omega)
    rw [List.length_map] at this
    simp only [evs]
    rw [evD_bin ((evD_call1 (evN htp)).trans this) eI, b_add]
    rfl
  · obtain ⟨i, S⟩ := hI
    obtain ⟨rfl, ht⟩ := mem_rangeD hd
    have hlen : (vs.take t).length ≤ t := List.length_take_le ..
    refine Wp.cons (Wp1.tryRead (F.cx μ).ok hA hfr henv hout (hX it l i (reads_big S.rest)) ((F.cx μ).kind (by kernel_rfl)) (by decide) hst ((F.cx μ).kind (by kernel_rfl)) (a := a) (ys := (vs.take t).map .int) (look_tl (by decide +kernel) S.told) (by decide) S.cell (look_tl (by decide +kernel) S.source) (by decide) S.at_ (by rw [List.length_map]; omega) rfl ?_ ?_)
    · intro v n hR'
      exact Wp.nil (hP _ _ ⟨i + n, S.next hne (by decide +kernel) hR'⟩)
    · intro hstop
      refine hT _ _ _ ?_
      rw [S.stop hstop]
  · obtain ⟨i, S⟩ := hI
    have h5 := S.ti
    have h6 := S.ix
    rw [rangeL_up] at h5
    simp at h5
    omega
end
end Mine

open PySem PySem.W PyProof.Rows
set_option Elab.async false
set_option linter.unusedVariables false
set_option linter.unusedSimpArgs false
set_option maxRecDepth 100000
namespace Mine
abbrev fWords : Stmt := sAt top 64

abbrev namesT : Str := "OPTIMIZED NEWLOCALS VARARGS VARKEYWORDS NESTED GENERATOR NOFREE COROUTINE ITERABLE_COROUTINE ASYNC_GENERATOR"
def namesL : List Str := Txt.split namesT " "
def wordV (k : Nat) : Str := if k < 10 then namesL.getD k "" else "0x" ++ Txt.item "1248" ((k % 4 : Nat) : Int) ++ Txt.mul "0" ((k / 4 : Nat) : Int)
theorem namesL_len : namesL.length = 10 := by decide +kernel
theorem wordV_nm : ∀ k < 32, wordV k = nm k := by decide +kernel
theorem nm_ok : ∀ k < 32, PyData.strOk (nm k) = true := by decide +kernel

theorem names_get {i : Nat} (h : i < 10) : (namesL.map D.str)[i]? = some (.str (wordV i)) := by
  have : i < namesL.length := by rw [namesL_len]; exact h
  simp [wordV, h, List.getD, this]

theorem namesT_len : namesT.length = 108 := by decide +kernel
theorem namesP_len : (Builtin.Str.partsBetween namesT (Builtin.Str.occurrences namesT " " 0 namesT.length (namesT.length + 1)) (" " : Str).length).length = 10 := by decide +kernel
theorem space_len : ((" " : Str).length == 0) = false := by decide +kernel
theorem namesF : ((" " : Str).length == 0) = false ∧ namesT.length ≤ sizeLine ∧ (Builtin.Str.partsBetween namesT (Builtin.Str.occurrences namesT " " 0 namesT.length (namesT.length + 1)) (" " : Str).length).length ≤ sizeLine := by
  have hle : sizeLine = 16777216 := by decide
  exact ⟨space_len, by rw [namesT_len]; omega, by rw [namesP_len]; omega⟩
theorem names_meth (μ : MM) : methD μ "split" (.str namesT) [.str " "] = some (.list (namesL.map .str)) := by
  have key : ∀ x : Str, (("" ++ " " : String).length = 1) → x.length ≤ sizeLine → (Builtin.Str.partsBetween x (Builtin.Str.occurrences x " " 0 x.length (x.length + 1)) (" " : Str).length).length ≤ sizeLine → methD μ "split" (.str x) [.str " "] = some (.list ((Txt.split x " ").map .str)) := fun x _ h2 h3 => by
    simp only [methD, nmSplit, nmJoin, str_eq, String.reduceEq, if_false, if_true]
    rw [if_pos ⟨space_len, h2, h3⟩]
  exact key namesT rfl namesF.2.1 namesF.2.2
theorem str1248 : (("1248" : Str)).length = 4 ∧ ("0x" : Str).length = 2 ∧ ("0" : Str).length = 1 := by decide +kernel
theorem item_len (x : Str) (i : Int) : (Txt.item x i).length = 1 := rfl
theorem mul0_len : ∀ n < 8, (Txt.mul "0" (n : Nat)).length ≤ 8 := by decide +kernel

abbrev wordE : Expr := eltE (valE (sAt (dBody fWords) 1))
theorem b_addstr {μ : MM} {x y : Str} (h : x.length + y.length ≤ 1000000) : binD μ .Add (.str x) (.str y) = some (.str (x ++ y)) := by rw [binD_str, if_pos (by have := line_big; omega)]
theorem word_val {Φ Ψ : Str → List D → Option D} {μ : MM} {Γ : Ctx} {i : Nat} (h32 : i < 32) (hk : Γ.lookup ("k" : Str) = some (.int i)) (hn : Γ.lookup ("names" : Str) = some (.list (namesL.map .str))) : evD Φ Ψ μ 12 wordE Γ = some (.str (nm i)) := by
  rw [← wordV_nm i h32]
  show evD Φ Ψ μ 12 (.IfExp (.Compare (.Name "k" _) [.Lt] [.Constant (.int 10) 0 _] _) _ _ _) Γ = _
  refine (evD_if (c := decide ((i : Int) < 10)) (by simp only [tCmp, eN, eI, hk, opt2_ss, cmpD])).trans ?_
  by_cases h10 : i < 10
  · rw [if_pos (decide_eq_true (by omega))]
    simp only [eXn, eN, hn, hk, opt2_ss, idxV_int]
    exact idxD_list (names_get h10) (by omega)
  · rw [if_neg (by rw [decide_eq_true_eq]; omega)]
    have h4 : i % 4 < (Str.ofString "1248").length := by rw [str1248.1]; omega
    have g0 := mul0_len (i / 4) (by omega)
    have hA : binD μ .Mod (.int i) (.int 4) = some (.int ((i % 4 : Nat) : Int)) := b_mod (by decide)
    have hB : binD μ .FloorDiv (.int i) (.int 4) = some (.int ((i / 4 : Nat) : Int)) := b_div (by decide) (by decide)
    have hC := idxD_str (μ := μ) h4 (by rw [str1248.1]; decide)
    have hD : binD μ .Add (.str "0x") (.str (Txt.item "1248" ((i % 4 : Nat) : Int))) = some (.str ("0x" ++ Txt.item "1248" ((i % 4 : Nat) : Int))) := b_addstr (by rw [str1248.2.1, item_len]; decide)
    have hE : binD μ .Mult (.str "0") (.int ((i / 4 : Nat) : Int)) = some (.str (Txt.mul "0" ((i / 4 : Nat) : Int))) := by rw [binD_strmul, if_pos ⟨by omega, by omega, by rw [str1248.2.2]; decide⟩]
    have hF : binD μ .Add (.str ("0x" ++ Txt.item "1248" ((i % 4 : Nat) : Int))) (.str (Txt.mul "0" ((i / 4 : Nat) : Int))) = some (.str ("0x" ++ Txt.item "1248" ((i % 4 : Nat) : Int) ++ Txt.mul "0" ((i / 4 : Nat) : Int))) := b_addstr (by rw [PySem.Str.length_append, str1248.2.1, item_len]; omega)
    simp only [eBin, eXb, eN, eI, eS, hk, opt2_ss, idxV_int, hA, hB, hC, hD, hE, hF, wordV, if_neg h10]

theorem join_val {Φ Ψ : Str → List D → Option D} {μ : MM} {ws : List Str} (h : JoinOk ", " ws = true) : methD μ "join" (.str ", ") [.list (ws.map .str)] = some (.str (Txt.join ", " ws)) := by
  simp only [methD, nmJoin, if_true, asList, Option.bind_some, strsOf_map, if_pos h]

section
variable {W : Wd}
theorem ok_words (T : Tp W) (hf : FnAt W "_law_words" (dArgs fWords) (dBody fWords) (dScope fWords)) (k : Nat) (μ : MM) (ks : List Nat) (above : Int) (hks : ∀ k ∈ ks, k < 32) (hl : ks.length ≤ 32) (ha : above.natAbs < 16 ^ 90) :
    FnOk W (k + 1) μ "_law_words" [.list (ks.map fun (k : Nat) => .int k), .int above] (.str (Txt.join ", " (wordsL ks above))) := by
  refine fnOk (ps := ["places", "above"]) T.b.ok hf (fnScope_of (by kernel_rfl)) rfl (fun pm code doc vs h => ?_) fun A env hA hE hsc => ?_
  · obtain ⟨v, w, rfl⟩ := len2 h; rfl
  generalize hF : (⟨W, A, [], env, k, fun μ => ⟨T.b.ok, hA, tabB T.b k _, hE, hsc⟩⟩ : Fr Φb (fun _ _ _ => none) (dScope fWords)) = F
  have hR : ∀ {ss Δ μ K}, R F ss Δ μ K → Wp W A [] env ss Δ μ K := by subst hF; exact fun h => h
  refine hR ?_
  clear hR hF hA hE hsc hf
  have hle := line_big
  have hp : ([("places" : Str), "above"].zip [D.list (ks.map fun (k : Nat) => .int k), .int above]).lookup ("places" : Str) = some (.list (ks.map fun (k : Nat) => .int k)) := look_eq
  have hab : ([("places" : Str), "above"].zip [D.list (ks.map fun (k : Nat) => .int k), .int above]).lookup ("above" : Str) = some (.int above) := look_tl (by decide +kernel) look_eq
  generalize [("places" : Str), "above"].zip [D.list (ks.map fun (k : Nat) => .int k), .int above] = Δ at *
  refine R.assign 10 (d := .list (namesL.map .str)) (by kernel_rfl) (by simp only [eM1, eS, opt2_ss]; exact names_meth _) ?_
  have hp : ((("names" : Str), D.list (namesL.map .str)) :: Δ).lookup ("places" : Str) = some (.list (ks.map fun (k : Nat) => .int k)) := look_tl (by decide +kernel) hp
  have hab : ((("names" : Str), D.list (namesL.map .str)) :: Δ).lookup ("above" : Str) = some (.int above) := look_tl (by decide +kernel) hab
  have hn : ((("names" : Str), D.list (namesL.map .str)) :: Δ).lookup ("names" : Str) = some (.list (namesL.map .str)) := look_eq
  generalize ((("names" : Str), D.list (namesL.map .str)) :: Δ) = Δ at *
  refine R.used 12 (d := .list ((ks.map nm).map .str)) (by kernel_rfl) ?_ ?_
  · rw [List.map_map]
    exact evD_comp (g := fun (k : Nat) => D.int k) (itD_of (d := .list (ks.map fun (k : Nat) => .int k)) (by simp only [eN]; exact hp) rfl (by intro _ _ _ _ h; cases h)) (fun i hi => word_val (hks i hi) look_eq (look_tl (by decide +kernel) (free_look (by kernel_rfl) hn))) (by omega)
  have hab : ((("words" : Str), D.list ((ks.map nm).map .str)) :: Δ).lookup ("above" : Str) = some (.int above) := look_tl (by decide +kernel) hab
  have hw : ((("words" : Str), D.list ((ks.map nm).map .str)) :: Δ).lookup ("words" : Str) = some (.list ((ks.map nm).map .str)) := look_eq
  generalize ((("words" : Str), D.list ((ks.map nm).map .str)) :: Δ) = Δ at *
  refine R.ret 10 (by kernel_rfl) ?_ rfl
  have hj : JoinOk ", " (wordsL ks above) = true := wordsL_join hks hl (by omega)
  refine (evD_meth (a := .str ", ") (b := .list ((wordsL ks above).map .str)) (by simp only [eS]) ?_).trans (join_val (Φ := fun _ _ => none) (Ψ := fun _ _ => none) hj)
  have he : eqD (.list ((ks.map nm).map .str)) (.list []) = some (decide (ks.map nm = [])) := eqD_strs (b := []) (fun x hx => by obtain ⟨j, hj, rfl⟩ := List.mem_map.mp hx; exact nm_ok j (hks j hj)) (fun x hx => by cases hx)
  have hh : Φb (fun _ => none) "hex" [.int above] = some (.str (hexS above)) := Φb_hex (by omega)
  have hadd : binD (fun _ => none) .Add (.list ((ks.map nm).map .str)) (.list [.str (hexS above)]) = some (.list ((ks.map nm ++ [hexS above]).map .str)) := by
    rw [binD_addl, if_pos (by simp; omega)]; simp
  refine (evD_if (c := above != 0 || decide (ks.map nm = [])) ?_).trans ?_
  · rw [tBool]
    simp only [tstAll, tCmp, eN, eI, eL, evs, hab, hw, opt2_ss, optS_s, sized_le (ds := []) (by simp), cmpD, he]
    cases above != 0 <;> cases decide (ks.map nm = []) <;> rfl
  · cases hc : (above != 0 || decide (ks.map nm = []))
    · have : wordsL ks above = ks.map nm := by
        unfold wordsL
        rw [if_neg fun h => by rcases h with h | h <;> simp [h] at hc, List.append_nil]
      rw [if_neg (by decide), this]
      simp only [eN, hw]
    · have : wordsL ks above = ks.map nm ++ [hexS above] := by
        unfold wordsL
        rw [if_pos (by simpa using hc)]
      rw [if_pos rfl, this]
      simp only [eBin, eN, eL, evs, eCall, hab, hw, hh, opt2_ss, optS_s, sized_le (ds := [.str (hexS above)]) (by simp), hadd]
end
end Mine

open PySem PySem.W PyProof.Rows
set_option Elab.async false
set_option linter.unusedVariables false
set_option linter.unusedSimpArgs false
set_option maxRecDepth 100000
namespace Mine

def tailsOf (menu : List Str) (M : Nat → List Str) (p : Nat) : List Str := if p < 3 then M p else if p = 3 then [] else [menu.getD (p - 4) ""]
def keep1 (text : Str) (after : List Str) (one : Str) : List Str := if Txt.contains text one = true ∧ one ∉ after then after ++ [one] else after
def prodHT (heads tails : List Str) : List Str := heads.flatMap fun h => tails.map fun t => h ++ t
def joinHT (text : Str) (heads tails : List Str) : List Str := (prodHT heads tails).foldl (keep1 text) []
def rowHeads (text : Str) (menu : List Str) (M : Nat → List Str) (ps : List Nat) : List Str := ps.foldl (fun heads p => joinHT text heads (tailsOf menu M p)) [""]
def setM (M : Nat → List Str) (i : Nat) (l : List Str) : Nat → List Str := fun j => if j = i then l else M j
def addOne (i : Nat) (Mg : (Nat → List Str) × Int) (head : Str) : (Nat → List Str) × Int := if head ∈ Mg.1 i then Mg else (setM Mg.1 i (Mg.1 i ++ [head]), 1)
def addRow (text : Str) (menu : List Str) (Mg : (Nat → List Str) × Int) (row : Nat × List Nat) : (Nat → List Str) × Int := (rowHeads text menu Mg.1 row.2).foldl (addOne row.1) Mg
def turnS (text : Str) (menu : List Str) (rules : List (Nat × List Nat)) (M : Nat → List Str) : (Nat → List Str) × Int := rules.foldl (addRow text menu) (M, 0)
def iterS (text : Str) (menu : List Str) (rules : List (Nat × List Nat)) : Nat → (Nat → List Str) → Nat → List Str
  | 0, M => M
  | n + 1, M => if (turnS text menu rules M).2 = 0 then (turnS text menu rules M).1 else iterS text menu rules n (turnS text menu rules M).1

/-- strings that stand in the text, each once -/
def GoodL (text : Str) (l : List Str) : Prop := l.Nodup ∧ ∀ w ∈ l, Txt.contains text w = true
def GoodM (text : Str) (M : Nat → List Str) : Prop := ∀ i < 3, GoodL text (M i)

theorem nodup_len {α : Type} [DecidableEq α] : ∀ {l l' : List α}, l.Nodup → (∀ x ∈ l, x ∈ l') → l.length ≤ l'.length
  | [], _, _, _ => by simp
  | x :: l, l', hn, hs => by
    rw [List.nodup_cons] at hn
    have hx := hs x List.mem_cons_self
    have ih := nodup_len (l := l) (l' := l'.erase x) hn.2 (fun y hy => (List.mem_erase_of_ne (by rintro rfl; exact hn.1 hy)).mpr (hs y (List.mem_cons_of_mem _ hy)))
    rw [List.length_erase_of_mem hx] at ih
    have : 0 < l'.length := List.length_pos_of_mem hx
    rw [List.length_cons]; omega

def subS (x : Str) (i j : Nat) : Str := ⟨((x.cps.toList.drop i).take (j - i)).toArray⟩
def subsOf (x : Str) : List Str := (List.range (x.length + 1)).flatMap fun i => (List.range (x.length + 1)).map fun j => subS x i j

theorem contains_iff {x y : Str} : Txt.contains x y = true ↔ ∃ i, i + y.length ≤ x.length ∧ y = subS x i (i + y.length) := by
  rw [show Txt.contains x y = (!(Builtin.Str.occurrences x y 0 x.length 1).isEmpty) from rfl, StrLaws.found_iff]
  refine exists_congr fun i => and_congr_right fun h => ?_
  unfold Builtin.Str.subAt subS
  rw [beq_iff_eq]
  constructor
  · intro e
    have : y.cps = ((x.cps.toList.drop i).take (i + y.length - i)).toArray := by
      rw [← e]
      apply Array.toList_inj.mp
      simp
    cases y; simp only [Str.mk.injEq]; exact this
  · intro e
    have e' : y.cps = ((x.cps.toList.drop i).take (i + y.length - i)).toArray := congrArg Str.cps e
    rw [e']
    apply Array.toList_inj.mp
    have hl : y.length = y.cps.size := rfl
    simp
theorem contains_len {x y : Str} (h : Txt.contains x y = true) : y.length ≤ x.length := by
  obtain ⟨i, h1, _⟩ := contains_iff.mp h; omega
theorem contains_mem {x y : Str} (h : Txt.contains x y = true) : y ∈ subsOf x := by
  obtain ⟨i, h1, h2⟩ := contains_iff.mp h
  unfold subsOf
  exact List.mem_flatMap.mpr ⟨i, by simp; omega, List.mem_map.mpr ⟨i + y.length, by simp; omega, h2.symm⟩⟩
theorem subsOf_len (x : Str) : (subsOf x).length = (x.length + 1) * (x.length + 1) := by
  unfold subsOf
  have : ∀ (l : List Nat), (l.flatMap fun i => (List.range (x.length + 1)).map fun j => subS x i j).length = l.length * (x.length + 1) := by
    intro l
    induction l with
    | nil => simp
    | cons a l ih => rw [List.flatMap_cons, List.length_append, ih, List.length_cons, Nat.succ_mul]; simp; omega
  rw [this]; simp
theorem GoodL.len {text : Str} {l : List Str} (h : GoodL text l) (ht : text.length ≤ 4) : l.length ≤ 25 := by
  have := nodup_len h.1 fun x hx => contains_mem (h.2 x hx)
  rw [subsOf_len] at this
  have h2 : (text.length + 1) * (text.length + 1) ≤ 5 * 5 := Nat.mul_le_mul (by omega) (by omega)
  omega
theorem GoodL.keep1 {text : Str} {l : List Str} (h : GoodL text l) (one : Str) : GoodL text (keep1 text l one) := by
  unfold Mine.keep1
  split
  · rename_i hc
    refine ⟨List.nodup_append.mpr ⟨h.1, by simp, fun a ha b hb => ?_⟩, fun w hw => ?_⟩
    · simp at hb; subst hb; exact fun e => hc.2 (e ▸ ha)
    · rcases List.mem_append.mp hw with hw | hw
      · exact h.2 w hw
      · simp at hw; subst hw; exact hc.1
  · exact h
theorem GoodL.foldKeep {text : Str} : ∀ (ws : List Str) {l : List Str}, GoodL text l → GoodL text (ws.foldl (Mine.keep1 text) l)
  | [], _, h => h
  | w :: ws, _, h => GoodL.foldKeep ws (h.keep1 w)
theorem GoodL.nil {text : Str} : GoodL text [] := ⟨List.nodup_nil, fun _ h => by cases h⟩
theorem GoodL.joinHT {text : Str} (heads tails : List Str) : GoodL text (joinHT text heads tails) := GoodL.foldKeep _ .nil
theorem contains_empty (text : Str) : Txt.contains text "" = true := by
  have e0 : (("" : Str)).length = 0 := by decide +kernel
  refine contains_iff.mpr ⟨0, by omega, ?_⟩
  rw [e0]
  have : ("" : Str) = ⟨#[]⟩ := by decide +kernel
  rw [this]; simp [subS]
theorem GoodL.one {text : Str} : GoodL text [""] := ⟨by simp, fun w h => by simp at h; subst h; exact contains_empty text⟩
theorem good_rowHeads {text : Str} (menu : List Str) (M : Nat → List Str) (ps : List Nat) : GoodL text (rowHeads text menu M ps) := by
  unfold rowHeads
  have : ∀ (ps : List Nat) (l : List Str), GoodL text l → GoodL text (ps.foldl (fun heads p => joinHT text heads (tailsOf menu M p)) l) := by
    intro ps
    induction ps with
    | nil => intro l h; exact h
    | cons p ps ih => intro l h; exact ih _ (GoodL.joinHT _ _)
  exact this ps _ .one
theorem good_addOne {text : Str} {i : Nat} {Mg : (Nat → List Str) × Int} {head : Str} (h : GoodM text Mg.1) (hh : Txt.contains text head = true) : GoodM text (addOne i Mg head).1 := by
  unfold addOne
  split
  · exact h
  · rename_i hm
    intro j hj
    show GoodL text (setM Mg.1 i (Mg.1 i ++ [head]) j)
    unfold setM
    split
    · subst_vars
      refine ⟨List.nodup_append.mpr ⟨(h j hj).1, by simp, fun a ha b hb => ?_⟩, fun w hw => ?_⟩
      · simp at hb; subst hb; exact fun e => hm (e ▸ ha)
      · rcases List.mem_append.mp hw with hw | hw
        · exact (h j hj).2 w hw
        · simp at hw; subst hw; exact hh
    · exact h j hj
theorem good_addFold {text : Str} {i : Nat} : ∀ (hs : List Str) {Mg : (Nat → List Str) × Int}, GoodM text Mg.1 → (∀ w ∈ hs, Txt.contains text w = true) → GoodM text (hs.foldl (addOne i) Mg).1
  | [], _, h, _ => h
  | w :: hs, _, h, hw => good_addFold hs (good_addOne h (hw w List.mem_cons_self)) fun x hx => hw x (List.mem_cons_of_mem _ hx)
theorem good_addRow {text : Str} {menu : List Str} {Mg : (Nat → List Str) × Int} (row : Nat × List Nat) (h : GoodM text Mg.1) : GoodM text (addRow text menu Mg row).1 :=
  good_addFold _ h (good_rowHeads menu Mg.1 row.2).2
theorem good_turnFold {text : Str} {menu : List Str} : ∀ (rules : List (Nat × List Nat)) {Mg : (Nat → List Str) × Int}, GoodM text Mg.1 → GoodM text (rules.foldl (addRow text menu) Mg).1
  | [], _, h => h
  | r :: rs, _, h => good_turnFold rs (good_addRow r h)
end Mine

open PySem PySem.W PyProof.Rows
set_option Elab.async false
set_option linter.unusedVariables false
set_option linter.unusedSimpArgs false
set_option maxRecDepth 100000
namespace Mine
abbrev fSpell : Stmt := sAt top 63

def rowD (r : Nat × List Nat) : D := .list ((r.1 :: r.2).map fun (p : Nat) => .int p)
def strsD (l : List Str) : D := .list (l.map .str)

/-- what stays the same while _law_spelled runs -/
structure SP where
  text : Str
  menu : List Str
  rules : List (Nat × List Nat)
  m0 : Addr
  ad : Nat → Addr
  ht : text.length ≤ 4
  hm : menu.length ≤ 100 ∧ ∀ w ∈ menu, w.length ≤ 4
  hr : rules.length ≤ 100 ∧ ∀ r ∈ rules, r.1 < 3 ∧ r.2.length ≤ 100 ∧ ∀ p ∈ r.2, p < 4 + menu.length
  hd : ∀ i < 3, ∀ j < 3, ad i = ad j → i = j
  hm0 : ∀ i < 3, m0 ≠ ad i

def SP.Off (s : SP) (a : Addr) : Prop := a ≠ s.m0 ∧ ∀ i < 3, a ≠ s.ad i

structure SB (s : SP) (M : Nat → List Str) (Δ : Ctx) (μ : MM) : Prop where
  made : Δ.lookup ("made" : Str) = some (.ref s.m0)
  text : Δ.lookup ("text" : Str) = some (.str s.text)
  menu : Δ.lookup ("menu" : Str) = some (.list (s.menu.map .str))
  rules : Δ.lookup ("rules" : Str) = some (.list (s.rules.map rowD))
  m0 : μ s.m0 = some (.lst [.ref (s.ad 0), .ref (s.ad 1), .ref (s.ad 2)])
  ads : ∀ i < 3, μ (s.ad i) = some (.lst ((M i).map .str))
structure SG (s : SP) (M : Nat → List Str) (g : Int) (Δ : Ctx) (μ : MM) : Prop where
  b : SB s M Δ μ
  grown : Δ.lookup ("grown" : Str) = some (.int g)
structure SW (s : SP) (M : Nat → List Str) (g : Int) (r : Nat × List Nat) (Δ : Ctx) (μ : MM) : Prop where
  g : SG s M g Δ μ
  row : Δ.lookup ("row" : Str) = some (rowD r)
structure SH (s : SP) (M : Nat → List Str) (g : Int) (r : Nat × List Nat) (hs : List Str) (Δ : Ctx) (μ : MM) : Prop where
  w : SW s M g r Δ μ
  heads : Δ.lookup ("heads" : Str) = some (strsD hs)
structure SA (s : SP) (M : Nat → List Str) (g : Int) (r : Nat × List Nat) (a : Addr) (acc : List Str) (Δ : Ctx) (μ : MM) : Prop where
  w : SW s M g r Δ μ
  off : s.Off a
  after : Δ.lookup ("after" : Str) = some (.ref a)
  cell : μ a = some (.lst (acc.map .str))

abbrev nB : List Str := ["made", "text", "menu", "rules"]
abbrev nG : List Str := ["made", "text", "menu", "rules", "grown"]
abbrev nW : List Str := ["made", "text", "menu", "rules", "grown", "row"]
abbrev nA : List Str := ["made", "text", "menu", "rules", "grown", "row", "after"]

section
variable {s : SP} {M : Nat → List Str} {Δ : Ctx} {μ : MM} {g : Int} {r : Nat × List Nat} {a : Addr} {acc hs : List Str} {x : Str} {d : D}
theorem SB.cons (h : SB s M Δ μ) (h1 : offN nB x = true) : SB s M ((x, d) :: Δ) μ :=
  ⟨look_off h1 (by decide +kernel) h.made, look_off h1 (by decide +kernel) h.text, look_off h1 (by decide +kernel) h.menu, look_off h1 (by decide +kernel) h.rules, h.m0, h.ads⟩
theorem SG.cons (h : SG s M g Δ μ) (h1 : offN nG x = true) : SG s M g ((x, d) :: Δ) μ := ⟨h.b.cons (offN_sub (by decide +kernel) h1), look_off h1 (by decide +kernel) h.grown⟩
theorem SW.cons (h : SW s M g r Δ μ) (h1 : offN nW x = true) : SW s M g r ((x, d) :: Δ) μ := ⟨h.g.cons (offN_sub (by decide +kernel) h1), look_off h1 (by decide +kernel) h.row⟩
theorem SA.cons (h : SA s M g r a acc Δ μ) (h1 : offN nA x = true) : SA s M g r a acc ((x, d) :: Δ) μ := ⟨h.w.cons (offN_sub (by decide +kernel) h1), h.off, look_off h1 (by decide +kernel) h.after, h.cell⟩
theorem SB.off (h : SB s M Δ μ) (ha : μ a = none) : s.Off a :=
  ⟨fun e => (by rw [e, h.m0] at ha; cases ha), fun i hi e => (by rw [e, h.ads i hi] at ha; cases ha)⟩
theorem SB.of (h : SB s M Δ μ) {μ' : MM} (ha : s.Off a) (hμ : ∀ b, b ≠ a → μ' b = μ b) : SB s M Δ μ' :=
  ⟨h.made, h.text, h.menu, h.rules, by rw [hμ _ (Ne.symm ha.1)]; exact h.m0, fun i hi => by rw [hμ _ (Ne.symm (ha.2 i hi))]; exact h.ads i hi⟩
theorem SW.of (h : SW s M g r Δ μ) {μ' : MM} (ha : s.Off a) (hμ : ∀ b, b ≠ a → μ' b = μ b) : SW s M g r Δ μ' := ⟨⟨h.g.b.of ha hμ, h.g.grown⟩, h.row⟩
theorem SW.set (h : SW s M g r Δ μ) {m : MObj} (ha : s.Off a) : SW s M g r Δ (μ.set a m) := h.of ha fun b hb => MM.set_ne hb
theorem SB.add (h : SB s M Δ μ) {i : Nat} (hi : i < 3) (w : Str) : SB s (setM M i (M i ++ [w])) Δ (μ.set (s.ad i) (.lst ((M i).map .str ++ [.str w]))) :=
  ⟨h.made, h.text, h.menu, h.rules, by rw [MM.set_ne (s.hm0 i hi)]; exact h.m0, fun j hj => by
    by_cases e : j = i
    · subst e; rw [MM.set_self]; simp [setM]
    · rw [MM.set_ne (fun e' => e (s.hd j hj i hi e'))]; simp only [setM, if_neg e]; exact h.ads j hj⟩
theorem SB.idx (h : SB s M Δ μ) {i : Nat} (hi : i < 3) : idxD μ (.ref s.m0) (i : Int) = some (.ref (s.ad i)) := idxD_ref h.m0 (by
  rcases lt3 hi with rfl | rfl | rfl <;> rfl) (Nat.lt_trans hi (by decide))
end

theorem foldl_take {α β : Type} (f : β → α → β) (b : β) (l : List α) {i : Nat} (hi : i < l.length) : (l.take (i + 1)).foldl f b = f ((l.take i).foldl f b) l[i] := by
  rw [List.take_succ_eq_append_getElem hi, List.foldl_append]; rfl



abbrev bTurn : List Stmt := forB (sAt (dBody fSpell) 1)
abbrev bRow : List Stmt := forB (sAt bTurn 1)
abbrev bPart : List Stmt := forB (sAt bRow 1)
abbrev bOne : List Stmt := forB (sAt bPart 2)
abbrev bHead : List Stmt := forB (sAt bRow 2)

section
variable {F : Fr Φb (fun _ _ _ => none) (dScope fSpell)} {s : SP} {M : Nat → List Str} {g : Int} {r : Nat × List Nat} {Δ : Ctx} {μ : MM} {K : Out → Ctx → MM → Prop}

theorem sp_one {a : Addr} {acc : List Str} {one : Str} (S : SA s M g r a acc Δ μ) (hl : acc.length ≤ 1000) (hk : ∀ Δ μ, SA s M g r a (keep1 s.text acc one) Δ μ → K .next Δ μ) : R F bOne (("one", .str one) :: Δ) μ K := by
  have S := S.cons (x := "one") (d := .str one) (by decide +kernel)
  have h1 : ((("one" : Str), D.str one) :: Δ).lookup ("one" : Str) = some (.str one) := look_eq
  generalize ((("one" : Str), D.str one) :: Δ) = Δ at *
  refine R.if_ 10 (b := decide (Txt.contains s.text one = true ∧ one ∉ acc)) (by kernel_rfl) ?_ (fun hb => ?_) (fun hb => ?_)
  · simp only [tNot, tBool, tCmp, tN, tBin, tCall, opt2_ss, tstAll, eI, eS, eN, eBin, eNeg, eCmp, eIf, eL, eSl, eXn, eXb, eXc, eXu, eXs, eCall, eM1, optS_s, idxV_int, h1, S.w.g.b.text, S.after, cmpD, asList_ref S.cell, memD, strsOf_map, Option.map_some]
    cases hc : Txt.contains s.text one <;> simp
  · have hb' := of_decide_eq_true hb
    refine R.append 5 (a := a) (d := .str one) (by kernel_rfl) (by simp only [eI, eS, eN, eBin, eNeg, eCmp, eIf, eL, eSl, eXn, eXb, eXc, eXu, eXs, eCall, eM1, eM2, eB, opt2_ss, optS_s, idxV_int, S.after]) S.cell (by simp only [eI, eS, eN, eBin, eNeg, eCmp, eIf, eL, eSl, eXn, eXb, eXc, eXu, eXs, eCall, eM1, eM2, eB, opt2_ss, optS_s, idxV_int, h1]) (by have := line_big; simp; omega) (R.nil (hk _ _ ⟨S.w.set S.off, S.off, S.after, ?_⟩))
    rw [MM.set_self]; unfold keep1; rw [if_pos hb']; simp
  · refine R.nil (hk _ _ ⟨S.w, S.off, S.after, ?_⟩)
    unfold keep1; rw [if_neg (of_decide_eq_false hb)]; exact S.cell

theorem tails_len (hG : GoodM s.text M) {p : Nat} (hp : p < 4 + s.menu.length) : (tailsOf s.menu M p).length ≤ 25 ∧ ∀ w ∈ tailsOf s.menu M p, w.length ≤ 4 := by
  unfold tailsOf
  split
  · rename_i h3; exact ⟨(hG p h3).len s.ht, fun w hw => Nat.le_trans (contains_len ((hG p h3).2 w hw)) s.ht⟩
  · split
    · simp
    · refine ⟨by simp, fun w hw => ?_⟩
      rw [List.mem_singleton.mp hw, List.getD_eq_getElem?_getD, List.getElem?_eq_getElem (by omega)]
      exact s.hm.2 _ (List.getElem_mem _)

abbrev tailE : Expr := valE (sAt bPart 0)

theorem sp_tails (S : SB s M Δ μ) {p : Nat} (hpl : p < 4 + s.menu.length) (hp : Δ.lookup ("part" : Str) = some (.int p)) : ∃ dt, evD (Φb μ) (fun _ _ => none) μ 9 tailE Δ = some dt ∧ asList μ dt = some ((tailsOf s.menu M p).map .str) := by
  show ∃ dt, evD (Φb μ) (fun _ _ => none) μ 9 (.IfExp (.Compare (.Name "part" _) [.Lt] [.Constant (.int 3) 0 _] _) (.Subscript (.Name "made" _) (.Name "part" _) _)
                (.IfExp (.Compare (.Name "part" _) [.Eq] [.Constant (.int 3) 0 _] _) (.List [] _) (.List [.Subscript (.Name "menu" _) (.BinOp (.Name "part" _) .Sub (.Constant (.int 4) 0 _) _) _] _) _) _) Δ = some dt ∧ _
  by_cases h3 : p < 3
  · refine ⟨.ref (s.ad p), ?_, by rw [asList_ref (S.ads p h3)]; simp only [tailsOf, h3, if_true]⟩
    have h3' : decide ((p : Int) < 3) = true := decide_eq_true (Int.ofNat_lt.mpr h3)
    simp only [eI, eS, eN, eBin, eNeg, eCmp, eIf, eL, eSl, eXn, eXb, eXc, eXu, eXs, eCall, eM1, eM2, eB, opt2_ss, optS_s, idxV_int, tNot, tBool, tCmp, tN, tBin, tCall, hp, cmpD, h3', S.made, S.idx h3]
  · have h3' : decide ((p : Int) < 3) = false := decide_eq_false (fun h => h3 (Int.ofNat_lt.mp h))
    by_cases h4 : p = 3
    · subst h4
      refine ⟨.list [], ?_, by simp [asList, tailsOf]⟩
      simp only [eI, eS, eN, eBin, eNeg, eCmp, eIf, eL, eSl, eXn, eXb, eXc, eXu, eXs, eCall, eM1, eM2, eB, opt2_ss, optS_s, idxV_int, tNot, tBool, tCmp, tN, tBin, tCall, hp, cmpD, h3', evs, sized_le (ds := []) (by simp)]
      rfl
    · refine ⟨.list [.str (s.menu.getD (p - 4) "")], ?_, by simp [asList, tailsOf, h3, h4]⟩
      have hb : ((p : Int) == 3) = false := by simp; omega
      have h4' : 4 ≤ p := Nat.lt_of_le_of_ne (Nat.le_of_not_lt h3) (Ne.symm h4)
      have hi4 : (p : Int) - 4 = ((p - 4 : Nat) : Int) := sub_nat h4'
      have hx : (s.menu.map D.str)[p - 4]? = some (.str (s.menu.getD (p - 4) "")) := by
        have : p - 4 < s.menu.length := sub_lt_of h4' (by assumption)
        simp [List.getD, this]
      have hsub : binD μ .Sub (.int p) (.int 4) = some (.int ((p - 4 : Nat) : Int)) := by rw [binD_int, ← hi4]; rfl
      simp only [eI, eS, eN, eBin, eNeg, eCmp, eIf, eL, eSl, eXn, eXb, eXc, eXu, eXs, eCall, eM1, eM2, eB, opt2_ss, optS_s, idxV_int, tNot, tBool, tCmp, tN, tBin, tCall, hp, cmpD, h3', hb, S.menu, hsub, idxD_list (μ := μ) hx (lt63 (Nat.le_trans (Nat.le_of_lt (sub_lt_of h4' (by assumption))) (Nat.le_trans s.hm.1 (by decide)))), evs, sized_le (ds := [.str (s.menu.getD (p - 4) "")]) (by simp)]

theorem prod_len {hs ts : List Str} (h1 : hs.length ≤ 25) (h2 : ts.length ≤ 25) : (prodHT hs ts).length ≤ 625 := by
  have : ∀ l : List Str, (l.flatMap fun y => ts.map fun z => y ++ z).length = l.length * ts.length := by
    intro l
    induction l with
    | nil => simp
    | cons x l ih => rw [List.flatMap_cons, List.length_append, ih, List.length_cons, Nat.succ_mul]; simp; exact Nat.add_comm ..
  unfold prodHT
  rw [this]
  exact Nat.mul_le_mul h1 h2

theorem sp_part {hs : List Str} {p : Nat} (hG : GoodM s.text M) (hGh : GoodL s.text hs) (hpl : p < 4 + s.menu.length) (S : SH s M g r hs Δ μ) (hk : ∀ Δ μ, SH s M g r (joinHT s.text hs (tailsOf s.menu M p)) Δ μ → K .next Δ μ) : R F bPart (("part", .int p) :: Δ) μ K := by
  obtain ⟨dt, hdt, hat⟩ := sp_tails (s := s) (M := M) (Δ := ("part", .int p) :: Δ) (S.w.g.b.cons (by decide +kernel)) hpl look_eq
  refine R.assign 9 (d := dt) (by kernel_rfl) hdt ?_
  have htl := tails_len hG hpl
  generalize tailsOf s.menu M p = ts at *
  have S1 := (S.w.cons (x := "part") (d := .int p) (by decide +kernel)).cons (x := "tails") (d := dt) (by decide +kernel)
  have hh : ((("tails" : Str), dt) :: (("part" : Str), D.int p) :: Δ).lookup ("heads" : Str) = some (strsD hs) := look_tl (by decide +kernel) (look_tl (by decide +kernel) S.heads)
  have ht : ((("tails" : Str), dt) :: (("part" : Str), D.int p) :: Δ).lookup ("tails" : Str) = some dt := look_eq
  generalize ((("tails" : Str), dt) :: (("part" : Str), D.int p) :: Δ) = Δ at *
  refine R.new 5 (by kernel_rfl) (EvNew.display .nil (by decide)) fun a ha => ?_
  have S2 : SA s M g r a [] ((("after" : Str), .ref a) :: Δ) (μ.set a (.lst [])) := ⟨(S1.cons (by decide +kernel)).set (S1.g.b.off ha), S1.g.b.off ha, look_eq, MM.set_self ..⟩
  have hh : ((("after" : Str), D.ref a) :: Δ).lookup ("heads" : Str) = some (strsD hs) := look_tl (by decide +kernel) hh
  have ht : ((("after" : Str), D.ref a) :: Δ).lookup ("tails" : Str) = some dt := look_tl (by decide +kernel) ht
  have hat' : asList (μ.set a (.lst [])) dt = some (ts.map .str) := by
    cases dt with
    | ref b =>
      have hba : b ≠ a := fun e => by subst e; simp [asList, ha] at hat
      simp only [asList, MM.set_ne hba] at hat ⊢; exact hat
    | list ds => exact hat
    | _ => exact hat
  have hpl := prod_len (hGh.len s.ht) htl.1
  clear ha hat hdt S1 S
  generalize ((("after" : Str), D.ref a) :: Δ) = Δ at *
  generalize μ.set a (.lst []) = μ at *
  refine R.for_ (xs := (prodHT hs ts).map .str) (fun i Δ μ => SA s M g r a (((prodHT hs ts).take i).foldl (keep1 s.text) []) Δ μ) (by kernel_rfl) ((F.cx _).iterE 12 (by kernel_rfl) ?_) S2 (fun i d Δ μ P hdi S2 hP => ?_) fun Δ μ S2 => ?_
  · have e : (prodHT hs ts).map D.str = hs.flatMap fun y => ts.map fun z => D.str (y ++ z) := by
      unfold prodHT; rw [List.map_flatMap]; simp only [List.map_map, Function.comp_def]
    rw [e]
    refine evD_comp2 (g := .str) (l' := fun _ => ts) (g' := fun _ z => .str z) (h := fun y z => .str (y ++ z)) (itD_of (d := strsD hs) (by simp only [eI, eS, eN, eBin, eNeg, eCmp, eIf, eL, eSl, eXn, eXb, eXc, eXu, eXs, eCall, eM1, eM2, eB, opt2_ss, optS_s, idxV_int, hh]) rfl (by intro _ _ _ _ h; cases h)) (fun y hy => itD_of (d := dt) ?_ hat' (by intro _ _ _ _ h; cases h)) (fun y hy z hz => ?_) (by rw [← e, List.length_map]; have := line_big; omega)
    · simp [eI, eS, eN, eBin, eNeg, eCmp, eIf, eL, eSl, eXn, eXb, eXc, eXu, eXs, eCall, eM1, eM2, eB, opt2_ss, optS_s, idxV_int, List.lookup_cons, str_beq, freeCtx, ht]
    · have l1 := contains_len (hGh.2 y hy)
      have l2 := htl.2 z hz
      have l3 := s.ht
      have := line_big
      simp [eI, eS, eN, eBin, eNeg, eCmp, eIf, eL, eSl, eXn, eXb, eXc, eXu, eXs, eCall, eM1, eM2, eB, opt2_ss, optS_s, idxV_int, List.lookup_cons, str_beq, binD_str]; omega
  · obtain ⟨hi, rfl⟩ := mem_mapD hdi
    exact sp_one S2 (Nat.le_trans (GoodL.len (GoodL.foldKeep _ .nil) s.ht) (by decide)) fun Δ μ S3 => hP Δ μ (by rw [foldl_take _ _ _ hi]; exact S3)
  · rw [List.length_map, List.take_length] at S2
    refine Wp.freeze S2.after S2.cell ?_
    show R F _ _ _ _
    refine R.assign 5 (d := strsD (joinHT s.text hs ts)) (by kernel_rfl) (by simp only [eI, eS, eN, eBin, eNeg, eCmp, eIf, eL, eSl, eXn, eXb, eXc, eXu, eXs, eCall, eM1, eM2, eB, opt2_ss, optS_s, idxV_int]; exact look_eq) (R.nil (hk _ _ ⟨SW.of (μ := μ) ((S2.w.cons (by decide +kernel)).cons (by decide +kernel)) S2.off fun b hb => if_neg hb, look_eq⟩))

theorem sp_head {w : Str} (hr : r.1 < 3) (hG : GoodM s.text M) (S : SW s M g r Δ μ) (hk : ∀ Δ μ, SW s (addOne r.1 (M, g) w).1 (addOne r.1 (M, g) w).2 r Δ μ → K .next Δ μ) : R F bHead (("head", .str w) :: Δ) μ K := by
  have S := S.cons (x := "head") (d := .str w) (by decide +kernel)
  have h1 : ((("head" : Str), D.str w) :: Δ).lookup ("head" : Str) = some (.str w) := look_eq
  generalize ((("head" : Str), D.str w) :: Δ) = Δ at *
  have hrow0 : idxD μ (rowD r) 0 = some (.int r.1) := idxD_list (i := 0) (by simp) (by omega)
  have hc := S.g.b.ads r.1 hr
  refine R.if_ 10 (b := decide (w ∉ M r.1)) (by kernel_rfl) ?_ (fun hb => ?_) (fun hb => ?_)
  · simp only [tNot, tBool, tCmp, tN, tBin, tCall, opt2_ss, eI, eS, eN, eBin, eNeg, eCmp, eIf, eL, eSl, eXn, eXb, eXc, eXu, eXs, eCall, eM1, optS_s, idxV_int, h1, S.g.b.made, S.row, hrow0, S.g.b.idx hr, cmpD, asList_ref hc, memD, strsOf_map, Option.map_some, decide_not]
  · have hao : addOne r.1 (M, g) w = (setM M r.1 (M r.1 ++ [w]), 1) := by simp only [addOne, if_neg (of_decide_eq_true hb)]
    rw [hao] at hk
    refine R.append 8 (a := s.ad r.1) (d := .str w) (by kernel_rfl) (by simp only [eI, eS, eN, eBin, eNeg, eCmp, eIf, eL, eSl, eXn, eXb, eXc, eXu, eXs, eCall, eM1, eM2, eB, opt2_ss, optS_s, idxV_int, S.g.b.made, S.row, hrow0, S.g.b.idx hr]) hc (by simp only [eI, eS, eN, eBin, eNeg, eCmp, eIf, eL, eSl, eXn, eXb, eXc, eXu, eXs, eCall, eM1, eM2, eB, opt2_ss, optS_s, idxV_int, h1]) (by have := (hG r.1 hr).len s.ht; have := line_big; simp; omega) ?_
    exact R.assign 5 (d := .int 1) (by kernel_rfl) (by simp only [eI, eS, eN, eBin, eNeg, eCmp, eIf, eL, eSl, eXn, eXb, eXc, eXu, eXs, eCall, eM1, eM2, eB, opt2_ss, optS_s, idxV_int]) (R.nil (hk _ _ ⟨⟨(S.g.b.add hr w).cons (by decide +kernel), look_eq⟩, look_tl (by decide +kernel) S.row⟩))
  · have hao : addOne r.1 (M, g) w = (M, g) := by simp only [addOne, if_pos (Decidable.not_not.mp (of_decide_eq_false hb))]
    rw [hao] at hk
    exact R.nil (hk _ _ S)

theorem sp_row (hr : r.1 < 3 ∧ r.2.length ≤ 100 ∧ ∀ p ∈ r.2, p < 4 + s.menu.length) (hG : GoodM s.text M) (S : SG s M g Δ μ) (hk : ∀ Δ μ, SG s (addRow s.text s.menu (M, g) r).1 (addRow s.text s.menu (M, g) r).2 Δ μ → K .next Δ μ) : R F bRow (("row", rowD r) :: Δ) μ K := by
  have S : SW s M g r ((("row" : Str), rowD r) :: Δ) μ := ⟨S.cons (by decide +kernel), look_eq⟩
  generalize ((("row" : Str), rowD r) :: Δ) = Δ at *
  refine R.assign 5 (d := strsD [""]) (by kernel_rfl) (by simp only [eI, eS, eN, eBin, eNeg, eCmp, eIf, eL, eSl, eXn, eXb, eXc, eXu, eXs, eCall, eM1, eM2, eB, opt2_ss, optS_s, idxV_int, evs, sized_le (ds := [.str ""]) (by simp)]; rfl) ?_
  have S : SH s M g r [""] ((("heads" : Str), strsD [""]) :: Δ) μ := ⟨S.cons (by decide +kernel), look_eq⟩
  generalize ((("heads" : Str), strsD [""]) :: Δ) = Δ at *
  refine R.for_ (xs := r.2.map fun (p : Nat) => .int p) (fun j Δ μ => SH s M g r (rowHeads s.text s.menu M (r.2.take j)) Δ μ) (by kernel_rfl) ((F.cx _).iterE 8 (by kernel_rfl) ?_) S (fun j d Δ μ P hdj S hP => ?_) fun Δ μ S => ?_
  · simp only [eI, eS, eN, eBin, eNeg, eCmp, eIf, eL, eSl, eXn, eXb, eXc, eXu, eXs, eCall, eM1, eM2, eB, opt2_ss, optS_s, idxV_int, S.w.row, partI, rowD, sliceD, asList]
    rw [if_pos ⟨by simp, by have := line_big; simp; omega⟩, show (1 : Int) = ((1 : Nat) : Int) from rfl, pickL_from]
    simp
  · obtain ⟨hj, rfl⟩ := mem_mapD hdj
    exact sp_part hG (good_rowHeads _ _ _) (hr.2.2 _ (List.getElem_mem hj)) S fun Δ μ S => hP Δ μ (by
      rw [show rowHeads s.text s.menu M (r.2.take (j + 1)) = _ from foldl_take _ _ _ hj]; exact S)
  · rw [List.length_map, List.take_length] at S
    have hGh := good_rowHeads (text := s.text) s.menu M r.2
    rw [show addRow s.text s.menu (M, g) r = (rowHeads s.text s.menu M r.2).foldl (addOne r.1) (M, g) from rfl] at hk
    generalize rowHeads s.text s.menu M r.2 = hs at *
    refine R.for_ (xs := hs.map .str) (fun j Δ μ => SW s ((hs.take j).foldl (addOne r.1) (M, g)).1 ((hs.take j).foldl (addOne r.1) (M, g)).2 r Δ μ) (by kernel_rfl) ((F.cx _).iterE 5 (by kernel_rfl) (by simp only [eI, eS, eN, eBin, eNeg, eCmp, eIf, eL, eSl, eXn, eXb, eXc, eXu, eXs, eCall, eM1, eM2, eB, opt2_ss, optS_s, idxV_int]; exact S.heads)) S.w (fun j d Δ μ P hdj S hP => ?_) fun Δ μ S => ?_
    · obtain ⟨hj, rfl⟩ := mem_mapD hdj
      have hG₂ : GoodM s.text ((hs.take j).foldl (addOne r.1) (M, g)).1 := good_addFold _ hG fun w hw => hGh.2 w (List.mem_of_mem_take hw)
      rw [foldl_take (addOne r.1) _ _ hj] at hP
      generalize (hs.take j).foldl (addOne r.1) (M, g) = Mg at *
      exact sp_head hr.1 hG₂ S hP
    · rw [List.length_map, List.take_length] at S
      exact R.nil (hk _ _ S.g)

theorem sp_turn (hG : GoodM s.text M) (S : SB s M Δ μ) (hb : (turnS s.text s.menu s.rules M).2 = 0 → ∀ Δ μ, SB s (turnS s.text s.menu s.rules M).1 Δ μ → K .brk Δ μ) (hk : ¬ (turnS s.text s.menu s.rules M).2 = 0 → ∀ Δ μ, SB s (turnS s.text s.menu s.rules M).1 Δ μ → K .next Δ μ) : R F bTurn Δ μ K := by
  refine R.assign 5 (d := .int 0) (by kernel_rfl) (by simp only [eI, eS, eN, eBin, eNeg, eCmp, eIf, eL, eSl, eXn, eXb, eXc, eXu, eXs, eCall, eM1, eM2, eB, opt2_ss, optS_s, idxV_int]) ?_
  have S : SG s M 0 ((("grown" : Str), .int 0) :: Δ) μ := ⟨S.cons (by decide +kernel), look_eq⟩
  generalize ((("grown" : Str), D.int 0) :: Δ) = Δ at *
  unfold turnS at hb hk
  refine R.for_ (xs := s.rules.map rowD) (fun i Δ μ => SG s ((s.rules.take i).foldl (addRow s.text s.menu) (M, 0)).1 ((s.rules.take i).foldl (addRow s.text s.menu) (M, 0)).2 Δ μ) (by kernel_rfl) ((F.cx _).iterE 5 (by kernel_rfl) (by simp only [eI, eS, eN, eBin, eNeg, eCmp, eIf, eL, eSl, eXn, eXb, eXc, eXu, eXs, eCall, eM1, eM2, eB, opt2_ss, optS_s, idxV_int]; exact S.b.rules)) S (fun i d Δ μ P hdi S hP => ?_) fun Δ μ S => ?_
  · obtain ⟨hi, rfl⟩ := mem_mapD hdi
    have hG₁ : GoodM s.text ((s.rules.take i).foldl (addRow s.text s.menu) (M, 0)).1 := good_turnFold _ hG
    rw [foldl_take _ _ _ hi] at hP
    generalize (s.rules.take i).foldl (addRow s.text s.menu) (M, 0) = Mg at *
    exact sp_row (s.hr.2 _ (List.getElem_mem hi)) hG₁ S hP
  · rw [List.length_map, List.take_length] at S
    refine R.if_ 8 (b := (s.rules.foldl (addRow s.text s.menu) (M, 0)).2 == 0) (by kernel_rfl) (by simp only [tNot, tBool, tCmp, tN, tBin, tCall, opt2_ss, eI, eS, eN, eBin, eNeg, eCmp, eIf, eL, eSl, eXn, eXb, eXc, eXu, eXs, eCall, eM1, optS_s, idxV_int, S.grown, cmpD]) (fun h => R.brk (hb (beq_iff_eq.mp h) _ _ S.b)) fun h => R.nil (hk (fun e => by rw [e] at h; cases h) _ _ S.b)

theorem sp_end {M' : Nat → List Str} (S : SB s M' Δ μ) (hk : ∀ Δ μ, K (.ret (.list [strsD (M' 0), strsD (M' 1), strsD (M' 2)])) Δ μ) : R F ((dBody fSpell).drop 2) Δ μ K := by
  obtain ⟨text, menu, rules, m0, ad, ht, hm, hr, hd, hm0⟩ := s
  have hd01 : ad 1 ≠ ad 0 := fun e => by have := hd 1 (by omega) 0 (by omega) e; omega
  have hd02 : ad 2 ≠ ad 0 := fun e => by have := hd 2 (by omega) 0 (by omega) e; omega
  have hd12 : ad 2 ≠ ad 1 := fun e => by have := hd 2 (by omega) 1 (by omega) e; omega
  have g0 := hm0 0 (by omega)
  have g1 := hm0 1 (by omega)
  have g2 := hm0 2 (by omega)
  refine Wp.freezeG (a := ad 0) (ds := (M' 0).map .str) (Δ' := [("made", .ref m0)]) (μ' := fun b => if b = m0 then some (.lst [strsD (M' 0), .ref (ad 1), .ref (ad 2)]) else if b = ad 1 then some (.lst ((M' 1).map .str)) else if b = ad 2 then some (.lst ((M' 2).map .str)) else none)
    (S.ads 0 (by omega)) (fun x d' hx => ?_) (fun b m' hb => ?_) ?_
  · rw [List.lookup_cons] at hx
    cases e : x == ("made" : Str) with
    | true => rw [e] at hx; cases hx; rw [beq_iff_eq.mp e]; exact ⟨_, S.made, .refl _⟩
    | false => rw [e] at hx; cases hx
  · split at hb
    · cases hb; subst_vars; exact ⟨g0, _, S.m0, FrzM.lst (.cons (.ref _ _) (FrzL.refl _))⟩
    · split at hb
      · cases hb; subst_vars; exact ⟨hd01, _, S.ads 1 (by omega), .refl _⟩
      · split at hb
        · cases hb; subst_vars; exact ⟨hd02, _, S.ads 2 (by omega), .refl _⟩
        · cases hb
  refine Wp.freezeG (a := ad 1) (ds := (M' 1).map .str) (Δ' := [("made", .ref m0)]) (μ' := fun b => if b = m0 then some (.lst [strsD (M' 0), strsD (M' 1), .ref (ad 2)]) else if b = ad 2 then some (.lst ((M' 2).map .str)) else none)
    (by simp [Ne.symm g1]) (fun x d' hx => ⟨d', hx, .refl _⟩) (fun b m' hb => ?_) ?_
  · split at hb
    · cases hb; subst_vars; exact ⟨g1, _, by simp, FrzM.lst (.cons (.refl _) (.cons (.ref _ _) (FrzL.refl _)))⟩
    · split at hb
      · cases hb; subst_vars; exact ⟨hd12, _, by simp [Ne.symm g2, hd12], .refl _⟩
      · cases hb
  refine Wp.freezeG (a := ad 2) (ds := (M' 2).map .str) (Δ' := [("made", .ref m0)]) (μ' := fun b => if b = m0 then some (.lst [strsD (M' 0), strsD (M' 1), strsD (M' 2)]) else none)
    (by simp [Ne.symm g2]) (fun x d' hx => ⟨d', hx, .refl _⟩) (fun b m' hb => ?_) ?_
  · split at hb
    · cases hb; subst_vars; exact ⟨g2, _, by simp, FrzM.lst (.cons (.refl _) (.cons (.refl _) (.cons (.ref _ _) (FrzL.refl _))))⟩
    · cases hb
  refine Wp.freeze (x := "made") (a := m0) (ds := [strsD (M' 0), strsD (M' 1), strsD (M' 2)]) look_eq (by simp) ?_
  show R F _ _ _ _
  exact R.ret 5 (by kernel_rfl) (by simp only [eI, eS, eN, eBin, eNeg, eCmp, eIf, eL, eSl, eXn, eXb, eXc, eXu, eXs, eCall, eM1, eM2, eB, opt2_ss, optS_s, idxV_int]; exact look_eq) (hk _ _)

theorem iterS_turn {text : Str} {menu : List Str} {rules : List (Nat × List Nat)} {t : Nat} (ht : t < 99) (M : Nat → List Str) : iterS text menu rules (99 - t) M = if (turnS text menu rules M).2 = 0 then (turnS text menu rules M).1 else iterS text menu rules (99 - (t + 1)) (turnS text menu rules M).1 := by
  rw [turn_succ ht, iterS]

theorem sp_all (S : SB s (fun _ => []) Δ μ) {M' : Nat → List Str} (hM' : iterS s.text s.menu s.rules 99 (fun _ => []) = M') : R F ((dBody fSpell).drop 1) Δ μ (fun o _ _ => o = .ret (.list [strsD (M' 0), strsD (M' 1), strsD (M' 2)])) := by
  refine R.forB (xs := (rangeL 0 (99 : Nat) 1).map .int) (fun t Δ μ => ∃ M, SB s M Δ μ ∧ iterS s.text s.menu s.rules (99 - t) M = M' ∧ GoodM s.text M) (by kernel_rfl)
    (Fr.rangeF 10 (by kernel_rfl) (ds := [.int 99]) (by simp only [evs, eI, eS, eN, eBin, eNeg, eCmp, eIf, eL, eSl, eXn, eXb, eXc, eXu, eXs, eCall, eM1, eM2, eB, opt2_ss, optS_s, idxV_int]) rfl (small_of (by decide) (by decide) (.inl rfl))) ⟨_, S, hM', fun i hi => .nil⟩ (fun t d Δ μ P R' T hdt hI hP hR _ => ?_) fun Δ μ hI => ?_
  · obtain ⟨M, S, hit, hG⟩ := hI
    obtain ⟨rfl, ht99⟩ := mem_rangeD hdt
    rw [iterS_turn ht99] at hit
    refine sp_turn hG (S.cons (by decide +kernel)) (fun h0 Δ μ S => hR Δ μ ?_) fun h0 Δ μ S => hP Δ μ ⟨_, S, ?_, good_turnFold _ hG⟩
    · rw [if_pos h0] at hit
      rw [hit] at S
      exact sp_end S fun _ _ => rfl
    · rw [if_neg h0] at hit; exact hit
  · obtain ⟨M, S, hit, _⟩ := hI
    have e : ((rangeL 0 (99 : Nat) 1).map D.int).length = 99 := by rw [rangeL_up]; simp
    rw [e] at hit
    rw [show M = M' from hit] at S
    exact sp_end S fun _ _ => rfl
theorem made_three {μ : MM} {a0 a1 a2 m0 : Addr} (h0 : μ a0 = none) (h1 : (μ.set a0 (.lst [])) a1 = none) (h2 : ((μ.set a0 (.lst [])).set a1 (.lst [])) a2 = none) (h3 : (((μ.set a0 (.lst [])).set a1 (.lst [])).set a2 (.lst [])) m0 = none) :
    ∃ (m : Addr) (ad : Nat → Addr), D.ref m0 = .ref m ∧ (∀ i < 3, ∀ j < 3, ad i = ad j → i = j) ∧ (∀ i < 3, m ≠ ad i) ∧ ((((μ.set a0 (.lst [])).set a1 (.lst [])).set a2 (.lst [])).set m0 (.lst [.ref a0, .ref a1, .ref a2])) m = some (.lst [.ref (ad 0), .ref (ad 1), .ref (ad 2)]) ∧
      ∀ i < 3, ((((μ.set a0 (.lst [])).set a1 (.lst [])).set a2 (.lst [])).set m0 (.lst [.ref a0, .ref a1, .ref a2])) (ad i) = some (.lst []) := by
  have n10 : a1 ≠ a0 := fun e => by rw [e, MM.set_self] at h1; cases h1
  have n21 : a2 ≠ a1 := fun e => by rw [e, MM.set_self] at h2; cases h2
  have n20 : a2 ≠ a0 := fun e => by rw [e, MM.set_ne (Ne.symm n10), MM.set_self] at h2; cases h2
  have n32 : m0 ≠ a2 := fun e => by rw [e, MM.set_self] at h3; cases h3
  have n31 : m0 ≠ a1 := fun e => by rw [e, MM.set_ne (Ne.symm n21), MM.set_self] at h3; cases h3
  have n30 : m0 ≠ a0 := fun e => by rw [e, MM.set_ne (Ne.symm n20), MM.set_ne (Ne.symm n10), MM.set_self] at h3; cases h3
  have n3 : ∀ {P : Nat → Prop}, P 0 → P 1 → P 2 → ∀ i < 3, P i := fun p0 p1 p2 i hi => match i, hi with | 0, _ => p0 | 1, _ => p1 | 2, _ => p2
  refine ⟨m0, fun i => match i with | 0 => a0 | 1 => a1 | _ => a2, rfl, n3 (n3 (fun _ => rfl) (fun e => absurd e (Ne.symm n10)) (fun e => absurd e (Ne.symm n20))) (n3 (fun e => absurd e n10) (fun _ => rfl) (fun e => absurd e (Ne.symm n21))) (n3 (fun e => absurd e n20) (fun e => absurd e n21) (fun _ => rfl)), n3 n30 n31 n32, MM.set_self .., n3 ?_ ?_ ?_⟩
  · exact (MM.set_ne (Ne.symm n30)).trans ((MM.set_ne (Ne.symm n20)).trans ((MM.set_ne (Ne.symm n10)).trans (MM.set_self ..)))
  · exact (MM.set_ne (Ne.symm n31)).trans ((MM.set_ne (Ne.symm n21)).trans (MM.set_self ..))
  · exact (MM.set_ne (Ne.symm n32)).trans (MM.set_self ..)
end

section
variable {W : Wd}
theorem ok_spelled (T : Tp W) (hf : FnAt W "_law_spelled" (dArgs fSpell) (dBody fSpell) (dScope fSpell)) (k : Nat) (μ : MM) (text : Str) (menu : List Str) (rules : List (Nat × List Nat)) (ht : text.length ≤ 4)
    (hm : menu.length ≤ 100 ∧ ∀ w ∈ menu, w.length ≤ 4) (hr : rules.length ≤ 100 ∧ ∀ r ∈ rules, r.1 < 3 ∧ r.2.length ≤ 100 ∧ ∀ p ∈ r.2, p < 4 + menu.length) (M' : Nat → List Str) (hM' : iterS text menu rules 99 (fun _ => []) = M') :
    FnOk W (k + 1) μ "_law_spelled" [.str text, .list (rules.map rowD), .list (menu.map .str)] (.list [strsD (M' 0), strsD (M' 1), strsD (M' 2)]) := by
  refine fnOk (ps := ["text", "rules", "menu"]) T.b.ok hf (fnScope_of (by kernel_rfl)) rfl (fun pm code doc vs h => ?_) fun A env hA hE hsc => ?_
  · obtain ⟨v, w, u, rfl⟩ := len3 h; rfl
  generalize hF : (⟨W, A, [], env, k, fun μ => ⟨T.b.ok, hA, tabB T.b k _, hE, hsc⟩⟩ : Fr Φb (fun _ _ _ => none) (dScope fSpell)) = F
  have hR : ∀ {ss Δ μ K}, R F ss Δ μ K → Wp W A [] env ss Δ μ K := by subst hF; exact fun h => h
  refine hR ?_
  clear hR hF hA hE hsc
  -- made = [[], [], []]
  refine R.made (P := fun d μ' => ∃ (m0 : Addr) (ad : Nat → Addr), d = .ref m0 ∧ (∀ i < 3, ∀ j < 3, ad i = ad j → i = j) ∧ (∀ i < 3, m0 ≠ ad i) ∧ μ' m0 = some (.lst [.ref (ad 0), .ref (ad 1), .ref (ad 2)]) ∧ ∀ i < 3, μ' (ad i) = some (.lst [])) (by kernel_rfl)
    (EvA.list ⟨rfl, EvNew.a (EvNew.display .nil (by decide)) fun a0 h0 => ⟨rfl, EvNew.a (EvNew.display .nil (by decide)) fun a1 h1 => ⟨rfl, EvNew.a (EvNew.display .nil (by decide)) fun a2 h2 => ⟨by have := line_big; simp; omega, fun m0 h3 => made_three h0 h1 h2 h3⟩⟩⟩⟩) ?_
  rintro d μ₁ ⟨m0, ad, rfl, hd, hm0, q1, q2⟩
  exact sp_all (s := ⟨text, menu, rules, m0, ad, ht, hm, hr, hd, hm0⟩) ⟨look_eq, by simp [List.lookup_cons, str_beq], by simp [List.lookup_cons, str_beq], by simp [List.lookup_cons, str_beq], q1, q2⟩ hM'
end
end Mine

open PySem PySem.W PyProof.Rows
set_option Elab.async false
set_option linter.unusedVariables false
set_option linter.unusedSimpArgs false
set_option maxRecDepth 100000
namespace Mine

/-- the number whose places are p's -/
def bits (p : Nat → Bool) : Nat → Int
  | 0 => 0
  | n + 1 => bits p n + if p n then 2 ^ n else 0

theorem bits_low (p : Nat → Bool) : ∀ n, bits p (n + 1) = 2 * bits (fun j => p (j + 1)) n + if p 0 then 1 else 0
  | 0 => by simp [bits]
  | n + 1 => by
    rw [bits, bits_low p n, bits]
    rw [Int.pow_succ]
    split <;> split <;> omega
theorem bits_range (p : Nat → Bool) (n : Nat) : 0 ≤ bits p n ∧ bits p n < 2 ^ n := by
  induction n with
  | zero => simp [bits]
  | succ n ih =>
    have := pow_pos' n
    rw [bits, Int.pow_succ]
    split <;> omega
theorem bits_and (n : Nat) : ∀ (p q : Nat → Bool), Builtin.bitAnd (bits p n) (bits q n) = bits (fun j => p j && q j) n := by
  induction n with
  | zero => intro p q; simp [bits, bitAnd_zero]
  | succ n ih =>
    intro p q
    rw [bits_low p, bits_low q, bits_low, kbt_halves]
    have e1 : ∀ (x : Int) (b : Bool), (2 * x + if b then 1 else 0) / 2 = x := by intro x b; cases b <;> simp <;> omega
    have e2 : ∀ (x : Int) (b : Bool), (2 * x + if b then 1 else 0) % 2 = if b then 1 else 0 := by intro x b; cases b <;> simp <;> omega
    rw [e1, e1, e2, e2, ih]
    cases p 0 <;> cases q 0 <;> simp
theorem bits_add (n : Nat) (p q : Nat → Bool) : bits p n + bits q n = bits (fun j => p j || q j) n + bits (fun j => p j && q j) n := by
  induction n with
  | zero => simp [bits]
  | succ n ih =>
    simp only [bits]
    by_cases h1 : p n = true <;> by_cases h2 : q n = true <;> simp [h1, h2] <;> omega
theorem bits_or (n : Nat) (p q : Nat → Bool) : Builtin.bitOr (bits p n) (bits q n) = bits (fun j => p j || q j) n := by
  rw [bitOr_and, bits_and]
  have := bits_add n p q
  omega
theorem bits_get (p : Nat → Bool) : ∀ (n j : Nat), bits p n / 2 ^ j % 2 = if (decide (j < n) && p j) then 1 else 0
  | 0, j => by simp [bits]
  | n + 1, 0 => by
    rw [bits_low]; cases p 0 <;> simp <;> omega
  | n + 1, j + 1 => by
    rw [bits_low, Int.pow_succ, Int.mul_comm (2 ^ j), ← Int.ediv_ediv_of_nonneg (by decide)]
    have e1 : (2 * bits (fun j => p (j + 1)) n + if p 0 then 1 else 0) / 2 = bits (fun j => p (j + 1)) n := by cases p 0 <;> simp <;> omega
    rw [e1, bits_get _ n j]
    simp
theorem bits_congr {p q : Nat → Bool} : ∀ {n : Nat}, (∀ j < n, p j = q j) → bits p n = bits q n
  | 0, _ => rfl
  | n + 1, h => by rw [bits, bits, bits_congr fun j hj => h j (by omega), h n (by omega)]
theorem bits_inj {p q : Nat → Bool} {n : Nat} (h : bits p n = bits q n) : ∀ j < n, p j = q j := fun j hj => by
  have h1 := bits_get p n j
  have h2 := bits_get q n j
  rw [h, h2] at h1
  cases hp : p j <;> cases hq : q j <;> simp [hj, hp, hq] at h1 ⊢
theorem bits_none (n : Nat) : bits (fun _ => false) n = 0 := by
  induction n with
  | zero => rfl
  | succ n ih => simp [bits, ih]
theorem bits_single {k n : Nat} (h : k < n) : bits (fun j => j == k) n = 2 ^ k := by
  induction n with
  | zero => omega
  | succ n ih =>
    rw [bits]
    by_cases e : n = k
    · subst e
      have : bits (fun j => j == n) n = bits (fun _ => false) n := bits_congr fun j hj => by simp; omega
      rw [this, bits_none]; simp
    · rw [ih (by omega)]; simp [e]

abbrev Rel := Nat → Nat → Bool
/-- one part more -/
def stepR (size : Nat) (R w : Rel) : Rel := fun s j => (List.range (size - s)).any fun i => R s (s + i) && w (s + i) j
def rowR (size : Nat) (ways : Int → Rel) (ps : List Int) : Rel := ps.foldl (fun R p => stepR size R (ways p)) (fun s j => j == s)
def waysR (E G : Int → Rel) (p : Int) : Rel := if p < 256 then E p else G p
def setR (G : Int → Rel) (k : Int) (s : Nat) (r : Nat → Bool) : Int → Rel := fun k' s' => if k' = k ∧ s' = s then r else G k' s'
def addS (size : Nat) (k : Int) (R : Rel) (Gg : (Int → Rel) × Int) (s : Nat) : (Int → Rel) × Int :=
  if bits (fun j => Gg.1 k s j || R s j) size ≠ bits (Gg.1 k s) size then (setR Gg.1 k s (fun j => Gg.1 k s j || R s j), 1) else Gg
def addC (size : Nat) (E : Int → Rel) (Gg : (Int → Rel) × Int) (row : Int × List Int) : (Int → Rel) × Int :=
  (List.range size).foldl (addS size row.1 (rowR size (waysR E Gg.1) row.2)) Gg
def turnC (size : Nat) (E : Int → Rel) (rows : List (Int × List Int)) (G : Int → Rel) : (Int → Rel) × Int := rows.foldl (addC size E) (G, 0)
def iterC (size : Nat) (E : Int → Rel) (rows : List (Int × List Int)) : Nat → (Int → Rel) → Int → Rel
  | 0, G => G
  | n + 1, G => if (turnC size E rows G).2 = 0 then (turnC size E rows G).1 else iterC size E rows n (turnC size E rows G).1

/-- the numbers' rules -/
def parseR (a : List (List Int) × List Int) (n : Int) : List (List Int) × List Int := if n = 0 then (a.1 ++ [a.2], []) else (a.1, a.2 ++ [n])
def rowsOf (told : List Int) : List (List Int) × List Int := told.foldl parseR ([], [])
theorem rowsOf_snoc (l : List Int) (n : Int) : rowsOf (l ++ [n]) = parseR (rowsOf l) n := by unfold rowsOf; rw [List.foldl_append]; rfl
def pairR (r : List Int) : Int × List Int := (r.headD 0, r.drop 1)

/-- the operators -/
def tokD : List (PyData × PyData) := [(.str "!", .int 54), (.str "!=", .int 28), (.str "%", .int 24), (.str "%=", .int 40), (.str "&", .int 19), (.str "&=", .int 41), (.str "(", .int 7), (.str ")", .int 8), (.str "*", .int 16), (.str "**", .int 35), (.str "**=", .int 46), (.str "*=", .int 38), (.str "+", .int 14), (.str "+=", .int 36), (.str ",", .int 12), (.str "-", .int 15), (.str "-=", .int 37), (.str "->", .int 51), (.str ".", .int 23), (.str "...", .int 52), (.str "/", .int 17), (.str "//", .int 47), (.str "//=", .int 48), (.str "/=", .int 39), (.str ":", .int 11), (.str ":=", .int 53), (.str ";", .int 13), (.str "<", .int 20), (.str "<<", .int 33), (.str "<<=", .int 44), (.str "<=", .int 29), (.str "=", .int 22), (.str "==", .int 27), (.str ">", .int 21), (.str ">=", .int 30), (.str ">>", .int 34), (.str ">>=", .int 45), (.str "@", .int 49), (.str "@=", .int 50), (.str "[", .int 9), (.str "]", .int 10), (.str "^", .int 32), (.str "^=", .int 43), (.str "{", .int 25), (.str "|", .int 18), (.str "|=", .int 42), (.str "}", .int 26), (.str "~", .int 31)]
def tok (x : Str) : Int := match PySem.Spec.lookup (.str x) tokD with
  | some (.int i) => i
  | _ => 0
def edgeE (text : Str) : Int → Rel := fun k s e => decide (s < e) && (tok (subS text s e) == k)

structure TokOk (W : Wd) : Prop where
  tab : ∃ a, W.mg "EXACT_TOKEN_TYPES" = some (.ref a) ∧ StrTab W.prog W.w W.s₁.heap a tokD

theorem tokD_ok : (tokD.all fun p => match p.2 with | .int i => decide (0 ≤ i ∧ i ≤ 54) | _ => false) = true := by decide +kernel
theorem tokD_rng (p) (hp : p ∈ tokD) : ∃ i, p.2 = PyData.int i ∧ 0 ≤ i ∧ i ≤ 54 := by
  have := List.all_eq_true.mp tokD_ok p hp
  split at this
  · exact ⟨_, by assumption, of_decide_eq_true this⟩
  · cases this
theorem tok_look (D : List (PyData × PyData)) (hp : ∀ p ∈ D, ∃ y, p.2 = PyData.int y ∧ 0 ≤ y ∧ y ≤ 54) : ∀ x d, PySem.Spec.lookup x D = some d → ∃ y, d = .int y ∧ 0 ≤ y ∧ y ≤ 54 := lookP (P := fun d => ∃ y, d = .int y ∧ 0 ≤ y ∧ y ≤ 54) D hp

theorem get_tok {W : Wd} (T : TokOk W) (k : Nat) (μ : MM) (x : Str) : GetOk W k μ "EXACT_TOKEN_TYPES" [.str x, .int 0] (.int (tok x)) := by
  obtain ⟨a, hm, hT⟩ := T.tab
  obtain ⟨lo, kvs, ⟨o, es, ep, ho, hx, hd, _⟩, hf⟩ := id hT
  refine ⟨a, o, hm, ho, hx.1, hx.2.1, fun A env Δ F s E vs hA S r => ?_⟩
  rw [RelVs] at r; obtain ⟨v, r', rfl, h1, h2⟩ := r
  rw [RelVs] at h2; obtain ⟨v', r2, rfl, h3, h4⟩ := h2
  rw [RelVs] at h4; subst h4
  rw [RelV] at h1; obtain ⟨t, rfl⟩ := h1
  rw [RelV] at h3; obtain ⟨t', rfl⟩ := h3
  refine call_get2_strTab (hT.keep fun b ob e => S.sub _ _ (S.base b ob e)) (PyProof.V.Flat.int 0 t') fun v hv => ?_
  have key : ∃ t, v = .int (tok x) t := by
    unfold tok
    cases e : PySem.Spec.lookup (.str x) tokD with
    | none => rw [e] at hv; simp only [Option.getD_none] at hv; cases hv s.heap; exact ⟨_, rfl⟩
    | some d =>
      obtain ⟨y, rfl, _⟩ := tok_look _ tokD_rng _ d e
      rw [e] at hv; simp only [Option.getD_some] at hv; cases hv s.heap; exact ⟨_, rfl⟩
  obtain ⟨t'', rfl⟩ := key
  exact ⟨F, Ext.ofKeeps S.sub (Keeps.tok s _), by rw [RelV]; exact ⟨_, rfl⟩⟩
end Mine

open PySem PySem.W PyProof.Rows
set_option Elab.async false
set_option linter.unusedVariables false
set_option linter.unusedSimpArgs false
set_option maxRecDepth 100000
namespace Mine
abbrev fClos : Stmt := sAt top 62

noncomputable def Φc (μ : MM) : Str → List D → Option D := fun f ds => if f = "ISTERMINAL" then (match ds with
    | [.int i] => some (.bool (decide (i < 256)))
    | _ => none) else if f = "ISNONTERMINAL" then (match ds with
    | [.int i] => some (.bool (decide (256 ≤ i)))
    | _ => none) else if f = "ISEOF" then (match ds with
    | [.int i] => some (.bool (i == 0))
    | _ => none) else Φb μ f ds
def Ψt (t : Str) (ds : List D) : Option D := if t = "EXACT_TOKEN_TYPES" then (match ds with
  | [.str x, .int 0] => some (.int (tok x))
  | _ => none) else none

theorem tabC {W : Wd} (T : Tp W) (k : Nat) (μ : MM) : TabOk W (k + 1) μ (Φc μ) (fun _ _ => none) := by
  have h1 := (tabB T.b (k + 1) μ).fn' (f := "ISEOF") (g := fun ds => match ds with
    | [.int i] => some (.bool (i == 0))
    | _ => none) (fun ds d h => by
      split at h
      · cases h; exact ok_ISEOF T k μ _
      · cases h)
  have h2 := h1.fn' (f := "ISNONTERMINAL") (g := fun ds => match ds with
    | [.int i] => some (.bool (decide (256 ≤ i)))
    | _ => none) (fun ds d h => by
      split at h
      · cases h; exact ok_ISNONTERMINAL T k μ _
      · cases h)
  exact h2.fn' (f := "ISTERMINAL") (g := fun ds => match ds with
    | [.int i] => some (.bool (decide (i < 256)))
    | _ => none) (fun ds d h => by
      split at h
      · cases h; exact ok_ISTERMINAL T k μ _
      · cases h)
theorem tabCT {W : Wd} (T : Tp W) (TT : TokOk W) (k : Nat) (μ : MM) : TabOk W (k + 1) μ (Φc μ) Ψt := by
  have := (tabC T k μ).get' (t := "EXACT_TOKEN_TYPES") (g := fun ds => match ds with
    | [.str x, .int 0] => some (.int (tok x))
    | _ => none) (fun ds d h => by
      split at h
      · cases h; exact get_tok TT (k + 1) μ _
      · cases h)
  exact this
theorem Φc_T {μ : MM} {i : Int} : Φc μ "ISTERMINAL" [.int i] = some (.bool (decide (i < 256))) := by simp [Φc]
theorem Φc_N {μ : MM} {i : Int} : Φc μ "ISNONTERMINAL" [.int i] = some (.bool (decide (256 ≤ i))) := by simp [Φc, str_eq]
theorem Φc_E {μ : MM} {i : Int} : Φc μ "ISEOF" [.int i] = some (.bool (i == 0)) := by simp [Φc, str_eq]
theorem Φc_b {μ : MM} {f : Str} {ds : List D} (h : f ≠ "ISTERMINAL" ∧ f ≠ "ISNONTERMINAL" ∧ f ≠ "ISEOF") : Φc μ f ds = Φb μ f ds := by simp [Φc, h.1, h.2.1, h.2.2]

def intsD (l : List Int) : D := .list (l.map .int)
def masksL (size : Nat) (R : Rel) : List D := (List.range size).map fun s => .int (bits (R s) size)
theorem masksL_congr {size : Nat} {R R' : Rel} (h : ∀ s < size, ∀ j < size, R s j = R' s j) : masksL size R = masksL size R' :=
  List.map_congr_left fun s hs => by rw [bits_congr (h s (List.mem_range.mp hs))]
theorem masksL_get {size : Nat} {R : Rel} {s : Nat} (h : s < size) : (masksL size R)[s]? = some (.int (bits (R s) size)) := by simp [masksL, h]
theorem masksL_len (size : Nat) (R : Rel) : (masksL size R).length = size := by simp [masksL]
theorem masksL_set {size : Nat} {R : Rel} {s : Nat} (h : s < size) (r : Nat → Bool) : (masksL size R).set s (.int (bits r size)) = masksL size (fun s' => if s' = s then r else R s') := by
  apply List.ext_getElem?
  intro i
  rw [List.getElem?_set]
  by_cases e : s = i
  · subst e; simp [masksL, h]
  · by_cases hi : i < size
    · simp [masksL, e, hi, Ne.symm e]
    · simp [masksL, e, hi]
theorem masksL_zero (size : Nat) : repL size [.int 0] = masksL size (fun _ _ => false) := by
  unfold repL masksL
  apply List.ext_getElem?
  intro i
  have e : (List.replicate size [D.int 0]).flatten = List.replicate size (D.int 0) := by
    induction size with
    | zero => rfl
    | succ n ih => simp [List.replicate_succ, ih]
  rw [e]
  simp [bits_none, List.getElem?_replicate]
  by_cases hi : i < size
  · simp [hi]
  · simp [hi]

/-- what the numbers have given so far: the rules, and for each number its list -/
structure CB (size : Nat) (text : Str) (r0 e0 f0 cur : Addr) (adr : Int → Addr) (seen : List Int) (rows : List (List Int)) (row : List Int) (ne nf : Nat) (H : Int → Rel) (Δ : Ctx) (μ : MM) : Prop where
  lrules : Δ.lookup ("rules" : Str) = some (.ref r0)
  ledges : Δ.lookup ("edges" : Str) = some (.ref e0)
  lfound : Δ.lookup ("found" : Str) = some (.ref f0)
  lsize : Δ.lookup ("size" : Str) = some (.int size)
  ltext : Δ.lookup ("text" : Str) = some (.str text)
  mr0 : μ r0 = some (.lst (rows.map intsD ++ [.ref cur]))
  mcur : μ cur = some (.lst (row.map .int))
  me0 : μ e0 = some (.dct (fun k => if k ∈ seen ∧ k < 256 then some (.ref (adr k)) else none) ne)
  mf0 : μ f0 = some (.dct (fun k => if k ∈ seen ∧ 256 ≤ k then some (.ref (adr k)) else none) nf)
  ads : ∀ k ∈ seen, μ (adr k) = some (.lst (masksL size (H k)))
  inj : ∀ k ∈ seen, ∀ k' ∈ seen, adr k = adr k' → k = k'
  ner : ∀ k ∈ seen, adr k ≠ r0 ∧ adr k ≠ cur
  curr : cur ≠ r0
  hef : e0 ≠ f0

section
variable {size : Nat} {text : Str} {r0 e0 f0 cur : Addr} {adr : Int → Addr} {seen : List Int} {rows : List (List Int)} {row : List Int} {ne nf : Nat} {H : Int → Rel} {Δ : Ctx} {μ : MM}
abbrev nC : List Str := ["rules", "edges", "found", "size", "text"]
theorem CB.cons (h : CB size text r0 e0 f0 cur adr seen rows row ne nf H Δ μ) {x : Str} {d : D} (h1 : offN nC x = true) : CB size text r0 e0 f0 cur adr seen rows row ne nf H ((x, d) :: Δ) μ :=
  { h with lrules := look_off h1 (by decide +kernel) h.lrules, ledges := look_off h1 (by decide +kernel) h.ledges, lfound := look_off h1 (by decide +kernel) h.lfound, lsize := look_off h1 (by decide +kernel) h.lsize, ltext := look_off h1 (by decide +kernel) h.ltext }
/-- an address that the state does not speak of -/
def CB.Off (_ : CB size text r0 e0 f0 cur adr seen rows row ne nf H Δ μ) (a : Addr) : Prop := a ≠ r0 ∧ a ≠ cur ∧ a ≠ e0 ∧ a ≠ f0 ∧ ∀ k ∈ seen, a ≠ adr k
theorem CB.off (h : CB size text r0 e0 f0 cur adr seen rows row ne nf H Δ μ) {a : Addr} (ha : μ a = none) : h.Off a :=
  ⟨fun e => (by rw [e, h.mr0] at ha; cases ha), fun e => (by rw [e, h.mcur] at ha; cases ha), fun e => (by rw [e, h.me0] at ha; cases ha), fun e => (by rw [e, h.mf0] at ha; cases ha), fun k hk e => (by rw [e, h.ads k hk] at ha; cases ha)⟩
theorem CB.of (h : CB size text r0 e0 f0 cur adr seen rows row ne nf H Δ μ) {μ' : MM} {a : Addr} (ha : h.Off a) (hμ : ∀ b, b ≠ a → μ' b = μ b) : CB size text r0 e0 f0 cur adr seen rows row ne nf H Δ μ' :=
  { h with mr0 := (by rw [hμ _ (Ne.symm ha.1)]; exact h.mr0), mcur := (by rw [hμ _ (Ne.symm ha.2.1)]; exact h.mcur), me0 := (by rw [hμ _ (Ne.symm ha.2.2.1)]; exact h.me0), mf0 := (by rw [hμ _ (Ne.symm ha.2.2.2.1)]; exact h.mf0), ads := fun k hk => (by rw [hμ _ (Ne.symm (ha.2.2.2.2 k hk))]; exact h.ads k hk) }
theorem CB.set (h : CB size text r0 e0 f0 cur adr seen rows row ne nf H Δ μ) {a : Addr} {m : MObj} (ha : h.Off a) : CB size text r0 e0 f0 cur adr seen rows row ne nf H Δ (μ.set a m) := h.of ha fun b hb => MM.set_ne hb
/-- one place of one list turns -/
theorem CB.turn (h : CB size text r0 e0 f0 cur adr seen rows row ne nf H Δ μ) {k : Int} (hk : k ∈ seen) {s : Nat} (hs : s < size) (r : Nat → Bool) :
    CB size text r0 e0 f0 cur adr seen rows row ne nf (setR H k s r) Δ (μ.set (adr k) (.lst ((masksL size (H k)).set s (.int (bits r size))))) := by
  have hner := h.ner k hk
  have he : adr k ≠ e0 := fun e => by have := h.ads k hk; rw [e, h.me0] at this; cases this
  have hf : adr k ≠ f0 := fun e => by have := h.ads k hk; rw [e, h.mf0] at this; cases this
  refine { h with mr0 := (by rw [MM.set_ne (Ne.symm hner.1)]; exact h.mr0), mcur := (by rw [MM.set_ne (Ne.symm hner.2)]; exact h.mcur), me0 := (by rw [MM.set_ne (Ne.symm he)]; exact h.me0), mf0 := (by rw [MM.set_ne (Ne.symm hf)]; exact h.mf0), ads := fun k' hk' => ?_ }
  by_cases e : k' = k
  · subst e
    rw [MM.set_self, masksL_set hs]
    congr 2
    refine masksL_congr fun s' _ j _ => ?_
    simp [setR]
  · rw [MM.set_ne (fun e' => e (h.inj k' hk' k hk e')), h.ads k' hk']
    congr 2
    refine masksL_congr fun s' _ j _ => ?_
    simp [setR, e]
theorem CB.congr (h : CB size text r0 e0 f0 cur adr seen rows row ne nf H Δ μ) {H' : Int → Rel} (he : ∀ k ∈ seen, ∀ s < size, ∀ j < size, H k s j = H' k s j) : CB size text r0 e0 f0 cur adr seen rows row ne nf H' Δ μ :=
  { h with ads := fun k hk => (by rw [h.ads k hk, masksL_congr (he k hk)]) }
end

theorem idxL_last {α : Type} {xs : List α} {x : α} : idxL (xs ++ [x]) (-1) = some x := by
  have h2 : ¬ (0 : Int) ≤ -1 := by omega
  have h3 : -((xs ++ [x]).length : Int) ≤ -1 := by simp; omega
  unfold idxL
  rw [if_neg h2, if_pos h3]
  have : ((-1 : Int) + ((xs ++ [x]).length : Int)).toNat = xs.length := by simp; omega
  rw [this]; simp
theorem idxD_last {μ : MM} {a : Addr} {xs : List D} {x : D} (hm : μ a = some (.lst (xs ++ [x]))) : idxD μ (.ref a) (-1) = some x := by
  unfold idxD; rw [if_pos ⟨by omega, by omega⟩]; simp only [asList_ref hm]; exact idxL_last
end Mine

open PySem PySem.W PyProof.Rows
set_option Elab.async false
set_option linter.unusedVariables false
set_option linter.unusedSimpArgs false
set_option maxRecDepth 100000
namespace Mine

def updA (adr : Int → Addr) (n : Int) (a : Addr) : Int → Addr := fun k => if k = n then a else adr k

section
variable {size : Nat} {text : Str} {r0 e0 f0 cur : Addr} {adr : Int → Addr} {seen : List Int} {rows : List (List Int)} {row : List Int} {ne nf : Nat} {H : Int → Rel} {Δ : Ctx} {μ : MM}

theorem CB.grow (h : CB size text r0 e0 f0 cur adr seen rows row ne nf H Δ μ) (n : Int) : CB size text r0 e0 f0 cur adr seen rows (row ++ [n]) ne nf H Δ (μ.set cur (.lst (row.map .int ++ [.int n]))) := by
  have he : e0 ≠ cur := fun e => by have := h.me0; rw [e, h.mcur] at this; cases this
  have hf : f0 ≠ cur := fun e => by have := h.mf0; rw [e, h.mcur] at this; cases this
  exact { h with mr0 := (by rw [MM.set_ne (Ne.symm h.curr)]; exact h.mr0), mcur := (by rw [MM.set_self]; simp), me0 := (by rw [MM.set_ne he]; exact h.me0), mf0 := (by rw [MM.set_ne hf]; exact h.mf0), ads := fun k hk => (by rw [MM.set_ne (h.ner k hk).2]; exact h.ads k hk) }

theorem CB.putE (h : CB size text r0 e0 f0 cur adr seen rows row ne nf H Δ μ) {n : Int} (hn : n < 256) {a : Addr} (ha : h.Off a) :
    CB size text r0 e0 f0 cur (updA adr n a) (seen ++ [n]) rows row (ne + 1) nf H Δ ((μ.set a (.lst (masksL size (H n)))).set e0 (.dct (fun j => if j = n then some (.ref a) else (if j ∈ seen ∧ j < 256 then some (.ref (adr j)) else none)) (ne + 1))) := by
  obtain ⟨a1, a2, a3, a4, a5⟩ := ha
  have er : e0 ≠ r0 := fun e => by have := h.me0; rw [e, h.mr0] at this; cases this
  have ec : e0 ≠ cur := fun e => by have := h.me0; rw [e, h.mcur] at this; cases this
  have ea : ∀ k ∈ seen, adr k ≠ e0 := fun k hk e => by have := h.ads k hk; rw [e, h.me0] at this; cases this
  have ef : ∀ k ∈ seen, adr k ≠ f0 := fun k hk e => by have := h.ads k hk; rw [e, h.mf0] at this; cases this
  have hfe : f0 ≠ e0 := Ne.symm h.hef
  refine { h with mr0 := ?_, mcur := ?_, me0 := ?_, mf0 := ?_, ads := fun k hk => ?_, inj := fun k hk k' hk' e => ?_, ner := fun k hk => ?_ }
  · rw [MM.set_ne (Ne.symm er), MM.set_ne (Ne.symm a1)]; exact h.mr0
  · rw [MM.set_ne (Ne.symm ec), MM.set_ne (Ne.symm a2)]; exact h.mcur
  · rw [MM.set_self]
    congr 2
    funext j
    by_cases hj : j = n
    · subst hj; simp [updA, hn]
    · simp [updA, hj]
  · rw [MM.set_ne hfe, MM.set_ne (Ne.symm a4), h.mf0]
    congr 2
    funext j
    by_cases hj : j = n
    · subst hj
      have : ¬ 256 ≤ j := by omega
      simp [this]
    · simp [updA, hj]
  · by_cases hkn : k = n
    · subst hkn
      simp only [updA, if_true]
      rw [MM.set_ne a3, MM.set_self]
    · have hk' : k ∈ seen := by simpa [hkn] using hk
      simp only [updA, if_neg hkn]
      rw [MM.set_ne (ea k hk'), MM.set_ne (Ne.symm (a5 k hk'))]; exact h.ads k hk'
  · by_cases hkn : k = n <;> by_cases hkn' : k' = n
    · rw [hkn, hkn']
    · have hk'' : k' ∈ seen := by simpa [hkn'] using hk'
      simp only [updA, if_pos hkn, if_neg hkn'] at e
      exact absurd e (a5 k' hk'')
    · have hk'' : k ∈ seen := by simpa [hkn] using hk
      simp only [updA, if_neg hkn, if_pos hkn'] at e
      exact absurd e.symm (a5 k hk'')
    · simp only [updA, if_neg hkn, if_neg hkn'] at e
      exact h.inj k (by simpa [hkn] using hk) k' (by simpa [hkn'] using hk') e
  · by_cases hkn : k = n
    · simp only [updA, if_pos hkn]; exact ⟨a1, a2⟩
    · simp only [updA, if_neg hkn]; exact h.ner k (by simpa [hkn] using hk)
theorem CB.putF (h : CB size text r0 e0 f0 cur adr seen rows row ne nf H Δ μ) {n : Int} (hn : 256 ≤ n) {a : Addr} (ha : h.Off a) :
    CB size text r0 e0 f0 cur (updA adr n a) (seen ++ [n]) rows row ne (nf + 1) H Δ ((μ.set a (.lst (masksL size (H n)))).set f0 (.dct (fun j => if j = n then some (.ref a) else (if j ∈ seen ∧ 256 ≤ j then some (.ref (adr j)) else none)) (nf + 1))) := by
  obtain ⟨a1, a2, a3, a4, a5⟩ := ha
  have er : f0 ≠ r0 := fun e => by have := h.mf0; rw [e, h.mr0] at this; cases this
  have ec : f0 ≠ cur := fun e => by have := h.mf0; rw [e, h.mcur] at this; cases this
  have ea : ∀ k ∈ seen, adr k ≠ e0 := fun k hk e => by have := h.ads k hk; rw [e, h.me0] at this; cases this
  have ef : ∀ k ∈ seen, adr k ≠ f0 := fun k hk e => by have := h.ads k hk; rw [e, h.mf0] at this; cases this
  have hfe : f0 ≠ e0 := Ne.symm h.hef
  refine { h with mr0 := ?_, mcur := ?_, me0 := ?_, mf0 := ?_, ads := fun k hk => ?_, inj := fun k hk k' hk' e => ?_, ner := fun k hk => ?_ }
  · rw [MM.set_ne (Ne.symm er), MM.set_ne (Ne.symm a1)]; exact h.mr0
  · rw [MM.set_ne (Ne.symm ec), MM.set_ne (Ne.symm a2)]; exact h.mcur
  · rw [MM.set_ne h.hef, MM.set_ne (Ne.symm a3), h.me0]
    congr 2
    funext j
    by_cases hj : j = n
    · subst hj
      have : ¬ j < 256 := by omega
      simp [this]
    · simp [updA, hj]
  · rw [MM.set_self]
    congr 2
    funext j
    by_cases hj : j = n
    · subst hj; simp [updA, hn]
    · simp [updA, hj]
  · by_cases hkn : k = n
    · subst hkn
      simp only [updA, if_true]
      rw [MM.set_ne a4, MM.set_self]
    · have hk' : k ∈ seen := by simpa [hkn] using hk
      simp only [updA, if_neg hkn]
      rw [MM.set_ne (ef k hk'), MM.set_ne (Ne.symm (a5 k hk'))]; exact h.ads k hk'
  · by_cases hkn : k = n <;> by_cases hkn' : k' = n
    · rw [hkn, hkn']
    · have hk'' : k' ∈ seen := by simpa [hkn'] using hk'
      simp only [updA, if_pos hkn, if_neg hkn'] at e
      exact absurd e (a5 k' hk'')
    · have hk'' : k ∈ seen := by simpa [hkn] using hk
      simp only [updA, if_neg hkn, if_pos hkn'] at e
      exact absurd e.symm (a5 k hk'')
    · simp only [updA, if_neg hkn, if_neg hkn'] at e
      exact h.inj k (by simpa [hkn] using hk) k' (by simpa [hkn'] using hk') e
  · by_cases hkn : k = n
    · simp only [updA, if_pos hkn]; exact ⟨a1, a2⟩
    · simp only [updA, if_neg hkn]; exact h.ner k (by simpa [hkn] using hk)

theorem CB.nextRow (h : CB size text r0 e0 f0 cur adr seen rows row ne nf H Δ μ) {c : Addr} (hc : h.Off c) :
    CB size text r0 e0 f0 c adr seen (rows ++ [row]) [] ne nf H Δ (fun b => if b = cur then none else if b = r0 then some (.lst ((rows ++ [row]).map intsD ++ [.ref c])) else (μ.set c (.lst [])) b) := by
  obtain ⟨a1, a2, a3, a4, a5⟩ := hc
  have he : e0 ≠ cur := fun e => by have := h.me0; rw [e, h.mcur] at this; cases this
  have hf : f0 ≠ cur := fun e => by have := h.mf0; rw [e, h.mcur] at this; cases this
  have er : e0 ≠ r0 := fun e => by have := h.me0; rw [e, h.mr0] at this; cases this
  have fr : f0 ≠ r0 := fun e => by have := h.mf0; rw [e, h.mr0] at this; cases this
  refine { h with mr0 := ?_, mcur := ?_, me0 := ?_, mf0 := ?_, ads := fun k hk => ?_, ner := fun k hk => ⟨(h.ner k hk).1, Ne.symm (a5 k hk)⟩, curr := a1 }
  · simp [Ne.symm h.curr]
  · simp [a2, a1, MM.set_self]
  · simp [he, er, MM.set_ne (Ne.symm a3), h.me0]
  · simp [hf, fr, MM.set_ne (Ne.symm a4), h.mf0]
  · simp [(h.ner k hk).1, (h.ner k hk).2, MM.set_ne (Ne.symm (a5 k hk)), h.ads k hk]
end
end Mine

open PySem PySem.W PyProof.Rows
set_option Elab.async false
set_option linter.unusedVariables false
set_option linter.unusedSimpArgs false
set_option maxRecDepth 100000
namespace Mine

def keysOf (l : List Int) : List Int := l.filter (· ≠ 0)
def noH : Int → Rel := fun _ _ _ => false

theorem tok_lt (x : Str) : 0 ≤ tok x ∧ tok x ≤ 54 := by
  unfold tok
  cases e : PySem.Spec.lookup (.str x) tokD with
  | none => exact ⟨by decide, by decide⟩
  | some d => obtain ⟨y, rfl, h⟩ := tok_look _ tokD_rng _ d e; exact h
theorem strIdx_eq (lo hi : Option Int) (n : Nat) : Builtin.Str.strSliceIndices lo hi 1 n = sliceRange (sliceBounds lo hi none n).1 (sliceBounds lo hi none n).2.1 (sliceBounds lo hi none n).2.2 := by
  cases lo <;> cases hi <;> rfl
theorem txt_slice {x : Str} {i j : Nat} (hij : i ≤ j) (hj : j ≤ x.length) : Txt.slice x (some (i : Int)) (some (j : Int)) = subS x i j := by
  have hpick : (Builtin.Str.strSliceIndices (some (i : Int)) (some (j : Int)) 1 x.length).filterMap (x.cps[·]?) = (x.cps.toList.drop i).take (j - i) := by
    rw [strIdx_eq, sliceBounds_plain]
    simp only [sliceRange_one, Option.elim_some, clipAt_nat]
    rw [Nat.min_eq_left hj, Nat.min_eq_left (Nat.le_trans hij hj)]
    have := pick_run' x.cps.toList i j (by simpa [Str.length] using hj)
    simpa using this
  have hlen : (Builtin.Str.strSliceIndices (some (i : Int)) (some (j : Int)) 1 x.length).length = j - i := by
    rw [strIdx_eq, sliceBounds_plain]
    simp only [sliceRange_one, Option.elim_some, clipAt_nat]
    rw [Nat.min_eq_left hj, Nat.min_eq_left (Nat.le_trans hij hj)]; simp
  unfold Txt.slice
  split
  · rename_i h
    have : j - i = x.length := by
      simp at h
      rw [← hlen]; exact h
    have hjx : j = x.length := Nat.le_antisymm hj (this ▸ Nat.sub_le j i)
    have hi0 : i = 0 := (Nat.sub_sub_self hij).symm.trans (by rw [this, hjx, Nat.sub_self])
    subst hi0; subst hjx
    unfold subS
    have h3 : x.cps.toList.take x.length = x.cps.toList := List.take_of_length_le (by simp [Str.length])
    rw [List.drop_zero, Nat.sub_zero, h3]
  · unfold subS
    rw [← hpick]


/-- what stays the same behind the rules -/
structure CP where
  size : Nat
  text : Str
  r0 : Addr
  e0 : Addr
  f0 : Addr
  cur : Addr
  adr : Int → Addr
  seen : List Int
  told : List Int
  rs : List (Int × List Int)
  row0 : List Int
  ne : Nat
  nf : Nat
  hsz : size = text.length + 1
  ht : text.length ≤ 4
  hseen : ∀ q, q ∈ seen ↔ q ∈ told ∧ q ≠ 0
  hnn : ∀ n ∈ told, 0 ≤ n ∧ n < 1000000
  hrs : ∀ r ∈ rs, 256 ≤ r.1 ∧ r.1 ∈ told ∧ r.2.length ≤ 1000 ∧ ∀ p ∈ r.2, p ∈ told ∧ p ≠ 0
  hrl : rs.length ≤ 1000

def CE (c : CP) (H : Int → Rel) (Δ : Ctx) (μ : MM) : Prop := CB c.size c.text c.r0 c.e0 c.f0 c.cur c.adr c.seen (c.rs.map fun r => r.1 :: r.2) c.row0 c.ne c.nf H Δ μ
def CP.Off (c : CP) (a : Addr) : Prop := a ≠ c.r0 ∧ a ≠ c.cur ∧ a ≠ c.e0 ∧ a ≠ c.f0 ∧ ∀ k ∈ c.seen, a ≠ c.adr k
structure CG (c : CP) (H : Int → Rel) (g : Int) (Δ : Ctx) (μ : MM) : Prop where
  e : CE c H Δ μ
  grown : Δ.lookup ("grown" : Str) = some (.int g)
structure CX (c : CP) (H : Int → Rel) (g : Int) (r : Int × List Int) (Q : Rel) (Δ : Ctx) (μ : MM) : Prop where
  g : CG c H g Δ μ
  row : Δ.lookup ("row" : Str) = some (intsD (r.1 :: r.2))
  reach : Δ.lookup ("reach" : Str) = some (.list (masksL c.size Q))
structure CY (c : CP) (H : Int → Rel) (g : Int) (r : Int × List Int) (Q : Rel) (p : Int) (a : Addr) (V : Rel) (Δ : Ctx) (μ : MM) : Prop where
  x : CX c H g r Q Δ μ
  ways : Δ.lookup ("ways" : Str) = some (.ref (c.adr p))
  after : Δ.lookup ("after" : Str) = some (.ref a)
  off : c.Off a
  cell : μ a = some (.lst (masksL c.size V))
abbrev nCG : List Str := ["rules", "edges", "found", "size", "text", "grown"]
abbrev nCX : List Str := ["rules", "edges", "found", "size", "text", "grown", "row", "reach"]
abbrev nCY : List Str := ["rules", "edges", "found", "size", "text", "grown", "row", "reach", "ways", "after"]

section
variable {c : CP} {H : Int → Rel} {g : Int} {r : Int × List Int} {Q V : Rel} {p : Int} {a : Addr} {Δ : Ctx} {μ : MM} {x : Str} {d : D}
theorem CE.cons (h : CE c H Δ μ) (h1 : offN nC x = true) : CE c H ((x, d) :: Δ) μ := CB.cons h h1
theorem CG.cons (h : CG c H g Δ μ) (h1 : offN nCG x = true) : CG c H g ((x, d) :: Δ) μ := ⟨h.e.cons (offN_sub (by decide +kernel) h1), look_off h1 (by decide +kernel) h.grown⟩
theorem CX.cons (h : CX c H g r Q Δ μ) (h1 : offN nCX x = true) : CX c H g r Q ((x, d) :: Δ) μ := ⟨h.g.cons (offN_sub (by decide +kernel) h1), look_off h1 (by decide +kernel) h.row, look_off h1 (by decide +kernel) h.reach⟩
theorem CY.cons (h : CY c H g r Q p a V Δ μ) (h1 : offN nCY x = true) : CY c H g r Q p a V ((x, d) :: Δ) μ := ⟨h.x.cons (offN_sub (by decide +kernel) h1), look_off h1 (by decide +kernel) h.ways, look_off h1 (by decide +kernel) h.after, h.off, h.cell⟩
theorem CE.off (h : CE c H Δ μ) (ha : μ a = none) : c.Off a := CB.off h ha
theorem CE.of (h : CE c H Δ μ) {μ' : MM} (ha : c.Off a) (hμ : ∀ b, b ≠ a → μ' b = μ b) : CE c H Δ μ' := CB.of h ha hμ
theorem CX.of (h : CX c H g r Q Δ μ) {μ' : MM} (ha : c.Off a) (hμ : ∀ b, b ≠ a → μ' b = μ b) : CX c H g r Q Δ μ' := ⟨⟨h.g.e.of ha hμ, h.g.grown⟩, h.row, h.reach⟩
theorem CX.set (h : CX c H g r Q Δ μ) {m : MObj} (ha : c.Off a) : CX c H g r Q Δ (μ.set a m) := h.of ha fun b hb => MM.set_ne hb
theorem CE.congr (h : CE c H Δ μ) {H' : Int → Rel} (he : ∀ k ∈ c.seen, ∀ s < c.size, ∀ j < c.size, H k s j = H' k s j) : CE c H' Δ μ := CB.congr h he
theorem CE.turn (h : CE c H Δ μ) {k : Int} (hk : k ∈ c.seen) {s : Nat} (hs : s < c.size) (r : Nat → Bool) : CE c (setR H k s r) Δ (μ.set (c.adr k) (.lst ((masksL c.size (H k)).set s (.int (bits r c.size))))) := CB.turn h hk hs r
theorem CE.edge (h : CE c H Δ μ) {k : Int} (hk : k ∈ c.seen) (hl : 0 ≤ k) (h256 : k < 256) : idxD μ (.ref c.e0) k = some (.ref (c.adr k)) := idxD_dct h.me0 (if_pos ⟨hk, h256⟩) (Int.le_trans (by decide) hl) (Int.lt_trans h256 (by decide))
theorem CE.find (h : CE c H Δ μ) {k : Int} (hk : k ∈ c.seen) (h256 : 256 ≤ k) (hl : k < 1000000) : idxD μ (.ref c.f0) k = some (.ref (c.adr k)) := idxD_dct h.mf0 (if_pos ⟨hk, h256⟩) (Int.le_trans (by decide) h256) (Int.lt_trans hl (by decide))
theorem CY.put (h : CY c H g r Q p a V Δ μ) {W : Rel} {ds : List D} (he : ds = masksL c.size W) : CY c H g r Q p a W Δ (μ.set a (.lst ds)) := ⟨h.x.set h.off, h.ways, h.after, h.off, by rw [MM.set_self, he]⟩
theorem CY.same (h : CY c H g r Q p a V Δ μ) {W : Rel} (he : ∀ s < c.size, ∀ j < c.size, V s j = W s j) : CY c H g r Q p a W Δ μ := ⟨h.x, h.ways, h.after, h.off, by rw [h.cell, masksL_congr he]⟩
theorem mask_idx {size : Nat} {s : Nat} (hs : s < size) (h : size ≤ 1000) : idxD μ (.list (masksL size Q)) (s : Int) = some (.int (bits (Q s) size)) := idxD_list (masksL_get hs) (lt63 (Nat.le_trans (Nat.le_of_lt hs) (Nat.le_trans h (by decide))))
theorem bit_test {b : Int} {q : Nat} : binD μ .RShift (.int b) (.int (q : Nat)) = some (.int (b / 2 ^ q)) ∧ binD μ .BitAnd (.int (b / 2 ^ q)) (.int 1) = some (.int (b / 2 ^ q % 2)) := by
  refine ⟨?_, ?_⟩
  · rw [binD_int]; simp only [aAdd, aSub, aMul, aDiv, aMod, aPow, aShl, aShr, aAnd, aOr, aXor]; rw [if_pos (by omega), Int.toNat_natCast]; rfl
  · rw [binD_int]; simp only [aAdd, aSub, aMul, aDiv, aMod, aPow, aShl, aShr, aAnd, aOr, aXor]; rw [bitAnd_m1]; rfl
end

-- the edges, place by place
def EU (text : Str) (s m : Nat) : Int → Rel := fun k s' j => (decide (s' < s) || (decide (s' = s) && decide (j < m))) && edgeE text k s' j
theorem EU_start (text : Str) (s : Nat) (k : Int) (s' j : Nat) : EU text s 0 k s' j = EU text s (s + 1) k s' j := by
  unfold EU edgeE
  by_cases h2 : s' = s
  · subst h2
    by_cases h3 : j < s' + 1
    · have : ¬ s' < j := by omega
      simp [this]
    · simp [h3]
  · simp [h2]
theorem EU_next (text : Str) {s size : Nat} (k : Int) (s' : Nat) {j : Nat} (hj : j < size) : EU text s size k s' j = EU text (s + 1) 0 k s' j := by
  unfold EU
  by_cases h1 : s' < s
  · have : s' < s + 1 := Nat.lt_succ_of_lt h1
    simp [h1, this]
  · by_cases h2 : s' = s
    · subst h2; simp [hj]
    · have : ¬ s' < s + 1 := by omega
      simp [h1, h2, this]
theorem lt_succ_ne {j e : Nat} (h : j ≠ e) : decide (j < e + 1) = decide (j < e) := decide_eq_decide.mpr (by omega)
theorem EU_set (text : Str) {s e : Nat} (hse : s < e) (k : Int) (s' j : Nat) : setR (EU text s e) (tok (subS text s e)) s (fun j => EU text s e (tok (subS text s e)) s j || j == e) k s' j = EU text s (e + 1) k s' j := by
  unfold setR
  by_cases h1 : k = tok (subS text s e) ∧ s' = s
  · obtain ⟨rfl, rfl⟩ := h1
    unfold EU edgeE
    by_cases h2 : j = e
    · subst h2; simp [hse]
    · simp [lt_succ_ne h2, h2]
  · rw [if_neg h1]
    unfold EU edgeE
    by_cases h2 : s' = s
    · subst h2
      by_cases h4 : j = e
      · subst h4
        have : ¬ tok (subS text s' j) = k := fun h => h1 ⟨h.symm, rfl⟩
        simp [this]
      · simp [lt_succ_ne h4]
    · simp [h2]
theorem EU_skip (text : Str) {s e : Nat} {k : Int} (hk : tok (subS text s e) ≠ k) (s' j : Nat) : EU text s e k s' j = EU text s (e + 1) k s' j := by
  unfold EU edgeE
  by_cases h2 : s' = s
  · subst h2
    by_cases h4 : j = e
    · subst h4; simp [hk]
    · simp [lt_succ_ne h4]
  · simp [h2]
theorem EU_all (text : Str) {size : Nat} {k : Int} (hk : 0 ≤ k) {s' : Nat} (hs : s' < size) (j : Nat) : EU text size 0 k s' j = waysR (edgeE text) noH k s' j := by
  have hlt := tok_lt (subS text s' j)
  unfold EU waysR edgeE noH
  by_cases h256 : k < 256
  · simp [hs, h256]
  · have : tok (subS text s' j) ≠ k := by omega
    simp [h256, this]

-- one part more, place by place
def setV (V : Rel) (s : Nat) (v : Nat → Bool) : Rel := fun s' => if s' = s then v else V s'
def accQ (size : Nat) (Q w : Rel) (s q : Nat) : Rel := fun s' j' => if s' < s then stepR size Q w s' j' else if s' = s then (List.range (q - s)).any fun i => Q s (s + i) && w (s + i) j' else false
theorem accQ_zero (size : Nat) (Q w : Rel) (s' j' : Nat) : accQ size Q w 0 0 s' j' = false := by simp [accQ]
theorem accQ_step (size : Nat) (Q w : Rel) {s q : Nat} (h : s ≤ q) (s' j' : Nat) : setV (accQ size Q w s q) s (fun j => accQ size Q w s q s j || (Q s q && w q j)) s' j' = accQ size Q w s (q + 1) s' j' := by
  unfold setV accQ
  by_cases h1 : s' = s
  · subst h1
    have e1 : q + 1 - s' = (q - s') + 1 := Nat.succ_sub h
    have e2 : s' + (q - s') = q := Nat.add_sub_of_le h
    simp only [Nat.lt_irrefl, if_false, if_true, e1, List.range_succ, List.any_append, List.any_cons, List.any_nil, Bool.or_false, e2]
  · simp only [h1, if_false]
theorem accQ_next (size : Nat) (Q w : Rel) {s : Nat} (s' j' : Nat) : accQ size Q w s size s' j' = accQ size Q w (s + 1) (s + 1) s' j' := by
  unfold accQ
  by_cases h1 : s' < s
  · have : s' < s + 1 := Nat.lt_succ_of_lt h1
    simp only [h1, this, if_true]
  · by_cases h2 : s' = s
    · subst h2
      simp only [Nat.lt_irrefl, if_false, if_true, Nat.lt_succ_self, stepR]
    · have h3 : ¬ s' < s + 1 := by omega
      by_cases h4 : s' = s + 1
      · subst h4; simp; intro h; omega
      · simp [h1, h2, h3, h4]
theorem accQ_end (size : Nat) (Q w : Rel) {s' : Nat} (h : s' < size) (j' : Nat) : accQ size Q w size size s' j' = stepR size Q w s' j' := by unfold accQ; rw [if_pos h]

abbrev bNum : List Stmt := forB (sAt (dBody fClos) 4)
abbrev bEdge : List Stmt := forB (sAt (dBody fClos) 5)
abbrev bEnd : List Stmt := forB (sAt bEdge 0)
abbrev bTurnC : List Stmt := forB (sAt (dBody fClos) 6)
abbrev bRowC : List Stmt := forB (sAt bTurnC 1)
abbrev bPartC : List Stmt := forB (sAt bRowC 1)
abbrev bStart : List Stmt := forB (sAt bPartC 2)
abbrev bPlace : List Stmt := forB (sAt bStart 0)
abbrev bAdd : List Stmt := forB (sAt bRowC 2)

section
variable {F : Fr Φc (fun _ => Ψt) (dScope fClos)} {c : CP} {H : Int → Rel} {g : Int} {r : Int × List Int} {Q V : Rel} {p : Int} {a : Addr} {Δ : Ctx} {μ : MM} {K : Out → Ctx → MM → Prop}

theorem CP.small (c : CP) : c.size ≤ 5 := c.hsz ▸ Nat.succ_le_succ c.ht
theorem CP.fits (c : CP) : c.size ≤ 1000 := Nat.le_trans c.small (by decide)
theorem CP.mil (c : CP) {s : Nat} (hs : s ≤ c.size) : s ≤ 1000000 := Nat.le_trans hs (Nat.le_trans c.small (by decide))
theorem CP.txt (c : CP) {s : Nat} (hs : s < c.size) : s ≤ c.text.length := Nat.le_of_lt_succ (Nat.lt_of_lt_of_eq hs c.hsz)

theorem cl_edge1 {s e : Nat} (hse : s < e) (hes : e < c.size) (S : CE c (EU c.text s e) Δ μ) (hst : Δ.lookup ("start" : Str) = some (.int s)) (hk : ∀ Δ μ, CE c (EU c.text s (e + 1)) Δ μ → Δ.lookup ("start" : Str) = some (.int s) → K .next Δ μ) :
    R F bEnd (("end", .int e) :: Δ) μ K := by
  have S := S.cons (x := "end") (d := .int e) (by decide +kernel)
  have hen : ((("end" : Str), D.int e) :: Δ).lookup ("end" : Str) = some (.int e) := look_eq
  have hst : ((("end" : Str), D.int e) :: Δ).lookup ("start" : Str) = some (.int s) := look_tl (by decide +kernel) hst
  generalize ((("end" : Str), D.int e) :: Δ) = Δ at *
  have hsm := c.small
  have hsz := c.hsz
  have hsl : sliceD μ (.str c.text) (some (s : Int)) (some (e : Int)) none = some (.str (subS c.text s e)) := by
    simp only [sliceD]; rw [if_pos ⟨trivial, le_line (Nat.le_trans c.ht (by decide))⟩, txt_slice (Nat.le_of_lt hse) (c.txt hes)]
  refine R.assign 8 (d := .int (tok (subS c.text s e))) (by kernel_rfl) ?_ ?_
  · simp only [eI, eS, eN, eBin, eNeg, eCmp, eIf, eL, eSl, eXn, eXb, eXc, eXu, eXs, eCall, eM1, eM2, eB, opt2_ss, optS_s, idxV_int, partI, hst, hen, S.ltext, hsl]
    simp [Ψt, nmGet]
  have hlt := tok_lt (subS c.text s e)
  have hset := EU_set c.text hse
  have hskip : ∀ k, tok (subS c.text s e) ≠ k → _ := fun k h => EU_skip c.text (s := s) (e := e) h
  generalize tok (subS c.text s e) = n at *
  have S := S.cons (x := "number") (d := .int n) (by decide +kernel)
  have hnu : ((("number" : Str), D.int n) :: Δ).lookup ("number" : Str) = some (.int n) := look_eq
  have hst : ((("number" : Str), D.int n) :: Δ).lookup ("start" : Str) = some (.int s) := look_tl (by decide +kernel) hst
  have hen : ((("number" : Str), D.int n) :: Δ).lookup ("end" : Str) = some (.int e) := look_tl (by decide +kernel) hen
  generalize ((("number" : Str), D.int n) :: Δ) = Δ at *
  refine R.if_ 8 (b := decide (n ∈ c.seen)) (by kernel_rfl) ?_ (fun hb => ?_) (fun hb => ?_)
  · have h256 : n < 256 := Int.lt_of_le_of_lt hlt.2 (by decide)
    simp only [tNot, tBool, tCmp, tN, tBin, tCall, opt2_ss, eI, eS, eN, eBin, eNeg, eCmp, eIf, eL, eSl, eXn, eXb, eXc, eXu, eXs, eCall, eM1, optS_s, idxV_int, hnu, S.ledges, cmpD, asList, S.me0]
    by_cases hm : n ∈ c.seen <;> simp [hm, h256]
  · have hm := of_decide_eq_true hb
    have hpow : (2 : Int) ^ e = bits (fun j => j == e) c.size := (bits_single hes).symm
    refine R.augItem 8 (a := c.adr n) (k := s) (y := 2 ^ e) (by kernel_rfl) (fun _ _ _ => rfl) (by simp only [eI, eS, eN, eBin, eNeg, eCmp, eIf, eL, eSl, eXn, eXb, eXc, eXu, eXs, eCall, eM1, eM2, eB, opt2_ss, optS_s, idxV_int, S.ledges, hnu, CE.edge S hm hlt.1 (Int.lt_of_le_of_lt hlt.2 (by decide))]) (by simp only [eI, eS, eN, eBin, eNeg, eCmp, eIf, eL, eSl, eXn, eXb, eXc, eXu, eXs, eCall, eM1, eM2, eB, opt2_ss, optS_s, idxV_int]; exact hst) (S.ads n hm) (c.mil (Nat.le_of_lt (Nat.lt_trans hse hes))) (masksL_get (Nat.lt_trans hse hes)) ?_ (by simp only [iShl, iOr, iXor]; rw [hpow, bits_or]) ?_
    · simp only [eI, eS, eN, eBin, eNeg, eCmp, eIf, eL, eSl, eXn, eXb, eXc, eXu, eXs, eCall, eM1, eM2, eB, opt2_ss, optS_s, idxV_int, hen, binD_int, aAdd, aSub, aMul, aDiv, aMod, aPow, aShl, aShr, aAnd, aOr, aXor]
      rw [if_pos ⟨by omega, by omega, by omega⟩]; simp
    · exact R.nil (hk _ _ ((CE.turn S hm (by omega) _).congr fun k _ s' _ j _ => hset k s' j) hst)
  · have hm := of_decide_eq_false hb
    exact R.nil (hk _ _ (S.congr fun k hk s' _ j _ => hskip k (fun h => hm (h ▸ hk)) s' j) hst)

theorem cl_edges (S : CE c noH Δ μ) (hk : ∀ Δ μ, CE c (waysR (edgeE c.text) noH) Δ μ → R F ((dBody fClos).drop 6) Δ μ K) : R F ((dBody fClos).drop 5) Δ μ K := by
  have hsm := c.small
  refine R.forN 10 c.size (fun s Δ μ => CE c (EU c.text s 0) Δ μ) (by kernel_rfl) (by simp only [eI, eS, eN, eBin, eNeg, eCmp, eIf, eL, eSl, eXn, eXb, eXc, eXu, eXs, eCall, eM1, eM2, eB, opt2_ss, optS_s, idxV_int]; exact S.lsize) (c.mil (Nat.le_refl _)) (S.congr fun k _ s _ j _ => by simp [noH, EU]) (fun s Δ μ P hs S hP => ?_) fun Δ μ S => ?_
  · have S := S.cons (x := "start") (d := .int s) (by decide +kernel)
    have hst : ((("start" : Str), D.int s) :: Δ).lookup ("start" : Str) = some (.int s) := look_eq
    generalize ((("start" : Str), D.int s) :: Δ) = Δ at *
    refine R.forR 10 (s + 1) c.size (fun i Δ μ => CE c (EU c.text s (s + 1 + i)) Δ μ ∧ Δ.lookup ("start" : Str) = some (.int s)) (by kernel_rfl) (by simp only [eI, eS, eN, eBin, eNeg, eCmp, eIf, eL, eSl, eXn, eXb, eXc, eXu, eXs, eCall, eM1, eM2, eB, opt2_ss, optS_s, idxV_int, hst, binD_int, aAdd, aSub, aMul, aDiv, aMod, aPow, aShl, aShr, aAnd, aOr, aXor]; rfl) (by simp only [eI, eS, eN, eBin, eNeg, eCmp, eIf, eL, eSl, eXn, eXb, eXc, eXu, eXs, eCall, eM1, eM2, eB, opt2_ss, optS_s, idxV_int]; exact S.lsize) (c.mil hs) (c.mil (Nat.le_refl _))
      ⟨S.congr fun k _ s' _ j _ => EU_start c.text s k s' j, hst⟩ (fun i Δ μ P hi S hP => cl_edge1 (Nat.lt_of_lt_of_le (Nat.lt_succ_self s) (Nat.le_add_right ..)) hi S.1 S.2 fun Δ μ S hst => hP Δ μ ⟨S, hst⟩) fun Δ μ S => ?_
    have e : s + 1 + (c.size - (s + 1)) = c.size := Nat.add_sub_of_le hs
    rw [e] at S
    exact R.nil (hP _ _ (S.1.congr fun k _ s' _ j hj => EU_next c.text k s' hj))
  · exact hk _ _ (S.congr fun k hk s hs j _ => EU_all c.text (c.hnn k ((c.hseen k).mp hk).1).1 hs j)

theorem cl_place {s q : Nat} (hsq : s ≤ q) (hq : q < c.size) (hp : p ∈ c.seen) (S : CY c H g r Q p a V Δ μ) (hst : Δ.lookup ("start" : Str) = some (.int s)) (hk : ∀ Δ μ, CY c H g r Q p a (setV V s (fun j => V s j || (Q s q && H p q j))) Δ μ → Δ.lookup ("start" : Str) = some (.int s) → K .next Δ μ) :
    R F bPlace (("place", .int q) :: Δ) μ K := by
  have S := S.cons (x := "place") (d := .int q) (by decide +kernel)
  have hpl : ((("place" : Str), D.int q) :: Δ).lookup ("place" : Str) = some (.int q) := look_eq
  have hst : ((("place" : Str), D.int q) :: Δ).lookup ("start" : Str) = some (.int s) := look_tl (by decide +kernel) hst
  generalize ((("place" : Str), D.int q) :: Δ) = Δ at *
  have hsm := c.small
  have hs : s < c.size := Nat.lt_of_le_of_lt hsq hq
  refine R.if_ 12 (b := Q s q) (by kernel_rfl) ?_ (fun hb => ?_) (fun hb => ?_)
  · simp only [tNot, tBool, tCmp, tN, tBin, tCall, opt2_ss, eI, eS, eN, eBin, eNeg, eCmp, eIf, eL, eSl, eXn, eXb, eXc, eXu, eXs, eCall, eM1, optS_s, idxV_int, S.x.reach, hst, hpl, mask_idx hs c.fits, bit_test.1, bit_test.2, Option.bind_some, truthD, bits_get]
    cases Q s q <;> simp [hq]
  · have hwi : idxD μ (.ref (c.adr p)) (q : Int) = some (.int (bits (H p q) c.size)) := idxD_ref (S.x.g.e.ads p hp) (masksL_get hq) (lt63 (c.mil (Nat.le_of_lt hq)))
    refine R.augItem 5 (a := a) (k := s) (y := bits (H p q) c.size) (z := bits (fun j => V s j || H p q j) c.size) (by kernel_rfl) (fun _ _ _ => rfl) (by simp only [eI, eS, eN, eBin, eNeg, eCmp, eIf, eL, eSl, eXn, eXb, eXc, eXu, eXs, eCall, eM1, eM2, eB, opt2_ss, optS_s, idxV_int]; exact S.after) (by simp only [eI, eS, eN, eBin, eNeg, eCmp, eIf, eL, eSl, eXn, eXb, eXc, eXu, eXs, eCall, eM1, eM2, eB, opt2_ss, optS_s, idxV_int]; exact hst) S.cell (c.mil (Nat.le_of_lt hs)) (masksL_get hs)
      (by simp only [eI, eS, eN, eBin, eNeg, eCmp, eIf, eL, eSl, eXn, eXb, eXc, eXu, eXs, eCall, eM1, eM2, eB, opt2_ss, optS_s, idxV_int, S.ways, hpl, hwi]) (by simp only [iShl, iOr, iXor]; rw [bits_or]) ?_
    rw [hb] at hk
    simp only [Bool.true_and] at hk
    exact R.nil (hk _ _ (S.put (masksL_set hs _)) hst)
  · refine R.nil (hk _ _ (S.same fun s' _ j _ => ?_) hst)
    unfold setV
    split
    · subst_vars; simp [hb]
    · rfl

theorem cl_start {s : Nat} (hs : s < c.size) (hp : p ∈ c.seen) (S : CY c H g r Q p a (accQ c.size Q (H p) s s) Δ μ) (hk : ∀ Δ μ, CY c H g r Q p a (accQ c.size Q (H p) (s + 1) (s + 1)) Δ μ → K .next Δ μ) : R F bStart (("start", .int s) :: Δ) μ K := by
  have S := S.cons (x := "start") (d := .int s) (by decide +kernel)
  have hst : ((("start" : Str), D.int s) :: Δ).lookup ("start" : Str) = some (.int s) := look_eq
  generalize ((("start" : Str), D.int s) :: Δ) = Δ at *
  have hsm := c.small
  refine R.forR 10 s c.size (fun i Δ μ => CY c H g r Q p a (accQ c.size Q (H p) s (s + i)) Δ μ ∧ Δ.lookup ("start" : Str) = some (.int s)) (by kernel_rfl) (by simp only [eI, eS, eN, eBin, eNeg, eCmp, eIf, eL, eSl, eXn, eXb, eXc, eXu, eXs, eCall, eM1, eM2, eB, opt2_ss, optS_s, idxV_int]; exact hst) (by simp only [eI, eS, eN, eBin, eNeg, eCmp, eIf, eL, eSl, eXn, eXb, eXc, eXu, eXs, eCall, eM1, eM2, eB, opt2_ss, optS_s, idxV_int]; exact S.x.g.e.lsize) (c.mil (Nat.le_of_lt hs)) (c.mil (Nat.le_refl _))
    ⟨S, hst⟩ (fun i Δ μ P hi S hP => cl_place (Nat.le_add_right ..) hi hp S.1 S.2 fun Δ μ S hst => hP Δ μ ⟨S.same fun s' _ j' _ => accQ_step c.size Q (H p) (Nat.le_add_right ..) s' j', hst⟩) fun Δ μ S => ?_
  have e : s + (c.size - s) = c.size := Nat.add_sub_of_le (Nat.le_of_lt hs)
  rw [e] at S
  exact R.nil (hk _ _ (S.1.same fun s' _ j' _ => accQ_next c.size Q (H p) s' j'))

theorem cl_part (hp : p ∈ c.told ∧ p ≠ 0) (S : CX c H g r Q Δ μ) (hk : ∀ Δ μ, CX c H g r (stepR c.size Q (H p)) Δ μ → K .next Δ μ) : R F bPartC (("part", .int p) :: Δ) μ K := by
  have hps := (c.hseen p).mpr hp
  have hpb := c.hnn p hp.1
  have S := S.cons (x := "part") (d := .int p) (by decide +kernel)
  have hpart : ((("part" : Str), D.int p) :: Δ).lookup ("part" : Str) = some (.int p) := look_eq
  generalize ((("part" : Str), D.int p) :: Δ) = Δ at *
  refine R.assign 10 (d := .ref (c.adr p)) (by kernel_rfl) ?_ ?_
  · have hT : Φc μ "ISTERMINAL" [.int p] = some (.bool (decide (p < 256))) := Φc_T
    by_cases h256 : p < 256
    · simp only [eI, eS, eN, eBin, eNeg, eCmp, eIf, eL, eSl, eXn, eXb, eXc, eXu, eXs, eCall, eM1, eM2, eB, opt2_ss, optS_s, idxV_int, tNot, tBool, tCmp, tN, tBin, tCall, evs, hpart, hT, truthD, S.g.e.ledges, decide_eq_true h256, Option.bind_some, CE.edge S.g.e hps hpb.1 h256]
    · simp only [eI, eS, eN, eBin, eNeg, eCmp, eIf, eL, eSl, eXn, eXb, eXc, eXu, eXs, eCall, eM1, eM2, eB, opt2_ss, optS_s, idxV_int, tNot, tBool, tCmp, tN, tBin, tCall, evs, hpart, hT, truthD, S.g.e.lfound, decide_eq_false h256, Option.bind_some, CE.find S.g.e hps (Int.not_lt.mp h256) hpb.2]
  have S := S.cons (x := "ways") (d := .ref (c.adr p)) (by decide +kernel)
  have hways : ((("ways" : Str), D.ref (c.adr p)) :: Δ).lookup ("ways" : Str) = some (.ref (c.adr p)) := look_eq
  generalize ((("ways" : Str), D.ref (c.adr p)) :: Δ) = Δ at *
  have hsm := c.small
  refine R.new 10 (by kernel_rfl) (EvNew.mul (n := (c.size : Int)) (xs := [.int 0]) (Fr.ev 5 (by kernel_rfl) (by simp only [eI, eS, eN, eBin, eNeg, eCmp, eIf, eL, eSl, eXn, eXb, eXc, eXu, eXs, eCall, eM1, eM2, eB, opt2_ss, optS_s, idxV_int, evs, sized_le (ds := [.int 0]) (by simp)])) (Fr.ev 5 (by kernel_rfl) (by simp only [eI, eS, eN, eBin, eNeg, eCmp, eIf, eL, eSl, eXn, eXb, eXc, eXu, eXs, eCall, eM1, eM2, eB, opt2_ss, optS_s, idxV_int]; exact S.g.e.lsize)) (by omega) (by omega) (by simp)) fun a ha => ?_
  have off := S.g.e.off ha
  rw [show repL (c.size : Int).toNat [.int 0] = _ from masksL_zero c.size]
  have S : CY c H g r Q p a (fun _ _ => false) ((("after" : Str), .ref a) :: Δ) (μ.set a (.lst (masksL c.size fun _ _ => false))) :=
    ⟨(S.cons (by decide +kernel)).set off, look_tl (by decide +kernel) hways, look_eq, off, MM.set_self ..⟩
  generalize ((("after" : Str), D.ref a) :: Δ) = Δ at *
  generalize μ.set a (.lst (masksL c.size fun _ _ => false)) = μ at *
  refine R.forN 10 c.size (fun s Δ μ => CY c H g r Q p a (accQ c.size Q (H p) s s) Δ μ) (by kernel_rfl) (by simp only [eI, eS, eN, eBin, eNeg, eCmp, eIf, eL, eSl, eXn, eXb, eXc, eXu, eXs, eCall, eM1, eM2, eB, opt2_ss, optS_s, idxV_int]; exact S.x.g.e.lsize) (c.mil (Nat.le_refl _)) (S.same fun s' _ j' _ => (accQ_zero c.size Q (H p) s' j').symm) (fun s Δ μ P hs S hP => cl_start hs hps S (hP)) fun Δ μ S => ?_
  have S := S.same fun s' hs' j' _ => accQ_end c.size Q (H p) hs' j'
  refine Wp.freeze S.after S.cell ?_
  show R F _ _ _ _
  exact R.assign 5 (d := .list (masksL c.size (stepR c.size Q (H p)))) (by kernel_rfl) (by simp only [eI, eS, eN, eBin, eNeg, eCmp, eIf, eL, eSl, eXn, eXb, eXc, eXu, eXs, eCall, eM1, eM2, eB, opt2_ss, optS_s, idxV_int]; exact look_eq) (R.nil (hk _ _
    ⟨((S.x.g.cons (by decide +kernel)).cons (by decide +kernel)).e.of S.off (fun b hb => if_neg hb) |> fun e => ⟨e, ((S.x.g.cons (by decide +kernel)).cons (by decide +kernel)).grown⟩, look_tl (by decide +kernel) (look_tl (by decide +kernel) S.x.row), look_eq⟩))

theorem cl_add {G : Int → Rel} {s : Nat} (hs : s < c.size) (hr : 256 ≤ r.1 ∧ r.1 ∈ c.told) (S : CX c (waysR (edgeE c.text) G) g r Q Δ μ)
    (hk : ∀ Δ μ, CX c (waysR (edgeE c.text) (addS c.size r.1 Q (G, g) s).1) (addS c.size r.1 Q (G, g) s).2 r Q Δ μ → K .next Δ μ) : R F bAdd (("start", .int s) :: Δ) μ K := by
  have S := S.cons (x := "start") (d := .int s) (by decide +kernel)
  have hst : ((("start" : Str), D.int s) :: Δ).lookup ("start" : Str) = some (.int s) := look_eq
  generalize ((("start" : Str), D.int s) :: Δ) = Δ at *
  have hsm := c.small
  have hwk : waysR (edgeE c.text) G r.1 = G r.1 := if_neg (Int.not_lt.mpr hr.1)
  have hrk := (c.hseen r.1).mpr ⟨hr.2, fun e => absurd (e ▸ hr.1) (by decide)⟩
  have hr0 : idxD μ (intsD (r.1 :: r.2)) 0 = some (.int r.1) := idxD_list (i := 0) rfl (by decide)
  have hfk := CE.find S.g.e hrk hr.1 (c.hnn _ hr.2).2
  have hads := S.g.e.ads r.1 hrk
  have hfs : idxD μ (.ref (c.adr r.1)) (s : Int) = some (.int (bits (G r.1 s) c.size)) := idxD_ref hads (by rw [hwk]; exact masksL_get hs) (lt63 (c.mil (Nat.le_of_lt hs)))
  have hor : binD μ .BitOr (.int (bits (G r.1 s) c.size)) (.int (bits (Q s) c.size)) = some (.int (bits (fun j => G r.1 s j || Q s j) c.size)) := by
    rw [binD_int]; simp only [aAdd, aSub, aMul, aDiv, aMod, aPow, aShl, aShr, aAnd, aOr, aXor]; rw [bits_or]; rfl
  refine R.if_ 14 (b := bits (fun j => G r.1 s j || Q s j) c.size != bits (G r.1 s) c.size) (by kernel_rfl) ?_ (fun hb => ?_) (fun hb => ?_)
  · simp only [tNot, tBool, tCmp, tN, tBin, tCall, opt2_ss, eI, eS, eN, eBin, eNeg, eCmp, eIf, eL, eSl, eXn, eXb, eXc, eXu, eXs, eCall, eM1, optS_s, idxV_int, S.g.e.lfound, S.row, hr0, hfk, hst, hfs, S.reach, mask_idx hs c.fits, hor, cmpD]
  · have has : addS c.size r.1 Q (G, g) s = (setR G r.1 s (fun j => G r.1 s j || Q s j), 1) := if_pos (bne_iff_ne.mp hb)
    rw [has] at hk
    refine R.augItem 8 (a := c.adr r.1) (k := s) (y := bits (Q s) c.size) (z := bits (fun j => G r.1 s j || Q s j) c.size) (by kernel_rfl) (fun _ _ _ => rfl) (by simp only [eI, eS, eN, eBin, eNeg, eCmp, eIf, eL, eSl, eXn, eXb, eXc, eXu, eXs, eCall, eM1, eM2, eB, opt2_ss, optS_s, idxV_int, S.g.e.lfound, S.row, hr0, hfk]) (by simp only [eI, eS, eN, eBin, eNeg, eCmp, eIf, eL, eSl, eXn, eXb, eXc, eXu, eXs, eCall, eM1, eM2, eB, opt2_ss, optS_s, idxV_int]; exact hst) hads (c.mil (Nat.le_of_lt hs)) (by rw [hwk]; exact masksL_get hs)
      (by simp only [eI, eS, eN, eBin, eNeg, eCmp, eIf, eL, eSl, eXn, eXb, eXc, eXu, eXs, eCall, eM1, eM2, eB, opt2_ss, optS_s, idxV_int, S.reach, hst, mask_idx hs c.fits]) (by simp only [iShl, iOr, iXor]; rw [bits_or]) ?_
    have S' := (CE.turn S.g.e hrk hs (fun j => G r.1 s j || Q s j)).congr (H' := waysR (edgeE c.text) (setR G r.1 s (fun j => G r.1 s j || Q s j))) fun q _ s' _ j _ => by
      unfold setR waysR
      by_cases h1 : q = r.1 ∧ s' = s
      · have : ¬ q < 256 := Int.not_lt.mpr (h1.1 ▸ hr.1)
        rw [if_pos h1, if_neg this]
        show _ = (if q = r.1 ∧ s' = s then (fun j => G r.1 s j || Q s j) else G q s') j
        rw [if_pos h1]
      · by_cases h2 : q < 256 <;> simp [h1, h2]
    exact R.assign 5 (d := .int 1) (by kernel_rfl) (by simp only [eI, eS, eN, eBin, eNeg, eCmp, eIf, eL, eSl, eXn, eXb, eXc, eXu, eXs, eCall, eM1, eM2, eB, opt2_ss, optS_s, idxV_int]) (R.nil (hk _ _ ⟨⟨S'.cons (by decide +kernel), look_eq⟩, look_tl (by decide +kernel) S.row, look_tl (by decide +kernel) S.reach⟩))
  · have has : addS c.size r.1 Q (G, g) s = (G, g) := if_neg (by simpa using hb)
    rw [has] at hk
    exact R.nil (hk _ _ S)

theorem cl_row {G : Int → Rel} (hr : r ∈ c.rs) (S : CG c (waysR (edgeE c.text) G) g Δ μ) (hk : ∀ Δ μ, CG c (waysR (edgeE c.text) (addC c.size (edgeE c.text) (G, g) r).1) (addC c.size (edgeE c.text) (G, g) r).2 Δ μ → K .next Δ μ) :
    R F bRowC (("row", intsD (r.1 :: r.2)) :: Δ) μ K := by
  obtain ⟨hr1, hr2, hrlen, hr3⟩ := c.hrs r hr
  have S := S.cons (x := "row") (d := intsD (r.1 :: r.2)) (by decide +kernel)
  have hrow : ((("row" : Str), intsD (r.1 :: r.2)) :: Δ).lookup ("row" : Str) = some (intsD (r.1 :: r.2)) := look_eq
  generalize ((("row" : Str), intsD (r.1 :: r.2)) :: Δ) = Δ at *
  have hsm := c.small
  refine R.used 9 (d := .list (masksL c.size (fun s j => j == s))) (by kernel_rfl) ?_ ?_
  · refine evD_comp (g := fun (p : Nat) => .int p) (h := fun p => .int (bits (fun j => j == p) c.size)) ?_ (fun p hp => ?_) (by simp; have := line_big; omega)
    · have e : (rangeL 0 (c.size : Nat) 1).map D.int = (List.range c.size).map fun (p : Nat) => D.int p := by rw [rangeL_up, List.map_map]; rfl
      simp only [iRange, evs, eI, eS, eN, eBin, eNeg, eCmp, eIf, eL, eSl, eXn, eXb, eXc, eXu, eXs, eCall, eM1, eM2, eB, opt2_ss, optS_s, idxV_int, S.e.lsize, nmRange, if_true, rangeArgs]
      rw [if_pos (small_of (by decide) (by omega) (.inl rfl)), e]
    · have hp' := List.mem_range.mp hp
      rw [bits_single hp']
      simp only [eI, eS, eN, eBin, eNeg, eCmp, eIf, eL, eSl, eXn, eXb, eXc, eXu, eXs, eCall, eM1, eM2, eB, opt2_ss, optS_s, idxV_int, look_eq, binD_int, aAdd, aSub, aMul, aDiv, aMod, aPow, aShl, aShr, aAnd, aOr, aXor]
      rw [if_pos ⟨by omega, by omega, by omega⟩]; simp
  have S : CX c (waysR (edgeE c.text) G) g r (fun s j => j == s) ((("reach" : Str), .list (masksL c.size (fun s j => j == s))) :: Δ) μ := ⟨S.cons (by decide +kernel), look_tl (by decide +kernel) hrow, look_eq⟩
  generalize ((("reach" : Str), D.list (masksL c.size (fun s j => j == s))) :: Δ) = Δ at *
  refine R.for_ (xs := r.2.map .int) (fun j Δ μ => CX c (waysR (edgeE c.text) G) g r (rowR c.size (waysR (edgeE c.text) G) (r.2.take j)) Δ μ) (by kernel_rfl) ((F.cx _).iterE 8 (by kernel_rfl) ?_) S (fun j d Δ μ P hdj S hP => ?_) fun Δ μ S => ?_
  · simp only [eI, eS, eN, eBin, eNeg, eCmp, eIf, eL, eSl, eXn, eXb, eXc, eXu, eXs, eCall, eM1, eM2, eB, opt2_ss, optS_s, idxV_int, partI, S.row, sliceD, intsD, asList]
    rw [if_pos ⟨by simp, by have := line_big; simp; omega⟩, show (1 : Int) = ((1 : Nat) : Int) from rfl, pickL_from]
    simp
  · obtain ⟨hj, rfl⟩ := mem_mapD hdj
    exact cl_part (hr3 _ (List.getElem_mem hj)) S fun Δ μ S => hP Δ μ (by
      rw [show rowR c.size (waysR (edgeE c.text) G) (r.2.take (j + 1)) = _ from foldl_take _ _ _ hj]; exact S)
  · rw [List.length_map, List.take_length] at S
    rw [show addC c.size (edgeE c.text) (G, g) r = (List.range c.size).foldl (addS c.size r.1 (rowR c.size (waysR (edgeE c.text) G) r.2)) (G, g) from rfl] at hk
    generalize rowR c.size (waysR (edgeE c.text) G) r.2 = Q at *
    refine R.forN 10 c.size (fun s Δ μ => CX c (waysR (edgeE c.text) (((List.range c.size).take s).foldl (addS c.size r.1 Q) (G, g)).1) (((List.range c.size).take s).foldl (addS c.size r.1 Q) (G, g)).2 r Q Δ μ) (by kernel_rfl) (by simp only [eI, eS, eN, eBin, eNeg, eCmp, eIf, eL, eSl, eXn, eXb, eXc, eXu, eXs, eCall, eM1, eM2, eB, opt2_ss, optS_s, idxV_int]; exact S.g.e.lsize) (by omega) S (fun s Δ μ P hs S hP => ?_) fun Δ μ S => ?_
    · rw [foldl_take _ _ _ (by simpa using hs), List.getElem_range] at hP
      generalize ((List.range c.size).take s).foldl (addS c.size r.1 Q) (G, g) = Mg at *
      exact cl_add hs ⟨hr1, hr2⟩ S hP
    · have e : (List.range c.size).take c.size = List.range c.size := List.take_of_length_le (by simp)
      rw [e] at S
      exact R.nil (hk _ _ S.g)

theorem cl_turn {G : Int → Rel} (S : CE c (waysR (edgeE c.text) G) Δ μ) (hb : (turnC c.size (edgeE c.text) c.rs G).2 = 0 → ∀ Δ μ, CE c (waysR (edgeE c.text) (turnC c.size (edgeE c.text) c.rs G).1) Δ μ → K .brk Δ μ)
    (hk : ¬ (turnC c.size (edgeE c.text) c.rs G).2 = 0 → ∀ Δ μ, CE c (waysR (edgeE c.text) (turnC c.size (edgeE c.text) c.rs G).1) Δ μ → K .next Δ μ) : R F bTurnC Δ μ K := by
  refine R.assign 5 (d := .int 0) (by kernel_rfl) (by simp only [eI, eS, eN, eBin, eNeg, eCmp, eIf, eL, eSl, eXn, eXb, eXc, eXu, eXs, eCall, eM1, eM2, eB, opt2_ss, optS_s, idxV_int]) ?_
  have S : CG c (waysR (edgeE c.text) G) 0 ((("grown" : Str), .int 0) :: Δ) μ := ⟨S.cons (by decide +kernel), look_eq⟩
  generalize ((("grown" : Str), D.int 0) :: Δ) = Δ at *
  unfold turnC at hb hk
  refine R.for_ (xs := c.rs.map fun r => intsD (r.1 :: r.2)) (fun i Δ μ => CG c (waysR (edgeE c.text) ((c.rs.take i).foldl (addC c.size (edgeE c.text)) (G, 0)).1) ((c.rs.take i).foldl (addC c.size (edgeE c.text)) (G, 0)).2 Δ μ) (by kernel_rfl) ((F.cx _).iterE 8 (by kernel_rfl) ?_) S (fun i d Δ μ P hdi S hP => ?_) fun Δ μ S => ?_
  · have hpick : ∀ xs : List D, pickL xs none (some (-1)) none = xs.take (xs.length - 1) := fun xs => pickL_but xs 1 (by omega)
    have hrl := c.hrl
    simp only [eI, eS, eN, eBin, eNeg, eCmp, eIf, eL, eSl, eXn, eXb, eXc, eXu, eXs, eCall, eM1, eM2, eB, opt2_ss, optS_s, idxV_int, partI, S.e.lrules, sliceD, asList_ref S.e.mr0]
    rw [if_pos ⟨by simp, by have := line_big; simp; omega⟩, hpick]
    simp
  · obtain ⟨hi, rfl⟩ := mem_mapD hdi
    rw [foldl_take _ _ _ hi] at hP
    generalize (c.rs.take i).foldl (addC c.size (edgeE c.text)) (G, 0) = Mg at *
    exact cl_row (List.getElem_mem hi) S hP
  · rw [List.length_map, List.take_length] at S
    exact R.if_ 8 (b := (c.rs.foldl (addC c.size (edgeE c.text)) (G, 0)).2 == 0) (by kernel_rfl) (by simp only [tNot, tBool, tCmp, tN, tBin, tCall, opt2_ss, eI, eS, eN, eBin, eNeg, eCmp, eIf, eL, eSl, eXn, eXb, eXc, eXu, eXs, eCall, eM1, optS_s, idxV_int, S.grown, cmpD]) (fun h => R.brk (hb (beq_iff_eq.mp h) _ _ S.e)) fun h => R.nil (hk (fun e => by rw [e] at h; cases h) _ _ S.e)

def foundM (c : CP) (G : Int → Rel) : MObj := .dct (fun q => if q ∈ c.told ∧ 256 ≤ q then some (.list (masksL c.size (G q))) else none) c.nf

theorem cl_end {G : Int → Rel} (S : CE c (waysR (edgeE c.text) G) Δ μ) (hk : ∀ Δ μ, μ c.f0 = some (foundM c G) → K (.ret (.ref c.f0)) Δ μ) : R F ((dBody fClos).drop 7) Δ μ K := by
  have hX : ∀ a ∈ (c.seen.filter (256 ≤ ·)).map c.adr, ∃ q, q ∈ c.seen ∧ 256 ≤ q ∧ a = c.adr q := fun a ha => by
    obtain ⟨q, hq, rfl⟩ := List.mem_map.mp ha
    obtain ⟨h1, h2⟩ := List.mem_filter.mp hq
    exact ⟨q, h1, by simpa using h2, rfl⟩
  refine Wp.freezeS (X := (c.seen.filter (256 ≤ ·)).map c.adr) (ds := fun a => match μ a with | some (.lst ds) => ds | _ => []) (Δ' := [("found", .ref c.f0)]) (μ' := oneM c.f0 (foundM c G))
    (fun a ha => ?_) (fun x d' hx => ?_) (fun b m' hb => ?_) (R.ret (F := F) 5 (by kernel_rfl) (d := .ref c.f0) (by simp only [eI, eS, eN, eBin, eNeg, eCmp, eIf, eL, eSl, eXn, eXb, eXc, eXu, eXs, eCall, eM1, eM2, eB, opt2_ss, optS_s, idxV_int]; exact look_eq) (hk _ _ (if_pos rfl)))
  · obtain ⟨q, h1, h2, rfl⟩ := hX a ha
    rw [S.ads q h1]
  · rw [List.lookup_cons] at hx
    cases e : x == ("found" : Str) with
    | true => rw [e] at hx; cases hx; rw [beq_iff_eq.mp e]; exact ⟨_, S.lfound, .refl _⟩
    | false => rw [e] at hx; cases hx
  · unfold oneM at hb
    split at hb
    · cases hb; subst_vars
      refine ⟨fun h => ?_, _, S.mf0, FrzSM.dct fun q => ?_⟩
      · obtain ⟨q, h1, h2, e⟩ := hX _ h
        have := S.ads q h1; rw [← e, S.mf0] at this; cases this
      · by_cases hq : q ∈ c.seen ∧ 256 ≤ q
        · refine .inr ⟨.ref (c.adr q), .list (masksL c.size (G q)), if_pos hq, if_pos ⟨((c.hseen q).mp hq.1).1, hq.2⟩, ?_⟩
          have hin : c.adr q ∈ (c.seen.filter (256 ≤ ·)).map c.adr := List.mem_map.mpr ⟨q, List.mem_filter.mpr ⟨hq.1, by simpa using hq.2⟩, rfl⟩
          have := FrzS.ref (X := (c.seen.filter (256 ≤ ·)).map c.adr) (ds := fun a => match μ a with | some (.lst ds) => ds | _ => []) hin
          have e2 := S.ads q hq.1
          rw [show waysR (edgeE c.text) G q = G q from if_neg (Int.not_lt.mpr hq.2)] at e2
          simp only [e2] at this
          exact this
        · exact .inl ⟨if_neg hq, if_neg fun h => hq ⟨(c.hseen q).mpr ⟨h.1, by omega⟩, h.2⟩⟩
    · cases hb

theorem iterC_turn {size : Nat} {E : Int → Rel} {rs : List (Int × List Int)} {t : Nat} (ht : t < 99) (G : Int → Rel) : iterC size E rs (99 - t) G = if (turnC size E rs G).2 = 0 then (turnC size E rs G).1 else iterC size E rs (99 - (t + 1)) (turnC size E rs G).1 := by
  rw [turn_succ ht, iterC]

theorem cl_all {G : Int → Rel} (S : CE c noH Δ μ) (hG : iterC c.size (edgeE c.text) c.rs 99 noH = G) (hk : ∀ Δ μ, μ c.f0 = some (foundM c G) → K (.ret (.ref c.f0)) Δ μ) : R F ((dBody fClos).drop 5) Δ μ K := by
  refine cl_edges S fun Δ μ S => ?_
  refine R.forB (xs := (rangeL 0 (99 : Nat) 1).map .int) (fun t Δ μ => ∃ G', CE c (waysR (edgeE c.text) G') Δ μ ∧ iterC c.size (edgeE c.text) c.rs (99 - t) G' = G) (by kernel_rfl)
    (Fr.rangeF 10 (by kernel_rfl) (ds := [.int 99]) (by simp only [evs, eI, eS, eN, eBin, eNeg, eCmp, eIf, eL, eSl, eXn, eXb, eXc, eXu, eXs, eCall, eM1, eM2, eB, opt2_ss, optS_s, idxV_int]) rfl (small_of (by decide) (by decide) (.inl rfl))) ⟨noH, S, hG⟩ (fun t d Δ μ P R' T hdt hI hP hR _ => ?_) fun Δ μ hI => ?_
  · obtain ⟨G', S, hit⟩ := hI
    obtain ⟨rfl, ht99⟩ := mem_rangeD hdt
    rw [iterC_turn ht99] at hit
    refine cl_turn (S.cons (by decide +kernel)) (fun h0 Δ μ S => hR Δ μ ?_) fun h0 Δ μ S => hP Δ μ ⟨_, S, ?_⟩
    · rw [if_pos h0] at hit
      rw [hit] at S
      exact cl_end S hk
    · rw [if_neg h0] at hit; exact hit
  · obtain ⟨G', S, hit⟩ := hI
    have e : ((rangeL 0 (99 : Nat) 1).map D.int).length = 99 := by rw [rangeL_up]; simp
    rw [e] at hit
    rw [show G' = G from hit] at S
    exact cl_end S hk
end

section
variable {F : Fr Φc (fun _ => Ψt) (dScope fClos)} {Δ : Ctx} {μ : MM} {K : Out → Ctx → MM → Prop} {size : Nat} {text : Str} {r0 e0 f0 cur : Addr} {adr : Int → Addr} {seen : List Int} {rows : List (List Int)} {row : List Int} {ne nf : Nat}

theorem cl_num {n : Int} (hn : 0 ≤ n ∧ n < 1000000) (hl : size ≤ 1000 ∧ ne ≤ 1000 ∧ nf ≤ 1000 ∧ rows.length ≤ 1000 ∧ row.length ≤ 1000) (S : CB size text r0 e0 f0 cur adr seen rows row ne nf noH Δ μ)
    (hk : ∀ cur adr ne' Δ μ, ne' ≤ ne + 1 → CB size text r0 e0 f0 cur adr (seen ++ if n = 0 then [] else [n]) (parseR (rows, row) n).1 (parseR (rows, row) n).2 ne' (nf + if 256 ≤ n then 1 else 0) noH Δ μ → K .next Δ μ) : R F bNum (("number", .int n) :: Δ) μ K := by
  have hle := line_big
  have S := S.cons (x := "number") (d := .int n) (by decide +kernel)
  have hnu : ((("number" : Str), D.int n) :: Δ).lookup ("number" : Str) = some (.int n) := look_eq
  generalize ((("number" : Str), D.int n) :: Δ) = Δ at *
  have hE : Φc μ "ISEOF" [.int n] = some (.bool (n == 0)) := Φc_E
  refine R.if_ 8 (b := n == 0) (by kernel_rfl) (by simp only [tNot, tBool, tCmp, tN, tBin, tCall, opt2_ss, eI, eS, eN, eBin, eNeg, eCmp, eIf, eL, eSl, eXn, eXb, eXc, eXu, eXs, eCall, eM1, optS_s, idxV_int, evs, hnu, hE, truthD, Option.bind_some]) (fun hb => ?_) (fun hb => ?_)
  · have h0 : n = 0 := beq_iff_eq.mp hb
    subst h0
    refine R.appendA (P := fun d μ' => ∃ c, d = .ref c ∧ μ c = none ∧ μ' = μ.set c (.lst [])) 5 (by kernel_rfl) (by simp only [eI, eS, eN, eBin, eNeg, eCmp, eIf, eL, eSl, eXn, eXb, eXc, eXu, eXs, eCall, eM1, eM2, eB, opt2_ss, optS_s, idxV_int]; exact S.lrules) S.mr0 (EvNew.a (EvNew.display .nil (by decide)) fun c hc => ⟨c, rfl, hc, rfl⟩) ?_
    rintro d μ' ⟨c, rfl, hc, rfl⟩
    have off := S.off hc
    refine ⟨rows.map intsD ++ [.ref cur], by rw [MM.set_ne (Ne.symm off.1)]; exact S.mr0, by simp; exact le_line (Nat.le_trans (Nat.succ_le_succ hl.2.2.2.1) (by decide)), ?_⟩
    refine Wp.freezeG (a := cur) (ds := row.map .int) (μ' := fun b => if b = cur then none else if b = r0 then some (.lst ((rows ++ [row]).map intsD ++ [.ref c])) else (μ.set c (.lst [])) b) (by rw [MM.set_ne S.curr, MM.set_ne (Ne.symm off.2.1)]; exact S.mcur) (fun x d' hx => ⟨d', hx, .refl _⟩) (fun b m' hb => ?_)
      (R.nil (F := F) (hk c adr ne _ _ (Nat.le_succ _) (by have := S.nextRow off; simpa [parseR] using this)))
    split at hb
    · cases hb
    · rename_i hbc
      split at hb
      · cases hb; subst_vars
        refine ⟨hbc, _, MM.set_self .., FrzM.lst ?_⟩
        rw [List.map_append, List.append_assoc, List.append_assoc]
        exact (FrzL.refl _).append (.cons (.ref _ _) (FrzL.refl _))
      · rename_i hbr
        exact ⟨hbc, _, by rw [MM.set_ne hbr]; exact hb, .refl _⟩
  · have h0 : n ≠ 0 := fun e => by rw [e] at hb; cases hb
    refine R.append 8 (a := cur) (d := .int n) (by kernel_rfl) (by simp only [eI, eS, eN, eBin, eNeg, eCmp, eIf, eL, eSl, eXn, eXb, eXc, eXu, eXs, eCall, eM1, eM2, eB, opt2_ss, optS_s, idxV_int, S.lrules, idxD_last S.mr0]) S.mcur (by simp only [eI, eS, eN, eBin, eNeg, eCmp, eIf, eL, eSl, eXn, eXb, eXc, eXu, eXs, eCall, eM1, eM2, eB, opt2_ss, optS_s, idxV_int, hnu]) (by simp; exact le_line (Nat.le_trans hl.2.2.2.2 (by decide))) ?_
    have S := S.grow n
    rw [show row.map D.int ++ [.int n] = (row ++ [n]).map .int by simp]
    rw [show row.map D.int ++ [.int n] = (row ++ [n]).map .int by simp] at S
    have hN : Φc (μ.set cur (.lst ((row ++ [n]).map .int))) "ISNONTERMINAL" [.int n] = some (.bool (decide (256 ≤ n))) := Φc_N
    generalize μ.set cur (.lst ((row ++ [n]).map .int)) = μ at *
    clear hE
    have hp1 : parseR (rows, row) n = (rows, row ++ [n]) := if_neg h0
    rw [hp1, if_neg h0] at hk
    refine R.assign 8 (d := if 256 ≤ n then .ref f0 else .ref e0) (by kernel_rfl) ?_ ?_
    · simp only [eI, eS, eN, eBin, eNeg, eCmp, eIf, eL, eSl, eXn, eXb, eXc, eXu, eXs, eCall, eM1, eM2, eB, opt2_ss, optS_s, idxV_int, tNot, tBool, tCmp, tN, tBin, tCall, evs, hnu, hN, truthD, Option.bind_some]
      by_cases h256 : 256 ≤ n
      · simp only [decide_eq_true h256, S.lfound, if_pos h256]
      · simp only [decide_eq_false h256, S.ledges, if_neg h256]
    have S := S.cons (x := "kind") (d := if 256 ≤ n then .ref f0 else .ref e0) (by decide +kernel)
    have hkd : ((("kind" : Str), (if 256 ≤ n then D.ref f0 else .ref e0)) :: Δ).lookup ("kind" : Str) = some (if 256 ≤ n then .ref f0 else .ref e0) := look_eq
    have hnu : ((("kind" : Str), (if 256 ≤ n then D.ref f0 else .ref e0)) :: Δ).lookup ("number" : Str) = some (.int n) := look_tl (by decide +kernel) hnu
    generalize ((("kind" : Str), (if 256 ≤ n then D.ref f0 else .ref e0)) :: Δ) = Δ at *
    refine R.setKey 5 (P := fun d μ' => ∃ a, d = .ref a ∧ μ a = none ∧ μ' = μ.set a (.lst (repL size [.int 0]))) (by kernel_rfl) rfl
      (EvNew.a (EvNew.mul (n := (size : Int)) (xs := [.int 0]) (Fr.ev 5 (by kernel_rfl) (by simp only [eI, eS, eN, eBin, eNeg, eCmp, eIf, eL, eSl, eXn, eXb, eXc, eXu, eXs, eCall, eM1, eM2, eB, opt2_ss, optS_s, idxV_int, evs, sized_le (ds := [.int 0]) (by simp)])) (Fr.ev 5 (by kernel_rfl) (by simp only [eI, eS, eN, eBin, eNeg, eCmp, eIf, eL, eSl, eXn, eXb, eXc, eXu, eXs, eCall, eM1, eM2, eB, opt2_ss, optS_s, idxV_int]; exact S.lsize)) (by omega) (by omega) (by simp)) fun a ha => ⟨a, rfl, ha, rfl⟩) ?_
    rintro d μ' ⟨a, rfl, ha, rfl⟩
    have off := S.off ha
    rw [show repL size [.int 0] = masksL size (noH n) from masksL_zero size]
    by_cases h256 : 256 ≤ n
    · have P := S.putF h256 off
      rw [if_pos h256] at hkd hk
      exact ⟨f0, _, nf, n, by simp only [eI, eS, eN, eBin, eNeg, eCmp, eIf, eL, eSl, eXn, eXb, eXc, eXu, eXs, eCall, eM1, eM2, eB, opt2_ss, optS_s, idxV_int, hkd], by simp only [eI, eS, eN, eBin, eNeg, eCmp, eIf, eL, eSl, eXn, eXb, eXc, eXu, eXs, eCall, eM1, eM2, eB, opt2_ss, optS_s, idxV_int, hnu], (S.set off).mf0, by omega, R.nil (hk cur (updA adr n a) ne _ _ (Nat.le_succ _) P)⟩
    · have P := S.putE (Int.not_le.mp h256) off
      rw [if_neg h256] at hkd hk
      exact ⟨e0, _, ne, n, by simp only [eI, eS, eN, eBin, eNeg, eCmp, eIf, eL, eSl, eXn, eXb, eXc, eXu, eXs, eCall, eM1, eM2, eB, opt2_ss, optS_s, idxV_int, hkd], by simp only [eI, eS, eN, eBin, eNeg, eCmp, eIf, eL, eSl, eXn, eXb, eXc, eXu, eXs, eCall, eM1, eM2, eB, opt2_ss, optS_s, idxV_int, hnu], (S.set off).me0, by omega, R.nil (hk cur (updA adr n a) (ne + 1) _ _ (Nat.le_refl _) P)⟩
end

theorem rowsOf_len (told : List Int) : (rowsOf told).1.length ≤ told.length ∧ (rowsOf told).2.length ≤ told.length := by
  have : ∀ (l : List Int) (acc : List (List Int) × List Int), (l.foldl parseR acc).1.length ≤ acc.1.length + l.length ∧ (l.foldl parseR acc).2.length ≤ acc.2.length + l.length := by
    intro l
    induction l with
    | nil => intro acc; exact ⟨Nat.le_refl _, Nat.le_refl _⟩
    | cons x l ih =>
      intro acc
      rw [List.foldl_cons, List.length_cons]
      have h := ih (parseR acc x)
      have hp : (parseR acc x).1.length ≤ acc.1.length + 1 ∧ (parseR acc x).2.length ≤ acc.2.length + 1 := by
        unfold parseR
        split
        · exact ⟨by simp, by simp⟩
        · exact ⟨by simp, by simp⟩
      exact ⟨Nat.le_trans h.1 (by rw [Nat.add_comm l.length, ← Nat.add_assoc]; exact Nat.add_le_add_right hp.1 _), Nat.le_trans h.2 (by rw [Nat.add_comm l.length, ← Nat.add_assoc]; exact Nat.add_le_add_right hp.2 _)⟩
  have h := this told ([], [])
  exact ⟨Nat.le_trans h.1 (by simp), Nat.le_trans h.2 (by simp)⟩

section
variable {W : Wd}
theorem ok_closure (T : Tp W) (TT : TokOk W) (hf : FnAt W "_law_closure" (dArgs fClos) (dBody fClos) (dScope fClos)) (k : Nat) (text : Str) (told : List Int) (ht : text.length ≤ 4) (hn : told.length ≤ 1000) (hnn : ∀ n ∈ told, 0 ≤ n ∧ n < 1000000)
    (rs : List (Int × List Int)) (hrows : (rowsOf told).1 = rs.map fun r => r.1 :: r.2) (hrs : ∀ r ∈ rs, 256 ≤ r.1 ∧ r.1 ∈ told ∧ r.2.length ≤ 1000 ∧ ∀ p ∈ r.2, p ∈ told ∧ p ≠ 0) (G : Int → Rel) (hG : iterC (text.length + 1) (edgeE text) rs 99 noH = G) :
    FnOkM W (k + 2) "_law_closure" [.str text, .list (told.map .int)] (.dct (fun q => if q ∈ told ∧ 256 ≤ q then some (.list (masksL (text.length + 1) (G q))) else none) (told.countP (256 ≤ ·))) := by
  refine fnOkM (ps := ["text", "told"]) T.b.ok hf (fnScope_of (by kernel_rfl)) rfl (fun pm code doc vs h => ?_) fun A env hA hE hsc => ?_
  · obtain ⟨v, w, rfl⟩ := len2 h; rfl
  generalize hF : (⟨W, A, [], env, k + 1, fun μ => ⟨T.b.ok, hA, tabCT T TT k _, hE, hsc⟩⟩ : Fr Φc (fun _ => Ψt) (dScope fClos)) = F
  have hR : ∀ {ss Δ μ K}, R F ss Δ μ K → Wp W A [] env ss Δ μ K := by subst hF; exact fun h => h
  refine hR ?_
  clear hR hF hA hE hsc
  have hle := line_big
  have hlen : ∀ μ, Φc μ "len" [.str text] = some (.int text.length) := fun μ => by rw [Φc_b (by decide +kernel)]; exact Φb_len_str (by omega)
  have hlt : ([("text" : Str), "told"].zip [D.str text, .list (told.map .int)]).lookup ("text" : Str) = some (.str text) := look_eq
  have hld : ([("text" : Str), "told"].zip [D.str text, .list (told.map .int)]).lookup ("told" : Str) = some (.list (told.map .int)) := look_tl (by decide +kernel) look_eq
  generalize [("text" : Str), "told"].zip [D.str text, .list (told.map .int)] = Δ at *
  -- size, rules, edges, found
  refine R.assign 8 (d := .int (text.length + 1 : Nat)) (by kernel_rfl) (by simp only [eI, eS, eN, eBin, eNeg, eCmp, eIf, eL, eSl, eXn, eXb, eXc, eXu, eXs, eCall, eM1, eM2, eB, opt2_ss, optS_s, idxV_int, evs, hlt, hlen, binD_int, aAdd, aSub, aMul, aDiv, aMod, aPow, aShl, aShr, aAnd, aOr, aXor, Option.map_some]; rfl) ?_
  refine R.made (P := fun d μ' => ∃ (r0 cur : Addr), d = .ref r0 ∧ cur ≠ r0 ∧ μ' r0 = some (.lst [.ref cur]) ∧ μ' cur = some (.lst [])) (by kernel_rfl)
    (EvA.list ⟨rfl, EvNew.a (EvNew.display .nil (by decide)) fun a0 h0 => ⟨by simp; omega, fun r0 h3 => ?_⟩⟩) ?_
  · have n : a0 ≠ r0 := fun e => by rw [e, MM.set_self] at h3; cases h3
    exact ⟨r0, a0, rfl, n, MM.set_self .., by rw [MM.set_ne n, MM.set_self]⟩
  rintro d μ₁ ⟨r0, cur, rfl, hcr, q1, q2⟩
  refine R.made (P := fun d μ' => ∃ (e0 : Addr), d = .ref e0 ∧ μ₁ e0 = none ∧ μ' = μ₁.set e0 (.dct (fun _ => none) 0)) (by kernel_rfl) (EvA.dict fun e0 h => ⟨e0, rfl, h, rfl⟩) ?_
  rintro d μ₂ ⟨e0, rfl, he0, hμ₂⟩
  refine R.made (P := fun d μ' => ∃ (f0 : Addr), d = .ref f0 ∧ μ₂ f0 = none ∧ μ' = μ₂.set f0 (.dct (fun _ => none) 0)) (by kernel_rfl) (EvA.dict fun f0 h => ⟨f0, rfl, h, rfl⟩) ?_
  rintro d μ₃ ⟨f0, rfl, hf0, hμ₃⟩
  have hef : e0 ≠ f0 := fun e => by rw [← e, hμ₂, MM.set_self] at hf0; cases hf0
  have hf0' : μ₁ f0 = none := by rw [hμ₂, MM.set_ne (Ne.symm hef)] at hf0; exact hf0
  have n1 : r0 ≠ e0 := fun e => by rw [← e, q1] at he0; cases he0
  have n2 : r0 ≠ f0 := fun e => by rw [← e, q1] at hf0'; cases hf0'
  have n3 : cur ≠ e0 := fun e => by rw [← e, q2] at he0; cases he0
  have n4 : cur ≠ f0 := fun e => by rw [← e, q2] at hf0'; cases hf0'
  have S0 : CB (text.length + 1) text r0 e0 f0 cur (fun _ => 0) [] [] [] 0 0 noH ((("found" : Str), .ref f0) :: ("edges", .ref e0) :: ("rules", .ref r0) :: ("size", .int (text.length + 1 : Nat)) :: Δ) μ₃ :=
    { lrules := look_tl (by decide +kernel) (look_tl (by decide +kernel) look_eq), ledges := look_tl (by decide +kernel) look_eq, lfound := look_eq, lsize := look_tl (by decide +kernel) (look_tl (by decide +kernel) (look_tl (by decide +kernel) look_eq)), ltext := look_tl (by decide +kernel) (look_tl (by decide +kernel) (look_tl (by decide +kernel) (look_tl (by decide +kernel) hlt))),
      mr0 := (by rw [hμ₃, hμ₂, MM.set_ne n2, MM.set_ne n1]; exact q1), mcur := (by rw [hμ₃, hμ₂, MM.set_ne n4, MM.set_ne n3]; exact q2), me0 := (by rw [hμ₃, hμ₂, MM.set_ne hef, MM.set_self]; simp), mf0 := (by rw [hμ₃, MM.set_self]; simp),
      ads := fun k hk => (by cases hk), inj := fun k hk => (by cases hk), ner := fun k hk => (by cases hk), curr := hcr, hef := hef }
  have hld : ((("found" : Str), D.ref f0) :: ("edges", .ref e0) :: ("rules", .ref r0) :: ("size", .int (text.length + 1 : Nat)) :: Δ).lookup ("told" : Str) = some (.list (told.map .int)) := look_tl (by decide +kernel) (look_tl (by decide +kernel) (look_tl (by decide +kernel) (look_tl (by decide +kernel) hld)))
  generalize ((("found" : Str), D.ref f0) :: ("edges", .ref e0) :: ("rules", .ref r0) :: ("size", .int (text.length + 1 : Nat)) :: Δ) = Δ at *
  clear hf0 he0 q1 q2 hμ₂ hμ₃ hf0' n1 n2 n3 n4 hcr hef
  -- the rules
  refine R.for_ (xs := told.map .int) (fun i Δ μ => ∃ cur adr ne, CB (text.length + 1) text r0 e0 f0 cur adr (keysOf (told.take i)) (rowsOf (told.take i)).1 (rowsOf (told.take i)).2 ne ((told.take i).countP (256 ≤ ·)) noH Δ μ ∧ ne ≤ i)
    (by kernel_rfl) ((F.cx _).iterE 5 (by kernel_rfl) (by simp only [eI, eS, eN, eBin, eNeg, eCmp, eIf, eL, eSl, eXn, eXb, eXc, eXu, eXs, eCall, eM1, eM2, eB, opt2_ss, optS_s, idxV_int]; exact hld)) ⟨cur, fun _ => 0, 0, S0, Nat.le_refl _⟩ (fun i d Δ μ P hdi hI hP => ?_) fun Δ μ hI => ?_
  · obtain ⟨cur, adr, ne, S, hne⟩ := hI
    obtain ⟨hi, rfl⟩ := mem_mapD hdi
    have hnf : (told.take i).countP (256 ≤ ·) ≤ i := Nat.le_trans (List.countP_le_length ..) (by simp; omega)
    have hrl := rowsOf_len (told.take i)
    have htl : (told.take i).length ≤ i := List.length_take_le ..
    refine cl_num (hnn _ (List.getElem_mem hi)) ⟨by omega, by omega, by omega, by omega, by omega⟩ S fun cur adr ne' Δ μ hne' S => hP Δ μ ⟨cur, adr, ne', ?_, by omega⟩
    have e1 : told.take (i + 1) = told.take i ++ [told[i]] := List.take_succ_eq_append_getElem hi
    rw [e1, rowsOf_snoc, List.countP_append]
    have e4 : keysOf (told.take i ++ [told[i]]) = keysOf (told.take i) ++ if told[i] = 0 then [] else [told[i]] := by
      unfold keysOf; rw [List.filter_append]; by_cases h0 : told[i] = 0 <;> simp [h0]
    rw [e4]
    simpa [List.countP_cons] using S
  · obtain ⟨cur, adr, ne, S, _⟩ := hI
    rw [List.length_map, List.take_length, hrows] at S
    have hrl := (rowsOf_len told).1
    rw [hrows, List.length_map] at hrl
    refine cl_all (G := G) (c := ⟨text.length + 1, text, r0, e0, f0, cur, adr, keysOf told, told, rs, (rowsOf told).2, ne, told.countP (fun x : Int => decide (256 ≤ x)), rfl, ht, (fun q => by simp [keysOf]), hnn, hrs, (by omega)⟩) S hG fun Δ μ h => ⟨f0, rfl, h⟩
end
end Mine

open PySem PySem.W PyProof.Rows
set_option Elab.async false
set_option linter.unusedVariables false
set_option linter.unusedSimpArgs false
set_option maxRecDepth 100000
namespace Mine

/-! turns that come to rest -/
section
variable {σ α : Type}
theorem foldl_or {g : σ × Int → α → σ × Int} {m : σ → Nat} {Q : σ → Prop} {l : List α} (h : ∀ x, ∀ a ∈ l, Q x.1 → Q (g x a).1 ∧ (g x a = x ∨ ((g x a).2 = 1 ∧ m x.1 < m (g x a).1))) :
    ∀ x, Q x.1 → Q (l.foldl g x).1 ∧ (l.foldl g x = x ∨ ((l.foldl g x).2 = 1 ∧ m x.1 < m (l.foldl g x).1)) := by
  induction l with
  | nil => intro x hq; exact ⟨hq, .inl rfl⟩
  | cons a l ih =>
    intro x hq
    obtain ⟨h1, h2⟩ := h x a List.mem_cons_self hq
    obtain ⟨h3, h4⟩ := ih (fun y b hb => h y b (List.mem_cons_of_mem _ hb)) (g x a) h1
    refine ⟨h3, ?_⟩
    rw [List.foldl_cons]
    rcases h2 with h2 | ⟨h2, h5⟩
    · rw [h2] at h4 ⊢; exact h4
    · rcases h4 with h4 | ⟨h4, h6⟩
      · rw [h4]; exact .inr ⟨h2, h5⟩
      · exact .inr ⟨h4, Nat.lt_trans h5 h6⟩
theorem foldl_rest {g : σ × Int → α → σ × Int} {m : σ → Nat} {Q : σ → Prop} {l : List α} (h : ∀ x, ∀ a ∈ l, Q x.1 → Q (g x a).1 ∧ (g x a = x ∨ ((g x a).2 = 1 ∧ m x.1 < m (g x a).1))) :
    ∀ x, Q x.1 → l.foldl g x = x → ∀ a ∈ l, g x a = x := by
  induction l with
  | nil => intro x hq e a ha; cases ha
  | cons a l ih =>
    intro x hq e
    obtain ⟨h1, h2⟩ := h x a List.mem_cons_self hq
    obtain ⟨h3, h4⟩ := foldl_or (fun y b hb => h y b (List.mem_cons_of_mem _ hb)) (g x a) h1
    rw [List.foldl_cons] at e
    have hx : g x a = x := by
      rcases h2 with h2 | ⟨h2, h5⟩
      · exact h2
      · rw [e] at h4
        rcases h4 with h4 | ⟨h4, h6⟩
        · exact h4.symm
        · exact absurd (Nat.lt_trans h5 h6) (Nat.lt_irrefl _)
    intro b hb
    rcases List.mem_cons.mp hb with rfl | hb
    · exact hx
    · rw [hx] at e; exact ih (fun y b hb => h y b (List.mem_cons_of_mem _ hb)) x hq e b hb

def iterG (turn : σ → σ × Int) : Nat → σ → σ
  | 0, x => x
  | n + 1, x => if (turn x).2 = 0 then (turn x).1 else iterG turn n (turn x).1
theorem iterG_fix {turn : σ → σ × Int} {m : σ → Nat} {Q : σ → Prop} {b : Nat} (ht : ∀ x, Q x → Q (turn x).1 ∧ (turn x = (x, 0) ∨ ((turn x).2 = 1 ∧ m x < m (turn x).1))) (hb : ∀ x, Q x → m x ≤ b) :
    ∀ n x, Q x → b < n + m x → turn (iterG turn n x) = (iterG turn n x, 0) ∧ Q (iterG turn n x) := by
  intro n
  induction n with
  | zero => intro x hq h; rw [Nat.zero_add] at h; exact absurd h (Nat.not_lt.mpr (hb x hq))
  | succ n ih =>
    intro x hq h
    obtain ⟨h1, h2⟩ := ht x hq
    unfold iterG
    rcases h2 with h2 | ⟨h2, h3⟩
    · rw [h2]; simp only [if_true]; exact ⟨h2, hq⟩
    · rw [if_neg (by rw [h2]; decide)]
      exact ih _ h1 (Nat.lt_of_lt_of_le h (by rw [Nat.add_assoc, Nat.add_comm 1]; exact Nat.add_le_add_left h3 n))
theorem iterG_inv {turn : σ → σ × Int} {Q : σ → Prop} (ht : ∀ x, Q x → Q (turn x).1) : ∀ n x, Q x → Q (iterG turn n x) := by
  intro n
  induction n with
  | zero => intro x h; exact h
  | succ n ih =>
    intro x h
    unfold iterG
    split
    · exact ht x h
    · exact ih _ (ht x h)
theorem foldl_inv {g : σ → α → σ} {Q : σ → Prop} {l : List α} (h : ∀ x, ∀ a ∈ l, Q x → Q (g x a)) : ∀ x, Q x → Q (l.foldl g x) := by
  induction l with
  | nil => intro x hq; exact hq
  | cons a l ih => intro x hq; exact ih (fun y b hb => h y b (List.mem_cons_of_mem _ hb)) _ (h x a List.mem_cons_self hq)
end
theorem iterS_eq (text : Str) (menu : List Str) (rules : List (Nat × List Nat)) : ∀ n M, iterS text menu rules n M = iterG (turnS text menu rules) n M := by
  intro n
  induction n with
  | zero => intro M; rfl
  | succ n ih => intro M; unfold iterS iterG; rw [ih]
theorem iterC_eq (size : Nat) (E : Int → Rel) (rows : List (Int × List Int)) : ∀ n G, iterC size E rows n G = iterG (turnC size E rows) n G := by
  intro n
  induction n with
  | zero => intro M; rfl
  | succ n ih => intro M; unfold iterC iterG; rw [ih]

/-! strings that stand in the text -/
theorem str_app (x y : Str) : (x ++ y).cps.toList = x.cps.toList ++ y.cps.toList := by
  show (x.cps ++ y.cps).toList = _
  simp
theorem str_ext {x y : Str} (h : x.cps.toList = y.cps.toList) : x = y := by
  cases x; cases y; simp only [Str.mk.injEq]; exact Array.toList_inj.mp h
theorem sub_list (x : Str) (i j : Nat) : (subS x i j).cps.toList = (x.cps.toList.drop i).take (j - i) := by simp [subS]
theorem len_list (x : Str) : x.cps.toList.length = x.length := by simp [Str.length]
theorem sub_len {x : Str} {i j : Nat} (hj : j ≤ x.length) : (subS x i j).length = j - i := by
  rw [← len_list, sub_list, List.length_take, List.length_drop, len_list]; exact Nat.min_eq_left (Nat.sub_le_sub_right hj i)
theorem sub_app {x : Str} {i m j : Nat} (h1 : i ≤ m) (h2 : m ≤ j) : subS x i m ++ subS x m j = subS x i j := by
  refine str_ext ?_
  rw [str_app, sub_list, sub_list, sub_list]
  rw [← Nat.sub_add_sub_cancel h2 h1, Nat.add_comm (j - m), List.take_add, List.drop_drop, Nat.add_sub_of_le h1]
theorem sub_split {x h t : Str} {i j : Nat} (hij : i ≤ j) (hj : j ≤ x.length) (e : subS x i j = h ++ t) : i + h.length ≤ j ∧ subS x i (i + h.length) = h ∧ subS x (i + h.length) j = t := by
  have hl := sub_len (x := x) (i := i) hj
  have e' := congrArg (fun s : Str => s.cps.toList) e
  simp only [str_app] at e'
  have hlen : (subS x i j).length = h.length + t.length := by rw [← len_list, e', List.length_append, len_list, len_list]
  have hs : j - i = h.length + t.length := hl.symm.trans hlen
  have hm : i + h.length ≤ j := by rw [← Nat.add_sub_of_le hij, hs]; exact Nat.add_le_add_left (Nat.le_add_right ..) i
  have e2 := sub_app (x := x) (i := i) (m := i + h.length) (j := j) (Nat.le_add_right ..) hm
  rw [e] at e2
  have e3 := congrArg (fun s : Str => s.cps.toList) e2
  simp only [str_app] at e3
  have l1 : (subS x i (i + h.length)).cps.toList.length = h.cps.toList.length := by rw [len_list, len_list, sub_len (Nat.le_trans hm hj)]; exact Nat.add_sub_cancel_left ..
  obtain ⟨a, b⟩ := List.append_inj e3 l1
  exact ⟨hm, str_ext a, str_ext b⟩
theorem sub_contains {x : Str} {i j : Nat} (hij : i ≤ j) (hj : j ≤ x.length) : Txt.contains x (subS x i j) = true := by
  refine contains_iff.mpr ⟨i, ?_, ?_⟩
  · rw [sub_len hj, Nat.add_sub_of_le hij]; exact hj
  · rw [sub_len hj, Nat.add_sub_of_le hij]
theorem sub_refl (x : Str) (i : Nat) : subS x i i = "" := by
  refine str_ext ?_
  rw [sub_list]
  have : ("" : Str) = ⟨#[]⟩ := by decide +kernel
  rw [this]; simp
theorem sub_empty {x : Str} {i j : Nat} (hij : i ≤ j) (hj : j ≤ x.length) : subS x i j = "" ↔ i = j := by
  constructor
  · intro e
    have := sub_len (x := x) (i := i) hj
    rw [e] at this
    have e0 : (("" : Str)).length = 0 := by decide +kernel
    exact Nat.le_antisymm hij (Nat.le_of_sub_eq_zero (this.symm.trans e0))
  · rintro rfl; exact sub_refl x i

theorem mem_foldKeep {text : Str} {w : Str} : ∀ {ws l : List Str}, w ∈ ws.foldl (keep1 text) l ↔ w ∈ l ∨ (w ∈ ws ∧ Txt.contains text w = true)
  | [], l => by simp
  | x :: ws, l => by
    rw [List.foldl_cons, mem_foldKeep]
    unfold keep1
    by_cases hc : Txt.contains text x = true ∧ x ∉ l
    · rw [if_pos hc, List.mem_append, List.mem_singleton, List.mem_cons]
      constructor
      · rintro ((h | rfl) | h)
        · exact .inl h
        · exact .inr ⟨.inl rfl, hc.1⟩
        · exact .inr ⟨.inr h.1, h.2⟩
      · rintro (h | ⟨rfl | h, h2⟩)
        · exact .inl (.inl h)
        · exact .inl (.inr rfl)
        · exact .inr ⟨h, h2⟩
    · rw [if_neg hc, List.mem_cons]
      constructor
      · rintro (h | h)
        · exact .inl h
        · exact .inr ⟨.inr h.1, h.2⟩
      · rintro (h | ⟨rfl | h, h2⟩)
        · exact .inl h
        · left
          by_cases hx : w ∈ l
          · exact hx
          · exact absurd ⟨h2, hx⟩ hc
        · exact .inr ⟨h, h2⟩
theorem mem_joinHT {text : Str} {heads tails : List Str} {w : Str} : w ∈ joinHT text heads tails ↔ Txt.contains text w = true ∧ ∃ h ∈ heads, ∃ t ∈ tails, w = h ++ t := by
  unfold joinHT
  rw [mem_foldKeep]
  unfold prodHT
  simp only [List.not_mem_nil, false_or, List.mem_flatMap, List.mem_map]
  constructor
  · rintro ⟨⟨h, hh, t, ht, rfl⟩, hc⟩; exact ⟨hc, h, hh, t, ht, rfl⟩
  · rintro ⟨hc, h, hh, t, ht, rfl⟩; exact ⟨⟨h, hh, t, ht, rfl⟩, hc⟩

/-- the places of the strings of a list -/
def corr (text : Str) (l : List Str) (s j : Nat) : Prop := s ≤ j ∧ subS text s j ∈ l

theorem stepR_iff {size : Nat} {R w : Rel} {s j : Nat} : stepR size R w s j = true ↔ ∃ m, s ≤ m ∧ m < size ∧ R s m = true ∧ w m j = true := by
  unfold stepR
  simp only [List.any_eq_true, List.mem_range, Bool.and_eq_true]
  constructor
  · rintro ⟨i, hi, h1, h2⟩; exact ⟨s + i, Nat.le_add_right .., add_sub_lt hi, h1, h2⟩
  · rintro ⟨m, h1, h2, h3, h4⟩
    have e : s + (m - s) = m := Nat.add_sub_of_le h1
    exact ⟨m - s, Nat.sub_lt_sub_right h1 h2, by rw [e]; exact h3, by rw [e]; exact h4⟩
theorem step_corr {text : Str} {R w : Rel} {heads tails : List Str} (hR : ∀ s j, s ≤ text.length → j ≤ text.length → (R s j = true ↔ corr text heads s j)) (hw : ∀ s j, s ≤ text.length → j ≤ text.length → (w s j = true ↔ corr text tails s j)) :
    ∀ s j, s ≤ text.length → j ≤ text.length → (stepR (text.length + 1) R w s j = true ↔ corr text (joinHT text heads tails) s j) := by
  intro s j hs hj
  rw [stepR_iff]
  unfold corr
  rw [mem_joinHT]
  constructor
  · rintro ⟨m, h1, h2, h3, h4⟩
    obtain ⟨_, h5⟩ := (hR s m hs (Nat.le_of_lt_succ h2)).mp h3
    obtain ⟨h6, h7⟩ := (hw m j (Nat.le_of_lt_succ h2) hj).mp h4
    exact ⟨Nat.le_trans h1 h6, sub_contains (Nat.le_trans h1 h6) hj, _, h5, _, h7, (sub_app h1 h6).symm⟩
  · rintro ⟨hsj, _, h, hh, t, ht, e⟩
    obtain ⟨h1, h2, h3⟩ := sub_split hsj hj e
    have hm := Nat.le_trans h1 hj
    refine ⟨s + h.length, Nat.le_add_right .., Nat.lt_succ_of_le hm, (hR _ _ hs hm).mpr ⟨Nat.le_add_right .., by rw [h2]; exact hh⟩, (hw _ _ hm hj).mpr ⟨h1, by rw [h3]; exact ht⟩⟩
theorem row_corr {text : Str} {ways : Int → Rel} {code : Nat → Int} {T : Nat → List Str} {ps : List Nat} (h : ∀ p ∈ ps, ∀ s j, s ≤ text.length → j ≤ text.length → (ways (code p) s j = true ↔ corr text (T p) s j)) :
    ∀ s j, s ≤ text.length → j ≤ text.length → (rowR (text.length + 1) ways (ps.map code) s j = true ↔ corr text (ps.foldl (fun heads p => joinHT text heads (T p)) [""]) s j) := by
  have key : ∀ (ps : List Nat), (∀ p ∈ ps, ∀ s j, s ≤ text.length → j ≤ text.length → (ways (code p) s j = true ↔ corr text (T p) s j)) → ∀ (R : Rel) (heads : List Str), (∀ s j, s ≤ text.length → j ≤ text.length → (R s j = true ↔ corr text heads s j)) →
      ∀ s j, s ≤ text.length → j ≤ text.length → ((ps.map code).foldl (fun R p => stepR (text.length + 1) R (ways p)) R s j = true ↔ corr text (ps.foldl (fun heads p => joinHT text heads (T p)) heads) s j) := by
    intro ps
    induction ps with
    | nil => intro _ R heads hR; exact hR
    | cons p ps ih =>
      intro hp R heads hR
      rw [List.map_cons, List.foldl_cons, List.foldl_cons]
      exact ih (fun q hq => hp q (List.mem_cons_of_mem _ hq)) _ _ (step_corr hR (hp p List.mem_cons_self))
  refine key ps h _ _ fun s j hs hj => ?_
  unfold corr
  simp only [beq_iff_eq, List.mem_singleton]
  constructor
  · rintro rfl; exact ⟨Nat.le_refl _, sub_refl _ _⟩
  · rintro ⟨h1, h2⟩; exact ((sub_empty h1 hj).mp h2).symm
theorem rowR_mono {size : Nat} {ways ways' : Int → Rel} {ps : List Int} (h : ∀ p ∈ ps, ∀ s j, s < size → j < size → ways p s j = true → ways' p s j = true) :
    ∀ s j, s < size → j < size → rowR size ways ps s j = true → rowR size ways' ps s j = true := by
  have key : ∀ (ps : List Int), (∀ p ∈ ps, ∀ s j, s < size → j < size → ways p s j = true → ways' p s j = true) → ∀ (R R' : Rel), (∀ s j, s < size → j < size → R s j = true → R' s j = true) →
      ∀ s j, s < size → j < size → ps.foldl (fun R p => stepR size R (ways p)) R s j = true → ps.foldl (fun R p => stepR size R (ways' p)) R' s j = true := by
    intro ps
    induction ps with
    | nil => intro _ R R' hR; exact hR
    | cons p ps ih =>
      intro hp R R' hR
      refine ih (fun q hq => hp q (List.mem_cons_of_mem _ hq)) _ _ fun s j hs hj hst => ?_
      rw [stepR_iff] at hst ⊢
      obtain ⟨m, h1, h2, h3, h4⟩ := hst
      exact ⟨m, h1, h2, hR s m hs h2 h3, hp p List.mem_cons_self m j h2 hj h4⟩
  exact key ps h _ _ fun s j _ _ e => e
end Mine

open PySem PySem.W PyProof.Rows
set_option Elab.async false
set_option linter.unusedVariables false
set_option linter.unusedSimpArgs false
set_option maxRecDepth 100000
namespace Mine

/-! spelled: turns -/
def mS (M : Nat → List Str) : Nat := (M 0).length + (M 1).length + (M 2).length
def setupS (text : Str) (M : Nat → List Str) : Prop := GoodM text M
theorem addOne_step {text : Str} {i : Nat} {w : Str} (hi : i < 3) (hw : Txt.contains text w = true) (x : (Nat → List Str) × Int) (hq : GoodM text x.1) : GoodM text (addOne i x w).1 ∧ (addOne i x w = x ∨ ((addOne i x w).2 = 1 ∧ mS x.1 < mS (addOne i x w).1)) := by
  refine ⟨good_addOne hq hw, ?_⟩
  unfold addOne
  split
  · exact .inl rfl
  · refine .inr ⟨rfl, ?_⟩
    unfold mS setM
    rcases lt3 hi with rfl | rfl | rfl <;> simp <;> omega
theorem addRow_step {text : Str} {menu : List Str} {r : Nat × List Nat} (hi : r.1 < 3) (x : (Nat → List Str) × Int) (hq : GoodM text x.1) : GoodM text (addRow text menu x r).1 ∧ (addRow text menu x r = x ∨ ((addRow text menu x r).2 = 1 ∧ mS x.1 < mS (addRow text menu x r).1)) :=
  foldl_or (Q := GoodM text) (m := mS) (fun y w hw hy => addOne_step hi ((good_rowHeads menu x.1 r.2).2 w hw) y hy) x hq
theorem turnS_step {text : Str} {menu : List Str} {rules : List (Nat × List Nat)} (hr : ∀ r ∈ rules, r.1 < 3) (M : Nat → List Str) (hq : GoodM text M) :
    GoodM text (turnS text menu rules M).1 ∧ (turnS text menu rules M = (M, 0) ∨ ((turnS text menu rules M).2 = 1 ∧ mS M < mS (turnS text menu rules M).1)) :=
  foldl_or (Q := GoodM text) (m := mS) (fun y r hrm hy => addRow_step (hr r hrm) y hy) (M, 0) hq
theorem closedS {text : Str} {menu : List Str} {rules : List (Nat × List Nat)} (hr : ∀ r ∈ rules, r.1 < 3) {M : Nat → List Str} (hq : GoodM text M) (h : turnS text menu rules M = (M, 0)) : ∀ r ∈ rules, ∀ w ∈ rowHeads text menu M r.2, w ∈ M r.1 := by
  intro r hrm w hw
  have h1 := foldl_rest (Q := GoodM text) (m := mS) (fun y r hrm hy => addRow_step (menu := menu) (hr r hrm) y hy) (M, 0) hq h r hrm
  have h2 := foldl_rest (Q := GoodM text) (m := mS) (fun y w hw hy => addOne_step (hr r hrm) ((good_rowHeads menu M r.2).2 w hw) y hy) (M, 0) hq h1 w hw
  unfold addOne at h2
  split at h2
  · assumption
  · have := congrArg Prod.snd h2
    simp at this
theorem iterS_rest {text : Str} (ht : text.length ≤ 4) {menu : List Str} {rules : List (Nat × List Nat)} (hr : ∀ r ∈ rules, r.1 < 3) {M' : Nat → List Str} (hM' : iterS text menu rules 99 (fun _ => []) = M') :
    GoodM text M' ∧ turnS text menu rules M' = (M', 0) := by
  rw [iterS_eq] at hM'
  have := iterG_fix (Q := GoodM text) (m := mS) (b := 75) (turnS_step (menu := menu) hr) (fun M h => by
    have h0 := (h 0 (by omega)).len ht; have h1 := (h 1 (by omega)).len ht; have h2 := (h 2 (by omega)).len ht
    unfold mS; exact Nat.add_le_add (Nat.add_le_add h0 h1) h2) 99 (fun _ => []) (fun i _ => .nil) (by omega)
  rw [hM'] at this
  exact ⟨this.2, this.1⟩

/-! closure: turns -/
theorem countP_lt {α : Type} {p q : α → Bool} {l : List α} (h : ∀ x ∈ l, p x = true → q x = true) {x : α} (hx : x ∈ l) (h1 : p x = false) (h2 : q x = true) : l.countP p < l.countP q := by
  induction l with
  | nil => cases hx
  | cons a l ih =>
    have hm : l.countP p ≤ l.countP q := List.countP_mono_left fun y hy => h y (List.mem_cons_of_mem _ hy)
    rw [List.countP_cons, List.countP_cons]
    rcases List.mem_cons.mp hx with rfl | hx
    · rw [h1, h2]; simp; omega
    · have := ih (fun y hy => h y (List.mem_cons_of_mem _ hy)) hx
      have ha := h a List.mem_cons_self
      cases hp : p a <;> cases hq : q a <;> simp [hp, hq] at ha ⊢ <;> omega
def gridC (size : Nat) : List (Nat × Nat × Nat) := (List.range 3).flatMap fun p => (List.range size).flatMap fun s => (List.range size).map fun j => (p, s, j)
theorem flat_len {α β : Type} {f : α → List β} {c : Nat} (h : ∀ a, (f a).length = c) : ∀ l : List α, (l.flatMap f).length = l.length * c
  | [] => by simp
  | a :: l => by rw [List.flatMap_cons, List.length_append, flat_len h l, h, List.length_cons, Nat.succ_mul, Nat.add_comm]
theorem gridC_len (size : Nat) (h : size ≤ 5) : (gridC size).length ≤ 75 := by
  unfold gridC
  rw [flat_len (c := size * size) fun p => by rw [flat_len (c := size) fun s => by simp]; simp]
  have : size * size ≤ 5 * 5 := Nat.mul_le_mul h h
  simp; exact Nat.mul_le_mul_left 3 this
theorem gridC_mem {size p s j : Nat} (h1 : p < 3) (h2 : s < size) (h3 : j < size) : (p, s, j) ∈ gridC size := by
  unfold gridC
  exact List.mem_flatMap.mpr ⟨p, by simpa using h1, List.mem_flatMap.mpr ⟨s, by simpa using h2, List.mem_map.mpr ⟨j, by simpa using h3, rfl⟩⟩⟩
def mC (code : Nat → Int) (size : Nat) (G : Int → Rel) : Nat := (gridC size).countP fun x => G (code x.1) x.2.1 x.2.2
theorem setR_or {G : Int → Rel} {k : Int} {s : Nat} {r : Nat → Bool} {k' : Int} {s' j : Nat} (h : ∀ j, G k s j = true → r j = true) (hg : G k' s' j = true) : setR G k s r k' s' j = true := by
  unfold setR
  split
  · rename_i e; rw [e.1, e.2] at hg; exact h j hg
  · exact hg
theorem addS_step {code : Nat → Int} {size i s : Nat} {R : Rel} (hi : i < 3) (hs : s < size) (x : (Int → Rel) × Int) : addS size (code i) R x s = x ∨ ((addS size (code i) R x s).2 = 1 ∧ mC code size x.1 < mC code size (addS size (code i) R x s).1) := by
  unfold addS
  split
  · rename_i hne
    refine .inr ⟨rfl, ?_⟩
    have hex : ∃ j, j < size ∧ R s j = true ∧ x.1 (code i) s j = false := by
      refine Classical.byContradiction fun hno => hne (bits_congr fun j hj => ?_)
      cases hr : R s j <;> cases hg : x.1 (code i) s j <;> simp
      exact hno ⟨j, hj, hr, hg⟩
    obtain ⟨j, hj, h1, h2⟩ := hex
    unfold mC
    refine countP_lt (fun y _ hy => setR_or (fun j hj => by simp [hj]) hy) (gridC_mem hi hs hj) h2 ?_
    simp [setR, h1]
  · exact .inl rfl
theorem addC_step {code : Nat → Int} {size i : Nat} {E : Int → Rel} {ps : List Int} (hi : i < 3) (x : (Int → Rel) × Int) : addC size E x (code i, ps) = x ∨ ((addC size E x (code i, ps)).2 = 1 ∧ mC code size x.1 < mC code size (addC size E x (code i, ps)).1) :=
  (foldl_or (Q := fun _ => True) (m := mC code size) (fun y s hs _ => ⟨trivial, addS_step hi (List.mem_range.mp hs) y⟩) x trivial).2
theorem turnC_step {code : Nat → Int} {size : Nat} {E : Int → Rel} {rules : List (Nat × List Nat)} (hr : ∀ r ∈ rules, r.1 < 3) (G : Int → Rel) :
    turnC size E (rules.map fun r => (code r.1, r.2.map code)) G = (G, 0) ∨ ((turnC size E (rules.map fun r => (code r.1, r.2.map code)) G).2 = 1 ∧ mC code size G < mC code size (turnC size E (rules.map fun r => (code r.1, r.2.map code)) G).1) :=
  (foldl_or (Q := fun _ => True) (m := mC code size) (fun y r hrm _ => by
    obtain ⟨r', h1, rfl⟩ := List.mem_map.mp hrm
    exact ⟨trivial, addC_step (hr r' h1) y⟩) (G, 0) trivial).2
theorem closedC {code : Nat → Int} {size : Nat} {E : Int → Rel} {rules : List (Nat × List Nat)} (hr : ∀ r ∈ rules, r.1 < 3) {G : Int → Rel} (h : turnC size E (rules.map fun r => (code r.1, r.2.map code)) G = (G, 0)) :
    ∀ r ∈ rules, ∀ s j, s < size → j < size → rowR size (waysR E G) (r.2.map code) s j = true → G (code r.1) s j = true := by
  intro r hrm s j hs hj hR
  have h1 := foldl_rest (Q := fun _ => True) (m := mC code size) (fun y r hrm _ => by
    obtain ⟨r', h1, rfl⟩ := List.mem_map.mp hrm
    exact ⟨trivial, addC_step (hr r' h1) y⟩) (G, 0) trivial h _ (List.mem_map.mpr ⟨r, hrm, rfl⟩)
  have h2 := foldl_rest (Q := fun _ => True) (m := mC code size) (fun y s hs _ => ⟨trivial, addS_step (hr r hrm) (List.mem_range.mp hs) y⟩) (G, 0) trivial h1 s (by simpa using hs)
  unfold addS at h2
  split at h2
  · have := congrArg Prod.snd h2
    simp at this
  · rename_i he
    have he : bits (fun j => G (code r.1) s j || rowR size (waysR E G) (r.2.map code) s j) size = bits (G (code r.1) s) size := Classical.not_not.mp he
    have := bits_inj he j hj
    rw [hR] at this
    simpa using this.symm
theorem iterC_rest {code : Nat → Int} {size : Nat} (hs : size ≤ 5) {E : Int → Rel} {rules : List (Nat × List Nat)} (hr : ∀ r ∈ rules, r.1 < 3) {G : Int → Rel} (hG : iterC size E (rules.map fun r => (code r.1, r.2.map code)) 99 noH = G) :
    turnC size E (rules.map fun r => (code r.1, r.2.map code)) G = (G, 0) := by
  rw [iterC_eq] at hG
  have := iterG_fix (Q := fun _ => True) (m := mC code size) (b := 75) (fun x _ => ⟨trivial, turnC_step (code := code) (size := size) (E := E) hr x⟩) (fun G _ => Nat.le_trans List.countP_le_length (gridC_len size hs)) 99 noH trivial (by omega)
  rw [hG] at this
  exact this.1

/-- what the parts' codes have to be -/
structure Codes (text : Str) (menu : List Str) (code : Nat → Int) : Prop where
  big : ∀ p < 3, 256 ≤ code p
  inj : ∀ p < 3, ∀ q < 3, code p = code q → p = q
  small : ∀ p, 3 ≤ p → p < 4 + menu.length → code p < 256 ∧ ∀ s j, s ≤ text.length → j ≤ text.length → (edgeE text (code p) s j = true ↔ corr text (tailsOf menu (fun _ => []) p) s j)

section
variable {text : Str} {menu : List Str} {code : Nat → Int} {rules : List (Nat × List Nat)}

theorem tails_big {M M' : Nat → List Str} {p : Nat} (h : 3 ≤ p) : tailsOf menu M p = tailsOf menu M' p := by
  have h' : ¬ p < 3 := by omega
  simp only [tailsOf, if_neg h']
/-- the closure's table for M -/
noncomputable def gM (text : Str) (code : Nat → Int) (M : Nat → List Str) : Int → Rel := fun k s j => @decide (∃ p < 3, code p = k ∧ corr text (M p) s j) (Classical.propDecidable _)
theorem gM_iff (hc : Codes text menu code) {M : Nat → List Str} {p : Nat} (hp : p < 3) {s j : Nat} : gM text code M (code p) s j = true ↔ corr text (M p) s j := by
  unfold gM
  rw [@decide_eq_true_iff _ (Classical.propDecidable _)]
  constructor
  · rintro ⟨q, hq, e, h⟩; rw [hc.inj q hq p hp e] at h; exact h
  · intro h; exact ⟨p, hp, rfl, h⟩
theorem ways_gM (hc : Codes text menu code) {M : Nat → List Str} {p : Nat} (hp : p < 4 + menu.length) : ∀ s j, s ≤ text.length → j ≤ text.length → (waysR (edgeE text) (gM text code M) (code p) s j = true ↔ corr text (tailsOf menu M p) s j) := by
  intro s j hs hj
  unfold waysR
  by_cases h3 : p < 3
  · have := hc.big p h3
    rw [if_neg (by omega), gM_iff hc h3]
    unfold tailsOf; rw [if_pos h3]
  · obtain ⟨h1, h2⟩ := hc.small p (by omega) hp
    rw [if_pos h1, h2 s j hs hj, tails_big (M := fun _ => []) (M' := M) (by omega)]
theorem rows_gM (hc : Codes text menu code) {M : Nat → List Str} {ps : List Nat} (hp : ∀ p ∈ ps, p < 4 + menu.length) :
    ∀ s j, s ≤ text.length → j ≤ text.length → (rowR (text.length + 1) (waysR (edgeE text) (gM text code M)) (ps.map code) s j = true ↔ corr text (rowHeads text menu M ps) s j) :=
  row_corr fun p h => ways_gM hc (hp p h)
theorem ways_mono {E : Int → Rel} {G G' : Int → Rel} {size : Nat} (h : ∀ k s j, s < size → j < size → G k s j = true → G' k s j = true) (k : Int) : ∀ s j, s < size → j < size → waysR E G k s j = true → waysR E G' k s j = true := by
  intro s j hs hj
  unfold waysR
  split
  · exact id
  · exact h k s j hs hj

/-- the two fixpoints are one -/
theorem closure_spelled (ht : text.length ≤ 4) (hc : Codes text menu code) (hr : ∀ r ∈ rules, r.1 < 3 ∧ ∀ p ∈ r.2, p < 4 + menu.length) {M' : Nat → List Str} (hM' : iterS text menu rules 99 (fun _ => []) = M')
    {G : Int → Rel} (hG : iterC (text.length + 1) (edgeE text) (rules.map fun r => (code r.1, r.2.map code)) 99 noH = G) :
    ∀ p < 3, ∀ s j, s ≤ text.length → j ≤ text.length → (G (code p) s j = true ↔ s ≤ j ∧ subS text s j ∈ M' p) := by
  obtain ⟨gd, hS⟩ := iterS_rest ht (fun r h => (hr r h).1) hM'
  have hC := iterC_rest (by omega) (fun r h => (hr r h).1) hG
  have cS := closedS (fun r h => (hr r h).1) gd hS
  have cC := closedC (fun r h => (hr r h).1) hC
  -- closure lies within spelled
  have A : ∀ k s j, s < text.length + 1 → j < text.length + 1 → G k s j = true → gM text code M' k s j = true := by
    rw [iterC_eq] at hG
    rw [← hG]
    refine iterG_inv (Q := fun G => ∀ k s j, s < text.length + 1 → j < text.length + 1 → G k s j = true → gM text code M' k s j = true) (fun x hx => ?_) 99 noH (fun k s j _ _ e => by cases e)
    refine foldl_inv (Q := fun y : (Int → Rel) × Int => ∀ k s j, s < text.length + 1 → j < text.length + 1 → y.1 k s j = true → gM text code M' k s j = true) (fun y row hrow hy => ?_) (x, 0) hx
    obtain ⟨r, hrm, rfl⟩ := List.mem_map.mp hrow
    refine foldl_inv (Q := fun y : (Int → Rel) × Int => ∀ k s j, s < text.length + 1 → j < text.length + 1 → y.1 k s j = true → gM text code M' k s j = true) (fun z s hs hz => ?_) y hy
    intro k' s' j' hs' hj' e
    unfold addS at e
    split at e
    · simp only [setR] at e
      split at e
      · rename_i he
        obtain ⟨rfl, rfl⟩ := he
        simp only [Bool.or_eq_true] at e
        rcases e with e | e
        · exact hz _ _ _ hs' hj' e
        · have e2 := rowR_mono (fun p _ => ways_mono (E := edgeE text) hy p) s' j' hs' hj' e
          obtain ⟨h1, h2⟩ := (rows_gM hc (hr r hrm).2 s' j' (by omega) (by omega)).mp e2
          exact (gM_iff hc (hr r hrm).1).mpr ⟨h1, cS r hrm _ h2⟩
      · exact hz _ _ _ hs' hj' e
    · exact hz _ _ _ hs' hj' e
  -- spelled lies within closure
  have B : ∀ p < 3, ∀ w ∈ M' p, ∀ s j, s ≤ j → j ≤ text.length → subS text s j = w → G (code p) s j = true := by
    rw [iterS_eq] at hM'
    rw [← hM']
    refine iterG_inv (Q := fun M : Nat → List Str => ∀ p < 3, ∀ w ∈ M p, ∀ s j, s ≤ j → j ≤ text.length → subS text s j = w → G (code p) s j = true) (fun x hx => ?_) 99 (fun _ => []) (fun p _ w hw => by cases hw)
    refine foldl_inv (Q := fun y : (Nat → List Str) × Int => ∀ p < 3, ∀ w ∈ y.1 p, ∀ s j, s ≤ j → j ≤ text.length → subS text s j = w → G (code p) s j = true) (fun y r hrm hy => ?_) (x, 0) hx
    refine foldl_inv (Q := fun y : (Nat → List Str) × Int => ∀ p < 3, ∀ w ∈ y.1 p, ∀ s j, s ≤ j → j ≤ text.length → subS text s j = w → G (code p) s j = true) (fun z w hw hz => ?_) y hy
    intro p hp w' hw' s j hsj hj e
    unfold addOne at hw'
    split at hw'
    · exact hz p hp w' hw' s j hsj hj e
    · simp only [setM] at hw'
      split at hw'
      · rename_i hpe
        subst hpe
        rcases List.mem_append.mp hw' with hw' | hw'
        · exact hz _ hp w' hw' s j hsj hj e
        · have : w' = w := by simpa using hw'
          subst this
          have e2 := (rows_gM hc (hr r hrm).2 s j (by omega) hj (M := y.1)).mpr ⟨hsj, by rw [e]; exact hw⟩
          refine cC r hrm s j (by omega) (by omega) (rowR_mono (fun p' _ => ways_mono (fun k s j hs hj h => ?_) p') s j (by omega) (by omega) e2)
          unfold gM at h
          rw [@decide_eq_true_iff _ (Classical.propDecidable _)] at h
          obtain ⟨q, hq, rfl, h1, h2⟩ := h
          exact hy q hq _ h2 s j h1 (by omega) rfl
      · exact hz p hp w' hw' s j hsj hj e
  intro p hp s j hs hj
  constructor
  · intro h; exact (gM_iff hc hp).mp (A _ s j (by omega) (by omega) h)
  · rintro ⟨h1, h2⟩; exact B p hp _ h2 s j h1 hj rfl
/-- a part without a rule has nothing -/
theorem closure_none {E : Int → Rel} {size : Nat} {rows : List (Int × List Int)} {k : Int} (hk : ∀ r ∈ rows, r.1 ≠ k) {G : Int → Rel} (hG : iterC size E rows 99 noH = G) : ∀ s j, G k s j = false := by
  rw [iterC_eq] at hG
  rw [← hG]
  refine iterG_inv (Q := fun G : Int → Rel => ∀ s j, G k s j = false) (fun x hx => ?_) 99 noH (fun _ _ => rfl)
  refine foldl_inv (Q := fun y : (Int → Rel) × Int => ∀ s j, y.1 k s j = false) (fun y row hrow hy => ?_) (x, 0) hx
  refine foldl_inv (Q := fun y : (Int → Rel) × Int => ∀ s j, y.1 k s j = false) (fun z s hs hz => ?_) y hy
  intro s' j'
  unfold addS
  split
  · simp only [setR]
    rw [if_neg (fun e => hk row hrow e.1.symm)]
    exact hz s' j'
  · exact hz s' j'
end
end Mine

open PySem PySem.W PyProof.Rows
set_option Elab.async false
set_option linter.unusedVariables false
set_option linter.unusedSimpArgs false
set_option maxRecDepth 100000
namespace Mine

theorem octet_form (k : Nat) (m : Int) (j : Nat) : ∃ y : Int, octet k m j = m / 64 ^ j % 64 + y * 64 ∧ y % 2 = if j > 0 then 1 else 0 := by
  unfold octet; split <;> split
  · exact ⟨3, Int.add_assoc .., rfl⟩
  · exact ⟨1, Int.add_assoc .., rfl⟩
  · exact ⟨2, Int.add_assoc .., rfl⟩
  · exact ⟨0, Int.add_assoc .., rfl⟩
theorem octet_low (k : Nat) (m : Int) (j : Nat) : octet k m j % 64 = m / 64 ^ j % 64 := by
  obtain ⟨y, e, _⟩ := octet_form k m j
  rw [e, Int.add_mul_emod_self_right]; exact Int.emod_emod_of_dvd _ (by decide)
theorem octet_high (k : Nat) (m : Int) (j : Nat) : octet k m j / 64 % 2 = if j > 0 then 1 else 0 := by
  obtain ⟨y, e, h⟩ := octet_form k m j
  rw [e, Int.add_mul_ediv_right _ _ (by decide), Int.ediv_eq_zero_of_lt (Int.emod_nonneg _ (by decide)) (Int.emod_lt_of_pos _ (by decide)), Int.zero_add]; exact h
theorem octet_go (k : Nat) (m : Int) (j : Nat) (h : 0 < j) : octet k m j / 64 % 2 = 1 := (octet_high k m j).trans (if_pos h)
theorem octet_end (k : Nat) (m : Int) : octet k m 0 / 64 % 2 = 0 := octet_high k m 0

theorem octs_cases (k : Nat) (m : Int) (h0 : 0 ≤ m) (h1 : m < 262144) : (octs k m = [octet k m 0] ∧ m < 64) ∨ (octs k m = [octet k m 1, octet k m 0] ∧ m < 4096) ∨ (octs k m = [octet k m 2, octet k m 1, octet k m 0] ∧ m < 262144) ∨
    (octs k m = [octet k m 3, octet k m 2, octet k m 1, octet k m 0] ∧ m < 262144) := by
  unfold octs
  have hk : k % 2 = 0 ∨ k % 2 = 1 := by omega
  unfold octSize
  split
  · rcases hk with hk | hk <;> rw [hk]
    · left; exact ⟨rfl, by assumption⟩
    · right; left; exact ⟨rfl, by omega⟩
  · split
    · rcases hk with hk | hk <;> rw [hk]
      · right; left; exact ⟨rfl, by assumption⟩
      · right; right; left; exact ⟨rfl, by omega⟩
    · rcases hk with hk | hk <;> rw [hk]
      · right; right; left; exact ⟨rfl, by omega⟩
      · right; right; right; exact ⟨rfl, by omega⟩

theorem pvGo_go {f : Nat} {val b c : Int} {r : List Int} {n : Nat} (h : b / 64 % 2 = 1) : pvGo (f + 1) val b (c :: r) n = pvGo f (val * 64 + c % 64) c r (n + 1) := if_pos h
theorem pvGo_end {f : Nat} {val b : Int} {r : List Int} {n : Nat} (h : b / 64 % 2 = 0) : pvGo (f + 1) val b r n = .val val n := if_neg (by omega)
theorem low0 (k : Nat) (m : Int) : octet k m 0 % 64 = m % 64 := (octet_low k m 0).trans (by simp)
theorem low1 (k : Nat) (m : Int) : octet k m 1 % 64 = m / 64 % 64 := (octet_low k m 1).trans (by simp)
theorem low2 (k : Nat) (m : Int) : octet k m 2 % 64 = m / 4096 % 64 := (octet_low k m 2).trans rfl
theorem low3 (k : Nat) (m : Int) : octet k m 3 % 64 = m / 262144 % 64 := (octet_low k m 3).trans rfl
theorem m_one {m : Int} (h0 : 0 ≤ m) (h1 : m < 64) : m % 64 = m := Int.emod_eq_of_lt h0 h1
theorem dm64 (m : Int) : m / 64 * 64 + m % 64 = m := Int.ediv_mul_add_emod m 64
theorem div_ge {m : Int} (h0 : 0 ≤ m) : 0 ≤ m / 64 := Int.ediv_nonneg h0 (by decide)
theorem m_two {m : Int} (h0 : 0 ≤ m) (h1 : m < 4096) : m / 64 % 64 * 64 + m % 64 = m := by
  rw [Int.emod_eq_of_lt (div_ge h0) (Int.ediv_lt_of_lt_mul (by decide) h1)]; exact dm64 m
theorem d4096 (m : Int) : m / 4096 = m / 64 / 64 := (Int.ediv_ediv_of_nonneg (by decide) : m / 64 / 64 = m / (64 * 64)).symm
theorem m_three {m : Int} (h0 : 0 ≤ m) (h1 : m < 262144) : (m / 4096 % 64 * 64 + m / 64 % 64) * 64 + m % 64 = m := by
  rw [d4096, m_two (div_ge h0) (Int.ediv_lt_of_lt_mul (by decide) h1)]; exact dm64 m
theorem m_four {m : Int} (h0 : 0 ≤ m) (h1 : m < 262144) : ((m / 262144 % 64 * 64 + m / 4096 % 64) * 64 + m / 64 % 64) * 64 + m % 64 = m := by
  rw [Int.ediv_eq_zero_of_lt h0 h1]; exact (congrArg (fun x => (x * 64 + m / 64 % 64) * 64 + m % 64) (Int.zero_add _)).trans (m_three h0 h1)

theorem pv_octs (k : Nat) (m : Int) (h0 : 0 ≤ m) (h1 : m < 262144) (rest : List Int) : pv (octs k m ++ rest) = .val m (octs k m).length := by
  have g1 := octet_go k m 1 (by decide); have g2 := octet_go k m 2 (by decide); have g3 := octet_go k m 3 (by decide)
  have g0 := octet_end k m
  rcases octs_cases k m h0 h1 with ⟨e, hm⟩ | ⟨e, hm⟩ | ⟨e, hm⟩ | ⟨e, hm⟩ <;> rw [e]
  · exact (pvGo_end g0).trans (congrArg (PV.val · 1) (by rw [low0]; exact m_one h0 hm))
  · exact (pvGo_go g1).trans ((pvGo_end g0).trans (congrArg (PV.val · 2) (by rw [low0, low1]; exact m_two h0 hm)))
  · exact (pvGo_go g2).trans ((pvGo_go g1).trans ((pvGo_end g0).trans (congrArg (PV.val · 3) (by rw [low0, low1, low2]; exact m_three h0 hm))))
  · exact (pvGo_go g3).trans ((pvGo_go g2).trans ((pvGo_go g1).trans ((pvGo_end g0).trans (congrArg (PV.val · 4) (by rw [low0, low1, low2, low3]; exact m_four h0 hm)))))
theorem pv_cut (k : Nat) (m : Int) (h0 : 0 ≤ m) (h1 : m < 262144) : pv (octs k m).dropLast = .stop := by
  have g1 := octet_go k m 1 (by decide); have g2 := octet_go k m 2 (by decide); have g3 := octet_go k m 3 (by decide)
  rcases octs_cases k m h0 h1 with ⟨e, hm⟩ | ⟨e, hm⟩ | ⟨e, hm⟩ | ⟨e, hm⟩ <;> rw [e] <;> simp [pv, pvGo, g1, g2, g3]

def octsFrom (k : Nat) : List Int → List Int
  | [] => []
  | m :: r => octs k m ++ octsFrom (k + 1) r
theorem octsFrom_eq : ∀ (ns : List Int) (k : Nat), (List.range ns.length).flatMap (fun i => octs (k + i) (ns.getD i 0)) = octsFrom k ns
  | [], k => rfl
  | m :: r, k => by
    rw [List.length_cons, List.range_succ_eq_map, List.flatMap_cons, octsFrom, ← octsFrom_eq r (k + 1)]
    congr 1
    rw [List.flatMap_map]
    congr 1; funext i
    show octs (k + (i + 1)) ((m :: r).getD (i + 1) 0) = _
    rw [List.getD_cons_succ]
    congr 1; omega
theorem octsTo_from (ns : List Int) : octsTo ns.length ns = octsFrom 0 ns := by
  rw [← octsFrom_eq]; unfold octsTo; congr 1; funext i; rw [Nat.zero_add]
theorem reads_from : ∀ (ns : List Int) (k : Nat) (rest : List Int), (∀ m ∈ ns, 0 ≤ m ∧ m < 262144) → pv rest = .stop → readsTo (octsFrom k ns ++ rest) ns
  | [], k, rest, _, h => by
    show readsTo rest []
    unfold readsTo; exact h
  | m :: r, k, rest, hb, h => by
    have hm := hb m List.mem_cons_self
    unfold readsTo
    refine ⟨(octs k m).length, ?_, ?_⟩
    · rw [octsFrom, List.append_assoc]; exact pv_octs k m hm.1 hm.2 _
    · rw [octsFrom, List.append_assoc, List.drop_left]
      exact reads_from r (k + 1) rest (fun x hx => hb x (List.mem_cons_of_mem _ hx)) h
/-- what was written is read -/
theorem reads_octs (ns : List Int) (hb : ∀ m ∈ ns, 0 ≤ m ∧ m < 262144) : readsTo (octsTo ns.length ns) ns := by
  have := reads_from ns 0 [] hb rfl
  rw [List.append_nil] at this
  rw [octsTo_from]; exact this
theorem octsFrom_snoc : ∀ (ns : List Int) (k : Nat) (m : Int), octsFrom k (ns ++ [m]) = octsFrom k ns ++ octs (k + ns.length) m
  | [], k, m => by simp [octsFrom]
  | x :: r, k, m => by
    rw [List.cons_append, octsFrom, octsFrom_snoc r, octsFrom, List.append_assoc, List.length_cons]
    congr 3; omega
/-- the last octet taken off: the last number is not read -/
theorem reads_cut (ns : List Int) (m : Int) (hb : ∀ m ∈ ns, 0 ≤ m ∧ m < 262144) (h0 : 0 ≤ m) (h1 : m < 262144) : readsTo (octsTo (ns ++ [m]).length (ns ++ [m])).dropLast ns := by
  rw [octsTo_from, octsFrom_snoc]
  have hne : octs (0 + ns.length) m ≠ [] := by
    rcases octs_cases (0 + ns.length) m h0 h1 with ⟨e, _⟩ | ⟨e, _⟩ | ⟨e, _⟩ | ⟨e, _⟩ <;> rw [e] <;> simp
  rw [List.dropLast_append_of_ne_nil hne]
  exact reads_from ns 0 _ hb (pv_cut _ m h0 h1)
end Mine

open PySem PySem.W PyProof.Rows
set_option Elab.async false
set_option linter.unusedVariables false
set_option linter.unusedSimpArgs false
set_option maxRecDepth 100000
namespace Mine

def pow2s (l : List Nat) : Int := (l.map fun (k : Nat) => (2 : Int) ^ k).sum
theorem pow2s_app (a b : List Nat) : pow2s (a ++ b) = pow2s a + pow2s b := by simp [pow2s, List.sum_append]
theorem bits_sum (P : Nat → Bool) : ∀ n, pow2s ((List.range n).filter P) = bits P n
  | 0 => rfl
  | n + 1 => by
    rw [List.range_succ, List.filter_append, pow2s_app, bits_sum P n, bits]
    cases h : P n <;> simp [h, pow2s]
theorem bits_split (P : Nat → Bool) (a : Nat) : ∀ b, bits P (a + b) = bits P a + bits (fun j => P (a + j)) b * 2 ^ a
  | 0 => by simp [bits]
  | b + 1 => by
    rw [← Nat.add_assoc, bits, bits_split P a b, bits, Int.add_mul, Int.add_assoc]
    congr 2
    cases h : P (a + b)
    · simp
    · simp only [if_true]; rw [Int.pow_add, Int.mul_comm]
/-- numbers below 2^a do not reach above it -/
theorem bits_div (P : Nat → Bool) (a b : Nat) : bits P (a + b) / 2 ^ a = bits (fun j => P (a + j)) b := by
  obtain ⟨h1, h2⟩ := bits_range P a
  rw [bits_split, Int.add_mul_ediv_right _ _ (Int.ne_of_gt (pow_pos' a)), Int.ediv_eq_zero_of_lt h1 h2, Int.zero_add]
theorem filter_lt (P : Nat → Bool) (a : Nat) : ∀ b, ((List.range (a + b)).filter P).filter (· < a) = (List.range a).filter P
  | 0 => by
    rw [Nat.add_zero, List.filter_eq_self.mpr]
    intro k hk
    have := (List.mem_filter.mp hk).1
    simpa using this
  | b + 1 => by
    rw [← Nat.add_assoc, List.range_succ, List.filter_append, List.filter_append, filter_lt P a b]
    cases h : P (a + b) <;> simp [h]
theorem pow2s_gt (P : Nat → Bool) (a : Nat) : ∀ b, pow2s (((List.range (a + 1 + b)).filter P).filter (a < ·)) = bits (fun j => P (a + 1 + j)) b * 2 ^ (a + 1)
  | 0 => by
    have : ((List.range (a + 1 + 0)).filter P).filter (a < ·) = [] := by
      rw [List.filter_eq_nil_iff]
      intro k hk
      have := (List.mem_filter.mp hk).1
      simp at this ⊢; omega
    rw [this]; simp [pow2s, bits]
  | b + 1 => by
    rw [← Nat.add_assoc, List.range_succ, List.filter_append, List.filter_append, pow2s_app, pow2s_gt P a b, bits, Int.add_mul]
    congr 1
    cases h : P (a + 1 + b)
    · simp [h, pow2s]
    · have h' : a < a + 1 + b := Nat.lt_of_lt_of_le (Nat.lt_succ_self a) (Nat.le_add_right ..)
      simp [h, pow2s, h']
      rw [Int.pow_add, Int.mul_comm]
theorem neg_div (x : Int) (k : Nat) : (-1 - x) / 2 ^ k = -1 - x / 2 ^ k := by
  have hp := pow_pos' k
  generalize (2 : Int) ^ k = p at hp
  have h1 := Int.mul_ediv_add_emod x p
  have h2 := Int.emod_nonneg x (Int.ne_of_gt hp)
  have h3 := Int.emod_lt_of_pos x hp
  have e : -1 - x = (p - 1 - x % p) + (-1 - x / p) * p := by
    rw [Int.sub_mul, Int.mul_comm (x / p) p]
    omega
  rw [e, Int.add_mul_ediv_right _ _ (Int.ne_of_gt hp), Int.ediv_eq_zero_of_lt (by omega) (by omega), Int.zero_add]

theorem bitsTo_bits (P : Nat → Bool) (N : Nat) (h : 32 ≤ N) : bitsTo 32 (bits P N) = (List.range 32).filter P := by
  unfold bitsTo
  refine List.filter_congr fun k hk => ?_
  have hk' : k < 32 := by simpa using hk
  rw [bits_get]
  have : k < N := Nat.lt_of_lt_of_le hk' h
  cases hp : P k <;> simp [this, hp]
theorem bitsTo_neg (P : Nat → Bool) (N : Nat) (h : 32 ≤ N) : bitsTo 32 (-1 - bits P N) = (List.range 32).filter (fun k => !P k) := by
  unfold bitsTo
  refine List.filter_congr fun k hk => ?_
  have hk' : k < 32 := by simpa using hk
  have hg := bits_get P N k
  have hkN : k < N := Nat.lt_of_lt_of_le hk' h
  rw [neg_div]
  generalize bits P N / 2 ^ k = q at hg
  cases hp : P k
  · simp [hp] at hg
    simp; omega
  · simp [hp, hkN] at hg
    simp; omega

/-- flags' words -/
theorem pretty_bits (P : Nat → Bool) (N : Nat) (h : 32 ≤ N) : prettyS (bits P N) = Txt.join ", " (wordsL (((List.range N).filter P).filter (· < 32)) (pow2s (((List.range N).filter P).filter (31 < ·)))) := by
  obtain ⟨b, rfl⟩ := Nat.exists_eq_add_of_le h
  unfold prettyS
  have e1 := bitsTo_bits P (32 + b) h
  have e2 : clr 32 (bits P (32 + b)) = pow2s (((List.range (32 + b)).filter P).filter (31 < ·)) := by
    have := pow2s_gt P 31 b
    unfold clr
    rw [bits_div]
    exact this.symm
  rw [e1, e2, filter_lt P 32 b]
theorem pretty_neg (P : Nat → Bool) (N : Nat) (h : 32 ≤ N) : prettyS (-1 - bits P N) = Txt.join ", " (wordsL ((List.range 32).filter fun k => decide (k ∉ (List.range N).filter P)) (-4294967296 - pow2s (((List.range N).filter P).filter (31 < ·)))) := by
  obtain ⟨b, rfl⟩ := Nat.exists_eq_add_of_le h
  unfold prettyS
  have e1 := bitsTo_neg P (32 + b) h
  have e2 : clr 32 (-1 - bits P (32 + b)) = -4294967296 - pow2s (((List.range (32 + b)).filter P).filter (31 < ·)) := by
    have := pow2s_gt P 31 b
    unfold clr
    rw [neg_div, bits_div]
    have e : pow2s (((List.range (32 + b)).filter P).filter (31 < ·)) = bits (fun j => P (32 + j)) b * 2 ^ 32 := this
    rw [e, Int.sub_mul]
    rfl
  rw [e1, e2]
  congr 2
  refine List.filter_congr fun k hk => ?_
  have hk' : k < 32 := by simpa using hk
  have : k < 32 + b := Nat.lt_of_lt_of_le hk' h
  cases hp : P k <;> simp [hp, this]

/-- r, low places up -/
def upP (low size : Nat) (r : Nat → Bool) : Nat → Bool := fun k => decide (low ≤ k) && decide (k < low + size) && r (k - low)
theorem bits_none' {P : Nat → Bool} : ∀ {n : Nat}, (∀ j < n, P j = false) → bits P n = 0 := fun h => by
  rw [bits_congr (q := fun _ => false) h, bits_none]
theorem bits_up (low size N : Nat) (r : Nat → Bool) (h : low + size ≤ N) : bits (upP low size r) N = bits r size * 2 ^ low := by
  obtain ⟨b, rfl⟩ := Nat.exists_eq_add_of_le h
  rw [Nat.add_assoc low size b]
  rw [bits_split, bits_split]
  have e1 : bits (upP low size r) low = 0 := bits_none' fun j hj => by unfold upP; simp; omega
  have e2 : bits (fun j => upP low size r (low + j)) size = bits r size := bits_congr fun j hj => by
    unfold upP
    have : low + j < low + size := Nat.add_lt_add_left hj low
    simp [hj]
  have e3 : bits (fun j => upP low size r (low + (size + j))) b = 0 := bits_none' fun j hj => by unfold upP; simp; omega
  rw [e1, e2, e3]; simp
theorem ends_up (low size N : Nat) (r : Nat → Bool) (h : low + size ≤ N) : (List.range N).filter (upP low size r) = ((List.range size).filter r).map (low + ·) := by
  obtain ⟨b, rfl⟩ := Nat.exists_eq_add_of_le h
  rw [Nat.add_assoc low size b]
  rw [List.range_add, List.filter_append, List.range_add, List.map_append, List.filter_append]
  have e1 : (List.range low).filter (upP low size r) = [] := by
    rw [List.filter_eq_nil_iff]; intro k hk; have : k < low := by simpa using hk
    unfold upP; simp; omega
  have e3 : (((List.range b).map (size + ·)).map (low + ·)).filter (upP low size r) = [] := by
    rw [List.filter_eq_nil_iff]; intro k hk
    simp at hk
    obtain ⟨j, _, rfl⟩ := hk
    unfold upP; simp; omega
  rw [e1, e3, List.nil_append, List.append_nil, List.filter_map]
  congr 1
  refine List.filter_congr fun k hk => ?_
  have hk' : k < size := by simpa using hk
  unfold upP; simp [hk']
end Mine

open PySem PySem.W PyProof.Rows
set_option Elab.async false
set_option linter.unusedVariables false
set_option linter.unusedSimpArgs false
set_option maxRecDepth 100000
namespace Mine

/-- the operators in the order of their numbers -/
def tableL : List Str := (["(", ")", "[", "]", ":", ",", ";", "+", "-", "*", "/", "|", "&", "<", ">", "=", ".", "%", "{", "}", "==", "!=", "<=", ">=", "~", "^", "<<", ">>", "**", "+=", "-=", "*=", "/=", "%=", "&=", "|=", "^=", "<<=", ">>=", "**=", "//", "//=", "@", "@=", "->", "...", ":=", "!"] : List String).map Str.ofString
theorem tableL_len : tableL.length = 48 := rfl

def tokL : List (Str × Int) := tokD.filterMap fun p => match p with
  | (.str x, .int i) => some (x, i)
  | _ => none
theorem tok_table : ∀ i < 48, tok (tableL.getD i "") = 7 + i := by decide +kernel
def tokB (p : PyData × PyData) : Bool := match p with
  | (.str x, .int n) => decide (7 ≤ n ∧ n < 55) && x == tableL.getD (n - 7).toNat ""
  | _ => false
theorem tokD_all : tokD.all tokB = true := by decide +kernel
theorem tokD_mem : ∀ p ∈ tokD, ∃ i, i < 48 ∧ p = (.str (tableL.getD i ""), .int (7 + (i : Nat))) := by
  intro p hp
  have h := List.all_eq_true.mp tokD_all p hp
  unfold tokB at h
  split at h
  · rename_i x n
    simp only [Bool.and_eq_true, decide_eq_true_eq, beq_iff_eq] at h
    obtain ⟨⟨h1, h2⟩, h3⟩ := h
    have h0 : 0 ≤ n - 7 := Int.sub_nonneg.mpr h1
    refine ⟨(n - 7).toNat, (Int.toNat_lt h0).mpr (Int.sub_lt_sub_right h2 7), ?_⟩
    rw [h3, Int.toNat_of_nonneg h0, Int.add_comm 7, Int.sub_add_cancel]
  · cases h
theorem same_str {a b : Str} (h : PySem.Spec.same (.str a) (.str b) = true) : a = b := by
  simpa [PySem.Spec.same] using h
theorem tok_mem (x : Str) : tok x = 0 ∨ ∃ i, i < 48 ∧ x = tableL.getD i "" ∧ tok x = 7 + (i : Nat) := by
  have hl : ∀ (D : List (PyData × PyData)), (∀ p ∈ D, ∃ i, i < 48 ∧ p = (PyData.str (tableL.getD i ""), PyData.int (7 + (i : Nat)))) → ∀ d, PySem.Spec.lookup (.str x) D = some d → ∃ i, i < 48 ∧ x = tableL.getD i "" ∧ d = .int (7 + (i : Nat)) := by
    intro D
    induction D with
    | nil => intro _ d h; simp [PySem.Spec.lookup] at h
    | cons p D ih =>
      intro hp d h
      obtain ⟨a, b⟩ := p
      unfold PySem.Spec.lookup at h
      split at h
      · rename_i hs
        obtain ⟨i, hi, e⟩ := hp _ List.mem_cons_self
        cases e; cases h
        exact ⟨i, hi, (same_str hs).symm, rfl⟩
      · exact ih (fun q hq => hp q (List.mem_cons_of_mem _ hq)) d h
  cases e : PySem.Spec.lookup (.str x) tokD with
  | none => left; unfold tok; rw [e]
  | some d =>
    obtain ⟨i, hi, hx, rfl⟩ := hl _ tokD_mem d e
    right
    exact ⟨i, hi, hx, by unfold tok; rw [e]⟩
/-- a number of the table is one word's -/
theorem tok_iff {x : Str} {i : Nat} (hi : i < 48) : tok x = 7 + (i : Nat) ↔ x = tableL.getD i "" := by
  constructor
  · intro h
    rcases tok_mem x with h0 | ⟨j, hj, hx, h1⟩
    · omega
    · have : i = j := Int.ofNat.inj (Int.add_left_cancel (h.symm.trans h1))
      subst this; exact hx
  · rintro rfl; exact tok_table i hi
end Mine

open PySem PySem.W PyProof.Rows
set_option Elab.async false
set_option linter.unusedVariables false
set_option linter.unusedSimpArgs false
set_option maxRecDepth 100000
namespace Mine
abbrev fLaw : Stmt := sAt top 65

/-- one more call that is known -/
noncomputable def Φone (f0 : Str) (args : List D) (d : D) (Φ : Str → List D → Option D) : Str → List D → Option D := fun f ds => if f = f0 then @ite _ (ds = args) (Classical.propDecidable _) (some d) none else Φ f ds
section
variable {W : Wd} {k : Nat} {μ : MM} {Φ Ψ : Str → List D → Option D}
theorem tabOne {f0 : Str} {args : List D} {d : D} (h : TabOk W k μ Φ Ψ) (hf : FnOk W k μ f0 args d) : TabOk W k μ (Φone f0 args d Φ) Ψ :=
  h.fn' (f := f0) (g := fun ds => @ite _ (ds = args) (Classical.propDecidable _) (some d) none) fun ds d' e => by
    split at e
    · cases e; subst_vars; exact hf
    · cases e
theorem Φone_self {f0 : Str} {args : List D} {d : D} : Φone f0 args d Φ f0 args = some d := by simp [Φone]
theorem Φone_ne {f f0 : Str} {args : List D} {d : D} {ds : List D} (h : f ≠ f0) : Φone f0 args d Φ f ds = Φ f ds := by simp [Φone, h]
end

theorem pickL_map {α β : Type} (f : α → β) (l : List α) (lo hi st : Option Int) : pickL (l.map f) lo hi st = (pickL l lo hi st).map f := by
  unfold pickL
  rw [List.length_map]
  generalize sliceRange _ _ _ = is
  induction is with
  | nil => rfl
  | cons i is ih =>
    rw [List.filterMap_cons, List.filterMap_cons, ih, List.getElem?_map]
    cases l[i]? <;> simp
theorem filterMap_len {α β : Type} (f : α → Option β) (l : List α) : (l.filterMap f).length ≤ l.length := List.length_filterMap_le f l
theorem pickL_step_len {α : Type} (l : List α) (i : Nat) : (pickL l (some (i : Int)) (some 60) (some 9)).length ≤ l.length := by
  unfold pickL
  refine Nat.le_trans (filterMap_len _ _) (sliceRange_length_le _ _ _ _ (fun _ => ?_) (fun h => absurd (by simp [sliceBounds]) h))
  simp only [sliceBounds, Option.getD_some]
  split <;> constructor <;> omega
theorem sum_bound {B : Int} : ∀ {l : List Int}, (∀ x ∈ l, 0 ≤ x ∧ x ≤ B) → 0 ≤ l.sum ∧ l.sum ≤ B * l.length
  | [], _ => by simp
  | x :: l, h => by
    have ih := sum_bound (l := l) fun y hy => h y (List.mem_cons_of_mem _ hy)
    have hx := h x List.mem_cons_self
    rw [List.sum_cons, List.length_cons]
    have : B * ((l.length + 1 : Nat) : Int) = B * l.length + B := by rw [Int.natCast_add, Int.mul_add]; simp
    omega

def firsts : List Int := [28, 15, 9, 114, 300, 271, 319, 53, 2291]
def cellAt (script : List Int) (i : Nat) : Int := firsts.getD i 0 + ((pickL script (some (i : Int)) (some 60) (some 9)).map (· % 1000000)).sum
theorem cellAt_bound (script : List Int) (h : script.length ≤ 63) (i : Nat) : 0 ≤ cellAt script i ∧ cellAt script i < 100000000 := by
  have hf : ∀ i, 0 ≤ firsts.getD i 0 ∧ firsts.getD i 0 ≤ 2291 := by
    intro i
    by_cases hi : i < 9
    · have : ∀ i < 9, 0 ≤ firsts.getD i 0 ∧ firsts.getD i 0 ≤ 2291 := by decide
      exact this i hi
    · have : firsts.getD i 0 = 0 := by
        rw [List.getD_eq_getElem?_getD, List.getElem?_eq_none (by show 9 ≤ i; omega)]; rfl
      omega
  have h1 := hf i
  have h2 := sum_bound (B := 999999) (l := (pickL script (some (i : Int)) (some 60) (some 9)).map (· % 1000000)) fun x hx => by
    obtain ⟨y, _, rfl⟩ := List.mem_map.mp hx; omega
  have h3 := pickL_step_len script i
  rw [List.length_map] at h2
  unfold cellAt
  omega

/-! what the law makes of its cells -/
def textOf (cs : List Int) : Str := Txt.slice (Txt.join "" ((cs.take 3).map fun c => tableL.getD (c % 48).toNat "")) none (some 4)
def menuOf (text : Str) : List Str := tableL.filter fun w => Txt.contains text w
def rulesOf (cs : List Int) (wide : Nat) : List (Nat × List Nat) := (cs.drop 3).map fun c => ((c % 3).toNat, (List.range (c / 3 % 4).toNat).map fun k => (c / 12 / (wide : Int) ^ k % wide).toNat)
def codesOf (total : Int) (menu : List Str) : List Int := [256, 257 + total % 2500, 258 + total % 2500 * 2, 255 - total % 200] ++ menu.map tok
def codeAt (codes : List Int) (p : Nat) : Int := codes.getD p 0
def rowN (codes : List Int) (r : Nat × List Nat) : List Int := (r.1 :: r.2).map (codeAt codes) ++ [0]
def numbersOf (codes : List Int) (rules : List (Nat × List Nat)) : List Int := rules.flatMap (rowN codes)

abbrev tableT : Str := "( ) [ ] : , ; + - * / | & < > = . % { } == != <= >= ~ ^ << >> ** += -= *= /= %= &= |= ^= <<= >>= **= // //= @ @= -> ... := !"
theorem tableT_split : Txt.split tableT " " = tableL := by decide +kernel
theorem tableT_len : tableT.length ≤ 200 := by decide +kernel
theorem tableP_len : (Builtin.Str.partsBetween tableT (Builtin.Str.occurrences tableT " " 0 tableT.length (tableT.length + 1)) (" " : Str).length).length = 48 := by decide +kernel
theorem tableF : ((" " : Str).length == 0) = false ∧ tableT.length ≤ sizeLine ∧ (Builtin.Str.partsBetween tableT (Builtin.Str.occurrences tableT " " 0 tableT.length (tableT.length + 1)) (" " : Str).length).length ≤ sizeLine := by
  have hle : sizeLine = 16777216 := by decide
  have h1 := tableT_len
  have h2 := tableP_len
  exact ⟨by decide +kernel, by omega, by omega⟩
theorem tableL_small : ∀ w ∈ tableL, 1 ≤ w.length ∧ w.length ≤ 3 ∧ PyData.strOk w = true := by
  have : tableL.all (fun w => decide (1 ≤ w.length) && decide (w.length ≤ 3) && PyData.strOk w) = true := by decide +kernel
  intro w hw
  have h := List.all_eq_true.mp this w hw
  simpa [and_assoc] using h
theorem tableL_nodup : tableL.Nodup := by decide +kernel
end Mine

open PySem PySem.W PyProof.Rows
set_option Elab.async false
set_option linter.unusedVariables false
set_option linter.unusedSimpArgs false
set_option maxRecDepth 100000
namespace Mine

structure L1 (text : Str) (menu : List Str) (rules : List (Nat × List Nat)) (codes : List Int) (total : Int) (Δ : Ctx) : Prop where
  ltext : Δ.lookup ("text" : Str) = some (.str text)
  lmenu : Δ.lookup ("menu" : Str) = some (.list (menu.map .str))
  lrules : Δ.lookup ("rules" : Str) = some (.list (rules.map rowD))
  lcodes : Δ.lookup ("codes" : Str) = some (.list (codes.map .int))
  ltotal : Δ.lookup ("total" : Str) = some (.int total)
  lint : Δ.lookup ("int" : Str) = some (.ty "int")
  lbool : Δ.lookup ("bool" : Str) = some (.ty "bool")
theorem L1.cons {text : Str} {menu : List Str} {rules : List (Nat × List Nat)} {codes : List Int} {total : Int} {Δ : Ctx} (S : L1 text menu rules codes total Δ) {x : Str} {d : D}
    (hx : offN [("text" : Str), "menu", "rules", "codes", "total", "int", "bool"] x = true) : L1 text menu rules codes total ((x, d) :: Δ) :=
  ⟨look_off hx (by decide +kernel) S.ltext, look_off hx (by decide +kernel) S.lmenu, look_off hx (by decide +kernel) S.lrules, look_off hx (by decide +kernel) S.lcodes, look_off hx (by decide +kernel) S.ltotal, look_off hx (by decide +kernel) S.lint, look_off hx (by decide +kernel) S.lbool⟩

theorem tableL_tok : ∀ w ∈ tableL, (7 : Int) + (tableL.idxOf w : Nat) = tok w := by
  intro w hw
  obtain ⟨h1, h2, _⟩ := idxOf_facts hw
  have := tok_table (tableL.idxOf w) h1
  rw [List.getD_eq_getElem?_getD, h2] at this
  exact this.symm
theorem strLen_slice {x : Str} {n : Nat} : (Txt.slice x none (some (n : Int))).length ≤ n := by
  have hlen : (Builtin.Str.strSliceIndices none (some (n : Int)) 1 x.length).length ≤ n := by
    rw [strIdx_eq, sliceBounds_plain]
    simp only [sliceRange_one, Option.elim_some, Option.elim_none, clipAt_nat]
    simp; omega
  unfold Txt.slice
  split
  · rename_i h
    have h : (Builtin.Str.strSliceIndices none (some (n : Int)) 1 x.length).length = x.length := by simpa using h
    omega
  · refine Nat.le_trans ?_ hlen
    simp only [Str.length, List.size_toArray]
    exact filterMap_len _ _


section
variable {W : Wd} {A : Around} {env : Env} {K : Out → Ctx → MM → Prop} {k : Nat}

theorem Cx.inner {μ : MM} {Φ Ψ : Str → List D → Option D} {sc scope : Scope} {Δ : Ctx} (C : Cx W A env μ Φ Ψ k sc) (n : Nat) {e : Expr} {d : D} (ok : okE n (innerN scope sc.names) e = true) (h : evD Φ Ψ μ n e Δ = some d) {cenv : Env} (hin : In W env scope cenv) :
    Ev W A cenv Δ μ e d := by
  have hin2 : cenv.scope.names = innerN scope sc.names := by rw [hin.sc, ← C.sc]; exact innerN_eq C.eok.kind
  exact (sound C.ok C.good C.tab n).1 e Δ d cenv hin.eok (by rw [hin2]; exact ok) h
end

/-! the head's names, in the order in which they come, and what they hold -/
section
variable {Φ Ψ : Str → List D → Option D} {μ : MM} {Δ : Ctx} {n : Nat}
theorem partN {f : Expr → Option D} : partI f none = some none := rfl
theorem partC {i : Int} {a : Nat} {p : Pos} : partI (fun e => evD Φ Ψ μ (n + 1) e Δ) (some (.Constant (.int i) a p)) = some (some i) := rfl
end
def nmL : Nat → Str
  | 0 => "int" | 1 => "bool" | 2 => "cells" | 3 => "total" | 4 => "table" | 5 => "text" | 6 => "menu" | 7 => "wide" | 8 => "rules" | 9 => "codes" | _ => "numbers"
def wideOf (cs : List Int) : Nat := (menuOf (textOf cs)).length + 4
def vlL (cs : List Int) : Nat → D
  | 0 => .ty "int" | 1 => .ty "bool" | 2 => .list (cs.map .int) | 3 => .int cs.sum | 4 => .list (tableL.map .str) | 5 => .str (textOf cs) | 6 => .list ((menuOf (textOf cs)).map .str) | 7 => .int (wideOf cs : Nat)
  | 8 => .list ((rulesOf cs (wideOf cs)).map rowD) | 9 => .list ((codesOf cs.sum (menuOf (textOf cs))).map .int) | _ => .list ((numbersOf (codesOf cs.sum (menuOf (textOf cs))) (rulesOf cs (wideOf cs))).map .int)
theorem nmL_ne : ∀ j < 11, ∀ i < j, (nmL i == nmL j) = false := by decide +kernel
def LH (cs : List Int) (k : Nat) (Δ : Ctx) : Prop := ∀ i < k, Δ.lookup (nmL i) = some (vlL cs i)
theorem LH.add {cs : List Int} {k : Nat} {Δ : Ctx} (S : LH cs k Δ) (hk : k < 11) : LH cs (k + 1) ((nmL k, vlL cs k) :: Δ) := fun i hi => by
  by_cases h : i = k
  · subst h; exact look_eq
  · exact look_tl (nmL_ne k hk i (by omega)) (S i (by omega))

abbrev bLaw : List Stmt := dBody fLaw
abbrev eLaw (k : Nat) : Expr := valE (sAt bLaw k)
abbrev Φ0 : Str → List D → Option D := fun _ _ => none

theorem meth_split {μ : MM} : methD μ "split" (.str tableT) [.str " "] = some (.list (tableL.map .str)) := by
  have := tableF
  simp only [methD]
  rw [if_neg (by decide +kernel), if_pos (by decide +kernel), if_pos this, tableT_split]
theorem table_get {c : Int} : (tableL.map D.str)[(c % 48).toNat]? = some (.str (tableL.getD (c % 48).toNat "")) ∧ tableL.getD (c % 48).toNat "" ∈ tableL := by
  have hlt : (c % 48).toNat < tableL.length := by rw [tableL_len]; exact mod_natlt (b := 48) (by decide)
  rw [List.getElem?_map, List.getD_eq_getElem?_getD, List.getElem?_eq_getElem hlt]
  exact ⟨rfl, List.getElem_mem hlt⟩
theorem text_join {cs : List Int} : JoinOk "" ((cs.take 3).map fun c => tableL.getD (c % 48).toNat "") = true := joinOk_of (m := 3) (n := 3) (by decide +kernel) (fun x hx => by
  obtain ⟨c, _, rfl⟩ := List.mem_map.mp hx
  exact (tableL_small _ table_get.2).2.1) (by simp; omega) (by decide)

section
variable {μ : MM} {cs : List Int} {Δ : Ctx}

theorem lh_sum (l : List Int) : Φc μ "sum" [.list (l.map .int)] = some (.int l.sum) := by rw [Φc_b (by decide +kernel)]; exact Φb_sum
theorem lh_total (S : LH cs 3 Δ) : evD (Φc μ) Φ0 μ 10 (eLaw 1) Δ = some (vlL cs 3) := by
  have hc : Δ.lookup ("cells" : Str) = some (.list (cs.map .int)) := S 2 (by decide)
  exact (evD_call1 (evN hc)).trans (lh_sum _)
theorem lh_table (S : LH cs 4 Δ) : evD (Φc μ) Φ0 μ 10 (eLaw 2) Δ = some (vlL cs 4) := (evD_meth eS eS).trans meth_split

theorem lh_text (h9 : cs.length = 9) (S : LH cs 5 Δ) : evD (Φc μ) Φ0 μ 12 (eLaw 3) Δ = some (vlL cs 5) := by
  have hle := line_big
  have hc : Δ.lookup ("cells" : Str) = some (.list (cs.map .int)) := S 2 (by decide)
  have ht : Δ.lookup ("table" : Str) = some (.list (tableL.map .str)) := S 4 (by decide)
  refine (evD_slice (d := .str (Txt.join "" ((cs.take 3).map fun c => tableL.getD (c % 48).toNat ""))) (l := none) (h := some 4) (s := none) ?_ partN partC partN).trans ?_
  · refine (evD_meth (a := .str "") (b := .list (((cs.take 3).map fun c => tableL.getD (c % 48).toNat "").map .str)) eS ?_).trans ?_
    · rw [List.map_map]
      refine evD_comp (g := .int) (itD_of (d := .list ((cs.take 3).map .int)) ?_ rfl (by intro _ _ _ _ h; cases h)) (fun c _ => ?_) (by simp; omega)
      · refine (evD_slice (d := .list (cs.map .int)) (l := none) (h := some 3) (s := none) (evN hc) partN partC partN).trans ?_
        simp only [sliceD, asList]
        rw [if_pos ⟨by simp, by simp; omega⟩, pickL_map, show (3 : Int) = ((3 : Nat) : Int) from rfl, pickL_to]
      · have hi := idxD_list (μ := μ) (table_get (c := c)).1 (Nat.lt_trans (mod_natlt (b := 48) (by decide)) (by decide))
        rw [Int.toNat_of_nonneg (Int.emod_nonneg c (by decide))] at hi
        refine (evD_idx (by intro _ _ _ _ h; cases h) (evN (look_tl (by decide +kernel) (free_look (by kernel_rfl) ht))) ?_).trans hi
        exact (evD_bin (evN look_eq) eI).trans (b_mod (by decide))
    · simp only [methD]
      rw [if_pos (by decide +kernel)]
      simp only [asList, Option.bind_some, strsOf_map]
      rw [if_pos text_join]
  · simp only [sliceD]
    rw [if_pos ⟨trivial, joinOk_length text_join⟩]; rfl

theorem lh_menu (S : LH cs 6 Δ) : evD (Φc μ) Φ0 μ 13 (eLaw 4) Δ = some (vlL cs 6) := by
  have hle := line_big
  have ht : Δ.lookup ("table" : Str) = some (.list (tableL.map .str)) := S 4 (by decide)
  have hx : Δ.lookup ("text" : Str) = some (.str (textOf cs)) := S 5 (by decide)
  refine evD_compIf (g := .str) (itD_of (d := .list (tableL.map .str)) (evN ht) rfl (by intro _ _ _ _ h; cases h)) (fun w _ => ?_) (fun w _ _ => evN look_eq) (by rw [tableL_len]; omega)
  exact tstD_cmp (evN look_eq) (evN (look_tl (by decide +kernel) (free_look (by kernel_rfl) hx)))

theorem menu_len (text : Str) : (menuOf text).length ≤ 48 := by unfold menuOf; rw [← tableL_len]; exact List.length_filter_le ..
theorem wide_le (cs : List Int) : 4 ≤ wideOf cs ∧ wideOf cs ≤ 52 := ⟨Nat.le_add_left .., Nat.add_le_add_right (menu_len (textOf cs)) 4⟩

theorem lh_wide (S : LH cs 7 Δ) : evD (Φc μ) Φ0 μ 10 (eLaw 5) Δ = some (vlL cs 7) := by
  have hle := line_big
  have := menu_len (textOf cs)
  have hl : Φc μ "len" [.list ((menuOf (textOf cs)).map .str)] = some (.int (menuOf (textOf cs)).length) := by
    rw [Φc_b (by decide +kernel), Φb_len_list (by rw [List.length_map]; omega), List.length_map]
  have hm : Δ.lookup ("menu" : Str) = some (.list ((menuOf (textOf cs)).map .str)) := S 6 (by decide)
  exact (evD_bin ((evD_call1 (evN hm)).trans hl) eI).trans b_add

theorem lh_part {wide : Nat} (hw : 4 ≤ wide ∧ wide ≤ 52) {c : Int} (c0 : 0 ≤ c) {j : Nat} (hj : j < 3) {Γ : Ctx} (h1 : Γ.lookup ("cell" : Str) = some (.int c)) (h2 : Γ.lookup ("k" : Str) = some (.int j)) (h3 : Γ.lookup ("wide" : Str) = some (.int (wide : Nat))) {p1 p2 p3 p4 p5 p6 p7 p8 p9 : Pos} {a : Nat} {n : Nat} :
    evD (Φc μ) Φ0 μ (n + 5) (.BinOp (.BinOp (.BinOp (.Name "cell" p1) .FloorDiv (.Constant (.int 12) a p2) p3) .FloorDiv (.BinOp (.Name "wide" p4) .Pow (.Name "k" p5) p6) p7) .Mod (.Name "wide" p8) p9) Γ = some (.int (((c / 12 / (wide : Int) ^ j % wide).toNat : Nat) : Int)) := by
  have hp : (0 : Int) < (wide : Int) ^ j ∧ (wide : Int) ^ j < 1073741824 := by
    refine ⟨Int.pow_pos (by omega), ?_⟩
    have hn : wide ^ j ≤ 52 ^ 2 := Nat.le_trans (Nat.pow_le_pow_left hw.2 j) (Nat.pow_le_pow_right (by decide) (by omega))
    have : ((wide ^ j : Nat) : Int) ≤ ((52 ^ 2 : Nat) : Int) := Int.ofNat_le.mpr hn
    rw [← Int.natCast_pow]
    omega
  rw [Int.toNat_of_nonneg (Int.emod_nonneg _ (by omega))]
  exact (evD_bin ((evD_bin ((evD_bin (evN h1) eI).trans (b_div (by decide) (by decide))) ((evD_bin (evN h3) (evN h2)).trans (b_pow (by omega) (by omega)))).trans (b_div hp.1 hp.2)) (evN h3)).trans (b_mod (by omega))

theorem lh_rules (h9 : cs.length = 9) (hb : ∀ c ∈ cs, 0 ≤ c ∧ c < 100000000) (S : LH cs 8 Δ) : evD (Φc μ) Φ0 μ 15 (eLaw 6) Δ = some (vlL cs 8) := by
  have hle := line_big
  show _ = some (D.list ((rulesOf cs (wideOf cs)).map rowD))
  have hw := wide_le cs
  have hwl : Δ.lookup ("wide" : Str) = some (.int (wideOf cs : Nat)) := S 7 (by decide)
  have hcl : Δ.lookup ("cells" : Str) = some (.list (cs.map .int)) := S 2 (by decide)
  clear S
  generalize wideOf cs = wide at *
  unfold rulesOf
  rw [List.map_map]
  refine evD_comp (g := .int) (itD_of (d := .list ((cs.drop 3).map .int)) ?_ rfl (by intro _ _ _ _ h; cases h)) (fun c hc => ?_) (by simp; omega)
  · refine (evD_slice (d := .list (cs.map .int)) (l := some 3) (h := none) (s := none) (evN hcl) partC partN partN).trans ?_
    simp only [sliceD, asList]
    rw [if_pos ⟨by simp, by simp; omega⟩, pickL_map, show (3 : Int) = ((3 : Nat) : Int) from rfl, pickL_from]
  · obtain ⟨c0, c1⟩ := hb c (List.mem_of_mem_drop hc)
    have e0 : (c % 3) = (((c % 3).toNat : Nat) : Int) := mod_nat (by decide)
    have e1 : (c / 3 % 4) = (((c / 3 % 4).toNat : Nat) : Int) := mod_nat (by decide)
    have l4 : (c / 3 % 4).toNat < 4 := mod_natlt (b := 4) (by decide)
    refine (evD_bin (a := .list [.int (((c % 3).toNat : Nat) : Int)]) (b := .list ((List.range (c / 3 % 4).toNat).map fun (k : Nat) => .int (((c / 12 / (wide : Int) ^ k % wide).toNat : Nat) : Int))) (evD_list1 ?_) ?_).trans ?_
    · rw [← e0]; exact (evD_bin (evN look_eq) eI).trans (b_mod (by decide))
    · refine evD_comp (g := fun (k : Nat) => .int k) (itD_range1 (m := (c / 3 % 4).toNat) ?_ (Nat.le_trans (Nat.le_of_lt l4) (by decide))) (fun j hj => ?_) (by rw [List.length_range]; exact le_line (Nat.le_trans (Nat.le_of_lt l4) (by decide)))
      · rw [← e1]; exact (evD_bin ((evD_bin (evN look_eq) eI).trans (b_div (by decide) (by decide))) eI).trans (b_mod (by decide))
      · have hj' : j < 3 := by
          exact Nat.lt_of_lt_of_le (List.mem_range.mp hj) (Nat.le_of_lt_succ l4)
        exact lh_part hw c0 hj' (look_tl (by decide +kernel) (free_look (by kernel_rfl) look_eq)) look_eq (look_tl (by decide +kernel) (free_look (by kernel_rfl) (look_tl (by decide +kernel) (free_look (by kernel_rfl) hwl))))
    · rw [binD_addl, if_pos (by simp; omega)]
      simp only [Function.comp_apply, rowD, List.map_cons, List.map_map, List.singleton_append, Function.comp_def]

theorem rules_ok (h9 : cs.length = 9) : (rulesOf cs (wideOf cs)).length = 6 ∧ ∀ r ∈ rulesOf cs (wideOf cs), r.1 < 3 ∧ r.2.length ≤ 3 ∧ ∀ p ∈ r.2, p < 4 + (menuOf (textOf cs)).length := by
  refine ⟨by simp [rulesOf, h9], fun r hr => ?_⟩
  have hw := wide_le cs
  have hd : wideOf cs = (menuOf (textOf cs)).length + 4 := rfl
  generalize wideOf cs = wide at *
  unfold rulesOf at hr
  obtain ⟨c, hc, rfl⟩ := List.mem_map.mp hr
  refine ⟨mod_natlt (b := 3) (by decide), by simp; exact Int.le_of_lt_add_one (Int.emod_lt_of_pos _ (by decide)), fun p hp => ?_⟩
  obtain ⟨j, hj, rfl⟩ := List.mem_map.mp hp
  rw [Nat.add_comm, ← hd]; exact mod_natlt (Nat.lt_of_lt_of_le (by decide) hw.1)

theorem lh_codes (S : LH cs 9 Δ) : evD (Φc μ) Φ0 μ 12 (eLaw 7) Δ = some (vlL cs 9) := by
  have hle := line_big
  have hml := menu_len (textOf cs)
  have hmt : ∀ w ∈ menuOf (textOf cs), w ∈ tableL := fun w hw => (List.mem_filter.mp hw).1
  show _ = some (D.list ((codesOf cs.sum (menuOf (textOf cs))).map .int))
  have hm : Δ.lookup ("menu" : Str) = some (.list ((menuOf (textOf cs)).map .str)) := S 6 (by decide)
  have ht : Δ.lookup ("total" : Str) = some (.int cs.sum) := S 3 (by decide)
  have hta : Δ.lookup ("table" : Str) = some (.list (tableL.map .str)) := S 4 (by decide)
  clear S
  generalize menuOf (textOf cs) = menu at *
  generalize cs.sum = total at *
  refine (evD_bin (a := .list (([256, 257 + total % 2500, 258 + total % 2500 * 2, 255 - total % 200] : List Int).map .int)) (b := .list ((menu.map tok).map .int)) ?_ ?_).trans ?_
  · have h2 : binD μ .Mult (.int (total % 2500)) (.int 2) = some (.int (total % 2500 * 2)) := by rw [binD_int]; simp only [aAdd, aSub, aMul, aDiv, aMod, aPow, aShl, aShr, aAnd, aOr, aXor]; rw [if_pos (by omega)]; rfl
    rw [eL]
    simp only [evs, eI, eBin, eN, ht, opt2_ss, b_mod (show (0 : Int) < 2500 by decide), b_mod (show (0 : Int) < 200 by decide), b_add, b_sub, h2, optS_s]
    exact sized_le (by simp)
  · rw [List.map_map]
    refine evD_comp (g := .str) (itD_of (d := .list (menu.map .str)) (evN hm) rfl (by intro _ _ _ _ h; cases h)) (fun w hw => ?_) (by omega)
    refine (evD_bin (a := .int 7) (b := .int ((tableL.idxOf w : Nat) : Int)) eI ?_).trans (b_add.trans (by rw [tableL_tok w (hmt w hw)]; rfl))
    refine (evD_meth (a := .list (tableL.map .str)) (b := .str w) (evN (look_tl (by decide +kernel) (free_look (by kernel_rfl) hta))) (evN look_eq)).trans ?_
    simp only [methD]
    rw [if_neg (by decide +kernel), if_neg (by decide +kernel), if_pos (by decide +kernel)]
    simp only [asList]
    rw [if_pos (by rw [List.length_map, tableL_len]; omega)]
    simp only [findIdxD, strsOf_map, Option.bind_some]
    rw [if_pos (hmt w hw)]; rfl
  · rw [binD_addl, if_pos (by simp; omega), ← List.map_append]; rfl

theorem rowN_len {codes : List Int} {r : Nat × List Nat} (h : r.2.length ≤ 3) : (rowN codes r).length ≤ 5 := by simp [rowN]; omega
theorem rows_len {codes : List Int} : ∀ (l : List (Nat × List Nat)), (∀ r ∈ l, r.2.length ≤ 3) → (l.flatMap (rowN codes)).length ≤ l.length * 5
  | [], _ => by simp
  | r :: l, h => by
    have h1 := rowN_len (codes := codes) (h r List.mem_cons_self)
    have h2 := rows_len (codes := codes) l fun x hx => h x (List.mem_cons_of_mem _ hx)
    rw [List.flatMap_cons, List.length_append, List.length_cons]; omega

theorem lh_numbers (h9 : cs.length = 9) (S : LH cs 10 Δ) : evD (Φc μ) Φ0 μ 15 (eLaw 8) Δ = some (vlL cs 10) := by
  have hle := line_big
  obtain ⟨hrl, hrp⟩ := rules_ok h9
  show _ = some (D.list ((numbersOf (codesOf cs.sum (menuOf (textOf cs))) (rulesOf cs (wideOf cs))).map .int))
  have hr : Δ.lookup ("rules" : Str) = some (.list ((rulesOf cs (wideOf cs)).map rowD)) := S 8 (by decide)
  have hc : Δ.lookup ("codes" : Str) = some (.list ((codesOf cs.sum (menuOf (textOf cs))).map .int)) := S 9 (by decide)
  have hcl : (codesOf cs.sum (menuOf (textOf cs))).length = (menuOf (textOf cs)).length + 4 := by simp [codesOf]
  have hml := menu_len (textOf cs)
  clear S
  generalize rulesOf cs (wideOf cs) = rules at *
  generalize codesOf cs.sum (menuOf (textOf cs)) = codes at *
  generalize (menuOf (textOf cs)).length = ml at *
  have hnum := rows_len (codes := codes) rules fun r hr => (hrp r hr).2.1
  have e : (numbersOf codes rules).map D.int = rules.flatMap fun r => (rowN codes r).map .int := by unfold numbersOf; rw [List.map_flatMap]
  rw [e]
  refine evD_comp2 (g := rowD) (l' := rowN codes) (g' := fun _ z => .int z) (h := fun _ z => .int z) (itD_of (d := .list (rules.map rowD)) (evN hr) rfl (by intro _ _ _ _ h; cases h)) (fun r hr => itD_of (d := .list ((rowN codes r).map .int)) ?_ rfl (by intro _ _ _ _ h; cases h)) (fun r hr z hz => evN look_eq) ?_
  · have h3 := (hrp r hr).2.1
    refine (evD_bin (a := .list (((r.1 :: r.2).map (codeAt codes)).map .int)) (b := .list [.int 0]) ?_ (evD_list1 eI)).trans ?_
    · rw [List.map_map]
      refine evD_comp (g := fun (p : Nat) => .int p) (itD_of (d := rowD r) (evN look_eq) rfl (by intro _ _ _ _ h; cases h)) (fun p hp => ?_) (by simp; omega)
      have hp4 : p < codes.length := by
        rw [hcl]
        rcases List.mem_cons.mp hp with rfl | hp
        · have := (hrp r hr).1; omega
        · have := (hrp r hr).2.2 p hp; omega
      have hg : (codes.map D.int)[p]? = some (.int (codeAt codes p)) := by
        rw [List.getElem?_map, List.getElem?_eq_getElem hp4]
        simp [codeAt, hp4]
      exact (evD_idx (by intro _ _ _ _ h; cases h) (evN (look_tl (by decide +kernel) (free_look (by kernel_rfl) (look_tl (by decide +kernel) (free_look (by kernel_rfl) hc))))) (evN look_eq)).trans (idxD_list (μ := μ) hg (by omega))
    · rw [binD_addl, if_pos (by simp; omega)]
      simp [rowN]
  · rw [← e, List.length_map]; unfold numbersOf; omega

theorem LH.l1 (S : LH cs 11 Δ) : L1 (textOf cs) (menuOf (textOf cs)) (rulesOf cs (wideOf cs)) (codesOf cs.sum (menuOf (textOf cs))) cs.sum Δ := ⟨S 5 (by decide), S 6 (by decide), S 8 (by decide), S 9 (by decide), S 3 (by decide), S 0 (by decide), S 1 (by decide)⟩
end

section
variable {F : Fr Φc (fun _ => Φ0) (dScope fLaw)} {cs : List Int} {Δ : Ctx} {μ : MM} {K : Out → Ctx → MM → Prop}
theorem lh_walk (h9 : cs.length = 9) (hb : ∀ c ∈ cs, 0 ≤ c ∧ c < 100000000) (S : LH cs 3 Δ) (h : ∀ Δ, LH cs 11 Δ → R F (bLaw.drop 9) Δ μ K) : R F (bLaw.drop 1) Δ μ K := by
  refine R.assign 10 (by kernel_rfl) (lh_total S) ?_
  have S := S.add (by decide)
  refine R.assign 10 (by kernel_rfl) (lh_table S) ?_
  have S := S.add (by decide)
  refine R.assign 12 (by kernel_rfl) (lh_text h9 S) ?_
  have S := S.add (by decide)
  refine R.used 12 (by kernel_rfl) (lh_menu S) ?_
  have S := S.add (by decide)
  refine R.assign 10 (by kernel_rfl) (lh_wide S) ?_
  have S := S.add (by decide)
  refine R.used 14 (by kernel_rfl) (lh_rules h9 hb S) ?_
  have S := S.add (by decide)
  refine R.assign 12 (by kernel_rfl) (lh_codes S) ?_
  have S := S.add (by decide)
  refine R.used 14 (by kernel_rfl) (lh_numbers h9 S) ?_
  exact h _ (S.add (by decide))
end

section
variable {W : Wd} {A : Around} {env : Env} {K : Out → Ctx → MM → Prop} {k : Nat}
theorem cell_val {μ : MM} (script : List Int) (h63 : script.length ≤ 63) {i : Nat} {Γ : Ctx} (hf : Γ.lookup ("first" : Str) = some (.int (firsts.getD i 0))) (hk : Γ.lookup ("k" : Str) = some (.int (i : Nat))) (hs : Γ.lookup ("script" : Str) = some (.list (script.map .int)))
    : evD (Φc μ) Φ0 μ 12 (eltE (eLaw 0)) Γ = some (.int (cellAt script i)) := by
  have hle := line_big
  have hp := pickL_step_len script i
  have hs' : sliceD μ (.list (script.map .int)) (some (i : Int)) (some 60) (some 9) = some (.list ((pickL script (some (i : Int)) (some 60) (some 9)).map .int)) := by
    unfold sliceD
    simp only [asList]
    rw [if_pos ⟨by simp, by simp; omega⟩, pickL_map]
  refine (evD_bin (evN hf) ((evD_call1 (a := .list (((pickL script (some (i : Int)) (some 60) (some 9)).map (· % 1000000)).map .int)) ?_).trans (lh_sum _))).trans b_add
  rw [List.map_map]
  refine evD_comp (g := .int) (itD_of (d := .list ((pickL script (some (i : Int)) (some 60) (some 9)).map .int)) ?_ rfl (by intro _ _ _ _ h; cases h)) (fun y _ => ?_) (by omega)
  · exact (evD_slice (evN hs) (by simp only [partI, eN, hk]) partC partC).trans hs'
  · exact (evD_bin (evN look_eq) eI).trans (b_mod (by decide))

theorem law_head (T : Tp W) (he : GlobVal W "enumerate" (.type "enumerate")) (C : ∀ μ, Cx W A env μ (Φc μ) Φ0 k (dScope fLaw)) (script : List Int) (h63 : script.length ≤ 63)
    (h : ∀ (text : Str) (rules : List (Nat × List Nat)) (total : Int) (Δ : Ctx), text.length ≤ 4 → rules.length = 6 → (∀ r ∈ rules, r.1 < 3 ∧ r.2.length ≤ 3 ∧ ∀ p ∈ r.2, p < 4 + (menuOf text).length) → 0 ≤ total →
      L1 text (menuOf text) rules (codesOf total (menuOf text)) total Δ → Δ.lookup ("numbers" : Str) = some (.list ((numbersOf (codesOf total (menuOf text)) rules).map .int)) → Wp W A [] env ((dBody fLaw).drop 9) Δ (fun _ => none) K) :
    Wp W A [] env (dBody fLaw) [("script", .list (script.map .int))] (fun _ => none) K := by
  have hk : ∀ {x : Str} {kd : NameKind}, (dScope fLaw).names.lookup x = some kd → env.kindOf x = some kd := (C fun _ => none).kind
  have hle := line_big
  refine Wp.addGlobal (hk (by kernel_rfl)) T.b.bool (d := .ty "bool") (fun F => by rw [RelV]) ?_
  refine Wp.addGlobal (hk (by kernel_rfl)) T.b.int (d := .ty "int") (fun F => by rw [RelV]) ?_
  have S : ∀ cs, LH cs 2 ([("int", .ty "int"), ("bool", .ty "bool"), ("script", .list (script.map .int))] : Ctx) := fun cs i hi => match i, hi with
    | 0, _ => look_eq
    | 1, _ => look_tl (by decide +kernel) look_eq
  have hs : ([("int", .ty "int"), ("bool", .ty "bool"), ("script", .list (script.map .int))] : Ctx).lookup ("script" : Str) = some (.list (script.map .int)) := look_tl (by decide +kernel) (look_tl (by decide +kernel) look_eq)
  generalize ([("int", .ty "int"), ("bool", .ty "bool"), ("script", .list (script.map .int))] : Ctx) = Δ at *
  -- cells
  refine Wp.cons (Wp1.assignUsedT (xs := enumL (firsts.map .int)) (o := fun i => .int (cellAt script i)) (C fun _ => none).good.handled ((C fun _ => none).swap (by kernel_rfl)) (hk (by kernel_rfl)) (scopeOk_of (by rw [(C fun _ => none).sc]; kernel_rfl)) (own_of (by kernel_rfl)) (own_of (by kernel_rfl)) rfl
    (by simp [enumL, firsts]; omega) (IterEvT.enumerate T.b.ok (C fun _ => none).good.handled he (hk (by kernel_rfl)) rfl ((C _).ev 10 (by kernel_rfl) (sized_le (ds := firsts.map D.int) (by simp [firsts])))) (fun cenv hin i d hd => ?_) ?_)
  · have hi : i < 9 := by
      have := (List.getElem?_eq_some_iff.mp hd).1
      simpa [enumL, firsts] using this
    have hd' : d = (.int (i : Int), .int (firsts.getD i 0)) := by
      have e9 : firsts.length = 9 := rfl
      simp [enumL, e9, hi] at hd
      rw [← hd, List.getD_eq_getElem?_getD]
      have : i < firsts.length := by omega
      simp [this]
    subst hd'
    refine (C fun _ => none).inner 12 (by kernel_rfl) (cell_val script h63 look_eq (look_tl (by decide +kernel) look_eq) (look_tl (by decide +kernel) (look_tl (by decide +kernel) (free_look (by kernel_rfl) hs)))) hin
  -- the cells are nine numbers
  have hcs : (List.range (enumL (firsts.map D.int)).length).map (fun i => D.int (cellAt script i)) = ((List.range 9).map (cellAt script)).map D.int := by
    have e9 : (enumL (firsts.map D.int)).length = 9 := by simp [enumL, firsts]
    rw [e9, List.map_map]; rfl
  rw [hcs]
  have hb : ∀ c ∈ (List.range 9).map (cellAt script), 0 ≤ c ∧ c < 100000000 := fun c hc => by
    obtain ⟨i, _, rfl⟩ := List.mem_map.mp hc; exact cellAt_bound script h63 i
  have h9 : ((List.range 9).map (cellAt script)).length = 9 := by simp
  generalize (List.range 9).map (cellAt script) = cs at hb h9
  have hs0 : 0 ≤ cs.sum := (sum_bound (B := 100000000) fun c hc => ⟨(hb c hc).1, by have := (hb c hc).2; omega⟩).1
  refine lh_walk (F := ⟨W, A, [], env, k, C⟩) h9 hb ((S cs).add (by decide)) fun Δ S => ?_
  obtain ⟨hrl, hrp⟩ := rules_ok h9
  exact h _ _ _ Δ strLen_slice hrl hrp hs0 S.l1 (S 10 (by decide))
end
end Mine

open PySem PySem.W PyProof.Rows
set_option Elab.async false
set_option linter.unusedVariables false
set_option linter.unusedSimpArgs false
set_option maxRecDepth 100000
namespace Mine

theorem menu_mem {text w : Str} : w ∈ menuOf text ↔ w ∈ tableL ∧ Txt.contains text w = true := by simp [menuOf, List.mem_filter]
theorem tok_big {w : Str} (h : w ∈ tableL) : 7 ≤ tok w ∧ tok w ≤ 54 := ⟨tableL_tok w h ▸ Int.le_add_of_nonneg_right (Int.natCast_nonneg _), (tok_lt w).2⟩
section
variable {text : Str} {total : Int} (h0 : 0 ≤ total)
abbrev cds (total : Int) (text : Str) : List Int := codesOf total (menuOf text)
abbrev cd (total : Int) (text : Str) (p : Nat) : Int := codeAt (cds total text) p

theorem cd_menu {i : Nat} (h : i < (menuOf text).length) : cd total text (4 + i) = tok ((menuOf text).getD i "") := by
  have e : (cds total text) = [256, 257 + total % 2500, 258 + total % 2500 * 2, 255 - total % 200] ++ (menuOf text).map tok := rfl
  show (cds total text).getD (4 + i) 0 = _
  rw [e, List.getD_eq_getElem?_getD, List.getElem?_append_right (by simp)]
  simp [h]
theorem cd_0 : cd total text 0 = 256 := rfl
theorem cd_1 : cd total text 1 = 257 + total % 2500 := rfl
theorem cd_2 : cd total text 2 = 258 + total % 2500 * 2 := rfl
theorem cd_3 : cd total text 3 = 255 - total % 200 := rfl
theorem menu_get {i : Nat} (h : i < (menuOf text).length) : (menuOf text).getD i "" ∈ menuOf text := by
  rw [List.getD_eq_getElem?_getD, List.getElem?_eq_getElem h]; exact List.getElem_mem h

theorem e1' (i : Nat) (h : 4 + i = 3) : False := absurd (h ▸ Nat.le_add_right 4 i : 4 ≤ 3) (by decide)
theorem cd_cases {p : Nat} (hp : p < 4 + (menuOf text).length) : p = 0 ∨ p = 1 ∨ p = 2 ∨ p = 3 ∨ ∃ i, i < (menuOf text).length ∧ p = 4 + i := by
  by_cases h : p < 4
  · match p, h with
    | 0, _ => exact .inl rfl
    | 1, _ => exact .inr (.inl rfl)
    | 2, _ => exact .inr (.inr (.inl rfl))
    | 3, _ => exact .inr (.inr (.inr (.inl rfl)))
  · have h := Nat.le_of_not_lt h
    exact .inr (.inr (.inr (.inr ⟨p - 4, sub_lt_of h hp, (Nat.add_sub_of_le h).symm⟩)))
theorem mod_in (m : Int) {b : Int} (hb : 0 < b) : 0 ≤ m % b ∧ m % b < b := ⟨Int.emod_nonneg m (Int.ne_of_gt hb), Int.emod_lt_of_pos m hb⟩
theorem cd_bound {p : Nat} (hp : p < 4 + (menuOf text).length) : 7 ≤ cd total text p ∧ cd total text p < 262144 := by
  rcases cd_cases hp with rfl | rfl | rfl | rfl | ⟨i, hi, rfl⟩
  · rw [cd_0]; exact ⟨by decide, by decide⟩
  · rw [cd_1]; have := mod_in total (b := 2500) (by decide); generalize total % 2500 = x at this; omega
  · rw [cd_2]; have := mod_in total (b := 2500) (by decide); generalize total % 2500 = x at this; omega
  · rw [cd_3]; have := mod_in total (b := 200) (by decide); generalize total % 200 = x at this; omega
  · rw [cd_menu hi]
    have := tok_big (menu_mem.mp (menu_get hi)).1
    exact ⟨this.1, Int.lt_of_le_of_lt this.2 (by decide)⟩

theorem cd_codes : Codes text (menuOf text) (cd total text) where
  big := fun p hp => by
    rcases lt3 hp with rfl | rfl | rfl
    · exact Int.le_refl _
    · rw [cd_1]; omega
    · rw [cd_2]; omega
  inj := fun p hp q hq e => by
    rcases lt3 hp with rfl | rfl | rfl <;> rcases lt3 hq with rfl | rfl | rfl <;> simp only [cd_0, cd_1, cd_2] at e <;> omega
  small := fun p h3 hp => by
    rcases cd_cases hp with rfl | rfl | rfl | rfl | ⟨i, hi, rfl⟩
    · omega
    · omega
    · omega
    · rw [cd_3]
      refine ⟨by omega, fun s j hs hj => ?_⟩
      have := tok_lt (subS text s j)
      constructor
      · intro h
        simp only [edgeE, Bool.and_eq_true, decide_eq_true_eq, beq_iff_eq] at h
        omega
      · rintro ⟨_, h⟩; simp [tailsOf] at h
    · rw [cd_menu hi]
      obtain ⟨hm, hc⟩ := menu_mem.mp (menu_get hi)
      have hb := tok_big hm
      refine ⟨by omega, fun s j hs hj => ?_⟩
      have ht : tailsOf (menuOf text) (fun _ => []) (4 + i) = [(menuOf text).getD i ""] := by
        have e1 : ¬ 4 + i < 3 := Nat.not_lt.mpr (Nat.le_trans (by decide) (Nat.le_add_right 4 i))
        have e2 : ¬ 4 + i = 3 := fun e => e1' i e
        have e3 : 4 + i - 4 = i := Nat.add_sub_cancel_left ..
        simp only [tailsOf, if_neg e1, if_neg e2, e3]
      rw [ht]
      generalize (menuOf text).getD i "" = w at hm hc hb
      have hx : ∀ x, tok x = tok w → x = w := fun x hx => by
        obtain ⟨l1, l2, _⟩ := idxOf_facts hm
        have ht := tableL_tok w hm
        have g : tableL.getD (tableL.idxOf w) "" = w := by rw [List.getD_eq_getElem?_getD, l2]; rfl
        rw [← g]
        exact (tok_iff (by rw [tableL_len] at l1; exact l1)).mp (by rw [hx, ← ht])
      unfold corr
      simp only [edgeE, Bool.and_eq_true, decide_eq_true_eq, beq_iff_eq, List.mem_singleton]
      constructor
      · rintro ⟨h1, h2⟩; exact ⟨Nat.le_of_lt h1, hx _ h2⟩
      · rintro ⟨h1, h2⟩
        have hl := sub_len (x := text) (i := s) hj
        rw [h2] at hl
        have := (tableL_small w hm).1
        exact ⟨Nat.lt_of_sub_pos (hl ▸ this), by rw [h2]⟩

variable {rules : List (Nat × List Nat)}
theorem rowsOf_app (l : List Int) : ∀ (a : List (List Int) × List Int) (r : List Int), (∀ n ∈ r, n ≠ 0) → (r ++ [0]).foldl parseR a = (a.1 ++ [a.2 ++ r], []) := by
  intro a r
  induction r generalizing a with
  | nil => intro _; simp [parseR]
  | cons n r ih =>
    intro h
    have hn := h n List.mem_cons_self
    rw [List.cons_append, List.foldl_cons]
    rw [show parseR a n = (a.1, a.2 ++ [n]) by simp [parseR, hn]]
    rw [ih _ fun x hx => h x (List.mem_cons_of_mem _ hx)]
    simp
theorem rows_numbers {codes : List Int} (hc : ∀ r ∈ rules, ∀ p ∈ r.1 :: r.2, codeAt codes p ≠ 0) : rowsOf (numbersOf codes rules) = (rules.map fun r => (r.1 :: r.2).map (codeAt codes), []) := by
  have key : ∀ (l : List (Nat × List Nat)) (a : List (List Int)), (∀ r ∈ l, ∀ p ∈ r.1 :: r.2, codeAt codes p ≠ 0) → (l.flatMap (rowN codes)).foldl parseR (a, []) = (a ++ l.map fun r => (r.1 :: r.2).map (codeAt codes), []) := by
    intro l
    induction l with
    | nil => intro a _; simp
    | cons r l ih =>
      intro a h
      rw [List.flatMap_cons, List.foldl_append]
      unfold rowN at ih ⊢
      rw [rowsOf_app [] (a, []) _ (fun n hn => by
        obtain ⟨p, hp, rfl⟩ := List.mem_map.mp hn
        exact h r List.mem_cons_self p hp)]
      simp only [List.nil_append]
      rw [ih _ fun x hx => h x (List.mem_cons_of_mem _ hx)]
      simp
  unfold rowsOf numbersOf
  rw [key rules [] hc]; simp
theorem mem_numbers {codes : List Int} {n : Int} : n ∈ numbersOf codes rules ↔ ∃ r ∈ rules, n = 0 ∨ ∃ p ∈ r.1 :: r.2, n = codeAt codes p := by
  unfold numbersOf rowN
  simp only [List.mem_flatMap, List.mem_append, List.mem_map, List.mem_singleton]
  constructor
  · rintro ⟨r, hr, ⟨p, hp, rfl⟩ | rfl⟩
    · exact ⟨r, hr, .inr ⟨p, hp, rfl⟩⟩
    · exact ⟨r, hr, .inl rfl⟩
  · rintro ⟨r, hr, rfl | ⟨p, hp, rfl⟩⟩
    · exact ⟨r, hr, .inr rfl⟩
    · exact ⟨r, hr, .inl ⟨p, hp, rfl⟩⟩
theorem numbers_len {codes : List Int} (hr : ∀ r ∈ rules, r.2.length ≤ 3) : (numbersOf codes rules).length ≤ rules.length * 5 ∧ rules.length * 2 ≤ (numbersOf codes rules).length := by
  unfold numbersOf
  induction rules with
  | nil => simp
  | cons r l ih =>
    have h1 := hr r List.mem_cons_self
    have h2 := ih fun x hx => hr x (List.mem_cons_of_mem _ hx)
    rw [List.flatMap_cons, List.length_append, List.length_cons]
    have : (rowN codes r).length = r.2.length + 2 := by simp [rowN]
    omega
theorem two_last {l : List Int} (h : 2 ≤ l.length) : ∃ ns m m', l = ns ++ [m] ++ [m'] := by
  obtain ⟨a, m', rfl⟩ : ∃ a m', l = a ++ [m'] := ⟨l.dropLast, l.getLast (by rintro rfl; simp at h), (List.dropLast_concat_getLast _).symm⟩
  obtain ⟨ns, m, rfl⟩ : ∃ ns m, a = ns ++ [m] := ⟨a.dropLast, a.getLast (by rintro rfl; simp at h), (List.dropLast_concat_getLast _).symm⟩
  exact ⟨ns, m, m', rfl⟩
end
end Mine

open PySem PySem.W PyProof.Rows
set_option Elab.async false
set_option linter.unusedVariables false
set_option linter.unusedSimpArgs false
set_option maxRecDepth 100000
namespace Mine

/-- what the law's own calls need -/
structure Tl (W : Wd) : Prop where
  T : Tp W
  TT : TokOk W
  enum : GlobVal W "enumerate" (.type "enumerate")
  next : GlobVal W "next" (.builtin "next")
  iter : GlobVal W "iter" (.builtin "iter")
  stop : GlobVal W "StopIteration" (.type "StopIteration")
  oct : FnAt W "_law_octets" (dArgs fOct) (dBody fOct) (dScope fOct)
  read : FnAt W "_law_read" (dArgs fRead) (dBody fRead) (dScope fRead)
  clos : FnAt W "_law_closure" (dArgs fClos) (dBody fClos) (dScope fClos)
  spell : FnAt W "_law_spelled" (dArgs fSpell) (dBody fSpell) (dScope fSpell)
  words : FnAt W "_law_words" (dArgs fWords) (dBody fWords) (dScope fWords)

abbrev bKind : List Stmt := forB (sAt bLaw 11)
def testE : Stmt → Expr
  | .If t _ _ _ => t
  | _ => .Constant .none 0 ⟨0, 0, 0, 0⟩
def kindsV (x : Int) : D := .list ([decide (x < 256), decide (256 ≤ x), x == 0].map fun b => .list [.bool b, .bool (!b)])

section
variable {μ : MM} {Δ : Ctx} {x : Int}
theorem sized2 {a b : D} : sized [a, b] = some (.list [a, b]) := sized_le (by simp)
theorem sized3 {a b c : D} : sized [a, b, c] = some (.list [a, b, c]) := sized_le (by simp)
theorem mk_kinds (hx : Δ.lookup ("number" : Str) = some (.int x)) : evD (Φc μ) Φ0 μ 13 (valE (sAt bKind 0)) Δ = some (kindsV x) := by
  have hle := line_big
  refine evD_comp (g := .bool) (itD_of (d := .list ([decide (x < 256), decide (256 ≤ x), x == 0].map .bool)) ?_ rfl (by intro _ _ _ _ h; cases h)) (fun b _ => ?_) (by simp; omega)
  · simp only [eL, eCall, eN, evs, hx, Φc_T, Φc_N, Φc_E, sized3, optS_s, List.map_cons, List.map_nil]
  · simp only [eL, eCmp, eN, eB, evs, look_eq, opt2_ss, cmpD, Option.map_some, sized2, optS_s]
    cases b <;> rfl
theorem mk_due (hx : Δ.lookup ("number" : Str) = some (.int x)) : evD (Φc μ) Φ0 μ 10 (valE (sAt bKind 1)) Δ = some (kindsV x) := by
  show evD (Φc μ) Φ0 μ 10 (.List [.List [.Compare (.Name "number" _) [.Lt] [.Constant (.int 256) 0 _] _, .Compare (.Name "number" _) [.Gt] [.Constant (.int 255) 0 _] _] _, .List [.Compare (.Name "number" _) [.Gt] [.Constant (.int 255) 0 _] _, .Compare (.Name "number" _) [.Lt] [.Constant (.int 256) 0 _] _] _, .List [.Compare (.Name "number" _) [.Eq] [.Constant (.int 0) 0 _] _, .Compare (.Name "number" _) [.NotEq] [.Constant (.int 0) 0 _] _] _] _) Δ = _
  have b1 : decide (255 < x) = decide (256 ≤ x) := by rw [decide_eq_decide]; omega
  have b2 : (!decide (x < 256)) = decide (256 ≤ x) := by rw [← decide_not, decide_eq_decide]; omega
  have b3 : (!decide (256 ≤ x)) = decide (x < 256) := by rw [← b2]; simp
  simp only [eL, eCmp, eN, eI, evs, hx, opt2_ss, cmpD, Option.map_some, sized2, sized3, optS_s, kindsV, List.map_cons, List.map_nil, b1, b2, b3]; rfl
theorem kinds_ne : cmpD μ .NotEq (kindsV x) (kindsV x) = some false := by
  have : ∀ b1 b2 b3 : Bool, eqD (D.list ([b1, b2, b3].map fun b => .list [.bool b, .bool (!b)])) (D.list ([b1, b2, b3].map fun b => .list [.bool b, .bool (!b)])) = some true := fun b1 b2 b3 => by
    refine eqD_refl (x := .list ([b1, b2, b3].map fun b => .list [.bool b, .bool (!b)])) rfl ?_
    cases b1 <;> cases b2 <;> cases b3 <;> rfl
  unfold kindsV
  simp only [cmpD, this]; rfl
theorem mk_test (hx : Δ.lookup ("number" : Str) = some (.int x)) (h1 : Δ.lookup ("kinds" : Str) = some (kindsV x)) (h2 : Δ.lookup ("due" : Str) = some (kindsV x)) (h3 : Δ.lookup ("bool" : Str) = some (.ty "bool")) (h4 : Δ.lookup ("int" : Str) = some (.ty "int")) :
    tstD (Φc μ) Φ0 μ 10 (testE (sAt bKind 2)) Δ = some false := by
  have hi : Φc μ "isinstance" [.int x, .ty "bool"] = some (.bool false) := by rw [Φc_b (by decide +kernel)]; exact Φb_bool
  have hi2 : Φc μ "isinstance" [.int x, .ty "int"] = some (.bool true) := by rw [Φc_b (by decide +kernel)]; exact Φb_int
  refine Eq.trans (b := tstAll .Or (fun e => tstD (Φc μ) Φ0 μ 9 e Δ) [_, _, _]) rfl ?_
  simp only [tstAll, tCmp, tCall, tNot, eN, eCall, evs, hx, h1, h2, h3, h4, opt2_ss, optS_s, kinds_ne, hi, hi2, Option.bind_some, Option.map_some, truthD]
  rfl

theorem kind_one {F : Fr Φc (fun _ => Φ0) (dScope fLaw)} {text : Str} {rules : List (Nat × List Nat)} {total : Int} {menu : List Str} {codes : List Int} {td : D} {K : Out → Ctx → MM → Prop} (S : L1 text menu rules codes total Δ) (ht : Δ.lookup ("told" : Str) = some td)
    (hk : ∀ Δ, L1 text menu rules codes total Δ → Δ.lookup ("told" : Str) = some td → K .next Δ μ) : R F bKind (("number", .int x) :: Δ) μ K := by
  have S := S.cons (x := "number") (d := .int x) (by decide +kernel)
  have ht : (("number", D.int x) :: Δ : Ctx).lookup ("told" : Str) = some td := look_tl (by decide +kernel) ht
  have hx : (("number", D.int x) :: Δ : Ctx).lookup ("number" : Str) = some (.int x) := look_eq
  generalize (("number", D.int x) :: Δ : Ctx) = Δ at *
  refine R.used 12 (by kernel_rfl) (mk_kinds hx) ?_
  have S := S.cons (x := "kinds") (d := kindsV x) (by decide +kernel)
  have ht : (("kinds", kindsV x) :: Δ : Ctx).lookup ("told" : Str) = some td := look_tl (by decide +kernel) ht
  have hx : (("kinds", kindsV x) :: Δ : Ctx).lookup ("number" : Str) = some (.int x) := look_tl (by decide +kernel) hx
  have h1 : (("kinds", kindsV x) :: Δ : Ctx).lookup ("kinds" : Str) = some (kindsV x) := look_eq
  generalize (("kinds", kindsV x) :: Δ : Ctx) = Δ at *
  refine R.assign 10 (by kernel_rfl) (mk_due hx) ?_
  have S := S.cons (x := "due") (d := kindsV x) (by decide +kernel)
  exact R.if_ 10 (b := false) (by kernel_rfl) (mk_test (look_tl (by decide +kernel) hx) (look_tl (by decide +kernel) h1) look_eq S.lbool S.lint) (fun e => nomatch e) fun _ => R.nil (hk _ S (look_tl (by decide +kernel) ht))
end

section
variable {W : Wd} {A : Around} {env : Env} {K : Out → Ctx → MM → Prop} {k : Nat}

theorem toldTab (L : Tl W) {μ : MM} {ns : List Int} (hn : ns.length ≤ 1000) (hb : ∀ m ∈ ns, 0 ≤ m ∧ m < 262144) : TabOk W (k + 2) μ (Φone "_law_octets" [.list (ns.map .int)] (.list ((octsTo ns.length ns).map .int)) (Φc μ)) (fun _ _ => none) :=
  tabOne (tabC L.T (k + 1) μ) (ok_octets L.T L.oct (k + 1) μ ns hn hb)

set_option maxHeartbeats 4000000 in
theorem law_mid (L : Tl W) (hA : GoodA A (k + 2)) (hE : EnvOk env) (hsc : env.scope = dScope fLaw) (hfr : A.frames = some [env]) (henv : env.frame = some env.locals) {text : Str} {rules : List (Nat × List Nat)} {total : Int} {menu : List Str} {codes : List Int} {Δ : Ctx}
    (S : L1 text menu rules codes total Δ) (ns : List Int) (m m' : Int) (hn : (ns ++ [m] ++ [m']).length ≤ 1000) (hb : ∀ x ∈ ns ++ [m] ++ [m'], 0 ≤ x ∧ x < 262144) (hnum : Δ.lookup ("numbers" : Str) = some (.list ((ns ++ [m] ++ [m']).map .int)))
    (h : ∀ Δ, L1 text menu rules codes total Δ → Δ.lookup ("told" : Str) = some (.list ((ns ++ [m] ++ [m']).map .int)) → Wp W A [] env ((dBody fLaw).drop 12) Δ (fun _ => none) K) :
    Wp W A [] env ((dBody fLaw).drop 9) Δ (fun _ => none) K := by
  have C : ∀ μ, Cx W A env μ (Φc μ) (fun _ _ => none) (k + 2) (dScope fLaw) := fun μ => ⟨L.T.b.ok, hA, tabC L.T (k + 1) μ, hE, hsc⟩
  have hk : ∀ {x : Str} {kd : NameKind}, (dScope fLaw).names.lookup x = some kd → env.kindOf x = some kd := (C fun _ => none).kind
  have hle : sizeLine = 16777216 := by decide
  have hout : ∀ e ∈ ([] : List Env), e.scope.kind ≠ .module ∧ ∃ L ∈ ([] : List Addr), e.frame = some L := fun e he => by cases he
  have hb1 : ∀ x ∈ ns ++ [m], 0 ≤ x ∧ x < 262144 := fun x hx => hb x (List.mem_append_left _ hx)
  have hb2 : ∀ x ∈ ns, 0 ≤ x ∧ x < 262144 := fun x hx => hb1 x (List.mem_append_left _ hx)
  have hbm := hb1 m (by simp)
  have C1 : ∀ μ, Cx W A env μ (Φone "_law_octets" [.list ((ns ++ [m] ++ [m']).map .int)] (.list ((octsTo (ns ++ [m] ++ [m']).length (ns ++ [m] ++ [m'])).map .int)) (Φc μ)) (fun _ _ => none) (k + 2) (dScope fLaw) := fun μ => ⟨L.T.b.ok, hA, toldTab L hn hb, hE, hsc⟩
  have C2 : ∀ μ, Cx W A env μ (Φone "_law_octets" [.list ((ns ++ [m]).map .int)] (.list ((octsTo (ns ++ [m]).length (ns ++ [m])).map .int)) (Φc μ)) (fun _ _ => none) (k + 2) (dScope fLaw) := fun μ => ⟨L.T.b.ok, hA, toldTab L (by simp at hn ⊢; omega) hb1, hE, hsc⟩
  -- told
  have hlo := octsTo_len (ns ++ [m] ++ [m']).length (ns ++ [m] ++ [m'])
  have hlo2 := octsTo_len (ns ++ [m]).length (ns ++ [m])
  have hl2 : (ns ++ [m]).length ≤ 1000 := by simp at hn ⊢; omega
  refine Wp.cons (Wp1.assignCallS (outer := []) (d := .list ((ns ++ [m] ++ [m']).map .int)) L.T.b.ok hA hfr henv hout
    (ok_read L.T L.next L.iter L.stop L.read k _ _ (reads_octs _ hb) (by omega)) (hk (by kernel_rfl)) (by decide +kernel) (.inl (hk (by kernel_rfl))) ((C1 _).evs 10 (by kernel_rfl) ?_) (by simp) ?_)
  · simp only [evs]
    rw [evD_call1 (a := .list ((ns ++ [m] ++ [m']).map .int)) (by simp only [eI, eS, eN, eBin, eNeg, eCmp, eIf, eL, eSl, eXn, eXb, eXc, eXu, eXs, eCall, eM1, eM2, eB, opt2_ss, optS_s, idxV_int]; exact hnum), Φone_self]
  have S := S.cons (x := "told") (d := .list ((ns ++ [m] ++ [m']).map .int)) (by decide +kernel)
  have htold : (("told", D.list ((ns ++ [m] ++ [m']).map .int)) :: Δ : Ctx).lookup ("told" : Str) = some (.list ((ns ++ [m] ++ [m']).map .int)) := look_eq
  have hnum : (("told", D.list ((ns ++ [m] ++ [m']).map .int)) :: Δ : Ctx).lookup ("numbers" : Str) = some (.list ((ns ++ [m] ++ [m']).map .int)) := by rw [look_ne (by decide +kernel)]; exact hnum
  generalize (("told", D.list ((ns ++ [m] ++ [m']).map .int)) :: Δ : Ctx) = Δ at S htold hnum ⊢
  -- the if
  refine Wp.cons (Wp1.ifOrCall (outer := []) (b := false) (d := .list (ns.map .int)) (d' := .list (ns.map .int)) (ds := [.list ((octsTo (ns ++ [m]).length (ns ++ [m])).dropLast.map .int)]) L.T.b.ok hA hfr henv hout ((C _).tst 5 (by kernel_rfl) ?_)
    (ok_read L.T L.next L.iter L.stop L.read k _ _ (reads_cut ns m hb2 hbm.1 hbm.2) (by rw [List.length_dropLast]; omega)) (hk (by kernel_rfl)) (by decide +kernel) ((C2 _).evs 12 (by kernel_rfl) ?_) (by simp) ((C _).ev 10 (by kernel_rfl) ?_) rfl ?_ (by intro e; cases e) fun _ => ?_)
  · simp only [tNot, tBool, tCmp, tN, tBin, tCall, opt2_ss, eI, eS, eN, eBin, eNeg, eCmp, eIf, eL, eSl, eXn, eXb, eXc, eXu, eXs, eCall, eM1, optS_s, idxV_int, htold, hnum, cmpD]
    rw [eqD_ints]; simp
  · have e1 : pickL ((ns ++ [m] ++ [m']).map D.int) none (some (-1)) none = (ns ++ [m]).map .int := by
      rw [show (-1 : Int) = -((1 : Nat) : Int) from rfl, pickL_but _ _ (Nat.le_refl _)]
      have : ((ns ++ [m] ++ [m']).map D.int).length - 1 = ((ns ++ [m]).map D.int).length := by simp
      rw [this, show ((ns ++ [m] ++ [m']).map D.int) = ((ns ++ [m]).map D.int) ++ [D.int m'] by simp]; exact List.take_left
    have e2 : pickL ((octsTo (ns ++ [m]).length (ns ++ [m])).map D.int) none (some (-1)) none = (octsTo (ns ++ [m]).length (ns ++ [m])).dropLast.map .int := by
      rw [show (-1 : Int) = -((1 : Nat) : Int) from rfl, pickL_but _ _ (Nat.le_refl _), List.map_dropLast, List.dropLast_eq_take]
    simp only [evs]
    rw [evD_slice (d := .list ((octsTo (ns ++ [m]).length (ns ++ [m])).map .int)) (l := none) (h := some (-1)) (s := none) ?_ (by simp only [partI]) (by simp only [partI, eI, eS, eN, eBin, eNeg, eCmp, eIf, eL, eSl, eXn, eXb, eXc, eXu, eXs, eCall, eM1, eM2, eB, opt2_ss, optS_s, idxV_int]) (by simp only [partI])]
    · simp only [sliceD, asList]
      rw [if_pos ⟨by simp, by rw [List.length_map]; omega⟩, e2]
    · rw [evD_call1 (a := .list ((ns ++ [m]).map .int)) ?_, Φone_self]
      rw [evD_slice (d := .list ((ns ++ [m] ++ [m']).map .int)) (l := none) (h := some (-1)) (s := none) (by simp only [eI, eS, eN, eBin, eNeg, eCmp, eIf, eL, eSl, eXn, eXb, eXc, eXu, eXs, eCall, eM1, eM2, eB, opt2_ss, optS_s, idxV_int]; exact hnum) (by simp only [partI]) (by simp only [partI, eI, eS, eN, eBin, eNeg, eCmp, eIf, eL, eSl, eXn, eXb, eXc, eXu, eXs, eCall, eM1, eM2, eB, opt2_ss, optS_s, idxV_int]) (by simp only [partI])]
      simp only [sliceD, asList]
      rw [if_pos ⟨by simp, by rw [List.length_map]; omega⟩, e1]
  · have e3 : pickL ((ns ++ [m] ++ [m']).map D.int) none (some (-2)) none = ns.map .int := by
      rw [show (-2 : Int) = -((2 : Nat) : Int) from rfl, pickL_but _ _ (by decide)]
      have : ((ns ++ [m] ++ [m']).map D.int).length - 2 = (ns.map D.int).length := by simp
      rw [this, show ((ns ++ [m] ++ [m']).map D.int) = (ns.map D.int) ++ [D.int m, D.int m'] by simp]; exact List.take_left
    rw [evD_slice (d := .list ((ns ++ [m] ++ [m']).map .int)) (l := none) (h := some (-2)) (s := none) (by simp only [eI, eS, eN, eBin, eNeg, eCmp, eIf, eL, eSl, eXn, eXb, eXc, eXu, eXs, eCall, eM1, eM2, eB, opt2_ss, optS_s, idxV_int]; exact hnum) (by simp only [partI]) (by simp only [partI, eI, eS, eN, eBin, eNeg, eCmp, eIf, eL, eSl, eXn, eXb, eXc, eXu, eXs, eCall, eM1, eM2, eB, opt2_ss, optS_s, idxV_int]) (by simp only [partI])]
    simp only [sliceD, asList]
    rw [if_pos ⟨by simp, by rw [List.length_map]; omega⟩, e3]
  · simp only [cmpD]
    rw [eqD_ints]; simp
  refine Wp.nil ?_
  generalize hnums : ns ++ [m] ++ [m'] = nums at *
  -- every number's kind
  generalize hF : (⟨W, A, [], env, k + 2, C⟩ : Fr Φc (fun _ => Φ0) (dScope fLaw)) = F
  have hR : ∀ {ss Δ μ K}, R F ss Δ μ K → Wp W A [] env ss Δ μ K := by subst hF; exact fun h => h
  have h : ∀ Δ, L1 text menu rules codes total Δ → Δ.lookup ("told" : Str) = some (.list (nums.map .int)) → R F ((dBody fLaw).drop 12) Δ (fun _ => none) K := by subst hF; exact h
  refine hR ?_
  clear hR hF hb hb1 hb2 hbm C1 C2 hlo hlo2 hl2 hnum hout
  refine R.for_ (xs := (nums ++ nums.map fun x => -x).map .int) (fun i Δ μ => L1 text menu rules codes total Δ ∧ Δ.lookup ("told" : Str) = some (.list (nums.map .int)) ∧ μ = fun _ => none) (by kernel_rfl) ((F.cx _).iterE 12 (by kernel_rfl) ?_) ⟨S, htold, rfl⟩ (fun i d Δ μ P hd hI hP => ?_) fun Δ μ hI => ?_
  · refine (evD_bin (a := .list (nums.map .int)) (b := .list ((nums.map fun x => -x).map .int)) (evN htold) ?_).trans ?_
    · rw [List.map_map]
      refine evD_comp (g := .int) (itD_of (d := .list (nums.map .int)) (evN htold) rfl (by intro _ _ _ _ h; cases h)) (fun y _ => ?_) (by omega)
      rw [eNeg, eN, look_eq]; rfl
    · rw [binD_addl, if_pos (by simp; omega), List.map_append]
  · obtain ⟨S, htold, rfl⟩ := hI
    obtain ⟨_, rfl⟩ := mem_mapD hd
    exact kind_one S htold fun Δ S ht => hP _ _ ⟨S, ht, rfl⟩
  · obtain ⟨S, htold, rfl⟩ := hI
    exact h _ S htold
end
end Mine

open PySem PySem.W PyProof.Rows
set_option Elab.async false
set_option linter.unusedVariables false
set_option linter.unusedSimpArgs false
set_option maxRecDepth 100000
namespace Mine

theorem filter_from {r : Nat → Bool} {place size : Nat} (hp : place ≤ size) (h : ∀ j < place, r j = false) : (List.range size).filter r = ((List.range (size - place)).filter fun k => r (place + k)).map (place + ·) := by
  obtain ⟨b, rfl⟩ := Nat.exists_eq_add_of_le hp
  rw [List.range_add, List.filter_append]
  have e1 : (List.range place).filter r = [] := by
    rw [List.filter_eq_nil_iff]; intro k hk; have : k < place := by simpa using hk
    simp [h k this]
  rw [e1, List.nil_append, List.filter_map]
  rw [Nat.add_sub_cancel_left]; rfl
theorem pow2s_nonneg (l : List Nat) : 0 ≤ pow2s l := by
  induction l with
  | nil => simp [pow2s]
  | cons k l ih => have := pow_pos' k; simp only [pow2s, List.map_cons, List.sum_cons] at ih ⊢; exact Int.add_nonneg (Int.le_of_lt this) ih
theorem pow2s_filter_le (p : Nat → Bool) (l : List Nat) : pow2s (l.filter p) ≤ pow2s l := by
  induction l with
  | nil => simp [pow2s]
  | cons k l ih =>
    have := pow_pos' k
    rw [List.filter_cons]
    split
    · simp only [pow2s, List.map_cons, List.sum_cons] at ih ⊢; exact Int.add_le_add_left ih _
    · simp only [pow2s, List.map_cons, List.sum_cons] at ih ⊢; exact Int.le_trans ih (Int.le_add_of_nonneg_left (Int.le_of_lt this))

/-- the ends that the law makes -/
def endsL (text : Str) (low : Nat) (l : List Str) (place : Nat) : List Nat := ((List.range (text.length + 1 - place)).filter fun k => decide (subS text place (place + k) ∈ l)).map fun k => low + (place + k)
theorem endsL_eq {text : Str} {low : Nat} {l : List Str} {place : Nat} {r : Nat → Bool} (hp : place ≤ text.length) (ht : text.length ≤ 4) (hlow : low ≤ 38) (hr : ∀ j, j ≤ text.length → (r j = true ↔ place ≤ j ∧ subS text place j ∈ l)) :
    endsL text low l place = (List.range 64).filter (upP low (text.length + 1) r) := by
  rw [ends_up _ _ _ _ (Nat.add_le_add hlow (Nat.le_trans (Nat.succ_le_succ ht) (by decide : 5 ≤ 26))), filter_from (place := place) (Nat.le_succ_of_le hp) fun j hj => by
    cases e : r j with
    | false => rfl
    | true => have := ((hr j (Nat.le_trans (Nat.le_of_lt hj) hp)).mp e).1; exact absurd hj (Nat.not_lt.mpr this)]
  unfold endsL
  rw [List.map_map]
  have : (List.range (text.length + 1 - place)).filter (fun k => decide (subS text place (place + k) ∈ l)) = (List.range (text.length + 1 - place)).filter (fun k => r (place + k)) := by
    refine List.filter_congr fun k hk => ?_
    have hk' : k < text.length + 1 - place := by simpa using hk
    have := hr (place + k) (Nat.le_of_lt_succ (add_sub_lt hk'))
    by_cases hm : subS text place (place + k) ∈ l
    · rw [this.mpr ⟨Nat.le_add_right .., hm⟩]; simp [hm]
    · cases e : r (place + k) with
      | false => simp [hm]
      | true => exact absurd (this.mp e).2 hm
  rw [this]; rfl
theorem bits_small (P : Nat → Bool) : 0 ≤ bits P 64 ∧ bits P 64 < 18446744073709551616 := bits_range P 64
theorem pow_facts : 18446744073709551616 ≤ 2 ^ 90 ∧ 36893488147419103232 ≤ 16 ^ 90 := by constructor <;> decide +kernel
end Mine

open PySem PySem.W PyProof.Rows
set_option Elab.async false
set_option linter.unusedVariables false
set_option linter.unusedSimpArgs false
set_option maxRecDepth 100000
namespace Mine

/-- what stays the same while the law's end runs -/
structure LP where
  text : Str
  codes : List Int
  M' : Nat → List Str
  low : Nat
  f0 : Addr
  ht : text.length ≤ 4
  hlow : low ≤ 38
  hcl : 3 ≤ codes.length

structure L2 (l : LP) (Δ : Ctx) : Prop where
  ltext : Δ.lookup ("text" : Str) = some (.str l.text)
  lcodes : Δ.lookup ("codes" : Str) = some (.list (l.codes.map .int))
  lmade : Δ.lookup ("made" : Str) = some (.list [strsD (l.M' 0), strsD (l.M' 1), strsD (l.M' 2)])
  llow : Δ.lookup ("low" : Str) = some (.int (l.low : Nat))
  lfound : Δ.lookup ("found" : Str) = some (.ref l.f0)
structure L3 (l : LP) (part : Nat) (Δ : Ctx) : Prop where
  l2 : L2 l Δ
  part : Δ.lookup ("part" : Str) = some (.int (part : Nat))
structure L4 (l : LP) (part place : Nat) (Δ : Ctx) : Prop where
  l3 : L3 l part Δ
  place : Δ.lookup ("place" : Str) = some (.int (place : Nat))
structure L5 (l : LP) (part place : Nat) (E : List Nat) (Δ : Ctx) : Prop where
  l4 : L4 l part place Δ
  ends : Δ.lookup ("ends" : Str) = some (.list (E.map fun (n : Nat) => .int n))
structure L6 (l : LP) (part place : Nat) (E : List Nat) (above : Int) (Δ : Ctx) : Prop where
  l5 : L5 l part place E Δ
  above : Δ.lookup ("above" : Str) = some (.int above)
abbrev nL2 : List Str := ["text", "codes", "made", "low", "found"]
abbrev nL5 : List Str := ["text", "codes", "made", "low", "found", "part", "place", "ends"]
section
variable {l : LP} {part place : Nat} {E : List Nat} {above : Int} {Δ : Ctx} {x : Str} {d : D}
theorem L2.cons (S : L2 l Δ) (h : offN nL2 x = true) : L2 l ((x, d) :: Δ) :=
  ⟨look_off h (by decide +kernel) S.ltext, look_off h (by decide +kernel) S.lcodes, look_off h (by decide +kernel) S.lmade, look_off h (by decide +kernel) S.llow, look_off h (by decide +kernel) S.lfound⟩
theorem L4.cons (S : L4 l part place Δ) (h : offN nL5 x = true) : L4 l part place ((x, d) :: Δ) := ⟨⟨S.l3.l2.cons (offN_sub (by decide +kernel) h), look_off h (by decide +kernel) S.l3.part⟩, look_off h (by decide +kernel) S.place⟩
theorem L5.cons (S : L5 l part place E Δ) (h : offN nL5 x = true) : L5 l part place E ((x, d) :: Δ) := ⟨S.l4.cons h, look_off h (by decide +kernel) S.ends⟩
end

abbrev innerS : List Stmt := forB (sAt (forB (sAt (dBody fLaw) 15)) 0)
theorem partV {Φ Ψ : Str → List D → Option D} {μ : MM} {Δ : Ctx} {n : Nat} {x : Str} {p : Pos} {i : Int} (h : Δ.lookup x = some (.int i)) : partI (fun e => evD Φ Ψ μ (n + 1) e Δ) (some (.Name x p)) = some (some i) := by simp only [partI, eN, h]

section
variable {Φ : Str → List D → Option D} {l : LP} {part place : Nat} {E : List Nat} {above : Int} {μ : MM} {Δ : Ctx}

theorem lp_ends (hpart : part < 3) (hplace : place ≤ l.text.length) (S : L4 l part place Δ) : evD (Φc μ) Φ0 μ 14 (valE (sAt innerS 0)) Δ = some (.list ((endsL l.text l.low (l.M' part) place).map fun (n : Nat) => .int n)) := by
  have hle := line_big
  have ht := l.ht
  have htx := S.l3.l2.ltext
  have hlen : Φc μ "len" [.str l.text] = some (.int l.text.length) := by rw [Φc_b (by decide +kernel)]; exact Φb_len_str (le_line (Nat.le_trans ht (by decide)))
  unfold endsL
  rw [List.map_map]
  refine evD_compIf (g := fun (n : Nat) => .int ((place + n : Nat) : Int)) (f := fun n => decide (subS l.text place (place + n) ∈ l.M' part)) (itD_range2 (a := place) (m := l.text.length + 1) (evN S.place) ((evD_bin ((evD_call1 (evN htx)).trans hlen) eI).trans b_add) (Nat.le_trans (Nat.le_trans hplace ht) (by decide)) (Nat.le_trans (Nat.succ_le_succ ht) (by decide))) (fun n hn => ?_) (fun n hn _ => ?_) (by simp; omega)
  · have hn' : n < l.text.length + 1 - place := by simpa using hn
    have hs : sliceD μ (.str l.text) (some (place : Int)) (some ((place + n : Nat) : Int)) none = some (.str (subS l.text place (place + n))) := by
      simp only [sliceD]
      rw [if_pos ⟨trivial, le_line (Nat.le_trans ht (by decide))⟩, txt_slice (Nat.le_add_right ..) (Nat.le_of_lt_succ (add_sub_lt hn'))]
    have hm : ([strsD (l.M' 0), strsD (l.M' 1), strsD (l.M' 2)] : List D)[part]? = some (strsD (l.M' part)) := by
      rcases lt3 hpart with rfl | rfl | rfl <;> rfl
    have hc : cmpD μ .In (.str (subS l.text place (place + n))) (strsD (l.M' part)) = some (decide (subS l.text place (place + n) ∈ l.M' part)) := by
      simp only [cmpD, strsD, asList, memD, strsOf_map, Option.map_some]
    refine (tstD_cmp (a := .str (subS l.text place (place + n))) (b := strsD (l.M' part)) ?_ ?_).trans hc
    · refine (evD_slice (evN (look_tl (by decide +kernel) (free_look (by kernel_rfl) htx))) (l := some (place : Int)) (h := some ((place + n : Nat) : Int)) (s := none) ?_ ?_ partN).trans hs
      · exact partV (look_tl (by decide +kernel) (free_look (by kernel_rfl) S.place))
      · exact partV look_eq
    · exact (evD_idx (by intro _ _ _ _ h; cases h) (evN (look_tl (by decide +kernel) (free_look (by kernel_rfl) S.l3.l2.lmade))) (evN (look_tl (by decide +kernel) (free_look (by kernel_rfl) S.l3.part)))).trans (idxD_list (μ := μ) hm (Nat.lt_trans hpart (by decide)))
  · exact (evD_bin (evN (look_tl (by decide +kernel) (free_look (by kernel_rfl) S.l3.l2.llow))) (evN look_eq)).trans b_add

theorem ne_self {x : Str} : cmpD μ .NotEq (.str x) (.str x) = some false := congrArg some (bne_self_eq_false x)
theorem b_one_shl {n : Nat} (h : n ≤ 1000000) : binD μ .LShift (.int 1) (.int (n : Nat)) = some (.int (2 ^ n)) := by
  rw [binD_int]; simp only [aAdd, aSub, aMul, aDiv, aMod, aPow, aShl, aShr, aAnd, aOr, aXor]; rw [if_pos ⟨by omega, by omega, by decide⟩]; simp

theorem lp_above (hE : ∀ n ∈ E, n < 64) (hl : E.length ≤ 64) (S : L5 l part place E Δ) : evD (Φc μ) Φ0 μ 14 (valE (sAt innerS 1)) Δ = some (.int (pow2s (E.filter (31 < ·)))) := by
  have hle := line_big
  refine (evD_call1 (a := .list (((E.filter (31 < ·)).map fun (k : Nat) => (2 : Int) ^ k).map .int)) ?_).trans (lh_sum _)
  rw [List.map_map]
  refine evD_compIf (g := fun (n : Nat) => .int (n : Nat)) (f := fun n => decide (31 < n)) (itD_of (d := .list (E.map fun (n : Nat) => .int n)) (evN S.ends) rfl (by intro _ _ _ _ h; cases h)) (fun n hn => ?_) (fun n hn _ => ?_) (by omega)
  · exact (tstD_cmp (evN look_eq) eI).trans (congrArg some (decide_eq_decide.mpr Int.ofNat_lt))
  · exact (evD_bin eI (evN look_eq)).trans (b_one_shl (Nat.le_trans (Nat.le_of_lt (hE n hn)) (by decide)))

theorem lp_flags {told : List Int} {G : Int → Rel} {cnt : Nat} {fl : Int} (hpart : part < 3) (hplace : place ≤ l.text.length) (hbig : 256 ≤ codeAt l.codes part ∧ codeAt l.codes part < 262144)
    (hμ : μ l.f0 = some (.dct (fun q => if q ∈ told ∧ 256 ≤ q then some (.list (masksL (l.text.length + 1) (G q))) else none) cnt))
    (hfl : bits (G (codeAt l.codes part) place) (l.text.length + 1) * 2 ^ l.low = fl) (hzero : codeAt l.codes part ∉ told → fl = 0) (S : L4 l part place Δ) : evD (Φc μ) Φ0 μ 14 (valE (sAt innerS 2)) Δ = some (.int fl) := by
  have ht := l.ht
  have hr0 := bits_range (G (codeAt l.codes part) place) (l.text.length + 1)
  have hr1 : bits (G (codeAt l.codes part) place) (l.text.length + 1) < 32 := by
    have : (2 : Int) ^ (l.text.length + 1) ≤ 2 ^ 5 := by
      have := Nat.pow_le_pow_right (n := 2) (by decide) (show l.text.length + 1 ≤ 5 by omega)
      exact_mod_cast this
    omega
  have hcg : (l.codes.map D.int)[part]? = some (.int (codeAt l.codes part)) := by
    have : part < l.codes.length := Nat.lt_of_lt_of_le hpart l.hcl
    rw [List.getElem?_map, List.getElem?_eq_getElem this]; simp [codeAt, this]
  have hcode : ∀ n p q r, evD (Φc μ) Φ0 μ (n + 2) (.Subscript (.Name "codes" p) (.Name "part" q) r) Δ = some (.int (codeAt l.codes part)) := fun n p q r => (evD_idx (by intro _ _ _ _ h; cases h) (evN S.l3.l2.lcodes) (evN S.l3.part)).trans (idxD_list (μ := μ) hcg (Nat.lt_trans hpart (by decide)))
  have hfd := evN (Φ := Φc μ) (Ψ := Φ0) (μ := μ) (n := 10) (p := ⟨0, 0, 0, 0⟩) S.l3.l2.lfound
  refine (evD_if (c := decide (codeAt l.codes part ∈ told)) ((tstD_cmp (hcode _ _ _ _) (evN S.l3.l2.lfound)).trans ?_)).trans ?_
  · simp only [cmpD, asList, hμ]
    by_cases hm : codeAt l.codes part ∈ told <;> simp [hm, hbig.1]
  · by_cases hm : codeAt l.codes part ∈ told
    · rw [if_pos (decide_eq_true hm)]
      have hfd := idxD_dct (i := codeAt l.codes part) (x := .list (masksL (l.text.length + 1) (G (codeAt l.codes part)))) hμ (if_pos ⟨hm, hbig.1⟩) (Int.le_trans (by decide) hbig.1) (Int.lt_trans hbig.2 (by decide))
      have hpl := idxD_list (μ := μ) (masksL_get (R := G (codeAt l.codes part)) (s := place) (size := l.text.length + 1) (Nat.lt_succ_of_le hplace)) (Nat.lt_of_le_of_lt (Nat.le_trans hplace ht) (by decide))
      refine (evD_bin ((evD_idx (by intro _ _ _ _ h; cases h) ((evD_idx (by intro _ _ _ _ h; cases h) (evN S.l3.l2.lfound) (hcode _ _ _ _)).trans hfd) (evN S.place)).trans hpl) (evN S.l3.l2.llow)).trans ?_
      rw [binD_int]; simp only [aAdd, aSub, aMul, aDiv, aMod, aPow, aShl, aShr, aAnd, aOr, aXor]; rw [if_pos ⟨by omega, by have := l.hlow; omega, by omega⟩]; simp only [Int.toNat_natCast, hfl, Option.map_some]
    · rw [if_neg (by simpa using hm), hzero hm]; exact eI

theorem lp_test1 {fl : Int} {x : Str} (h1 : Φ "pretty_flags" [.int fl] = some (.str x)) (h2 : Φ "_law_words" [.list ((E.filter (· < 32)).map fun (n : Nat) => .int n), .int above] = some (.str x)) (hl : E.length ≤ 64) (S : L6 l part place E above Δ) (hf : Δ.lookup ("flags" : Str) = some (.int fl)) :
    tstD Φ Φ0 μ 14 (testE (sAt innerS 3)) Δ = some false := by
  have hle := line_big
  refine (tstD_cmp ((evD_call1 (evN hf)).trans h1) ((evD_call2 (a := .list ((E.filter (· < 32)).map fun (n : Nat) => .int n)) ?_ (evN S.above)).trans h2)).trans ne_self
  refine evD_compIf (g := fun (n : Nat) => .int (n : Nat)) (f := fun n => decide (n < 32)) (itD_of (d := .list (E.map fun (n : Nat) => .int n)) (evN S.l5.ends) rfl (by intro _ _ _ _ h; cases h)) (fun n hn => ?_) (fun n hn _ => evN look_eq) (le_line (Nat.le_trans hl (by decide)))
  exact (tstD_cmp (evN look_eq) eI).trans (congrArg some (decide_eq_decide.mpr Int.ofNat_lt))

theorem lp_test2 {fl : Int} {x : Str} (h1 : Φ "pretty_flags" [.int (-1 - fl)] = some (.str x)) (h2 : Φ "_law_words" [.list (((List.range 32).filter fun n => decide (n ∉ E)).map fun (n : Nat) => .int n), .int (-4294967296 - above)] = some (.str x)) (S : L6 l part place E above Δ) (hf : Δ.lookup ("flags" : Str) = some (.int fl)) :
    tstD Φ Φ0 μ 16 (testE (sAt innerS 4)) Δ = some false := by
  have hle := line_big
  have t1 : ∀ n (p q q2 q3 q4 : Pos) (c : Nat), tstD Φ Φ0 μ (n + 3) (.Compare (.BinOp (.Name "part" p) .Add (.Name "place" q) q2) [.Eq] [.Constant (.int 0) c q3] q4) Δ = some ((part : Int) + place == 0) := fun n p q q2 q3 q4 c =>
    tstD_cmp ((evD_bin (evN S.l5.l4.l3.part) (evN S.l5.l4.place)).trans b_add) eI
  have t2 : ∀ {l r : Expr} {p : Pos} {n : Nat} {x : Str}, evD Φ Φ0 μ n l Δ = some (.str x) → evD Φ Φ0 μ n r Δ = some (.str x) → tstD Φ Φ0 μ (n + 1) (.Compare l [.NotEq] [r] p) Δ = some false := fun h1 h2 => (tstD_cmp h1 h2).trans ne_self
  have hsh : binD μ .LShift (.int 1) (.int 32) = some (.int 4294967296) := b_one_shl (n := 32) (by decide)
  refine Eq.trans (b := tstAll .And (fun e => tstD Φ Φ0 μ 15 e Δ) [_, _]) rfl ?_
  simp only [tstAll]
  rw [t1, t2 (x := x) ((evD_call1 ((evD_bin (by rw [eNeg, eI]) (evN hf)).trans b_sub)).trans h1) ((evD_call2 (a := .list (((List.range 32).filter fun n => decide (n ∉ E)).map fun (n : Nat) => .int n)) ?_ ((evD_bin (by rw [eNeg, evD_bin eI eI, hsh]) (evN S.above)).trans b_sub)).trans h2)]
  · cases hh : ((part : Int) + place == 0) <;> simp [hh]
  · refine evD_compIf (g := fun (n : Nat) => .int (n : Nat)) (f := fun n => decide (n ∉ E)) (itD_range1 (m := 32) eI (by omega)) (fun n hn => ?_) (fun n hn _ => evN look_eq) (by simp; omega)
    have hEm : E.map (fun (n : Nat) => D.int n) = (E.map fun (n : Nat) => (n : Int)).map .int := by rw [List.map_map]; rfl
    have hnm : decide ((n : Int) ∈ E.map fun (n : Nat) => (n : Int)) = decide (n ∈ E) := by
      rw [decide_eq_decide, List.mem_map]
      constructor
      · rintro ⟨a, h1, h2⟩; have : a = n := by omega
        subst this; exact h1
      · intro h; exact ⟨n, h, rfl⟩
    refine (tstD_cmp (evN look_eq) (evN (look_tl (by decide +kernel) (free_look (by kernel_rfl) S.l5.ends)))).trans ?_
    simp only [cmpD, asList]
    rw [hEm]
    simp only [memD, intsOf_map, Option.map_some, hnm, decide_not]
end

section
variable {W : Wd} {A : Around} {env : Env} {K : Out → Ctx → MM → Prop} {k : Nat}

theorem law_place (L : Tl W) (hA : GoodA A (k + 2)) (hE : EnvOk env) (hsc : env.scope = dScope fLaw) {l : LP} {told : List Int} {G : Int → Rel} {cnt part place : Nat} {μ : MM} {Δ : Ctx}
    (hpart : part < 3) (hplace : place ≤ l.text.length) (hbig : 256 ≤ codeAt l.codes part ∧ codeAt l.codes part < 262144)
    (hμ : μ l.f0 = some (.dct (fun q => if q ∈ told ∧ 256 ≤ q then some (.list (masksL (l.text.length + 1) (G q))) else none) cnt))
    (hG : ∀ j, j ≤ l.text.length → (G (codeAt l.codes part) place j = true ↔ place ≤ j ∧ subS l.text place j ∈ l.M' part)) (hno : codeAt l.codes part ∉ told → ∀ j, G (codeAt l.codes part) place j = false)
    (S : L4 l part place Δ) (h : ∀ Δ, L3 l part Δ → K .next Δ μ) : Wp W A [] env innerS Δ μ K := by
  have C : ∀ μ, Cx W A env μ (Φc μ) Φ0 (k + 2) (dScope fLaw) := fun μ => ⟨L.T.b.ok, hA, tabC L.T (k + 1) μ, hE, hsc⟩
  have hle := line_big
  have ht := l.ht
  have hlow := l.hlow
  have hflags : bits (G (codeAt l.codes part) place) (l.text.length + 1) * 2 ^ l.low = bits (upP l.low (l.text.length + 1) (G (codeAt l.codes part) place)) 64 := (bits_up _ _ _ _ (Nat.add_le_add hlow (Nat.le_trans (Nat.succ_le_succ ht) (by decide : 5 ≤ 26)))).symm
  have hzero : codeAt l.codes part ∉ told → bits (upP l.low (l.text.length + 1) (G (codeAt l.codes part) place)) 64 = 0 := fun hn => by
    rw [← hflags, bits_none' fun j _ => hno hn j]; simp
  have hends := lp_ends (μ := μ) hpart hplace S
  rw [endsL_eq (l := l.M' part) hplace ht hlow hG] at hends
  have hfl : ∀ Δ, L4 l part place Δ → _ := fun Δ S => lp_flags hpart hplace hbig hμ hflags hzero S
  generalize upP l.low (l.text.length + 1) (G (codeAt l.codes part) place) = P at *
  have hpretty := pretty_bits P 64 (by decide)
  have hneg := pretty_neg P 64 (by decide)
  have hbs := bits_small P
  have hE64 : ((List.range 64).filter P).length ≤ 64 := Nat.le_trans (List.length_filter_le ..) (by simp)
  have hab0 := pow2s_nonneg (((List.range 64).filter P).filter (31 < ·))
  have hab1 := pow2s_filter_le (31 < ·) ((List.range 64).filter P)
  have hsum := bits_sum P 64
  have hks : ∀ n ∈ ((List.range 64).filter P).filter (· < 32), n < 32 := fun n hn => by simpa using (List.mem_filter.mp hn).2
  have hkl : (((List.range 64).filter P).filter (· < 32)).length ≤ 32 := by
    rw [show (64 : Nat) = 32 + 32 from rfl, filter_lt]; exact Nat.le_trans (List.length_filter_le ..) (by simp)
  have hn64 : ∀ n ∈ (List.range 64).filter P, n < 64 := fun n hn => by simpa using (List.mem_filter.mp hn).1
  generalize (List.range 64).filter P = E at *
  clear hG hno hbig hμ hplace hpart hflags hzero
  refine Wp.cons (Wp1.assign ((C μ).swap (by kernel_rfl)) (.inr ((C μ).kind (by kernel_rfl))) ((C μ).ev 14 (by kernel_rfl) hends) ?_)
  have S : L5 l part place E ((("ends" : Str), .list (E.map fun (n : Nat) => .int n)) :: Δ) := ⟨⟨⟨S.l3.l2.cons (by decide +kernel), look_tl (by decide +kernel) S.l3.part⟩, look_tl (by decide +kernel) S.place⟩, look_eq⟩
  generalize ((("ends" : Str), D.list (E.map fun (n : Nat) => .int n)) :: Δ) = Δ at *
  refine Wp.cons (Wp1.assign ((C μ).swap (by kernel_rfl)) (.inl ((C μ).kind (by kernel_rfl))) ((C μ).ev 14 (by kernel_rfl) (lp_above hn64 hE64 S)) ?_)
  have S : L6 l part place E (pow2s (E.filter (31 < ·))) ((("above" : Str), .int (pow2s (E.filter (31 < ·)))) :: Δ) := ⟨S.cons (by decide +kernel), look_eq⟩
  generalize ((("above" : Str), D.int (pow2s (E.filter (31 < ·)))) :: Δ) = Δ at *
  generalize pow2s (E.filter (31 < ·)) = above at *
  refine Wp.cons (Wp1.assign ((C μ).swap (by kernel_rfl)) (.inl ((C μ).kind (by kernel_rfl))) ((C μ).ev 14 (by kernel_rfl) (hfl Δ S.l5.l4)) ?_)
  have hf : ((("flags" : Str), D.int (bits P 64)) :: Δ).lookup ("flags" : Str) = some (.int (bits P 64)) := look_eq
  have S : L6 l part place E above ((("flags" : Str), .int (bits P 64)) :: Δ) := ⟨S.l5.cons (by decide +kernel), look_tl (by decide +kernel) S.above⟩
  generalize ((("flags" : Str), D.int (bits P 64)) :: Δ) = Δ at *
  clear hfl hends
  obtain ⟨pf1, pf2⟩ := pow_facts
  have C1 : Cx W A env μ (Φone "_law_words" [.list ((E.filter (· < 32)).map fun (n : Nat) => .int n), .int above] (.str (Txt.join ", " (wordsL (E.filter (· < 32)) above))) (Φone "pretty_flags" [.int (bits P 64)] (.str (prettyS (bits P 64))) (Φc μ))) Φ0 (k + 2) (dScope fLaw) :=
    ⟨L.T.b.ok, hA, tabOne (tabOne (tabC L.T (k + 1) μ) (ok_pretty L.T (k + 1) μ _ (Nat.lt_of_lt_of_le (abs_lt hbs.1 hbs.2) pf1))) (ok_words L.T L.words (k + 1) μ _ _ hks hkl (Nat.lt_of_lt_of_le (abs_lt hab0 (B := 36893488147419103232) (Int.lt_trans (Int.lt_of_le_of_lt hab1 (hsum ▸ hbs.2)) (by decide))) pf2)), hE, hsc⟩
  refine Wp.cons (Wp1.if_ (b := false) (C1.tst 14 (by kernel_rfl) (lp_test1 ((Φone_ne (by decide +kernel)).trans Φone_self) (Φone_self.trans (by rw [hpretty])) hE64 S hf)) (by intro e; cases e) fun _ => Wp.nil ?_)
  -- the other sign
  have hkl2 : ((List.range 32).filter fun n => decide (n ∉ E)).length ≤ 32 := Nat.le_trans (List.length_filter_le ..) (by simp)
  have hks2 : ∀ n ∈ (List.range 32).filter (fun n => decide (n ∉ E)), n < 32 := fun n hn => by simpa using (List.mem_filter.mp hn).1
  have C2 : Cx W A env μ (Φone "_law_words" [.list (((List.range 32).filter fun n => decide (n ∉ E)).map fun (n : Nat) => .int n), .int (-4294967296 - above)] (.str (Txt.join ", " (wordsL ((List.range 32).filter fun n => decide (n ∉ E)) (-4294967296 - above)))) (Φone "pretty_flags" [.int (-1 - bits P 64)] (.str (prettyS (-1 - bits P 64))) (Φc μ))) Φ0 (k + 2) (dScope fLaw) :=
    ⟨L.T.b.ok, hA, tabOne (tabOne (tabC L.T (k + 1) μ) (ok_pretty L.T (k + 1) μ _ (Nat.lt_of_lt_of_le (abs_lt_neg (c := 1) (B := 36893488147419103232) hbs.1 (by decide) (Int.lt_trans (Int.add_lt_add_right hbs.2 1) (by decide))) (by decide +kernel)))) (ok_words L.T L.words (k + 1) μ _ _ hks2 hkl2 (Nat.lt_of_lt_of_le (abs_lt_neg (c := 4294967296) (B := 36893488147419103232) hab0 (by decide) (Int.lt_trans (Int.add_lt_add_right (Int.lt_of_le_of_lt hab1 (hsum ▸ hbs.2)) _) (by decide))) pf2)), hE, hsc⟩
  exact Wp.cons (Wp1.if_ (b := false) (C2.tst 16 (by kernel_rfl) (lp_test2 ((Φone_ne (by decide +kernel)).trans Φone_self) (Φone_self.trans (by rw [hneg])) S hf)) (by intro e; cases e) fun _ => Wp.nil (Wp.nil (h _ S.l5.l4.l3)))
end
end Mine

open PySem PySem.W PyProof.Rows
set_option Elab.async false
set_option linter.unusedVariables false
set_option linter.unusedSimpArgs false
set_option maxRecDepth 100000
namespace Mine
section
variable {W : Wd} {A : Around} {env : Env} {K : Out → Ctx → MM → Prop} {k : Nat}

set_option maxHeartbeats 4000000 in
theorem law_tail (L : Tl W) (hA : GoodA A (k + 2)) (hE : EnvOk env) (hsc : env.scope = dScope fLaw) {text : Str} {rules : List (Nat × List Nat)} {total : Int} {Δ : Ctx}
    (ht : text.length ≤ 4) (hrl : rules.length = 6) (hr : ∀ r ∈ rules, r.1 < 3 ∧ r.2.length ≤ 3 ∧ ∀ p ∈ r.2, p < 4 + (menuOf text).length) (h0 : 0 ≤ total)
    (S : L1 text (menuOf text) rules (cds total text) total Δ) (htold : Δ.lookup ("told" : Str) = some (.list ((numbersOf (cds total text) rules).map .int))) :
    Wp W A [] env ((dBody fLaw).drop 12) Δ (fun _ => none) (fun o _ _ => o = .ret (.bool true)) := by
  have C : ∀ μ, Cx W A env μ (Φc μ) (fun _ _ => none) (k + 2) (dScope fLaw) := fun μ => ⟨L.T.b.ok, hA, tabC L.T (k + 1) μ, hE, hsc⟩
  have hk : ∀ {x : Str} {kd : NameKind}, (dScope fLaw).names.lookup x = some kd → env.kindOf x = some kd := (C fun _ => none).kind
  have hle : sizeLine = 16777216 := by decide
  have hml : (menuOf text).length ≤ 48 := by unfold menuOf; rw [← tableL_len]; exact List.length_filter_le ..
  have hcb : ∀ r ∈ rules, ∀ p ∈ r.1 :: r.2, 7 ≤ cd total text p ∧ cd total text p < 262144 := fun r hrm p hp => by
    refine cd_bound ?_
    rcases List.mem_cons.mp hp with rfl | hp
    · have := (hr r hrm).1; omega
    · exact (hr r hrm).2.2 p hp
  have hcl : 3 ≤ (cds total text).length := by simp [cds, codesOf]
  have hnb : ∀ n ∈ numbersOf (cds total text) rules, 0 ≤ n ∧ n < 1000000 := fun n hn => by
    obtain ⟨r, hrm, rfl | ⟨p, hp, rfl⟩⟩ := mem_numbers.mp hn
    · omega
    · have := hcb r hrm p hp; exact ⟨Int.le_trans (by decide) this.1, Int.lt_trans this.2 (by decide)⟩
  have hnl := numbers_len (codes := cds total text) fun r hrm => (hr r hrm).2.1
  have hcodes := cd_codes (text := text) (total := total)
  have hinr : ∀ r ∈ rules, ∀ p ∈ r.1 :: r.2, cd total text p ∈ numbersOf (cds total text) rules := fun r hrm p hp => mem_numbers.mpr ⟨r, hrm, .inr ⟨p, hp, rfl⟩⟩
  have key := closure_spelled (rules := rules) ht hcodes (fun r hrm => ⟨(hr r hrm).1, (hr r hrm).2.2⟩) rfl rfl
  generalize hG : iterC (text.length + 1) (edgeE text) (rules.map fun r => (cd total text r.1, r.2.map (cd total text))) 99 noH = G at key
  have hclos := ok_closure L.T L.TT L.clos k text (numbersOf (cds total text) rules) ht (by omega) hnb (rules.map fun r => (cd total text r.1, r.2.map (cd total text)))
    (by rw [rows_numbers (fun r hrm p hp => by have := hcb r hrm p hp; show cd total text p ≠ 0; exact fun e => absurd (e ▸ this.1) (by decide)), List.map_map]; rfl)
    (fun r hrm => by
      obtain ⟨r', h1, rfl⟩ := List.mem_map.mp hrm
      refine ⟨hcodes.big _ (hr r' h1).1, hinr r' h1 _ List.mem_cons_self, by rw [List.length_map]; have := (hr r' h1).2.1; omega, fun p hp => ?_⟩
      obtain ⟨q, hq, rfl⟩ := List.mem_map.mp hp
      refine ⟨hinr r' h1 q (List.mem_cons_of_mem _ hq), ?_⟩
      have := hcb r' h1 q (List.mem_cons_of_mem _ hq); omega) G hG
  have hno : ∀ p < 3, cd total text p ∉ numbersOf (cds total text) rules → ∀ s j, G (cd total text p) s j = false := fun p hp hn => by
    refine closure_none (fun r hrm e => ?_) hG
    obtain ⟨r', h1, rfl⟩ := List.mem_map.mp hrm
    exact hn (e ▸ hinr r' h1 _ List.mem_cons_self)
  generalize hM : iterS text (menuOf text) rules 99 (fun _ => []) = M' at key
  generalize hnums : numbersOf (cds total text) rules = nums at *
  -- found
  refine Wp.cons (Wp1.assignCallM L.T.b.ok hA hclos (hk (by kernel_rfl)) (by decide +kernel) (.inl (hk (by kernel_rfl))) ((C _).evs 10 (by kernel_rfl) ?_) (by simp) fun f0 hf0 => ?_)
  · simp only [evs, eI, eS, eN, eBin, eNeg, eCmp, eIf, eL, eSl, eXn, eXb, eXc, eXu, eXs, eCall, eM1, eM2, eB, opt2_ss, optS_s, idxV_int, S.ltext, htold]
  have S := S.cons (x := "found") (d := .ref f0) (by decide +kernel)
  have hfound : ((("found" : Str), D.ref f0) :: Δ : Ctx).lookup ("found" : Str) = some (.ref f0) := look_eq
  generalize ((("found" : Str), D.ref f0) :: Δ : Ctx) = Δ at S hfound ⊢
  have hμ := MM.set_self (μ := fun _ => none) (a := f0) (m := .dct (fun q => if q ∈ nums ∧ 256 ≤ q then some (.list (masksL (text.length + 1) (G q))) else none) (nums.countP (256 ≤ ·)))
  generalize (MM.set (fun _ => none) f0 (.dct (fun q => if q ∈ nums ∧ 256 ≤ q then some (.list (masksL (text.length + 1) (G q))) else none) (nums.countP (256 ≤ ·)))) = μ at hμ ⊢
  -- made
  have hsp := ok_spelled L.T L.spell (k + 1) μ text (menuOf text) rules ht ⟨by omega, fun w hw => by have := (tableL_small w (menu_mem.mp hw).1).2.1; omega⟩
    ⟨by omega, fun r hrm => ⟨(hr r hrm).1, by have := (hr r hrm).2.1; omega, (hr r hrm).2.2⟩⟩ M' hM
  have C1 : Cx W A env μ (Φone "_law_spelled" [.str text, .list (rules.map rowD), .list ((menuOf text).map .str)] (.list [strsD (M' 0), strsD (M' 1), strsD (M' 2)]) (Φc μ)) (fun _ _ => none) (k + 2) (dScope fLaw) :=
    ⟨L.T.b.ok, hA, tabOne (tabC L.T (k + 1) μ) hsp, hE, hsc⟩
  refine Wp.cons (Wp1.assign (d := .list [strsD (M' 0), strsD (M' 1), strsD (M' 2)]) (C1.swap (by kernel_rfl)) (.inr (hk (by kernel_rfl))) (C1.ev 10 (by kernel_rfl) ?_) ?_)
  · simp only [eI, eS, eN, eBin, eNeg, eCmp, eIf, eL, eSl, eXn, eXb, eXc, eXu, eXs, eCall, eM1, eM2, eB, opt2_ss, optS_s, idxV_int, evs, S.ltext, S.lrules, S.lmenu, Φone_self]
  -- low
  have hlow : total % 39 = ((total % 39).toNat : Nat) := mod_nat (by decide)
  refine Wp.cons (Wp1.assign (d := .int ((total % 39).toNat : Nat)) ((C μ).swap (by kernel_rfl)) (.inr (hk (by kernel_rfl))) ((C μ).ev 10 (by kernel_rfl) ?_) ?_)
  · rw [← hlow]
    refine (evD_bin (a := .int total) (b := .int 39) ?_ (by simp only [eI, eS, eN, eBin, eNeg, eCmp, eIf, eL, eSl, eXn, eXb, eXc, eXu, eXs, eCall, eM1, eM2, eB, opt2_ss, optS_s, idxV_int])).trans (by simp [binD_int, aAdd, aSub, aMul, aDiv, aMod, aPow, aShl, aShr, aAnd, aOr, aXor])
    simp only [eI, eS, eN, eBin, eNeg, eCmp, eIf, eL, eSl, eXn, eXb, eXc, eXu, eXs, eCall, eM1, eM2, eB, opt2_ss, optS_s, idxV_int]; rw [look_ne (by decide +kernel)]; exact S.ltotal
  have hlow38 : (total % 39).toNat ≤ 38 := Nat.le_of_lt_succ (mod_natlt (b := 39) (by decide))
  generalize (total % 39).toNat = low at hlow38 ⊢
  generalize hl : (⟨text, cds total text, M', low, f0, ht, hlow38, hcl⟩ : LP) = l
  have S2 : L2 l ((("low" : Str), .int (low : Nat)) :: (("made" : Str), .list [strsD (M' 0), strsD (M' 1), strsD (M' 2)]) :: Δ) := by
    subst hl
    exact ⟨look_tl (by decide +kernel) (look_tl (by decide +kernel) S.ltext), look_tl (by decide +kernel) (look_tl (by decide +kernel) S.lcodes), look_tl (by decide +kernel) look_eq, look_eq, look_tl (by decide +kernel) (look_tl (by decide +kernel) hfound)⟩
  have htx : l.text = text := by subst hl; rfl
  have hplace : ∀ (part place : Nat) Δ (K : Out → Ctx → MM → Prop), part < 3 → place < text.length + 1 → L4 l part place Δ → (∀ Δ, L3 l part Δ → K .next Δ μ) → Wp W A [] env innerS Δ μ K := fun part place Δ K hpart hpl S h => by
    subst hl
    exact law_place (k := k) (told := nums) (G := G) (part := part) (place := place) L hA hE hsc hpart (Nat.le_of_lt_succ hpl) ⟨hcodes.big part hpart, (cd_bound (by omega)).2⟩ hμ
        (fun j hj => key part hpart place j (by omega) hj) (fun hn j => hno part hpart hn place j) S h
  have hlen : ∀ μ, Φc μ "len" [.str text] = some (.int text.length) := fun μ => by rw [Φc_b (by decide +kernel)]; exact Φb_len_str (le_line (Nat.le_trans ht (by decide)))
  generalize ((("low" : Str), D.int (low : Nat)) :: (("made" : Str), .list [strsD (M' 0), strsD (M' 1), strsD (M' 2)]) :: Δ : Ctx) = Δ at S2 ⊢
  generalize hF : (⟨W, A, [], env, k + 2, C⟩ : Fr Φc (fun _ => Φ0) (dScope fLaw)) = F
  have hplace : ∀ (part place : Nat) Δ (K : Out → Ctx → MM → Prop), part < 3 → place < text.length + 1 → L4 l part place Δ → (∀ Δ, L3 l part Δ → K .next Δ μ) → R F innerS Δ μ K := by subst hF; exact hplace
  have hR : ∀ {ss Δ μ K}, R F ss Δ μ K → Wp W A [] env ss Δ μ K := by subst hF; exact fun h => h
  refine hR ?_
  clear hR hF S hfound hl key hno hclos hsp C1 hnb hcb hcodes hinr hlow hμ
  refine R.forN 10 3 (fun i Δ' μ' => L2 l Δ' ∧ μ' = μ) (by kernel_rfl) eI (by decide) ⟨S2, rfl⟩ (fun part Δ' μ' P hpart hS hP => ?_) fun Δ' μ' hS => R.ret 5 (by kernel_rfl) eB rfl
  obtain ⟨S, rfl⟩ := hS
  have S : L3 l part ((("part" : Str), .int (part : Nat)) :: Δ') := ⟨S.cons (by decide +kernel), look_eq⟩
  generalize ((("part" : Str), D.int (part : Nat)) :: Δ' : Ctx) = Δ at S ⊢
  refine R.forN 10 (text.length + 1) (fun i Δ' μ'' => L3 l part Δ' ∧ μ'' = μ') (by kernel_rfl) ((evD_bin ((evD_call1 (evN (htx ▸ S.l2.ltext))).trans (hlen _)) eI).trans b_add) (Nat.le_trans (Nat.succ_le_succ ht) (by decide)) ⟨S, rfl⟩ (fun place Δ'' μ'' P' hpl hS hP' => ?_) fun Δ'' μ'' hS => R.nil (hP _ _ ⟨hS.1.l2, hS.2⟩)
  obtain ⟨S, rfl⟩ := hS
  exact hplace part place _ _ hpart hpl ⟨⟨S.l2.cons (by decide +kernel), look_tl (by decide +kernel) S.part⟩, look_eq⟩ fun Δ S => hP' _ _ ⟨S, rfl⟩
end
end Mine

open PySem PySem.W PyProof.Rows
set_option Elab.async false
set_option linter.unusedVariables false
set_option linter.unusedSimpArgs false
set_option maxRecDepth 100000
namespace Mine
section
variable {W : Wd}

theorem law_body (L : Tl W) {A : Around} {env : Env} {k : Nat} (hA : GoodA A (k + 2)) (hE : EnvOk env) (hsc : env.scope = dScope fLaw) (hfr : A.frames = some [env]) (henv : env.frame = some env.locals) (script : List Int) (h63 : script.length ≤ 63) :
    Wp W A [] env (dBody fLaw) [("script", .list (script.map .int))] (fun _ => none) (fun o _ _ => o = .ret (.bool true)) := by
  refine law_head (k := k + 2) L.T L.enum (fun μ => ⟨L.T.b.ok, hA, tabC L.T (k + 1) μ, hE, hsc⟩) script h63 fun text rules total Δ ht hrl hr h0 S hnum => ?_
  have hnl := numbers_len (codes := cds total text) fun r hrm => (hr r hrm).2.1
  obtain ⟨ns, m, m', e⟩ := two_last (l := numbersOf (cds total text) rules) (by omega)
  have hb : ∀ n ∈ numbersOf (cds total text) rules, 0 ≤ n ∧ n < 262144 := fun n hn => by
    obtain ⟨r, hrm, rfl | ⟨p, hp, rfl⟩⟩ := mem_numbers.mp hn
    · omega
    · have : p < 4 + (menuOf text).length := by
        rcases List.mem_cons.mp hp with rfl | hp
        · have := (hr r hrm).1; omega
        · exact (hr r hrm).2.2 p hp
      have := cd_bound (total := total) this
      show 0 ≤ cd total text p ∧ cd total text p < 262144
      omega
  refine law_mid (k := k) L hA hE hsc hfr henv S ns m m' (by rw [← e]; omega) (by rw [← e]; exact hb) (by rw [← e]; exact hnum) fun Δ S htold => ?_
  rw [← e] at htold
  exact law_tail (k := k) L hA hE hsc ht hrl hr h0 S htold

theorem law_run (L : Tl W) (hlaw : FnAt W "law" (dArgs fLaw) (dBody fLaw) (dScope fLaw)) (k : Nat) (script : List Int) (h63 : script.length ≤ 63) :
    ∃ a, W.mg "law" = some (.ref a) ∧ ∀ (A : Around) (F : FM) (s : Shared) (Q : Value → Shared → Prop) (E : Value → Shared → Prop) (vs : List Value), GoodA A (k + 3) → A.frames = some [] → (∃ h tk, s = { W.s₁ with heap := h, toks := tk }) →
      (∀ b o, W.s₁.heap.get? b = some o → F b = some o) → (∀ a o, F a = some o → s.heap.get? a = some o) → RelVs F [.list (script.map .int)] vs →
      (∀ v F' s', RelV F' (.bool true) v → (∃ h tk, s' = { W.s₁ with heap := h, toks := tk }) → (∀ a o, F' a = some o → s'.heap.get? a = some o) → FSub F F' → (∀ b o, s.heap.get? b = some o → ∃ sl, s'.heap.get? b = some { o with slots := sl }) → Q v s') →
      wpAny W.M A (call (.ref a) vs) Q E s := by
  refine lawRun (ps := ["script"]) L.T.b.ok hlaw (fnScope_of (by kernel_rfl)) rfl (fun pm code doc vs h => ?_) fun A env hA hE hsc hfr henv => ?_
  · obtain ⟨v, rfl⟩ := len1 h; rfl
  · exact law_body L hA hE hsc hfr henv script h63
end
end Mine

open PySem PySem.W PyProof.Rows
set_option Elab.async false
set_option linter.unusedVariables false
set_option maxRecDepth 100000
namespace Mine

theorem glob_of {K : Frag} {W : Wd} {n : Str} {v : Value} (X : K.In W.s₁.heap) (ok : W.Ok) (e : nsIn K mainGlobals n = some none) (h1 : n ≠ "__name__") (hb : bootBuiltins n = some v) : GlobVal W n v :=
  .inr ⟨mg_none_of X ok.g e, by rw [ok.builtins n h1]; exact hb⟩
theorem fnAt_of' {p : Program} {loose : List Str} {mean : ExcName → Option Value} {W : Wd} (T : Top p loose mean W.mg W.mb W.s₁.heap) {f : Str} {a : Arguments} {b : List Stmt} {c : Scope} (h : (nthDef p f).map (fun d => (d.params, d.body, d.scope)) = some (a, b, c)) : FnAt W f a b c := by
  obtain ⟨d, h1, h2⟩ := Option.map_eq_some_iff.mp h
  cases h2
  exact fnAt_of T h1
theorem pairs_prog {p p' : Program} {w : World} : ∀ {es : List DictEntry} {kvs : List (Int × Value)}, Pairs (intKind p w) es kvs → Pairs (intKind p' w) es kvs
  | _, _, .nil => .nil
  | _, _, .cons h1 h2 h3 => .cons h1 h2 (pairs_prog h3)
theorem intTab_prog {p p' : Program} {w : World} {h : Heap} {a : Addr} {D : List (PyData × PyData)} (T : IntTab p w h a D) : IntTab p' w h a D := by
  obtain ⟨lo, kvs, ⟨o, es, ep, ho, hx, hd, hk, hp, hn⟩, hf⟩ := T
  exact ⟨lo, kvs, ⟨o, es, ep, ho, hx, hd, fun e he => hk e he, pairs_prog hp, hn⟩, hf⟩
def tokS : List (Str × PyData) := tokD.filterMap fun p => match p.1 with
  | .str x => some (x, p.2)
  | _ => none
theorem tokS_eq : tokS.map (fun p => (PyData.str p.1, p.2)) = tokD := rfl
theorem tokS_nodup : (tokS.map (·.1)).Nodup := by decide +kernel
theorem well_all {P : Params} {h : Heap} {F : FM} : ∀ {ns : List Int} {vs : List Value}, WellAll P h vs (ofPys (ns.map .int)) → RelVs F (ns.map .int) vs
  | [], vs, w => by
    simp only [List.map_nil, ofPys] at w
    cases w; rw [List.map_nil, RelVs]
  | n :: ns, vs, w => by
    simp only [List.map_cons, ofPys, ofPy] at w
    cases w with
    | cons w1 w2 =>
      rw [List.map_cons, RelVs]
      refine ⟨_, _, rfl, ?_, well_all w2⟩
      cases w1
      rw [RelV]; exact ⟨_, rfl⟩
theorem well_ints {P : Params} {h : Heap} {v : Value} {ns : List Int} (w : Well P h v (ofPy (.list (ns.map .int)))) : RelV (fun b => h.get? b) (.list (ns.map .int)) v := by
  simp only [ofPy] at w
  cases w with
  | list h1 h2 => rw [RelV]; exact ⟨_, _, 0, rfl, h1, well_all h2⟩
theorem const_int {h : Heap} {v : Value} {i : Int} (hr : ∀ h' : Heap, Reads h' v (.int i) []) : ∃ t, v = .int i t := by
  cases hr h; exact ⟨_, rfl⟩
end Mine

open PySem PySem.W PyProof.Rows
set_option maxRecDepth 100000
set_option maxHeartbeats 8000000
namespace Mine
def top1.tw7638491232829294176 : Nat := 0
def top1.tw6854030609696079794 : Nat := 0
def top1.tw7790508047922742067 : Nat := 0
def top1.tw5592346314724048949 : Nat := 0
def top1.tw7202720984705032720 : Nat := 0
def top1.tw14001963875754760931 : Nat := 0
def top1.tw1798095387394565819 : Nat := 0
def top1.tw14143584736894643009 : Nat := 0
def top1.tw632567623303635035 : Nat := 0
def top1.tw6180170925296261280 : Nat := 0
def top1.tw8361990497253285472 : Nat := 0
def top1.tw4620686087351814238 : Nat := 0
def top1.tw4212663685134440634 : Nat := 0
def top1.tw1226401211256618846 : Nat := 0
def top1.tw7522945824945409326 : Nat := 0
def top1.tw3009850882252447384 : Nat := 0
def top1.tw16869730456397315074 : Nat := 0
def top1.tw998233357828166255 : Nat := 0
def top1.tw7209091965689243559 : Nat := 0
def top1.tw4942338914669020956 : Nat := 0
def top1.tw4539343681787044546 : Nat := 0
def top1.tw17777029773410717525 : Nat := 0
def top1.tw5002794480891135083 : Nat := 0
def top1.tw1317074852390023596 : Nat := 0
def top1.tw9504862346481921809 : Nat := 0
def top1.tw12414068431143651193 : Nat := 0
def top1.tw11332644335266816885 : Nat := 0
def top1.tw15768068805145439738 : Nat := 0
def top1.tw3210576582254515599 : Nat := 0
def top1.tw8862000752654115883 : Nat := 0
def top1.tw10761525030402354678 : Nat := 0
def top1.tw1854298449294273065 : Nat := 0
def top1.tw5510894839562672751 : Nat := 0
def top1.tw3032673017975582812 : Nat := 0
def top1.tw4247735279686749680 : Nat := 0
def top1.tw18383043239482168819 : Nat := 0
set_option Elab.async true in
theorem top1 : PySem.Challenge.rw_ph0109_01.Holds := by
  o_law
  k_head
  (case hw => w_witness2)
  intro w s₀ s₁ mg mb G Y fa o pm cd doc dV kV ho hd hcd hD hmg hg args vals as hpre hlay hrd hwl hlo
  clear hD; have KX := kIn_of Y
  refine Ground.open G ?_; intro T B D TE TW; wrow_args hpre hlay hrd hwl hlo
  clear TE TW D
  let W : Wd := ⟨PySem.Challenge.rw_ph0109_01.row.prog, w, s₁, mg, mb⟩
  have ok : W.Ok := ⟨T.g, T.b, T.nolimit, T.builtins, hg, by obtain ⟨o, _, _, h, _⟩ := T.g; exact Heap.lt_size h⟩
  have hflag : ∃ a, mg "COMPILER_FLAG_NAMES" = some (.ref a) ∧ IntTab W.prog W.w s₁.heap a flagD := by
    obtain ⟨a, h1, h2⟩ := B.tabI "COMPILER_FLAG_NAMES" flagD (by kernel_rfl)
    exact ⟨a, h1, intTab_prog h2⟩
  have htok : StrTab W.prog w s₁.heap 30 (tokS.map fun p => (PyData.str p.1, p.2)) := kt_tab_in (a := 30) W.prog w KX (by kernel_rfl) tokS_nodup (by kernel_rfl)
  have htm : mg "EXACT_TOKEN_TYPES" = some (.ref 30) := PySem.W.mg_of KX T.g (by kernel_rfl)
  have L : Tl W := {
    T := {
      b := ⟨ok, glob_of KX ok (by kernel_rfl) (by decide +kernel) (by kernel_rfl), glob_of KX ok (by kernel_rfl) (by decide +kernel) (by kernel_rfl), glob_of KX ok (by kernel_rfl) (by decide +kernel) (by kernel_rfl), glob_of KX ok (by kernel_rfl) (by decide +kernel) (by kernel_rfl), glob_of KX ok (by kernel_rfl) (by decide +kernel) (by kernel_rfl), glob_of KX ok (by kernel_rfl) (by decide +kernel) (by kernel_rfl), glob_of KX ok (by kernel_rfl) (by decide +kernel) (by kernel_rfl)⟩
      fpretty := fnAt_of' T (by kernel_rfl)
      fvar := fnAt_of' T (by kernel_rfl)
      fT := fnAt_of' T (by kernel_rfl)
      fN := fnAt_of' T (by kernel_rfl)
      fE := fnAt_of' T (by kernel_rfl)
      cNT := by
        obtain ⟨v, h1, h2⟩ := T.const "NT_OFFSET" (.int 256) (by kernel_rfl)
        obtain ⟨t, rfl⟩ := const_int (h := s₁.heap) h2
        exact ⟨t, h1⟩
      cEM := by
        obtain ⟨v, h1, h2⟩ := T.const "ENDMARKER" (.int 0) (by kernel_rfl)
        obtain ⟨t, rfl⟩ := const_int (h := s₁.heap) h2
        exact ⟨t, h1⟩
      flags := hflag }
    TT := ⟨⟨30, htm, htok⟩⟩
    enum := glob_of KX ok (by kernel_rfl) (by decide +kernel) (by kernel_rfl)
    next := glob_of KX ok (by kernel_rfl) (by decide +kernel) (by kernel_rfl)
    iter := glob_of KX ok (by kernel_rfl) (by decide +kernel) (by kernel_rfl)
    stop := glob_of KX ok (by kernel_rfl) (by decide +kernel) (by kernel_rfl)
    oct := fnAt_of' T (by kernel_rfl)
    read := fnAt_of' T (by kernel_rfl)
    clos := fnAt_of' T (by kernel_rfl)
    spell := fnAt_of' T (by kernel_rfl)
    words := fnAt_of' T (by kernel_rfl) }
  rename_i xs _ _ _ _ _ _ _ l _ _ _ _ w1 _ _ _ hlen _
  have h63 : xs.length ≤ 63 := by omega
  obtain ⟨a, ha, run⟩ := law_run L (fnAt_of' T (by kernel_rfl)) 0 xs h63
  have hfa : mg "law" = some (.ref fa) := hmg
  have ha : mg "law" = some (.ref a) := ha
  have e : fa = a := by rw [hfa] at ha; cases ha; rfl
  subst e
  refine run callerA (fun b => s₁.heap.get? b) s₁ _ _ [.ref l] ⟨rfl, by decide, by decide⟩ rfl ⟨_, _, rfl⟩ (fun _ _ e => e) (fun _ _ e => e) (by rw [RelVs]; exact ⟨_, _, rfl, well_ints w1, by rw [RelVs]⟩) fun v F' s' hv hs hsub hF hk => ?_
  rw [RelV] at hv
  subst hv
  obtain ⟨h', tk, rfl⟩ := hs
  refine ⟨.inl ⟨_, _, _, rfl, fun cls => ?_, .bool true, ?_, fun _ => ⟨List.nodup_nil, fun _ h => by cases h⟩⟩, .of_keep fun b o e => hsub b o (hF b o e), rfl, ?_⟩
  · kernel_rfl
  · kernel_rfl
  · exact .of_eq hg
end Mine


theorem PySem.Challenge.cw_ph0109_01_holds : PySem.Challenge.rw_ph0109_01.Holds := by
  exact Mine.top1
