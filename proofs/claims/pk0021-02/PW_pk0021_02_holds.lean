import PyProof.Rows.All
import Wide.All
import OpenK.AllK
import Wide.FinOn
import PySem.Challenge.RW_pk0021_02
noncomputable section
open PySem PySem.W PyProof.Rows
set_option Elab.async false
set_option maxRecDepth 100000
namespace Mine

/-! ### plain data, and how the heap bears it -/

inductive MV where
  | none
  | bool (b : Bool)
  | int (i : Int)
  | str (s : List Nat)
  | il (l : List Int)
  | sl (l : List (List Nat))
  | bl (l : List Bool)
  | tb (l : List (List Bool))
  | ti (l : List Int)
  | lo (l : List Int)
  | pr (s : List Nat) (l : List Int)

inductive All2 {α β : Type} (R : α → β → Prop) : List α → List β → Prop
  | nil : All2 R [] []
  | cons {a b as bs} : R a b → All2 R as bs → All2 R (a :: as) (b :: bs)

namespace All2
variable {α β : Type} {R S : α → β → Prop}
theorem length {as : List α} {bs : List β} (h : All2 R as bs) : as.length = bs.length := by
  induction h with
  | nil => rfl
  | cons _ _ ih => simp [ih]
theorem mono (f : ∀ a b, R a b → S a b) {as : List α} {bs : List β} (h : All2 R as bs) : All2 S as bs := by
  induction h with
  | nil => exact .nil
  | cons x _ ih => exact .cons (f _ _ x) ih
theorem append {as as' : List α} {bs bs' : List β} (h : All2 R as bs) (h' : All2 R as' bs') : All2 R (as ++ as') (bs ++ bs') := by
  induction h with
  | nil => exact h'
  | cons x _ ih => exact .cons x ih
theorem get {as : List α} {bs : List β} (h : All2 R as bs) : ∀ {i : Nat} {b : β}, bs[i]? = some b → ∃ a, as[i]? = some a ∧ R a b := by
  induction h with
  | nil => intro i b e; simp at e
  | cons x _ ih =>
    intro i b e
    cases i with
    | zero => simp at e; subst e; exact ⟨_, rfl, x⟩
    | succ i => simp at e; simpa using ih e
theorem getL {as : List α} {bs : List β} (h : All2 R as bs) : ∀ {i : Nat} {a : α}, as[i]? = some a → ∃ b, bs[i]? = some b ∧ R a b := by
  induction h with
  | nil => intro i b e; simp at e
  | cons x _ ih =>
    intro i b e
    cases i with
    | zero => simp at e; subst e; exact ⟨_, rfl, x⟩
    | succ i => simp at e; simpa using ih e
theorem take {as : List α} {bs : List β} (h : All2 R as bs) : ∀ n, All2 R (as.take n) (bs.take n) := by
  induction h with
  | nil => intro n; simp; exact .nil
  | cons x _ ih =>
    intro n
    cases n with
    | zero => exact .nil
    | succ n => exact .cons x (ih n)
theorem drop {as : List α} {bs : List β} (h : All2 R as bs) : ∀ n, All2 R (as.drop n) (bs.drop n) := by
  induction h with
  | nil => intro n; simp; exact .nil
  | cons x y ih =>
    intro n
    cases n with
    | zero => exact .cons x y
    | succ n => exact ih n
theorem set {as : List α} {bs : List β} (h : All2 R as bs) {a : α} {b : β} (r : R a b) : ∀ n, All2 R (as.set n a) (bs.set n b) := by
  induction h with
  | nil => intro n; exact .nil
  | cons x y ih =>
    intro n
    cases n with
    | zero => exact .cons r y
    | succ n => exact .cons x (ih n)
end All2

def isInt (v : Value) (i : Int) : Prop := ∃ t, v = .int i t
abbrev mkS (l : List Nat) : Str := ⟨l.toArray⟩
def isStr (v : Value) (s : List Nat) : Prop := ∃ t, v = .str (mkS s) t
def isBool (v : Value) (b : Bool) : Prop := v = .bool b

theorem intsAre_of {vs : List Value} {ns : List Int} (h : All2 isInt vs ns) : IntsAre vs ns := by
  induction h with
  | nil => exact .nil
  | cons x _ ih => obtain ⟨t, rfl⟩ := x; exact .cons _ _ ih
theorem of_intsAre {vs : List Value} {ns : List Int} (h : IntsAre vs ns) : All2 isInt vs ns := by
  induction h with
  | nil => exact .nil
  | cons n t _ ih => exact .cons ⟨t, rfl⟩ ih
theorem strsAre_of {vs : List Value} {ns : List (List Nat)} (h : All2 isStr vs ns) : StrsAre vs (ns.map mkS) := by
  induction h with
  | nil => exact .nil
  | cons x _ ih => obtain ⟨t, rfl⟩ := x; exact .cons _ _ ih

def RepL {α : Type} (h : Heap) (Mu : Addr → Prop) (R : Value → α → Prop) (v : Value) (l : List α) : Prop :=
  ∃ a vs n, v = .ref a ∧ ¬ Mu a ∧ IsL h a vs.toArray n ∧ All2 R vs l

def Rep (h : Heap) (Mu : Addr → Prop) (v : Value) : MV → Prop
  | .none => v = .none
  | .bool b => isBool v b
  | .int i => isInt v i
  | .str s => isStr v s
  | .il l => RepL h Mu isInt v l
  | .sl l => RepL h Mu isStr v l
  | .bl l => RepL h Mu isBool v l
  | .tb l => RepL h Mu (fun v r => RepL h Mu isBool v r) v l
  | .lo l => ∃ a vs, v = .ref a ∧ ¬ Mu a ∧ h.IsList a vs.toArray ∧ All2 isInt vs l
  | .ti l => ∃ a vs, v = .ref a ∧ ¬ Mu a ∧ IsTup h a vs.toArray ∧ All2 isInt vs l
  | .pr s l => ∃ a v1 v2, v = .ref a ∧ ¬ Mu a ∧ IsTup h a #[v1, v2] ∧ isStr v1 s ∧ RepL h Mu isInt v2 l

def Keep (Mu : Addr → Prop) (h h' : Heap) : Prop := ∀ a o, ¬ Mu a → h.get? a = some o → o.cls = .type "list" ∨ o.cls = .type "tuple" → h'.get? a = some o

theorem RepL.keep {α : Type} {h h' : Heap} {Mu Mu' : Addr → Prop} {R R' : Value → α → Prop} {v : Value} {l : List α} (x : RepL h Mu R v l) (k : Keep Mu h h')
    (hm : ∀ a o, h.get? a = some o → Mu' a → Mu a) (hr : ∀ v a, R v a → R' v a) : RepL h' Mu' R' v l := by
  obtain ⟨a, vs, n, rfl, hn, ho, hv⟩ := x
  exact ⟨a, vs, n, rfl, fun q => hn (hm a _ ho q), k a _ hn ho (.inl rfl), hv.mono hr⟩

theorem Rep.keep {h h' : Heap} {Mu Mu' : Addr → Prop} {v : Value} {m : MV} (x : Rep h Mu v m) (k : Keep Mu h h') (hm : ∀ a o, h.get? a = some o → Mu' a → Mu a) : Rep h' Mu' v m := by
  cases m with
  | none => exact x
  | bool b => exact x
  | int i => exact x
  | str s => exact x
  | il l => exact RepL.keep x k hm fun _ _ y => y
  | sl l => exact RepL.keep x k hm fun _ _ y => y
  | bl l => exact RepL.keep x k hm fun _ _ y => y
  | tb l => exact RepL.keep x k hm fun _ _ y => RepL.keep y k hm fun _ _ y => y
  | lo l =>
    obtain ⟨a, vs, rfl, hn, ⟨o, ho, hc, hd⟩, hv⟩ := x
    exact ⟨a, vs, rfl, fun q => hn (hm a _ ho q), ⟨o, k a o hn ho (.inl hc), hc, hd⟩, hv⟩
  | ti l =>
    obtain ⟨a, vs, rfl, hn, ⟨o, ho, hc, hd⟩, hv⟩ := x
    exact ⟨a, vs, rfl, fun q => hn (hm a _ ho q), ⟨o, k a o hn ho (.inr hc), hc, hd⟩, hv⟩
  | pr s l =>
    obtain ⟨a, v1, v2, rfl, hn, ⟨o, ho, hc, hd⟩, h1, h2⟩ := x
    exact ⟨a, v1, v2, rfl, fun q => hn (hm a _ ho q), ⟨o, k a o hn ho (.inr hc), hc, hd⟩, h1, RepL.keep h2 k hm fun _ _ y => y⟩

theorem Keep.of_all {Mu : Addr → Prop} {h h' : Heap} (k : ∀ a o, h.get? a = some o → h'.get? a = some o) : Keep Mu h h' := fun a o _ e _ => k a o e

/-- the set of addresses that nothing borne may use -/
abbrev noMu : Addr → Prop := fun _ => False
theorem Rep.weak {h : Heap} {Mu : Addr → Prop} {v : Value} {m : MV} (x : Rep h Mu v m) : Rep h noMu v m := x.keep (Keep.of_all fun _ _ e => e) fun _ _ _ y => y.elim

/-! ### the world, room, growth -/

structure Cx where
  prog : Program
  w : World
  K : Frag
abbrev Cx.M (C : Cx) : Model := model C.prog C.w

structure Wd (C : Cx) (h : Heap) : Prop where
  k : C.K.In h
  top : ∃ p loose mean mg mb, Top p loose mean mg mb h
theorem Wd.keeps {C : Cx} {h h' : Heap} (x : Wd C h) (k : ∀ b o, h.get? b = some o → h'.get? b = some o) : Wd C h' :=
  ⟨x.k.keeps k, let ⟨p, l, m, mg, mb, t⟩ := x.top; ⟨p, l, m, mg, mb, t.keeps k⟩⟩

structure Room (k : Nat) (A : Around) : Prop where
  handled : A.handled = none
  depth : A.depth + k < recursionLimit
  units : A.units + 20 * k + 100 < cLine
theorem Room.le {k k' : Nat} {A : Around} (h : Room k A) (hk : k' ≤ k) : Room k' A := ⟨h.handled, by have := h.depth; omega, by have := h.units; omega⟩

structure GExt (s s' : Shared) : Prop where
  gens : ∀ (g : Nat) st, s.gens[g]? = some st → s'.gens[g]? = some st
  bare : AllBare s.gens → AllBare s'.gens
  os : s'.os = s.os
theorem GExt.refl (s : Shared) : GExt s s := ⟨fun _ _ e => e, id, rfl⟩
theorem GExt.trans {s s' s'' : Shared} (x : GExt s s') (y : GExt s' s'') : GExt s s'' :=
  ⟨fun g st e => y.gens g st (x.gens g st e), fun h => y.bare (x.bare h), y.os.trans x.os⟩

structure Ext (s s' : Shared) : Prop extends GExt s s' where
  heap : ∀ b o, s.heap.get? b = some o → s'.heap.get? b = some o
theorem Ext.refl (s : Shared) : Ext s s := ⟨.refl s, fun _ _ e => e⟩
theorem Ext.trans {s s' s'' : Shared} (x : Ext s s') (y : Ext s' s'') : Ext s s'' := ⟨x.toGExt.trans y.toGExt, fun b o e => y.heap b o (x.heap b o e)⟩
theorem Ext.toks {s : Shared} {n : Nat} : Ext s { s with toks := n } := ⟨⟨fun _ _ e => e, id, rfl⟩, fun _ _ e => e⟩
theorem Ext.of_heap {s : Shared} {h' : Heap} {n : Nat} (hk : ∀ b o, s.heap.get? b = some o → h'.get? b = some o) : Ext s { s with heap := h', toks := n } :=
  ⟨⟨fun _ _ e => e, id, rfl⟩, hk⟩
theorem Ext.push {s : Shared} {o : Obj} {n : Nat} : Ext s { s with heap := s.heap.push o, toks := n } :=
  Ext.of_heap fun _ _ e => Heap.get?_push_of_some _ e
theorem Rep.ext {s s' : Shared} {Mu : Addr → Prop} {v : Value} {m : MV} (x : Rep s.heap Mu v m) (e : Ext s s') : Rep s'.heap Mu v m := x.keep (Keep.of_all e.heap) fun _ _ _ y => y

/-! ### names -/

abbrev Vars := List (Str × MV)

def Has (h : Heap) (env : Env) (x : Str) (v : Value) : Prop :=
  (env.kindOf x = some .local ∧ ∃ m, h.Ns env.locals m ∧ m x = some v) ∨
  (env.kindOf x = some .cell ∧ ∃ c, env.cells.lookup x = some c ∧ h.IsCell c (some v))
theorem Has.keeps {h h' : Heap} {env : Env} {x : Str} {v : Value} (H : Has h env x v) (k : ∀ b o, h.get? b = some o → h'.get? b = some o) : Has h' env x v := by
  rcases H with ⟨hk, m, hn, hv⟩ | ⟨hk, c, hc, hv⟩
  · exact .inl ⟨hk, m, hn.keeps k, hv⟩
  · exact .inr ⟨hk, c, hc, hv.keeps k⟩

structure EnvOK (env : Env) (sc : Scope) : Prop where
  scope : env.scope = sc
  kind : sc.kind = .function
  globals : env.globals = mainGlobals
  builtins : env.builtins = builtinsNs
  cells : ∀ n, sc.names.lookup n = some .cell → ∃ c, env.cells.lookup n = some c

theorem EnvOK.kindOf {env : Env} {sc : Scope} (h : EnvOK env sc) (x : Str) : env.kindOf x = sc.names.lookup x := by rw [Env.kindOf, h.scope]
theorem EnvOK.k {env : Env} {sc : Scope} (h : EnvOK env sc) : env.scope.kind = .function := by rw [h.scope, h.kind]

theorem Has.load {M : Model} {A : Around} {E : Value → Shared → Prop} {s : Shared} {env : Env} {sc : Scope} {x : Str} {v : Value} {Q : Value → Shared → Prop} (H : Has s.heap env x v) (e : EnvOK env sc) (h : Q v s) :
    wpAny M A (loadName env x) Q E s := by
  rcases H with ⟨hk, m, hn, hv⟩ | ⟨hk, c, hc, hv⟩
  · exact wpAny_loadName_local e.k hk hn hv h
  · exact wpAny_loadName_cell e.k hk hc hv h

def Sees (s : Shared) (env : Env) (ρ : Vars) : Prop := ∀ x m, ρ.lookup x = some m → ∃ v, Has s.heap env x v ∧ Rep s.heap noMu v m
theorem Sees.ext {s s' : Shared} {env : Env} {ρ : Vars} (S : Sees s env ρ) (e : Ext s s') : Sees s' env ρ := fun x m h => let ⟨v, h1, h2⟩ := S x m h; ⟨v, h1.keeps e.heap, h2.ext e⟩

/-! ### what an expression yields -/

abbrev mu (fr : Bool) (s : Shared) : Addr → Prop := fun a => fr = true ∧ ∃ o, s.heap.get? a = some o

/-- the expression yields the datum m; with fr, all that bears it is new -/
def Ev (C : Cx) (k : Nat) (fr : Bool) (sc : Scope) (ρ : Vars) (e : Expr) (m : MV) : Prop :=
  ∀ (A : Around) (env : Env) (s : Shared), Room k A → Wd C s.heap → EnvOK env sc → Sees s env ρ →
    wpAny C.M A (eval e env) (fun v s' => Ext s s' ∧ Rep s'.heap (mu fr s) v m) (fun _ _ => False) s

/-- the expression as a test -/
def Ts (C : Cx) (k : Nat) (sc : Scope) (ρ : Vars) (e : Expr) (b : Bool) : Prop :=
  ∀ (A : Around) (env : Env) (s : Shared), Room k A → Wd C s.heap → EnvOK env sc → Sees s env ρ →
    wpAny C.M A (isTrue e env (eval e env)) (fun c s' => Ext s s' ∧ c = b) (fun _ _ => False) s

/-- a call of the def at f -/
def Fn (C : Cx) (k : Nat) (f : Addr) (args : List MV) (m : MV) : Prop :=
  ∀ (A : Around) (s : Shared) (vs : List Value), Room k A → Wd C s.heap → All2 (Rep s.heap noMu) vs args →
    wpAny C.M A (call (.ref f) vs) (fun v s' => Ext s s' ∧ Rep s'.heap (mu true s) v m) (fun _ _ => False) s

end Mine

open PySem PySem.W PyProof.Rows
set_option Elab.async false
set_option maxRecDepth 100000
set_option linter.unusedVariables false
set_option linter.unusedSimpArgs false
namespace Mine
variable {C : Cx} {k : Nat} {sc : Scope} {ρ : Vars}

theorem mkS_toList (x : Str) : mkS x.cps.toList = x := by cases x; simp [mkS]
theorem mkS_append (a b : List Nat) : mkS a ++ mkS b = mkS (a ++ b) := by
  show Str.mk (a.toArray ++ b.toArray) = Str.mk (a ++ b).toArray
  simp
theorem mkS_length (a : List Nat) : (mkS a).length = a.length := by simp [mkS, Str.length]
theorem mkS_inj {a b : List Nat} (h : mkS a = mkS b) : a = b := by simpa [mkS] using h

def MV.scalar : MV → Bool
  | .none | .bool _ | .int _ | .str _ => true
  | _ => false

theorem Rep.scal {h h' : Heap} {Mu Mu' : Addr → Prop} {v : Value} {m : MV} (hs : m.scalar = true) (x : Rep h Mu v m) : Rep h' Mu' v m := by
  cases m <;> first | exact x | cases hs

theorem Ev.weak {fr : Bool} {e : Expr} {m : MV} (h : Ev C k fr sc ρ e m) : Ev C k false sc ρ e m := fun A env s R W O S =>
  wpAny_mono (h A env s R W O S) (fun v s' x => ⟨x.1, x.2.weak.keep (Keep.of_all fun _ _ e => e) fun _ _ _ y => by cases y.1⟩) fun _ _ x => x
theorem Ev.up {fr fr' : Bool} {e : Expr} {m : MV} (h : Ev C k fr sc ρ e m) (hs : m.scalar = true) : Ev C k fr' sc ρ e m := fun A env s R W O S =>
  wpAny_mono (h A env s R W O S) (fun v s' x => ⟨x.1, x.2.scal hs⟩) fun _ _ x => x
theorem Ev.eq {fr : Bool} {e : Expr} {m m' : MV} (h : Ev C k fr sc ρ e m) (he : m = m') : Ev C k fr sc ρ e m' := he ▸ h
theorem Ts.eq {e : Expr} {b b' : Bool} (h : Ts C k sc ρ e b) (he : b = b') : Ts C k sc ρ e b' := he ▸ h

/-- run an expression, then go on -/
theorem Ev.go {fr : Bool} {e : Expr} {m : MV} (h : Ev C k fr sc ρ e m) {A : Around} {env : Env} {s : Shared} {Q : Value → Shared → Prop} {E : Value → Shared → Prop} (R : Room k A) (W : Wd C s.heap) (O : EnvOK env sc) (S : Sees s env ρ)
    (c : ∀ v s', Ext s s' → Rep s'.heap (mu fr s) v m → Wd C s'.heap → Sees s' env ρ → Q v s') : wpAny C.M A (eval e env) Q E s :=
  wpAny_mono (h A env s R W O S) (fun v s' x => c v s' x.1 x.2 (W.keeps x.1.heap) (S.ext x.1)) fun _ _ x => x.elim
theorem Ts.go {e : Expr} {b : Bool} (h : Ts C k sc ρ e b) {A : Around} {env : Env} {s : Shared} {Q : Bool → Shared → Prop} {E : Value → Shared → Prop} (R : Room k A) (W : Wd C s.heap) (O : EnvOK env sc) (S : Sees s env ρ)
    (c : ∀ s', Ext s s' → Wd C s'.heap → Sees s' env ρ → Q b s') : wpAny C.M A (isTrue e env (eval e env)) Q E s :=
  wpAny_mono (h A env s R W O S) (fun v s' x => x.2 ▸ c s' x.1 (W.keeps x.1.heap) (S.ext x.1)) fun _ _ x => x.elim

theorem mu_ext {fr : Bool} {s s' : Shared} (e : Ext s s') {a : Addr} (h : mu fr s a) : mu fr s' a := ⟨h.1, let ⟨o, ho⟩ := h.2; ⟨o, e.heap _ _ ho⟩⟩
/-- what is new behind a step is new behind the steps ahead of it too -/
theorem Rep.newer {fr : Bool} {h : Heap} {s s' : Shared} {v : Value} {m : MV} (x : Rep h (mu fr s') v m) (e : Ext s s') : Rep h (mu fr s) v m :=
  x.keep (Keep.of_all fun _ _ e => e) fun _ _ _ y => mu_ext e y

/-! #### leaves -/
theorem Ev.int {i : Int} {kd : Nat} {p : Pos} : Ev C k true sc ρ (.Constant (.int i) kd p) (.int i) := fun _ _ s _ _ _ _ =>
  show wpAny C.M _ (mkInt i) _ _ _ from fun _ _ _ => ⟨Ext.toks, ⟨s.toks, rfl⟩⟩
theorem Ev.str {x : Str} {kd : Nat} {p : Pos} : Ev C k true sc ρ (.Constant (.str x) kd p) (.str x.cps.toList) := fun _ _ s _ _ _ _ =>
  show wpAny C.M _ (mkText x) _ _ _ from fun _ _ _ => ⟨Ext.toks, ⟨s.toks, by rw [mkS_toList]⟩⟩
theorem Ev.bool {b : Bool} {kd : Nat} {p : Pos} : Ev C k true sc ρ (.Constant (.bool b) kd p) (.bool b) := fun _ _ s _ _ _ _ =>
  wpAny_Constant_bool ⟨Ext.refl s, rfl⟩
theorem Ev.non {kd : Nat} {p : Pos} : Ev C k true sc ρ (.Constant .none kd p) .none := fun _ _ s _ _ _ _ =>
  wpAny_Constant_none ⟨Ext.refl s, rfl⟩
theorem Ev.name {x : Str} {p : Pos} {m : MV} (h : ρ.lookup x = some m) (hd : (x == ("__debug__" : Str)) = false) : Ev C k false sc ρ (.Name x p) m := fun A env s R W O S => by
  obtain ⟨v, h1, h2⟩ := S x m h
  exact wpAny_Name (h1.load O ⟨Ext.refl s, h2.keep (Keep.of_all fun _ _ e => e) fun _ _ _ y => by cases y.1⟩) hd

/-! #### operators -/
def Bin (C : Cx) (k : Nat) (op : Operator) (a b m : MV) : Prop :=
  ∀ (A : Around) (s : Shared) (v u : Value), Room k A → Rep s.heap noMu v a → Rep s.heap noMu u b →
    wpAny C.M A (binaryOp op v u) (fun x s' => Ext s s' ∧ Rep s'.heap (mu true s) x m) (fun _ _ => False) s

theorem Ev.bin {op : Operator} {l r : Expr} {p : Pos} {f1 f2 : Bool} {a b m : MV} (hl : Ev C k f1 sc ρ l a) (hr : Ev C k f2 sc ρ r b) (ho : Bin C k op a b m) : Ev C k true sc ρ (.BinOp l op r p) m := fun A env s R W O S =>
  wpAny_BinOp (hl.go R W O S fun v s₁ e₁ r₁ W₁ S₁ => hr.go R W₁ O S₁ fun u s₂ e₂ r₂ W₂ S₂ =>
    wpAny_mono (ho A s₂ v u R (r₁.weak.ext e₂) r₂.weak) (fun x s' h => ⟨(e₁.trans e₂).trans h.1, h.2.newer (e₁.trans e₂)⟩) fun _ _ x => x)

theorem Bin.addI {a b : Int} : Bin C k .Add (.int a) (.int b) (.int (a + b)) := fun A s v u _ hv hu => by
  obtain ⟨t, rfl⟩ := hv; obtain ⟨t', rfl⟩ := hu
  exact P.add_int ⟨Ext.toks, ⟨_, rfl⟩⟩
theorem Bin.subI {a b : Int} : Bin C k .Sub (.int a) (.int b) (.int (a - b)) := fun A s v u _ hv hu => by
  obtain ⟨t, rfl⟩ := hv; obtain ⟨t', rfl⟩ := hu
  exact P.sub_int ⟨Ext.toks, ⟨_, rfl⟩⟩
theorem Bin.modI {a b : Int} (hb : 0 < b) : Bin C k .Mod (.int a) (.int b) (.int (a % b)) := fun A s v u _ hv hu => by
  obtain ⟨t, rfl⟩ := hv; obtain ⟨t', rfl⟩ := hu
  refine AutoIntOps.mod_1 (by simp; omega) ?_
  rw [show a.fmod b = a % b from Int.fmod_eq_emod_of_nonneg a (by omega)]
  exact ⟨Ext.toks, ⟨_, rfl⟩⟩
theorem Bin.addS {a b : List Nat} (h : a.length + b.length ≤ 16777216) : Bin C k .Add (.str a) (.str b) (.str (a ++ b)) := fun A s v u _ hv hu => by
  obtain ⟨t, rfl⟩ := hv; obtain ⟨t', rfl⟩ := hu
  exact PyProof.Rows.add_str (fun t' tk => ⟨Ext.toks, ⟨t', by rw [mkS_append]⟩⟩) (by rw [mkS_length, mkS_length]; exact h)
end Mine

open PySem PySem.W PyProof.Rows
set_option Elab.async false
set_option maxRecDepth 100000
set_option autoImplicit false
set_option linter.unusedVariables false
set_option linter.unusedSimpArgs false
namespace Mine
variable {C : Cx} {k : Nat} {sc : Scope} {ρ : Vars}

/-! #### kinds of lists -/
structure LK (α : Type) where
  R : Value → α → Prop
  li : List α → MV
  one : α → MV
  rep : ∀ h Mu v l, Rep h Mu v (li l) ↔ RepL h Mu R v l
  orep : ∀ h Mu v a, Rep h Mu v (one a) ↔ R v a
  osc : ∀ a, (one a).scalar = true
abbrev lkI : LK Int := ⟨isInt, .il, .int, fun _ _ _ _ => Iff.rfl, fun _ _ _ _ => Iff.rfl, fun _ => rfl⟩
abbrev lkS : LK (List Nat) := ⟨isStr, .sl, .str, fun _ _ _ _ => Iff.rfl, fun _ _ _ _ => Iff.rfl, fun _ => rfl⟩
abbrev lkB : LK Bool := ⟨isBool, .bl, .bool, fun _ _ _ _ => Iff.rfl, fun _ _ _ _ => Iff.rfl, fun _ => rfl⟩

/-- a new list -/
theorem newL {α : Type} (L : LK α) {A : Around} {s s₀ : Shared} {vs : List Value} {l : List α} {E : Value → Shared → Prop} (e : Ext s₀ s) (hv : All2 L.R vs l) (hz : l.length ≤ 16777216) :
    wpAny C.M A (newList vs) (fun v s' => Ext s₀ s' ∧ Rep s'.heap (mu true s₀) v (L.li l)) E s := by
  refine wpAny_newObj_type ⟨e.trans Ext.push, (L.rep ..).mpr ⟨_, vs, 0, rfl, fun q => ?_, Heap.get?_push_size _ rfl, hv⟩⟩ (by show vs.toArray.size ≤ sizeLine; rw [List.size_toArray, hv.length]; exact hz)
  obtain ⟨o, ho⟩ := q.2
  exact absurd (Heap.lt_size (e.heap _ _ ho)) (Nat.lt_irrefl _)

theorem pushedL {α : Type} (L : LK α) {s s₀ : Shared} {vs : List Value} {l : List α} (e : Ext s₀ s) (hv : All2 L.R vs l) (tk : Nat) :
    Ext s₀ { s with heap := s.heap.push { cls := .type "list", data := .seq vs.toArray }, toks := tk } ∧
    Rep (s.heap.push { cls := .type "list", data := .seq vs.toArray }) (mu true s₀) (.ref s.heap.objs.size) (L.li l) := by
  refine ⟨e.trans Ext.push, (L.rep ..).mpr ⟨_, vs, 0, rfl, fun q => ?_, Heap.get?_push_size _ rfl, hv⟩⟩
  obtain ⟨o, ho⟩ := q.2
  exact absurd (Heap.lt_size (e.heap _ _ ho)) (Nat.lt_irrefl _)

theorem Bin.addL {α : Type} (L : LK α) {a b : List α} (h : a.length + b.length ≤ 16777216) : Bin C k .Add (L.li a) (L.li b) (L.li (a ++ b)) := fun A s v u _ hv hu => by
  obtain ⟨x, vs, n, rfl, _, hx, hv⟩ := (L.rep ..).mp hv
  obtain ⟨y, us, n', rfl, _, hy, hu⟩ := (L.rep ..).mp hu
  refine P.add_list hx hy ?_ (by rw [List.size_toArray, List.size_toArray, hv.length, hu.length]; exact h)
  have q := pushedL L (Ext.refl s) (hv.append hu) s.toks
  rw [show (vs ++ us).toArray = vs.toArray ++ us.toArray by simp] at q
  exact q

theorem foldl_replicate_append (x : Array Nat) (n : Nat) : ∀ acc : Array Nat, (List.replicate n x).foldl (· ++ ·) acc = acc ++ ((List.replicate n x.toList).flatten).toArray := by
  induction n with
  | zero => intro acc; simp
  | succ n ih => intro acc; rw [List.replicate_succ, List.foldl_cons, ih, List.replicate_succ, List.flatten_cons]; apply Array.ext'; simp
theorem mul_eq (a : List Nat) {n : Int} (h : 0 ≤ n) : Txt.mul (mkS a) n = mkS (List.replicate n.toNat a).flatten := by
  unfold Txt.mul
  by_cases h1 : n < 1
  · have : n = 0 := by omega
    subst this; simp [Str.empty]
  · rw [if_neg h1]
    by_cases h2 : (n == 1 || (mkS a).length == 0) = true
    · rw [if_pos h2]
      rw [mkS_length] at h2
      simp only [Bool.or_eq_true, beq_iff_eq, List.length_eq_zero_iff] at h2
      rcases h2 with rfl | rfl
      · simp
      · simp
    · rw [if_neg h2, foldl_replicate_append]; simp
theorem Bin.mulS {a : List Nat} {n : Int} (h : 0 ≤ n) (hn : n ≤ 4096) (hz : a.length ≤ 4096) : Bin C k .Mult (.str a) (.int n) (.str (List.replicate n.toNat a).flatten) := fun A s v u _ hv hu => by
  obtain ⟨t, rfl⟩ := hv; obtain ⟨t', rfl⟩ := hu
  have hp : a.length * n.toNat ≤ 4096 * 4096 := Nat.mul_le_mul hz (by omega)
  refine SB.mul ⟨by simp; omega, fun h1 _ => ?_, fun _ _ => ?_⟩ fun t' tk => ⟨Ext.toks, ⟨t', by rw [mul_eq _ h]⟩⟩
  · rw [mkS_length]
    have : (4096 : Int) ≤ (2 ^ 63 - 1) / n := by
      refine Int.le_ediv_of_mul_le (by omega) ?_
      omega
    omega
  · rw [mkS_length]
    show decide (a.length * n.toNat > _) = false
    have : (Builtin.Str.tooLong (a.length * n.toNat)) = decide (a.length * n.toNat > sizeLine) := rfl
    refine decide_eq_false ?_
    have e : sizeLine = 16777216 := rfl
    rw [e]; omega

/-! #### comparisons -/
def Cm (C : Cx) (k : Nat) (op : CmpOp) (a b : MV) (r : Bool) : Prop :=
  ∀ (A : Around) (s : Shared) (v u : Value) (Q : Value → Shared → Prop) (E : Value → Shared → Prop), Room k A → Rep s.heap noMu v a → Rep s.heap noMu u b → Q (.bool r) s → wpAny C.M A (compareOp op v u) Q E s
theorem Cm.eq {op : CmpOp} {a b : MV} {r r' : Bool} (h : Cm C k op a b r) (e : r = r') : Cm C k op a b r' := e ▸ h
theorem Cm.eqI {a b : Int} : Cm C k .Eq (.int a) (.int b) (decide (a = b)) := fun A s v u Q E _ hv hu h => by
  obtain ⟨t, rfl⟩ := hv; obtain ⟨t', rfl⟩ := hu
  exact P.eq_int (by rw [show (a == b) = decide (a = b) from rfl]; exact h)
theorem Cm.ltI {a b : Int} : Cm C k .Lt (.int a) (.int b) (decide (a < b)) := fun A s v u Q E _ hv hu h => by
  obtain ⟨t, rfl⟩ := hv; obtain ⟨t', rfl⟩ := hu
  exact P.lt_int h
theorem Cm.leI {a b : Int} : Cm C k .LtE (.int a) (.int b) (decide (a ≤ b)) := fun A s v u Q E _ hv hu h => by
  obtain ⟨t, rfl⟩ := hv; obtain ⟨t', rfl⟩ := hu
  exact P.le_int h
theorem Cm.gtI {a b : Int} : Cm C k .Gt (.int a) (.int b) (decide (b < a)) := fun A s v u Q E _ hv hu h => by
  obtain ⟨t, rfl⟩ := hv; obtain ⟨t', rfl⟩ := hu
  exact P.gt_int h
theorem Cm.geI {a b : Int} : Cm C k .GtE (.int a) (.int b) (decide (b ≤ a)) := fun A s v u Q E _ hv hu h => by
  obtain ⟨t, rfl⟩ := hv; obtain ⟨t', rfl⟩ := hu
  exact P.ge_int h
theorem Cm.eqB {a b : Bool} : Cm C k .Eq (.bool a) (.bool b) (a == b) := fun A s v u Q E _ hv hu h => by
  subst hv hu; exact eq_bool h
theorem Cm.neB {a b : Bool} : Cm C k .NotEq (.bool a) (.bool b) (a != b) := fun A s v u Q E _ hv hu h => by
  subst hv hu; exact ne_bool h
theorem Cm.eqS {a b : List Nat} : Cm C k .Eq (.str a) (.str b) (decide (a = b)) := fun A s v u Q E _ hv hu h => by
  obtain ⟨t, rfl⟩ := hv; obtain ⟨t', rfl⟩ := hu
  exact P.eq_str (by rw [show ((mkS a).cps.toList == (mkS b).cps.toList) = decide (a = b) by rw [Bool.eq_iff_iff]; simp]; exact h)
theorem Cm.neS {a b : List Nat} : Cm C k .NotEq (.str a) (.str b) (!decide (a = b)) := fun A s v u Q E _ hv hu h => by
  obtain ⟨t, rfl⟩ := hv; obtain ⟨t', rfl⟩ := hu
  exact P.ne_str (by rw [show ((mkS a).cps.toList != (mkS b).cps.toList) = !decide (a = b) by rw [Bool.eq_iff_iff]; simp]; exact h)
theorem Cm.eqL {a b : List Int} : Cm C k .Eq (.il a) (.il b) (decide (a = b)) := fun A s v u Q E R hv hu h => by
  obtain ⟨x, vs, n, rfl, _, hx, hv⟩ := hv
  obtain ⟨y, us, n', rfl, _, hy, hu⟩ := hu
  exact ke_eq_ints hx.isList hy.isList (intsAre_of hv) (intsAre_of hu) (by have := R.units; omega) h
theorem Cm.neL {a b : List Int} : Cm C k .NotEq (.il a) (.il b) (!decide (a = b)) := fun A s v u Q E R hv hu h => by
  obtain ⟨x, vs, n, rfl, _, hx, hv⟩ := hv
  obtain ⟨y, us, n', rfl, _, hy, hu⟩ := hu
  exact ke_ne_ints hx.isList hy.isList (intsAre_of hv) (intsAre_of hu) (by have := R.units; omega) h
theorem Cm.inL {a : Int} {b : List Int} : Cm C k .In (.int a) (.il b) (b.any (· == a)) := fun A s v u Q E R hv hu h => by
  obtain ⟨t, rfl⟩ := hv
  obtain ⟨y, us, n', rfl, _, hy, hu⟩ := hu
  exact in_list_ints hy.isList (intsAre_of hu) h
theorem Cm.ninL {a : Int} {b : List Int} : Cm C k .NotIn (.int a) (.il b) (!b.any (· == a)) := fun A s v u Q E R hv hu h => by
  obtain ⟨t, rfl⟩ := hv
  obtain ⟨y, us, n', rfl, _, hy, hu⟩ := hu
  exact notin_list_ints hy.isList (intsAre_of hu) h

theorem Ev.cmp {op : CmpOp} {l r : Expr} {p : Pos} {f1 f2 : Bool} {a b : MV} {c : Bool} (hl : Ev C k f1 sc ρ l a) (hr : Ev C k f2 sc ρ r b) (ho : Cm C k op a b c) (hm : behindInMarks op r = false) : Ev C k true sc ρ (.Compare l [op] [r] p) (.bool c) := fun A env s R W O S =>
  wpAny_Compare1 (hl.go R W O S fun v s₁ e₁ r₁ W₁ S₁ => hr.go R W₁ O S₁ fun u s₂ e₂ r₂ W₂ S₂ =>
    ho A s₂ v u _ _ R (r₁.weak.ext e₂) r₂.weak ⟨e₁.trans e₂, rfl⟩) hm
theorem Ts.cmp {op : CmpOp} {l r : Expr} {p : Pos} {f1 f2 : Bool} {a b : MV} {c : Bool} (hl : Ev C k f1 sc ρ l a) (hr : Ev C k f2 sc ρ r b) (ho : Cm C k op a b c) (hm : behindInMarks op r = false) : Ts C k sc ρ (.Compare l [op] [r] p) c := fun A env s R W O S =>
  wpAny_isTrue_Compare1 (hl.go R W O S fun v s₁ e₁ r₁ W₁ S₁ => hr.go R W₁ O S₁ fun u s₂ e₂ r₂ W₂ S₂ =>
    ho A s₂ v u _ _ R (r₁.weak.ext e₂) r₂.weak (wpAny_truthy_bool ⟨e₁.trans e₂, rfl⟩)) hm

/-! #### and, or, if -/
theorem Ts.and {x y : Expr} {p : Pos} {a b : Bool} (hx : Ts C k sc ρ x a) (hy : a = true → Ts C k sc ρ y b) : Ts C k sc ρ (.BoolOp .And [x, y] p) (a && b) := fun A env s R W O S =>
  isTrue_and (hx.go R W O S fun s₁ e₁ W₁ S₁ => by
    cases a with
    | false => exact ⟨e₁, rfl⟩
    | true => exact isTrue_and ((hy rfl).go R W₁ O S₁ fun s₂ e₂ W₂ S₂ => by
        cases b with
        | false => exact ⟨e₁.trans e₂, rfl⟩
        | true => exact isTrue_and_nil ⟨e₁.trans e₂, rfl⟩))
theorem Ts.or {x y : Expr} {p : Pos} {a b : Bool} (hx : Ts C k sc ρ x a) (hy : a = false → Ts C k sc ρ y b) : Ts C k sc ρ (.BoolOp .Or [x, y] p) (a || b) := fun A env s R W O S =>
  isTrue_or (hx.go R W O S fun s₁ e₁ W₁ S₁ => by
    cases a with
    | true => exact ⟨e₁, rfl⟩
    | false => exact isTrue_or ((hy rfl).go R W₁ O S₁ fun s₂ e₂ W₂ S₂ => by
        cases b with
        | true => exact ⟨e₁.trans e₂, rfl⟩
        | false => exact isTrue_or_nil ⟨e₁.trans e₂, rfl⟩))
theorem Ev.ite {t x y : Expr} {p : Pos} {b fr : Bool} {m : MV} (ht : Ts C k sc ρ t b) (hx : b = true → Ev C k fr sc ρ x m) (hy : b = false → Ev C k fr sc ρ y m) : Ev C k fr sc ρ (.IfExp t x y p) m := fun A env s R W O S =>
  wpAny_IfExp (ht.go R W O S fun s₁ e₁ W₁ S₁ => by
    cases b with
    | true => exact (hx rfl).go R W₁ O S₁ fun v s₂ e₂ r₂ _ _ => ⟨e₁.trans e₂, r₂.newer e₁⟩
    | false => exact (hy rfl).go R W₁ O S₁ fun v s₂ e₂ r₂ _ _ => ⟨e₁.trans e₂, r₂.newer e₁⟩)
theorem Ts.val {e : Expr} {b fr : Bool} (h : Ev C k fr sc ρ e (.bool b)) (he : ∀ env whole, isTrue e env whole = (do let v ← whole; standAt e.pos; holding [v] (truthy v))) : Ts C k sc ρ e b := fun A env s R W O S =>
  wpAny_isTrue_value (h.go R W O S fun v s₁ e₁ r₁ W₁ S₁ => by obtain rfl := r₁; exact wpAny_truthy_bool ⟨e₁, rfl⟩) (he _ _)

/-! #### items -/
theorem seqIndex_nat {j : Int} {n : Nat} (h0 : 0 ≤ j) (h : j.toNat < n) : seqIndex? j n = some j.toNat := by
  unfold seqIndex?
  have h1 : ¬ j < 0 := by omega
  have h2 : (decide (0 ≤ j) && decide (j < (n : Int))) = true := by simp; omega
  simp only [h1, if_false, h2, if_true]
theorem Ev.item {α : Type} (L : LK α) {v i : Expr} {p : Pos} {f1 f2 : Bool} {l : List α} {j : Int} {a : α} (hv : Ev C k f1 sc ρ v (L.li l)) (hi : Ev C k f2 sc ρ i (.int j)) (h0 : 0 ≤ j) (hz : j < 2 ^ 63) (ha : l[j.toNat]? = some a)
    (hs : ∀ o i', subscripted i false o i' = operate [o, i'] (getItem o i')) : Ev C k false sc ρ (.Subscript v i p) (L.one a) := fun A env s R W O S =>
  Subscript_ (hv.go R W O S fun o s₁ e₁ r₁ W₁ S₁ => hi.go R W₁ O S₁ fun u s₂ e₂ r₂ W₂ S₂ => by
    obtain ⟨t, rfl⟩ := r₂
    obtain ⟨x, vs, n, rfl, _, hx, hv⟩ := (L.rep ..).mp (r₁.ext e₂)
    obtain ⟨y, hy, hr⟩ := hv.get ha
    exact tail_any hx.isList.typeIs slot_list_getitem.lookup (wpAny_getItem_list hx.isList h0 hz (by simpa using hy) ⟨e₁.trans e₂, (L.orep ..).mpr hr⟩) (hs _ _))
theorem Ev.last {α : Type} (L : LK α) {v i : Expr} {p : Pos} {f1 f2 : Bool} {l : List α} {a : α} (hv : Ev C k f1 sc ρ v (L.li l)) (hi : Ev C k f2 sc ρ i (.int (-1))) (ha : l.getLast? = some a)
    (hs : ∀ o i', subscripted i false o i' = operate [o, i'] (getItem o i')) : Ev C k false sc ρ (.Subscript v i p) (L.one a) := fun A env s R W O S =>
  Subscript_ (hv.go R W O S fun o s₁ e₁ r₁ W₁ S₁ => hi.go R W₁ O S₁ fun u s₂ e₂ r₂ W₂ S₂ => by
    obtain ⟨t, rfl⟩ := r₂
    obtain ⟨x, vs, n, rfl, _, hx, hv⟩ := (L.rep ..).mp (r₁.ext e₂)
    rw [List.getLast?_eq_getElem?] at ha
    obtain ⟨y, hy, hr⟩ := hv.get ha
    have hl := hv.length
    have hp : 0 < l.length := by
      cases l with
      | nil => simp at ha
      | cons => simp
    refine tail_any hx.isList.typeIs slot_list_getitem.lookup (wpAny_getItem_list_neg hx.isList (by omega) (by rw [List.size_toArray]; omega) (by omega) (x := y) ?_ ⟨e₁.trans e₂, (L.orep ..).mpr hr⟩) (hs _ _)
    rw [List.size_toArray, show ((-1 : Int) + (vs.length : Int)).toNat = l.length - 1 by omega]
    simpa using hy)
theorem Ev.itemT {v i : Expr} {p : Pos} {f1 f2 : Bool} {l : List Int} {j a : Int} (hv : Ev C k f1 sc ρ v (.ti l)) (hi : Ev C k f2 sc ρ i (.int j)) (h0 : 0 ≤ j) (hz : j < 2 ^ 63) (ha : l[j.toNat]? = some a)
    (hs : ∀ o i', subscripted i false o i' = operate [o, i'] (getItem o i')) : Ev C k true sc ρ (.Subscript v i p) (.int a) := fun A env s R W O S =>
  Subscript_ (hv.go R W O S fun o s₁ e₁ r₁ W₁ S₁ => hi.go R W₁ O S₁ fun u s₂ e₂ r₂ W₂ S₂ => by
    obtain ⟨t, rfl⟩ := r₂
    obtain ⟨x, vs, rfl, _, hx, hv⟩ := r₁.ext e₂
    obtain ⟨y, hy, hr⟩ := hv.get ha
    have hl : j.toNat < vs.length := by
      rcases Nat.lt_or_ge j.toNat vs.length with h | h
      · exact h
      · rw [List.getElem?_eq_none h] at hy; cases hy
    exact item_tupleT hx (by omega) hz (j := j.toNat) (seqIndex_nat h0 hl) hy ⟨e₁.trans e₂, hr⟩ (hs _ _))
theorem Ev.itemS {v i : Expr} {p : Pos} {f1 f2 : Bool} {l : List Nat} {j : Int} {a : Nat} (hv : Ev C k f1 sc ρ v (.str l)) (hi : Ev C k f2 sc ρ i (.int j)) (h0 : 0 ≤ j) (hz : j < 2 ^ 63) (ha : l[j.toNat]? = some a)
    (hs : ∀ o i', subscripted i false o i' = operate [o, i'] (getItem o i')) : Ev C k true sc ρ (.Subscript v i p) (.str [a]) := fun A env s R W O S =>
  Subscript_ (hv.go R W O S fun o s₁ e₁ r₁ W₁ S₁ => hi.go R W₁ O S₁ fun u s₂ e₂ r₂ W₂ S₂ => by
    obtain ⟨t, rfl⟩ := r₂
    obtain ⟨t', rfl⟩ := r₁
    have hl : j.toNat < l.length := by
      rcases Nat.lt_or_ge j.toNat l.length with h | h
      · exact h
      · rw [List.getElem?_eq_none h] at ha; cases ha
    refine tail_any (T := "str") (typeIs_str _ _ _) F.slot_str_getitem.lookup (PyProof.Rows.getItem_str (c := a) (by simp; omega) ?_ ⟨(e₁.trans e₂).trans Ext.toks, ⟨_, rfl⟩⟩) (hs _ _)
    rw [seqIndex_nat h0 (by rw [mkS_length]; exact hl)]
    simpa using ha)
end Mine

open PySem PySem.W PyProof.Rows
set_option Elab.async false
set_option maxRecDepth 100000
set_option autoImplicit false
set_option linter.unusedVariables false
set_option linter.unusedSimpArgs false
namespace Mine
variable {C : Cx} {k : Nat} {sc : Scope} {ρ : Vars}

/-! #### slices -/
def Part (C : Cx) (k : Nat) (sc : Scope) (ρ : Vars) (x : Option Expr) (i : Option Int) : Prop :=
  ∀ (A : Around) (env : Env) (s : Shared), Room k A → Wd C s.heap → EnvOK env sc → Sees s env ρ →
    wpAny C.M A (evalPart x env) (fun v s' => Ext s s' ∧ ((i = none ∧ v = .none) ∨ ∃ j t, i = some j ∧ v = .int j t)) (fun _ _ => False) s
theorem Part.no : Part C k sc ρ none none := fun A env s R W O S => by
  rw [evalPart_none]; exact wpAny_pure ⟨Ext.refl s, .inl ⟨rfl, rfl⟩⟩
theorem Part.so {e : Expr} {i : Int} {f : Bool} (h : Ev C k f sc ρ e (.int i)) : Part C k sc ρ (some e) (some i) := fun A env s R W O S => by
  rw [evalPart_some]
  exact h.go R W O S fun v s₁ e₁ r₁ _ _ => by obtain ⟨t, rfl⟩ := r₁; exact ⟨e₁, .inr ⟨i, t, rfl, rfl⟩⟩

theorem isPart_of {v : Value} {i : Option Int} (h : (i = none ∧ v = .none) ∨ ∃ j t, i = some j ∧ v = .int j t) : IsPart v i := by
  rcases h with ⟨rfl, rfl⟩ | ⟨j, t, rfl, rfl⟩
  · exact .none
  · exact .int _ _

def pick {α : Type} (lo hi st : Option Int) (l : List α) : List α :=
  (sliceRange (sliceBounds lo hi st l.length).1 (sliceBounds lo hi st l.length).2.1 (sliceBounds lo hi st l.length).2.2).filterMap (l[·]?)

theorem All2.filterMap {α β : Type} {R : α → β → Prop} {as : List α} {bs : List β} (h : All2 R as bs) : ∀ is : List Nat, All2 R (is.filterMap (as[·]?)) (is.filterMap (bs[·]?))
  | [] => .nil
  | i :: is => by
    rw [List.filterMap_cons, List.filterMap_cons]
    cases e : bs[i]? with
    | none =>
      have : as[i]? = none := by
        rw [List.getElem?_eq_none_iff] at e ⊢
        rw [h.length]; exact e
      rw [this]; exact h.filterMap is
    | some b =>
      obtain ⟨a, ha, r⟩ := h.get e
      rw [ha]; exact .cons r (h.filterMap is)

theorem slicePick_list (vs : List Value) (lo hi st : Option Int) : slicePick vs.toArray lo hi st = (pick lo hi st vs).toArray := by
  unfold slicePick pick
  simp

theorem Ev.sliceL {α : Type} (L : LK α) {v : Expr} {lo up st : Option Expr} {sp p : Pos} {f : Bool} {l : List α} {a b c : Option Int} (hv : Ev C k f sc ρ v (L.li l)) (h1 : Part C k sc ρ lo a) (h2 : Part C k sc ρ up b) (h3 : Part C k sc ρ st c)
    (hc : c ≠ some 0) (hz : l.length ≤ 16777216) : Ev C k true sc ρ (.Subscript v (.Slice lo up st sp) p) (L.li (pick a b c l)) := fun A env s R W O S =>
  Subscript_ (hv.go R W O S fun o s₁ e₁ r₁ W₁ S₁ => wpAny_Slice (wpAny_mono (h1 A env s₁ R W₁ O S₁) (fun v1 s₂ q1 => wpAny_mono (h2 A env s₂ R (W₁.keeps q1.1.heap) O (S₁.ext q1.1)) (fun v2 s₃ q2 =>
      wpAny_mono (h3 A env s₃ R ((W₁.keeps q1.1.heap).keeps q2.1.heap) O ((S₁.ext q1.1).ext q2.1)) (fun v3 s₄ q3 => by
    have e₄ : Ext s₁ s₄ := (q1.1.trans q2.1).trans q3.1
    have e₅ : Ext s₁ { s₄ with heap := s₄.heap.push { cls := .type "slice", data := .fields #[v1, v2, v3] }, toks := s₄.toks } := e₄.trans Ext.push
    obtain ⟨x, vs, n, rfl, _, hx, hv⟩ := (L.rep ..).mp (r₁.ext e₅)
    refine tail_any (T := "list") (ops := st.elim [.ref s₄.heap.objs.size, .ref x] fun _ => [.ref x, .ref s₄.heap.objs.size]) hx.isList.typeIs slot_list_getitem.lookup
      (wpAny_getItem_list_slice hx.isList (Heap.IsSliceOf.new ..) (isPart_of q1.2) (isPart_of q2.2) (isPart_of q3.2) hc ?_ (by rw [List.size_toArray, hv.length]; exact hz)) ?_
    · have q := pushedL L (e₁.trans e₅) (hv.filterMap (sliceRange (sliceBounds a b c l.length).1 (sliceBounds a b c l.length).2.1 (sliceBounds a b c l.length).2.2)) s₄.toks
      rw [slicePick_list]
      unfold pick
      rw [hv.length]
      exact q
    · cases st <;> rfl) fun _ _ x => x.elim) fun _ _ x => x.elim) fun _ _ x => x.elim))

theorem Ev.sliceLo {v : Expr} {lo up st : Option Expr} {sp p : Pos} {f : Bool} {l : List Int} {a b c : Option Int} (hv : Ev C k f sc ρ v (.lo l)) (h1 : Part C k sc ρ lo a) (h2 : Part C k sc ρ up b) (h3 : Part C k sc ρ st c)
    (hc : c ≠ some 0) (hz : l.length ≤ 16777216) : Ev C k true sc ρ (.Subscript v (.Slice lo up st sp) p) (.il (pick a b c l)) := fun A env s R W O S =>
  Subscript_ (hv.go R W O S fun o s₁ e₁ r₁ W₁ S₁ => wpAny_Slice (wpAny_mono (h1 A env s₁ R W₁ O S₁) (fun v1 s₂ q1 => wpAny_mono (h2 A env s₂ R (W₁.keeps q1.1.heap) O (S₁.ext q1.1)) (fun v2 s₃ q2 =>
      wpAny_mono (h3 A env s₃ R ((W₁.keeps q1.1.heap).keeps q2.1.heap) O ((S₁.ext q1.1).ext q2.1)) (fun v3 s₄ q3 => by
    have e₄ : Ext s₁ s₄ := (q1.1.trans q2.1).trans q3.1
    have e₅ : Ext s₁ { s₄ with heap := s₄.heap.push { cls := .type "slice", data := .fields #[v1, v2, v3] }, toks := s₄.toks } := e₄.trans Ext.push
    obtain ⟨x, vs, rfl, _, hx, hv⟩ := r₁.ext e₅
    refine tail_any (T := "list") (ops := st.elim [.ref s₄.heap.objs.size, .ref x] fun _ => [.ref x, .ref s₄.heap.objs.size]) hx.typeIs slot_list_getitem.lookup
      (wpAny_getItem_list_slice hx (Heap.IsSliceOf.new ..) (isPart_of q1.2) (isPart_of q2.2) (isPart_of q3.2) hc ?_ (by rw [List.size_toArray, hv.length]; exact hz)) ?_
    · have q := pushedL lkI (e₁.trans e₅) (hv.filterMap (sliceRange (sliceBounds a b c l.length).1 (sliceBounds a b c l.length).2.1 (sliceBounds a b c l.length).2.2)) s₄.toks
      rw [slicePick_list]
      unfold pick
      rw [hv.length]
      exact q
    · cases st <;> rfl) fun _ _ x => x.elim) fun _ _ x => x.elim) fun _ _ x => x.elim))

theorem bounds_nat (a b : Option Int) (n : Nat) : ∃ i j : Nat, sliceBounds a b .none n = ((i : Int), (j : Int), 1) ∧ i ≤ n ∧ j ≤ n := by
  have clip : ∀ (v : Option Int) (d : Nat), d ≤ n → ∃ i : Nat, (match v with | .none => (d : Int) | .some i => max 0 (min (if i < 0 then i + n else i) n)) = (i : Int) ∧ i ≤ n := by
    intro v d hd
    cases v with
    | none => exact ⟨d, rfl, hd⟩
    | some x => exact ⟨(max 0 (min (if x < 0 then x + n else x) n)).toNat, by show max 0 (min (if x < 0 then x + n else x) n) = _; omega, by omega⟩
  obtain ⟨i, hi, hi'⟩ := clip a 0 (Nat.zero_le _)
  obtain ⟨j, hj, hj'⟩ := clip b n (Nat.le_refl _)
  refine ⟨i, j, ?_, hi', hj'⟩
  rw [← hi, ← hj]
  cases a <;> cases b <;> rfl
theorem filterMap_range {α : Type} (l : List α) : ∀ (i n : Nat), i + n ≤ l.length → ((List.range n).map (i + ·)).filterMap (l[·]?) = (l.drop i).take n
  | i, 0, _ => by simp
  | i, n + 1, h => by
    rw [List.range_succ, List.map_append, List.filterMap_append, filterMap_range l i n (by omega)]
    have : l[i + n]? = some l[i + n] := List.getElem?_eq_getElem (by omega)
    simp only [List.map_cons, List.map_nil, List.filterMap_cons, List.filterMap_nil, this]
    rw [List.take_add_one, List.getElem?_drop, this]; rfl
theorem pick_nat {α : Type} (l : List α) {a b : Option Int} {i j : Nat} (h : sliceBounds a b .none l.length = ((i : Int), (j : Int), 1)) (hj : j ≤ l.length) : pick a b .none l = (l.drop i).take (j - i) := by
  unfold pick
  rw [h]
  show (sliceRange (i : Int) (j : Int) 1).filterMap _ = _
  rw [sliceRange_one]
  by_cases hij : i ≤ j
  · exact filterMap_range l i (j - i) (by omega)
  · rw [show j - i = 0 by omega]; simp
theorem pick_whole {α : Type} (l : List α) {a b : Option Int} (h : (sliceRange (sliceBounds a b .none l.length).1 (sliceBounds a b .none l.length).2.1 (sliceBounds a b .none l.length).2.2).length = l.length) : pick a b .none l = l := by
  obtain ⟨i, j, e, hi, hj⟩ := bounds_nat a b l.length
  rw [pick_nat l e hj]
  rw [e] at h
  have h' : (sliceRange (i : Int) (j : Int) 1).length = l.length := h
  rw [sliceRange_one, List.length_map, List.length_range] at h'
  by_cases h0 : l.length = 0
  · rw [List.length_eq_zero_iff] at h0; subst h0; simp
  · have : i = 0 := by omega
    subst this
    rw [List.drop_zero, h', List.take_length]
theorem pick_upto {α : Type} (l : List α) {n : Int} (h : 0 ≤ n) : pick .none (some n) .none l = l.take n.toNat := by
  have e : sliceBounds .none (some n) .none l.length = (((0 : Nat) : Int), ((min n.toNat l.length : Nat) : Int), 1) := by
    show ((0 : Int), max 0 (min (if n < 0 then n + l.length else n) l.length), (1 : Int)) = _
    rw [if_neg (by omega)]
    congr 2
    omega
  rw [pick_nat l e (by omega), List.drop_zero, Nat.sub_zero]
  rcases Nat.le_total n.toNat l.length with q | q
  · rw [Nat.min_eq_left q]
  · rw [Nat.min_eq_right q, List.take_length, List.take_of_length_le q]
theorem pick_mid {α : Type} (l : List α) {a b : Int} (h : 0 ≤ a) (h' : 0 ≤ b) : pick (some a) (some b) .none l = (l.take b.toNat).drop a.toNat := by
  have e : sliceBounds (some a) (some b) .none l.length = (((min a.toNat l.length : Nat) : Int), ((min b.toNat l.length : Nat) : Int), 1) := by
    show (max 0 (min (if a < 0 then a + l.length else a) l.length), max 0 (min (if b < 0 then b + l.length else b) l.length), (1 : Int)) = _
    rw [if_neg (by omega), if_neg (by omega)]
    congr 1
    · omega
    · congr 1; omega
  rw [pick_nat l e (by omega), List.drop_take]
  rcases Nat.le_total a.toNat l.length with q | q
  · rw [Nat.min_eq_left q]
    rcases Nat.le_total b.toNat l.length with r | r
    · rw [Nat.min_eq_left r]
    · rw [Nat.min_eq_right r, List.take_of_length_le (by simp), List.take_of_length_le (by simp; omega)]
  · rw [Nat.min_eq_right q, List.drop_length, List.drop_of_length_le q]; simp
theorem Ev.sliceS {v : Expr} {lo up : Option Expr} {sp p : Pos} {f : Bool} {l : List Nat} {a b : Option Int} (hv : Ev C k f sc ρ v (.str l)) (h1 : Part C k sc ρ lo a) (h2 : Part C k sc ρ up b)
    (hz : l.length ≤ 16777216) : Ev C k true sc ρ (.Subscript v (.Slice lo up .none sp) p) (.str (pick a b .none l)) := fun A env s R W O S =>
  Subscript_ (hv.go R W O S fun o s₁ e₁ r₁ W₁ S₁ => wpAny_Slice (wpAny_mono (h1 A env s₁ R W₁ O S₁) (fun v1 s₂ q1 => wpAny_mono (h2 A env s₂ R (W₁.keeps q1.1.heap) O (S₁.ext q1.1)) (fun v2 s₃ q2 => by
    rw [evalPart_none]
    refine wpAny_pure ?_
    have e₃ : Ext s₁ s₃ := q1.1.trans q2.1
    obtain ⟨t, rfl⟩ := r₁
    obtain ⟨la, hla, hva⟩ : ∃ la : Option (Int × Tok), la.map (·.1) = a ∧ v1 = partValue la := by
      rcases q1.2 with ⟨rfl, rfl⟩ | ⟨j, t, rfl, rfl⟩
      · exact ⟨.none, rfl, rfl⟩
      · exact ⟨some (j, t), rfl, rfl⟩
    obtain ⟨lb, hlb, hvb⟩ : ∃ la : Option (Int × Tok), la.map (·.1) = b ∧ v2 = partValue la := by
      rcases q2.2 with ⟨rfl, rfl⟩ | ⟨j, t, rfl, rfl⟩
      · exact ⟨.none, rfl, rfl⟩
      · exact ⟨some (j, t), rfl, rfl⟩
    subst hva hvb
    refine tail_any (T := "str") (ops := [.ref s₃.heap.objs.size, .str (mkS l) t]) (typeIs_str _ _ _) F.slot_str_getitem.lookup
      (wpAny_getItem_str_slice (l := la) (u := lb) (st := .none) ⟨_, Heap.get?_push_size _ rfl, rfl, rfl⟩ rfl ?_) rfl
    have hp : slicePicked (mkS l) la lb .none = sliceRange (sliceBounds a b .none l.length).1 (sliceBounds a b .none l.length).2.1 (sliceBounds a b .none l.length).2.2 := by
      unfold slicePicked Builtin.Str.strSliceIndices sliceBounds
      rw [mkS_length, hla, hlb]
      cases a <;> cases b <;> rfl
    unfold sliceMade
    rw [hp]
    have hle : (sliceRange (sliceBounds a b .none l.length).1 (sliceBounds a b .none l.length).2.1 (sliceBounds a b .none l.length).2.2).length ≤ l.length := by
      rw [← hp]
      have := indices_len_le (la.map (·.1)) (lb.map (·.1)) (mkS l).length
      rw [mkS_length] at this
      unfold slicePicked
      rw [mkS_length]; exact this
    split
    · rename_i hc
      rw [Bool.and_eq_true, beq_iff_eq, mkS_length] at hc
      have hc' := beq_iff_eq.mp hc.2
      refine ⟨(e₁.trans e₃).trans Ext.push, ⟨t, ?_⟩⟩
      rw [pick_whole l hc']
    · have hl : (pick a b .none l).length ≤ 16777216 := by
        unfold pick
        exact Nat.le_trans (List.length_filterMap_le _ _) (Nat.le_trans hle hz)
      have hs : (Str.mk ((sliceRange (sliceBounds a b .none l.length).1 (sliceBounds a b .none l.length).2.1 (sliceBounds a b .none l.length).2.2).filterMap ((mkS l).cps[·]?)).toArray) = mkS (pick a b .none l) := by
        simp [pick]
      rw [hs]
      exact ⟨by rw [mkS_length]; exact hl, (e₁.trans e₃).trans Ext.push, ⟨_, rfl⟩⟩) fun _ _ x => x.elim) fun _ _ x => x.elim))

/-! #### several expressions -/
def Evs (C : Cx) (k : Nat) (sc : Scope) (ρ : Vars) (es : List Expr) (ms : List MV) : Prop :=
  ∀ (A : Around) (env : Env) (s : Shared) (pos : Pos), Room k A → Wd C s.heap → EnvOK env sc → Sees s env ρ →
    wpAny C.M A (spliced (backTo pos (starEach es env))) (fun vs s' => Ext s s' ∧ All2 (Rep s'.heap noMu) vs ms) (fun _ _ => False) s
abbrev NS (e : Expr) : Prop := ∀ env rest, starEach (e :: rest) env = (false, eval e env) :: starEach rest env
theorem Evs.nil : Evs C k sc ρ [] [] := fun A env s pos R W O S => Calls.spliced_nil ⟨Ext.refl s, .nil⟩
theorem All2.repExt {s s' : Shared} {vs : List Value} {ms : List MV} (h : All2 (Rep s.heap noMu) vs ms) (e : Ext s s') : All2 (Rep s'.heap noMu) vs ms := h.mono fun _ _ x => x.ext e
theorem Evs.cons {e : Expr} {es : List Expr} {m : MV} {ms : List MV} {f : Bool} (h : Ev C k f sc ρ e m) (hs : Evs C k sc ρ es ms) (hn : NS e) : Evs C k sc ρ (e :: es) (m :: ms) := fun A env s pos R W O S => by
  rw [hn]
  show wpAny C.M A (spliced ((false, eval e env) :: backTo pos (starEach es env))) _ _ s
  exact Calls.spliced_cons (h.go R W O S fun v s₁ e₁ r₁ W₁ S₁ => wpAny_mono (hs A env s₁ pos R W₁ O S₁) (fun vs s₂ q => ⟨e₁.trans q.1, .cons (r₁.weak.ext q.1) q.2⟩) fun _ _ x => x)
theorem Evs.go {es : List Expr} {ms : List MV} (h : Evs C k sc ρ es ms) {A : Around} {env : Env} {s : Shared} {pos : Pos} {Q : List Value → Shared → Prop} {E : Value → Shared → Prop} (R : Room k A) (W : Wd C s.heap) (O : EnvOK env sc) (S : Sees s env ρ)
    (c : ∀ vs s', Ext s s' → All2 (Rep s'.heap noMu) vs ms → Wd C s'.heap → Sees s' env ρ → Q vs s') : wpAny C.M A (spliced (backTo pos (starEach es env))) Q E s :=
  wpAny_mono (h A env s pos R W O S) (fun v s' x => c v s' x.1 x.2 (W.keeps x.1.heap) (S.ext x.1)) fun _ _ x => x.elim

theorem all2_ones {α : Type} (L : LK α) {h : Heap} {Mu : Addr → Prop} : ∀ {vs : List Value} {l : List α}, All2 (Rep h Mu) vs (l.map L.one) → All2 L.R vs l
  | [], [], .nil => .nil
  | _ :: _, _ :: _, .cons x y => .cons ((L.orep ..).mp x) (all2_ones L y)
/-- a list display -/
theorem Ev.disp {α : Type} (L : LK α) {es : List Expr} {p : Pos} (l : List α) (h : Evs C k sc ρ es (l.map L.one)) (hz : l.length ≤ 16777216) : Ev C k true sc ρ (.List es p) (L.li l) := fun A env s R W O S =>
  List_ (h.go R W O S fun vs s₁ e₁ r₁ W₁ S₁ => newL L e₁ (all2_ones L r₁) hz)
theorem Ev.tupI {es : List Expr} {kd : Nat} {p : Pos} (l : List Int) (h : Evs C k sc ρ es (l.map .int)) (hz : l.length ≤ 16777216) : Ev C k true sc ρ (.Tuple es kd p) (.ti l) := fun A env s R W O S =>
  Tuple_ (h.go R W O S fun vs s₁ e₁ r₁ W₁ S₁ => by
    have hv := all2_ones lkI r₁
    refine wpAny_newObj_type ⟨e₁.trans Ext.push, _, vs, rfl, fun q => ?_, ⟨_, Heap.get?_push_size _ rfl, rfl, _, rfl⟩, hv⟩ (by show vs.toArray.size ≤ sizeLine; rw [List.size_toArray, hv.length]; exact hz)
    obtain ⟨o, ho⟩ := q.2
    exact absurd (Heap.lt_size (e₁.heap _ _ ho)) (Nat.lt_irrefl _))

/-! #### names of the module, built-in names -/
def Gl (C : Cx) (sc : Scope) (x : Str) (v : Value) : Prop :=
  ∀ (A : Around) (env : Env) (s : Shared) (pos : Pos) (Q : Value → Shared → Prop) (E : Value → Shared → Prop), Wd C s.heap → EnvOK env sc → Q v s → wpAny C.M A (eval (.Name x pos) env) Q E s
theorem Gl.own {x : Str} {v : Value} (e : nsIn C.K mainGlobals x = some (some v)) (hx : sc.names.lookup x = some .globalImplicit) (hd : (x == ("__debug__" : Str)) = false) : Gl C sc x v := fun A env s pos Q E W O h => by
  obtain ⟨p, l, m, mg, mb, T⟩ := W.top
  exact Calls.Name_function_global O.k ((O.kindOf x).trans hx) (Calls.loadGlobal_global (by rw [O.globals]; exact T.g) (mg_of W.k T.g e) h) hd
theorem Gl.built {x : Str} {v : Value} (e : nsIn C.K mainGlobals x = some none) (hv : bootBuiltins x = some v) (hn : x ≠ "__name__") (hx : sc.names.lookup x = some .globalImplicit) (hd : (x == ("__debug__" : Str)) = false) : Gl C sc x v := fun A env s pos Q E W O h => by
  obtain ⟨p, l, m, mg, mb, T⟩ := W.top
  exact Calls.Name_function_global O.k ((O.kindOf x).trans hx) (Calls.loadGlobal_builtin (by rw [O.globals]; exact T.g) (mg_none_of W.k T.g e) (by rw [O.builtins]; exact T.b) ((T.builtins x hn).trans hv) h) hd

/-! #### calls -/
theorem Ev.call {x : Str} {np pos : Pos} {e : Expr} {es : List Expr} {ms : List MV} {m : MV} {f : Addr} {oc : Value} {od : Option Addr} {fd : FuncData} {osl : Array (Option Value)} (g : Gl C sc x (.ref f)) (ho : C.K.lookup f = some ⟨oc, od, .func fd, osl⟩)
    (ha : Evs C k sc ρ (e :: es) ms) (hf : Fn C k f ms m) (hn : NS e) : Ev C k true sc ρ (.Call (.Name x np) (e :: es) [] pos) m := fun A env s R W O S =>
  Call_Name rfl (g A env s np _ _ W O (by
    rw [show backTo pos (starEach (e :: es) env) = (false, eval e env) :: backTo pos (starEach es env) by rw [hn]; rfl]
    refine Calls.callWith_function (o := ⟨oc, od, .func fd, osl⟩) (fd := fd) (Calls.evalArgs_plain ?_)
    rw [show (false, eval e env) :: backTo pos (starEach es env) = backTo pos (starEach (e :: es) env) by rw [hn]; rfl]
    exact ha.go R W O S fun vs s₁ e₁ r₁ W₁ S₁ => ⟨⟨W₁.k _ _ ho, rfl⟩, wpAny_mono (hf A s₁ vs R W₁ r₁) (fun v s₂ q => ⟨e₁.trans q.1, q.2.newer e₁⟩) fun _ _ x => x⟩))
/-- a built-in function -/
def Bf (C : Cx) (k : Nat) (id : String) (ms : List MV) (m : MV) : Prop :=
  ∀ (A : Around) (s : Shared) (vs : List Value), Room k A → All2 (Rep s.heap noMu) vs ms →
    wpAny C.M A (call (.builtin id) vs) (fun v s' => Ext s s' ∧ Rep s'.heap (mu true s) v m) (fun _ _ => False) s
theorem backTo_plain (pos : Pos) (env : Env) : ∀ es : List Expr, (∀ e ∈ es, NS e) → (backTo pos (starEach es env)).any (·.1) = false
  | [], _ => rfl
  | e :: es, h => by
    rw [h e (.head _)]
    show (false || (backTo pos (starEach es env)).any (·.1)) = false
    rw [Bool.false_or]; exact backTo_plain pos env es fun e he => h e (.tail _ he)
theorem Ev.bcall {x : Str} {np pos : Pos} {e : Expr} {es : List Expr} {ms : List MV} {m : MV} {id : String} (g : Gl C sc x (.builtin id))
    (ha : Evs C k sc ρ (e :: es) ms) (hf : Bf C k id ms m) (hn : ∀ x ∈ e :: es, NS x) : Ev C k true sc ρ (.Call (.Name x np) (e :: es) [] pos) m := fun A env s R W O S =>
  Call_Name rfl (g A env s np _ _ W O (by
    refine Calls.callWith_builtin (backTo_plain pos env _ hn) ?_
    rw [show backTo pos (starEach (e :: es) env) = (false, eval e env) :: backTo pos (starEach es env) by rw [hn e (.head _)]; rfl]
    refine Calls.evalArgs_plain ?_
    rw [show (false, eval e env) :: backTo pos (starEach es env) = backTo pos (starEach (e :: es) env) by rw [hn e (.head _)]; rfl]
    exact ha.go R W O S fun vs s₁ e₁ r₁ W₁ S₁ => wpAny_mono (hf A s₁ vs R r₁) (fun v s₂ q => ⟨e₁.trans q.1, q.2.newer e₁⟩) fun _ _ x => x))

theorem Bf.lenL {α : Type} (L : LK α) {l : List α} (hz : l.length ≤ 16384) : Bf C k "len" [L.li l] (.int l.length) := fun A s vs R h => by
  cases h with
  | cons x y =>
    cases y
    obtain ⟨a, vs, n, rfl, _, hx, hv⟩ := (L.rep ..).mp x
    exact kun_lenL hx.isList (by rw [List.size_toArray, hv.length]) (by omega) ⟨Ext.toks, ⟨_, rfl⟩⟩
theorem Bf.lenS {l : List Nat} (hz : l.length ≤ 16777216) : Bf C k "len" [.str l] (.int l.length) := fun A s vs R h => by
  cases h with
  | cons x y =>
    cases y
    obtain ⟨t, rfl⟩ := x
    refine P.len_str (by rw [mkS_length]; omega) ⟨Ext.toks, ⟨_, by rw [mkS_length]⟩⟩
theorem Bf.chr {i : Int} (h0 : 0 ≤ i) (h1 : i ≤ 1114111) : Bf C k "chr" [.int i] (.str [i.toNat]) := fun A s vs R h => by
  cases h with
  | cons x y =>
    cases y
    obtain ⟨t, rfl⟩ := x
    exact chr_of_range h0 h1 ⟨Ext.toks, ⟨_, rfl⟩⟩
theorem Bf.min {a b : Int} : Bf C k "min" [.int a, .int b] (.int (Min.min a b)) := fun A s vs R h => by
  cases h with
  | cons x y =>
    cases y with
    | cons y z =>
      cases z
      obtain ⟨t, rfl⟩ := x
      obtain ⟨t', rfl⟩ := y
      refine min_two_ints R.handled fun h' tk hk => ⟨Ext.of_heap hk, ?_⟩
      by_cases hab : b < a
      · rw [if_pos hab]; exact ⟨t', by rw [show Min.min a b = b by omega]⟩
      · rw [if_neg hab]; exact ⟨t, by rw [show Min.min a b = a by omega]⟩
end Mine

open PySem PySem.W PyProof.Rows
set_option Elab.async false
set_option maxRecDepth 100000
set_option autoImplicit false
set_option linter.unusedVariables false
set_option linter.unusedSimpArgs false
namespace Mine
variable {C : Cx} {k : Nat} {sc : Scope} {ρ : Vars}

/-! ### the frame of a comprehension -/
def relab (scope sc : Scope) : Scope := { scope with names := scope.names.map fun (n, k) => if (k == .free && sc.names.lookup n == some .cell) then (n, .cell) else (n, k) }
theorem relabel_eq {env : Env} {scope : Scope} (O : EnvOK env sc) : relabel scope env = relab scope sc := by
  unfold relabel relab
  have : (env.scope.kind == .function) = true := by rw [O.k]; rfl
  simp only [this, Bool.and_true, O.kindOf]

def closeOf (env : Env) : List (Str × NameKind) → List (Str × Addr) → List (Str × Addr)
  | [], acc => acc
  | (n, k) :: r, acc => if k == .free then closeOf env r ((n, (env.cells.lookup n).getD 0) :: acc) else closeOf env r acc

theorem closureFor_go (env : Env) (f : Str × NameKind → List (Str × Addr) → Sem (ForInStep (List (Str × Addr))))
    (hf : ∀ n k acc, f (n, k) acc = if k == .free then (do let c ← cellOf env n; pure (.yield ((n, c) :: acc))) else pure (.yield acc)) :
    ∀ (names : List (Str × NameKind)) (acc : List (Str × Addr)), (∀ n, (n, NameKind.free) ∈ names → ∃ c, env.cells.lookup n = some c) → forIn names acc f = pure (closeOf env names acc)
  | [], acc, _ => by rw [List.forIn_nil]; rfl
  | (n, k) :: r, acc, h => by
    rw [List.forIn_cons, hf]
    unfold closeOf
    by_cases hk : (k == NameKind.free) = true
    · rw [if_pos hk, if_pos hk]
      obtain ⟨c, hc⟩ := h n (by rw [beq_iff_eq.mp hk]; exact .head _)
      have : cellOf env n = pure c := by unfold cellOf; rw [hc]
      rw [this, hc]
      exact closureFor_go env f hf r _ fun m hm => h m (.tail _ hm)
    · rw [if_neg hk, if_neg hk]
      exact closureFor_go env f hf r acc fun m hm => h m (.tail _ hm)
theorem closureFor_eq {env : Env} {scope : Scope} (h : ∀ n, (n, NameKind.free) ∈ scope.names → ∃ c, env.cells.lookup n = some c) : closureFor scope env = pure (closeOf env scope.names []) := by
  unfold closureFor
  refine (congrArg (· >>= _) (closureFor_go env _ (fun n k acc => ?_) scope.names [] h)).trans rfl
  cases hk : k == NameKind.free <;> simp [hk]

theorem cellsFrom_app : ∀ (names : List (Str × NameKind)) (j : Nat) (acc : List (Str × Addr)), cellsFrom j names acc = cellsFrom j names [] ++ acc
  | [], j, acc => rfl
  | (n, k) :: r, j, acc => by
    unfold cellsFrom
    split
    · rw [cellsFrom_app r (j + 1) ((n, j) :: acc), cellsFrom_app r (j + 1) [(n, j)]]; simp
    · exact cellsFrom_app r j acc

theorem lookup_app {α : Type} (x : Str) : ∀ (l l' : List (Str × α)), (l ++ l').lookup x = (l.lookup x).or (l'.lookup x)
  | [], _ => by simp
  | (y, v) :: l, l' => by
    rw [List.cons_append, List.lookup_cons, List.lookup_cons]
    split
    · simp
    · exact lookup_app x l l'
theorem cellsFrom_names' : ∀ (names : List (Str × NameKind)) (j : Nat) (x : Str) (c : Addr), (x, c) ∈ cellsFrom j names [] → (x, NameKind.cell) ∈ names
  | [], j, x, c, h => by simp [cellsFrom] at h
  | (n, k) :: r, j, x, c, h => by
    unfold cellsFrom at h
    split at h
    · rename_i hk
      rw [cellsFrom_app] at h
      rcases List.mem_append.mp h with h | h
      · exact .tail _ (cellsFrom_names' r _ x c h)
      · simp at h; rw [h.1, ← beq_iff_eq.mp hk]; exact .head _
    · exact .tail _ (cellsFrom_names' r _ x c h)
theorem look_none {α : Type} {l : List (Str × α)} {n : Str} (h : ∀ c, (n, c) ∉ l) : l.lookup n = none := by
  cases e : l.lookup n with
  | none => rfl
  | some c => exact absurd (mem_of_lookup e) (h c)
theorem nodup_unique {α : Type} : ∀ {l : List (Str × α)}, (l.map (·.1)).Nodup → ∀ {n : Str} {a b : α}, (n, a) ∈ l → (n, b) ∈ l → a = b
  | [], _, _, _, _, h, _ => by cases h
  | (m, v) :: l, hn, n, a, b, h, h' => by
    rw [List.map_cons, List.nodup_cons] at hn
    rcases List.mem_cons.mp h with e | h <;> rcases List.mem_cons.mp h' with e' | h'
    · cases e; cases e'; rfl
    · cases e; exact absurd (List.mem_map_of_mem (f := (·.1)) h') hn.1
    · cases e'; exact absurd (List.mem_map_of_mem (f := (·.1)) h) hn.1
    · exact nodup_unique hn.2 h h'
theorem look_of_mem {α : Type} : ∀ {l : List (Str × α)}, (l.map (·.1)).Nodup → ∀ {n : Str} {a : α}, (n, a) ∈ l → l.lookup n = some a := by
  intro l hn n a h
  cases e : l.lookup n with
  | none =>
    exfalso
    clear hn
    induction l with
    | nil => cases h
    | cons p l ih =>
      obtain ⟨m, v⟩ := p
      rw [List.lookup_cons] at e
      split at e
      · cases e
      · rename_i q
        rcases List.mem_cons.mp h with r | r
        · cases r; simp at q
        · exact ih r e
  | some b => rw [nodup_unique hn h (mem_of_lookup e)]

theorem closeOf_app (env : Env) : ∀ (names : List (Str × NameKind)) (acc : List (Str × Addr)), closeOf env names acc = closeOf env names [] ++ acc
  | [], acc => rfl
  | (n, k) :: r, acc => by
    unfold closeOf
    split
    · rw [closeOf_app env r (_ :: acc), closeOf_app env r [_]]; simp
    · exact closeOf_app env r acc
theorem closeOf_mem (env : Env) : ∀ (names : List (Str × NameKind)) (x : Str) (c : Addr), (x, c) ∈ closeOf env names [] → (x, NameKind.free) ∈ names ∧ c = (env.cells.lookup x).getD 0
  | [], x, c, h => by simp [closeOf] at h
  | (n, k) :: r, x, c, h => by
    unfold closeOf at h
    split at h
    · rename_i hk
      rw [closeOf_app] at h
      rcases List.mem_append.mp h with h | h
      · exact ⟨.tail _ (closeOf_mem env r x c h).1, (closeOf_mem env r x c h).2⟩
      · simp at h; rw [h.1, ← beq_iff_eq.mp hk]; exact ⟨.head _, h.2⟩
    · exact ⟨.tail _ (closeOf_mem env r x c h).1, (closeOf_mem env r x c h).2⟩
theorem closeOf_has (env : Env) : ∀ (names : List (Str × NameKind)) (x : Str), (x, NameKind.free) ∈ names → ∃ c, (closeOf env names []).lookup x = some c
  | (n, k) :: r, x, h => by
    unfold closeOf
    rcases List.mem_cons.mp h with e | h
    · cases e
      rw [if_pos (show (NameKind.free == NameKind.free) = true from rfl), closeOf_app, lookup_app]
      cases (closeOf env r []).lookup n with
      | some c => exact ⟨c, rfl⟩
      | none => exact ⟨(env.cells.lookup n).getD 0, by simp [List.lookup_cons]⟩
    · obtain ⟨c, hc⟩ := closeOf_has env r x h
      split
      · rw [closeOf_app, lookup_app, hc]; exact ⟨c, rfl⟩
      · exact ⟨c, hc⟩

/-- how a comprehension's scope stands to the scope around it -/
structure CScope (scope sc : Scope) : Prop where
  kind : scope.kind = .function
  nodup : (scope.names.map (·.1)).Nodup
  free : ∀ n, (n, NameKind.free) ∈ scope.names → sc.names.lookup n = some .cell

abbrev compCells (env : Env) (scope : Scope) (Cad : Addr) : List (Str × Addr) := cellsFrom (Cad + 1) scope.names (closeOf env scope.names [])
abbrev compEnv (env : Env) (scope sc : Scope) (Cad : Addr) : Env :=
  { scope := relab scope sc, locals := Cad, globals := env.globals, cells := compCells env scope Cad, qual := env.qual, func := none, code := env.code, frame := env.frame, builtins := env.builtins }

theorem relab_look {scope : Scope} (S : CScope scope sc) {x : Str} {kd : NameKind} (h : (relab scope sc).names.lookup x = some kd) :
    (scope.names.lookup x = some kd) ∨ (scope.names.lookup x = some .free ∧ kd = .cell) := by
  have h' := mem_of_lookup h
  unfold relab at h'
  rw [List.mem_map] at h'
  obtain ⟨⟨n, k⟩, hm, he⟩ := h'
  dsimp only at he
  split at he
  · rename_i hc
    cases he
    rw [Bool.and_eq_true, beq_iff_eq] at hc
    exact .inr ⟨look_of_mem S.nodup (hc.1 ▸ hm), rfl⟩
  · cases he
    exact .inl (look_of_mem S.nodup hm)

theorem relab_nodup {scope : Scope} (S : CScope scope sc) : ((relab scope sc).names.map (·.1)).Nodup := by
  have : (relab scope sc).names.map (·.1) = scope.names.map (·.1) := by
    unfold relab
    rw [List.map_map]
    apply List.map_congr_left
    rintro ⟨n, k⟩ _
    dsimp only [Function.comp]
    split <;> rfl
  rw [this]; exact S.nodup
theorem relab_free {scope : Scope} (S : CScope scope sc) {x : Str} (h : scope.names.lookup x = some .free) : (relab scope sc).names.lookup x = some .cell := by
  refine look_of_mem (relab_nodup S) ?_
  unfold relab
  rw [List.mem_map]
  refine ⟨(x, .free), mem_of_lookup h, ?_⟩
  have := S.free x (mem_of_lookup h)
  simp [this]
theorem relab_same {scope : Scope} (S : CScope scope sc) {x : Str} {kd : NameKind} (h : scope.names.lookup x = some kd) (hk : kd ≠ .free) : (relab scope sc).names.lookup x = some kd := by
  refine look_of_mem (relab_nodup S) ?_
  unfold relab
  rw [List.mem_map]
  refine ⟨(x, kd), mem_of_lookup h, ?_⟩
  have : (kd == NameKind.free) = false := by simpa using hk
  simp [this]

theorem compCells_free {env : Env} {scope : Scope} (S : CScope scope sc) {Cad : Addr} {x : Str} {c : Addr} (h : scope.names.lookup x = some .free) (hc : env.cells.lookup x = some c) : (compCells env scope Cad).lookup x = some c := by
  unfold compCells
  rw [cellsFrom_app, lookup_app, look_none fun c' hm => ?_]
  · obtain ⟨c', e⟩ := closeOf_has env scope.names x (mem_of_lookup h)
    rw [e, (closeOf_mem env _ x c' (mem_of_lookup e)).2, hc]; rfl
  · have := nodup_unique S.nodup (cellsFrom_names' _ _ _ _ hm) (mem_of_lookup h)
    cases this

theorem compEnv_ok {env : Env} {scope : Scope} (O : EnvOK env sc) (S : CScope scope sc) (Cad : Addr) : EnvOK (compEnv env scope sc Cad) (relab scope sc) where
  scope := rfl
  kind := S.kind
  globals := O.globals
  builtins := O.builtins
  cells := fun n hn => by
    rcases relab_look S hn with h | ⟨h, _⟩
    · have := cellsFrom_some scope.names (Cad + 1) (closeOf env scope.names []) (.inl h)
      exact Option.isSome_iff_exists.mp this
    · obtain ⟨c, hc⟩ := O.cells n (S.free n (mem_of_lookup h))
      exact ⟨c, compCells_free S h hc⟩

/-- the variables that the block sees from around it -/
def Caps (scope : Scope) (ρ ρ' : Vars) : Prop := ∀ y m, ρ'.lookup y = some m → scope.names.lookup y = some .free ∧ ρ.lookup y = some m

theorem sees_caps {env : Env} {scope : Scope} {s s' : Shared} {ρ' : Vars} (O : EnvOK env sc) (S : CScope scope sc) (V : Sees s env ρ) (P : Caps scope ρ ρ') (e : Ext s s') (Cad : Addr) : Sees s' (compEnv env scope sc Cad) ρ' := fun y m hy => by
  obtain ⟨hf, hm⟩ := P y m hy
  obtain ⟨v, hv, hr⟩ := V y m hm
  refine ⟨v, .inr ⟨?_, ?_⟩, hr.ext e⟩
  · rw [Env.kindOf]; exact relab_free S hf
  · have hk : env.kindOf y = some .cell := (O.kindOf y).trans (S.free y (mem_of_lookup hf))
    rcases hv with ⟨h1, _⟩ | ⟨_, c, hc, hcv⟩
    · rw [hk] at h1; cases h1
    · exact ⟨c, compCells_free S hf hc, hcv.keeps e.heap⟩

theorem newCompEnv {M : Model} {A : Around} {E : Value → Shared → Prop} {s : Shared} {scope : Scope} {env : Env} {cl : List (Str × Addr)} {Q : Env → Shared → Prop}
    (h : Q { scope := scope, locals := s.heap.objs.size, globals := env.globals, cells := cellsFrom (s.heap.objs.size + 1) scope.names cl, qual := env.qual, func := none, code := env.code, frame := env.frame, builtins := env.builtins }
      { s with heap := pushCells (s.heap.push { cls := .type "dict", data := .dict #[] }) scope.names }) :
    wpAny M A (newFunctionEnv scope env.globals cl [] env.qual none .none (some env)) Q E s := by
  simp only [newFunctionEnv, Option.isSome_some, if_true]
  refine wpAny_bind (wpAny_alloc ?_)
  refine wpAny_bind (wpAny_layCells _ (fun name kind cells => by cases hkc : kind == NameKind.cell <;> simp [hkc]) _ _ _ _ ?_)
  rw [show ({ s with heap := s.heap.push { cls := .type "dict", data := .dict #[] } } : Shared).heap.objs.size = s.heap.objs.size + 1 from Heap.size_push ..]
  exact wpAny_pure h

/-! ### sources -/
def Src (C : Cx) (k : Nat) (sc : Scope) (ρ : Vars) {α : Type} (L : LK α) (e : Expr) (xs : List α) : Prop :=
  ∀ (A : Around) (env : Env) (s : Shared), Room k A → Wd C s.heap → EnvOK env sc → Sees s env ρ →
    wpAny C.M A (eval e env) (fun x s₁ => wpAny C.M A (pyIter x) (fun it s₂ => Ext s s₂ ∧ ∃ I fp wr St, it = .ref I ∧ Walks C.prog C.w A I fp wr xs.length (fun i v => ∃ a, xs[i]? = some a ∧ L.R v a) St ∧ St 0 s₂.heap ∧
      (∀ b ∈ fp, ∃ o, s₂.heap.get? b = some o) ∧ (∀ b ∈ wr, s.heap.get? b = none)) (fun _ _ => False) s₁) (fun _ _ => False) s

theorem Walks.weak {prog : Program} {w : World} {A : Around} {I : Addr} {fp wr : List Addr} {n : Nat} {P P' : Nat → Value → Prop} {St : Nat → Heap → Prop} (W : Walks prog w A I fp wr n P St) (h : ∀ i v, P i v → P' i v) : Walks prog w A I fp wr n P' St where
  sub := W.sub
  frame := W.frame
  item := fun i s Q E hi st hQ => W.item i s Q E hi st fun v h' tk p => hQ v h' tk (h i v p)
  done := W.done
  self := W.self

theorem not_live (h : Heap) : h.get? h.objs.size = none := by
  cases e : h.get? h.objs.size with
  | none => rfl
  | some o => exact absurd (Heap.lt_size e) (Nat.lt_irrefl _)
theorem none_of_ext {s s' : Shared} (e : Ext s s') {a : Addr} (h : s'.heap.get? a = none) : s.heap.get? a = none := by
  cases q : s.heap.get? a with
  | none => rfl
  | some o => rw [e.heap _ _ q] at h; cases h

theorem Src.list {α : Type} {L : LK α} {e : Expr} {xs : List α} {f : Bool} (h : Ev C k f sc ρ e (L.li xs)) : Src C k sc ρ L e xs := fun A env s R W O S =>
  h.go R W O S fun v s₁ e₁ r₁ W₁ S₁ => by
    obtain ⟨a, vs, n, rfl, _, ha, hv⟩ := (L.rep ..).mp r₁
    have hne : a ≠ s₁.heap.objs.size := Nat.ne_of_lt (Heap.lt_size ha)
    refine wpAny_pyIter_list ha.isList ⟨e₁.trans Ext.push, s₁.heap.objs.size, [s₁.heap.objs.size, a], [s₁.heap.objs.size], fun i h => h.IsListIter s₁.heap.objs.size a i ∧ h.IsList a vs.toArray, rfl, ?_, ⟨⟨_, Heap.get?_push_size _ rfl, rfl, rfl⟩, ha.isList.push _⟩, ?_, ?_⟩
    · have W := Walks.list (prog := C.prog) (w := C.w) R.handled s₁.heap.objs.size a hne vs.toArray
      have hsz : vs.toArray.size = xs.length := by rw [List.size_toArray, hv.length]
      rw [hsz] at W
      exact Walks.weak W fun i v hi => by
        obtain ⟨b, hb, hr⟩ := hv.getL (i := i) (a := v) (by simpa using hi)
        exact ⟨b, hb, hr⟩
    · intro b hb
      rcases List.mem_cons.mp hb with rfl | hb
      · exact ⟨_, Heap.get?_push_size _ rfl⟩
      · rcases List.mem_cons.mp hb with rfl | hb
        · exact ⟨_, Heap.get?_push_of_some _ ha⟩
        · cases hb
    · intro b hb
      rcases List.mem_cons.mp hb with rfl | hb
      · exact none_of_ext e₁ (not_live _)
      · cases hb

/-! ### the block's loop -/
/-- a comprehension's turns, each test and element by its datum -/
structure Blk (C : Cx) (k : Nat) (scC : Scope) (ρ' : Vars) {α β : Type} (L : LK α) (L' : LK β) (x : Str) (ifs : List Expr) (elt : Expr) (xs : List α) (p : α → Bool) (f : α → β) : Prop where
  tests : (ifs = [] ∧ ∀ a, p a = true) ∨ ∃ c, ifs = [c] ∧ ∀ a ∈ xs, Ts C k scC ((x, L.one a) :: ρ') c (p a)
  elt : ∀ a ∈ xs, p a = true → Ev C k false scC ((x, L.one a) :: ρ') elt (L'.one (f a))

/-- what the block's loop keeps -/
structure CB {β : Type} (L' : LK β) (scope : Scope) (s : Shared) (D Cad : Addr) (l : List β) (t : Shared) : Prop where
  ext : Ext s t
  acc : ∃ vs n, IsL t.heap D vs.toArray n ∧ All2 L'.R vs l
  ns : ∃ m, t.heap.Ns Cad m
  cells : ∀ y c, (y, c) ∈ cellsFrom (Cad + 1) scope.names [] → ∃ v, t.heap.IsCell c v

theorem CB.keeps {β : Type} {L' : LK β} {scope : Scope} {s t t' : Shared} {D Cad : Addr} {l : List β} (x : CB L' scope s D Cad l t) (e : Ext t t') : CB L' scope s D Cad l t' :=
  ⟨x.ext.trans e, let ⟨vs, n, h1, h2⟩ := x.acc; ⟨vs, n, e.heap _ _ h1, h2⟩, let ⟨m, h⟩ := x.ns; ⟨m, h.keeps e.heap⟩, fun y c hc => let ⟨v, h⟩ := x.cells y c hc; ⟨v, h.keeps e.heap⟩⟩

/-- a step that leaves all but some addresses that the block does not use -/
theorem CB.outside {β : Type} {L' : LK β} {scope : Scope} {s t : Shared} {D Cad : Addr} {l : List β} {h' : Heap} {tk : Nat} (x : CB L' scope s D Cad l t) (Z : Addr → Prop) (k : ∀ b o, ¬ Z b → t.heap.get? b = some o → h'.get? b = some o)
    (hs : ∀ b, Z b → s.heap.get? b = none) (hD : ¬ Z D) (hC : ¬ Z Cad) (hc : ∀ y c, (y, c) ∈ cellsFrom (Cad + 1) scope.names [] → ¬ Z c) : CB L' scope s D Cad l { t with heap := h', toks := tk } := by
  refine ⟨⟨⟨x.ext.gens, x.ext.bare, x.ext.os⟩, fun b o e => k b o (fun z => ?_) (x.ext.heap b o e)⟩, ?_, ?_, fun y c hm => ?_⟩
  · rw [hs b z] at e; cases e
  · obtain ⟨vs, n, h1, h2⟩ := x.acc
    exact ⟨vs, n, k _ _ hD h1, h2⟩
  · obtain ⟨m, o, a1, a2, hL, a3⟩ := x.ns
    exact ⟨m, o, a1, a2, k _ _ hC hL, a3⟩
  · obtain ⟨v, o, ho, hd⟩ := x.cells y c hm
    exact ⟨v, o, k _ _ (hc y c hm) ho, hd⟩

theorem take_succ_get {α : Type} {l : List α} {i : Nat} {a : α} (h : l[i]? = some a) : l.take (i + 1) = l.take i ++ [a] := by
  rw [List.take_add_one, h]; rfl

theorem cellsFrom_ge : ∀ (names : List (Str × NameKind)) (j : Nat) (x : Str) (c : Addr), (x, c) ∈ cellsFrom j names [] → j ≤ c
  | [], j, x, c, h => by simp [cellsFrom] at h
  | (n, k) :: r, j, x, c, h => by
    unfold cellsFrom at h
    split at h
    · rw [cellsFrom_app] at h
      rcases List.mem_append.mp h with h | h
      · have := cellsFrom_ge r _ x c h; omega
      · simp at h; exact Nat.le_of_eq h.2.symm
    · exact cellsFrom_ge r _ x c h

theorem comp_run {α β : Type} {L : LK α} {L' : LK β} {x : Str} {px : Pos} {ifs : List Expr} {elt iter : Expr} {scope : Scope} {pos : Pos} {xs : List α} {p : α → Bool} {f : α → β} {ρ' : Vars}
    {A : Around} {env : Env} {s s₂ : Shared} {E : Value → Shared → Prop} {I : Addr} {fp wr : List Addr} {St : Nat → Heap → Prop} {RR : Value → Addr → Result → Shared → Prop}
    (R : Room k A) (W₀ : Wd C s.heap) (O : EnvOK env sc) (V : Sees s env ρ) (S : CScope scope sc) (P : Caps scope ρ ρ')
    (hx : scope.names.lookup x = some .local ∨ scope.names.lookup x = some .cell)
    (B : Blk C k (relab scope sc) ρ' L L' x ifs elt xs p f) (e₂ : Ext s s₂)
    (W : Walks C.prog C.w A I fp wr xs.length (fun i v => ∃ a, xs[i]? = some a ∧ L.R v a) St) (hst : St 0 s₂.heap) (hfp : ∀ b ∈ fp, ∃ o, s₂.heap.get? b = some o) (hwr : ∀ b ∈ wr, s.heap.get? b = none)
    (hz : xs.length ≤ 16777216)
    (hRR : ∀ D Cad t, s.heap.get? D = none → s.heap.get? Cad = none → D ≠ Cad → CB L' scope s D Cad ((xs.filter p).map f) t → RR (.ref D) Cad (.ok .next) t) :
    wpAny C.M A (newList []) (fun acc s₃ => wpAny C.M A (newFunctionEnv scope env.globals (closeOf env scope.names []) [] env.qual none .none (some env)) (fun cenv s₄ =>
      codeAny C.M A (.compStart (.ListComp elt [⟨.Name x px, iter, ifs, 0⟩] scope pos) 0 (.ref I) acc { cenv with scope := relabel scope env }) (RR acc cenv.locals) s₄) E s₃) E s₂ := by
  refine wpAny_newObj_type (newCompEnv ?_)
  generalize hH : s₂.heap.push { cls := .type "list", dict := none, data := .seq ([] : List Value).toArray } = H2
  dsimp only
  have hC : H2.objs.size = s₂.heap.objs.size + 1 := by rw [← hH, Heap.size_push]
  generalize hD : s₂.heap.objs.size = D at hC ⊢
  generalize hCad : H2.objs.size = Cad at hC ⊢
  rw [relabel_eq O]
  have hDC : D ≠ Cad := by omega
  have fresh2 : ∀ a, D ≤ a → s₂.heap.get? a = none := fun a ha => by
    cases e : s₂.heap.get? a with
    | none => rfl
    | some o => have q := Heap.lt_size e; rw [hD] at q; exact absurd q (Nat.not_lt.mpr ha)
  have fresh : ∀ a, D ≤ a → s.heap.get? a = none := fun a ha => none_of_ext e₂ (fresh2 a ha)
  have offp : ∀ a, D ≤ a → a ∉ fp := fun a ha hm => by obtain ⟨o, ho⟩ := hfp a hm; rw [fresh2 a ha] at ho; cases ho
  have offw : ∀ a, D ≤ a → a ∉ wr := fun a ha hm => offp a ha (W.sub a hm)
  have cge : ∀ y c, (y, c) ∈ cellsFrom (Cad + 1) scope.names [] → D ≤ c ∧ c ≠ D ∧ c ≠ Cad := fun y c hm => by
    have q := cellsFrom_ge _ _ _ _ hm
    exact ⟨by omega, fun r => by subst r; omega, fun r => by subst r; omega⟩
  have hOC := compEnv_ok O S Cad
  -- the loop
  have loop : ∀ t, CB L' scope s D Cad [] t → St 0 t.heap →
      codeAny C.M A (.compLoop (.ListComp elt [⟨.Name x px, iter, ifs, 0⟩] scope pos) 0 (.ref I) (.ref D) (compEnv env scope sc Cad)) (RR (.ref D) Cad) t := by
    intro t hb hst
    -- a turn's start: the item is bound
    have bound : ∀ (i : Nat) (l : List β) (t : Shared) (v : Value) (a : α) (Q : Unit → Shared → Prop) (E' : Value → Shared → Prop), CB L' scope s D Cad l t → St i t.heap → L.R v a →
        (∀ t', CB L' scope s D Cad l t' → St i t'.heap → Sees t' (compEnv env scope sc Cad) ((x, L.one a) :: ρ') → Wd C t'.heap → Q () t') → wpAny C.M A (assign (.Name x px) (compEnv env scope sc Cad) v) Q E' t := by
      intro i l t v a Q E' hb hst hr hQ
      have fin : ∀ t', CB L' scope s D Cad l t' → Has t'.heap (compEnv env scope sc Cad) x v → Sees t' (compEnv env scope sc Cad) ((x, L.one a) :: ρ') ∧ Wd C t'.heap := by
        intro t' hb' hh
        refine ⟨fun y m hy => ?_, W₀.keeps hb'.ext.heap⟩
        rw [List.lookup_cons] at hy
        split at hy
        · rename_i q
          cases hy
          rw [beq_iff_eq.mp q]
          exact ⟨v, hh, (L.orep ..).mpr hr⟩
        · exact sees_caps O S V P hb'.ext Cad y m hy
      refine wpAny_assign_Name ?_
      rcases hx with hx | hx
      · have hk : (compEnv env scope sc Cad).kindOf x = some .local := relab_same S hx (by decide)
        obtain ⟨m, hm⟩ := hb.ns
        refine wpAny_storeName_local hk hm (fun h' hn hs => ?_) (by show (scope.kind == .class || (scope.kind == .module && _)) = false; rw [S.kind]; rfl)
        have hb' : CB L' scope s D Cad l { t with heap := h', toks := t.toks + 1 } := by
          have hc : ∀ b o, b ≠ Cad → t.heap.get? b = some o → h'.get? b = some o := fun b o hb e => (hs.2 b hb).trans e
          refine ⟨⟨⟨hb.ext.gens, hb.ext.bare, hb.ext.os⟩, fun b o e => hc b o (fun q => ?_) (hb.ext.heap b o e)⟩, ?_, ⟨_, hn⟩, fun y c hm => ?_⟩
          · subst q; rw [fresh b (by omega)] at e; cases e
          · obtain ⟨vs, n, h1, h2⟩ := hb.acc; exact ⟨vs, n, hc _ _ hDC h1, h2⟩
          · obtain ⟨v, o, ho, hd⟩ := hb.cells y c hm; exact ⟨v, o, hc _ _ (cge y c hm).2.2 ho, hd⟩
        refine hQ _ hb' (W.frame _ _ _ hst fun b hbf o e => (hs.2 b (fun q => offp Cad (by omega) (show Cad ∈ fp from (show b = Cad from q) ▸ hbf))).trans e) ?_ ?_
        · exact (fin _ hb' (.inl ⟨hk, _, hn, by simp⟩)).1
        · exact (fin _ hb' (.inl ⟨hk, _, hn, by simp⟩)).2
      · have hk : (compEnv env scope sc Cad).kindOf x = some .cell := relab_same S hx (by decide)
        obtain ⟨c, hc⟩ := hOC.cells x (relab_same S hx (by decide))
        have hc' : (x, c) ∈ cellsFrom (Cad + 1) scope.names [] := by
          have hc2 : (cellsFrom (Cad + 1) scope.names (closeOf env scope.names [])).lookup x = some c := hc
          rw [cellsFrom_app, lookup_app] at hc2
          cases q : (cellsFrom (Cad + 1) scope.names []).lookup x with
          | some c' => rw [q] at hc2; cases hc2; exact mem_of_lookup q
          | none =>
            rw [q] at hc2
            have := (closeOf_mem env _ _ _ (mem_of_lookup hc2)).1
            have := nodup_unique S.nodup this (mem_of_lookup hx)
            cases this
        obtain ⟨v₀, hv₀⟩ := hb.cells x c hc'
        refine wpAny_storeName_cell (by exact S.kind) hk hc hv₀ fun h' hn hs => ?_
        have hq : ∀ b o, b ≠ c → t.heap.get? b = some o → h'.get? b = some o := fun b o hb e => (hs.2 b hb).trans e
        have hb' : CB L' scope s D Cad l { t with heap := h' } := by
          refine ⟨⟨⟨hb.ext.gens, hb.ext.bare, hb.ext.os⟩, fun b o e => hq b o (fun q => ?_) (hb.ext.heap b o e)⟩, ?_, ?_, fun y c₂ hm => ?_⟩
          · subst q; rw [fresh b (cge x b hc').1] at e; cases e
          · obtain ⟨vs, n, h1, h2⟩ := hb.acc; exact ⟨vs, n, hq _ _ (Ne.symm (cge x c hc').2.1) h1, h2⟩
          · obtain ⟨m, o, a1, a2, hL, a3⟩ := hb.ns
            exact ⟨m, o, a1, a2, hq _ _ (Ne.symm (cge x c hc').2.2) hL, a3⟩
          · by_cases hcc : c₂ = c
            · subst hcc; exact ⟨_, hn⟩
            · obtain ⟨v, o, ho, hd⟩ := hb.cells y c₂ hm; exact ⟨v, o, hq _ _ hcc ho, hd⟩
        refine hQ _ hb' (W.frame _ _ _ hst fun b hbf o e => (hs.2 b (fun q => offp c (cge x c hc').1 (q ▸ hbf))).trans e) ?_ ?_
        · exact (fin _ hb' (.inr ⟨hk, c, hc, hn⟩)).1
        · exact (fin _ hb' (.inr ⟨hk, c, hc, hn⟩)).2
    -- the element is put behind the list
    have put : ∀ (i : Nat) (t : Shared) (a : α) (Q : Shared → Prop) (E' : Value → Shared → Prop), i < xs.length → xs[i]? = some a → p a = true → CB L' scope s D Cad (((xs.take i).filter p).map f) t → St (i + 1) t.heap → Sees t (compEnv env scope sc Cad) ((x, L.one a) :: ρ') → Wd C t.heap →
        (∀ t', CB L' scope s D Cad (((xs.take (i + 1)).filter p).map f) t' → St (i + 1) t'.heap → Q t') →
        wpAny C.M A (eval elt (compEnv env scope sc Cad)) (fun y t₁ => wpAny C.M A (call (.builtin "list.append") [.ref D, y]) (fun _ t₂ => Q t₂) E' t₁) E' t := by
      intro i t a Q E' hi ha hp hb hst hv hw hQ
      refine (B.elt a (List.mem_of_getElem? ha) hp).go R hw hOC hv fun y t₁ e₁ r₁ _ _ => ?_
      have hb₁ := hb.keeps e₁
      obtain ⟨vs, n, h1, h2⟩ := hb₁.acc
      have hlen : vs.length ≤ 16777216 := by
        rw [h2.length, List.length_map]
        exact Nat.le_trans (List.length_filter_le _ _) (Nat.le_trans (List.length_take_le _ _) (by omega))
      refine wpAny_list_append_plain ⟨n, h1⟩ (fun h' hl hs => ?_) (by rw [List.size_toArray]; exact hlen)
      obtain ⟨n', hl⟩ := hl
      have hq : ∀ b o, b ≠ D → t₁.heap.get? b = some o → h'.get? b = some o := fun b o hb e => (hs.2 b hb).trans e
      refine hQ _ ⟨⟨⟨hb₁.ext.gens, hb₁.ext.bare, hb₁.ext.os⟩, fun b o e => hq b o (fun q => ?_) (hb₁.ext.heap b o e)⟩, ?_, ?_, fun y c hm => ?_⟩ (W.frame _ _ _ (W.frame _ _ _ hst fun b _ o e => e₁.heap b o e) fun b hbf o e => (hs.2 b (fun q => offp D (Nat.le_refl _) (q ▸ hbf))).trans e)
      · subst q; rw [fresh b (Nat.le_refl _)] at e; cases e
      · refine ⟨vs ++ [y], n', ?_, ?_⟩
        · rw [show (vs ++ [y]).toArray = vs.toArray.push y by simp]; exact hl
        · rw [take_succ_get ha, List.filter_append, List.map_append]
          simp only [List.filter_cons, hp, if_true, List.filter_nil, List.map_cons, List.map_nil]
          exact h2.append (.cons ((L'.orep ..).mp r₁) .nil)
      · obtain ⟨m, o, a1, a2, hL, a3⟩ := hb₁.ns
        exact ⟨m, o, a1, a2, hq _ _ (Ne.symm hDC) hL, a3⟩
      · obtain ⟨v, o, ho, hd⟩ := hb₁.cells y c hm; exact ⟨v, o, hq _ _ (cge y c hm).2.1 ho, hd⟩
    -- the next item, or the end
    have next : ∀ (i : Nat) (t : Shared) (Q : Option Value → Shared → Prop) (E' : Value → Shared → Prop), i ≤ xs.length → CB L' scope s D Cad (((xs.take i).filter p).map f) t → St i t.heap →
        (i = xs.length → ∀ t', CB L' scope s D Cad ((xs.filter p).map f) t' → Q none t') →
        (i < xs.length → ∀ v a t', xs[i]? = some a → L.R v a → CB L' scope s D Cad (((xs.take i).filter p).map f) t' → St (i + 1) t'.heap → Q (some v) t') → wpAny C.M A (pyNext (.ref I)) Q E' t := by
      intro i t Q E' hi hb hst hN hS
      have out : ∀ h' tk, (∀ b o, b ∉ wr → t.heap.get? b = some o → h'.get? b = some o) → CB L' scope s D Cad (((xs.take i).filter p).map f) { t with heap := h', toks := tk } := fun h' tk hk =>
        hb.outside (· ∈ wr) (fun b o hb e => hk b o hb e) hwr (offw D (Nat.le_refl _)) (offw Cad (by omega)) fun y c hm => offw c (cge y c hm).1
      by_cases hlt : i < xs.length
      · refine W.item i t Q E' hlt hst fun v h' tk hP hs' hk => ?_
        obtain ⟨a, ha, hr⟩ := hP
        exact hS hlt v a _ ha hr (out h' tk hk) hs'
      · have hi' : i = xs.length := by omega
        refine W.done t Q E' (hi' ▸ hst) fun h' tk hk => hN hi' _ ?_
        have := out h' tk hk
        rw [hi', List.take_length] at this
        exact this
    have start : CB L' scope s D Cad (((xs.take 0).filter p).map f) t := by rw [List.take_zero]; exact hb
    rcases B.tests with ⟨rfl, hall⟩ | ⟨c, rfl, htest⟩
    · refine kcp_loop (fun m t => ∃ i, i ≤ xs.length ∧ m = xs.length - i ∧ CB L' scope s D Cad (((xs.take i).filter p).map f) t ∧ St i t.heap) (fun m t hI => ?_) xs.length ⟨0, Nat.zero_le _, rfl, start, hst⟩
      obtain ⟨i, hi, hm, hb, hst⟩ := hI
      refine next i t _ _ hi hb hst (fun _ t' hb' => hRR D Cad t' (fresh D (Nat.le_refl _)) (fresh Cad (by omega)) hDC hb') fun hlt v a t' ha hr hb' hst' => ?_
      refine wpAny_pure (bound (i + 1) _ t' v a _ _ hb' hst' hr fun t₂ hb₂ hst₂ hv₂ hw₂ => ?_)
      exact put i t₂ a _ _ hlt ha (hall a) hb₂ hst₂ hv₂ hw₂ fun t₃ hb₃ hst₃ => ⟨xs.length - (i + 1), by omega, i + 1, by omega, rfl, hb₃, hst₃⟩
    · refine kct_loop (fun m t => ∃ i, i ≤ xs.length ∧ m = xs.length - i ∧ CB L' scope s D Cad (((xs.take i).filter p).map f) t ∧ St i t.heap) (fun m t hI => ?_) xs.length ⟨0, Nat.zero_le _, rfl, start, hst⟩
      obtain ⟨i, hi, hm, hb, hst⟩ := hI
      refine next i t _ _ hi hb hst (fun _ t' hb' => hRR D Cad t' (fresh D (Nat.le_refl _)) (fresh Cad (by omega)) hDC hb') fun hlt v a t' ha hr hb' hst' => ?_
      refine wpAny_pure (bound (i + 1) _ t' v a _ _ hb' hst' hr fun t₂ hb₂ hst₂ hv₂ hw₂ => ?_)
      refine (htest a (List.mem_of_getElem? ha)).go R hw₂ hOC hv₂ fun t₃ e₃ hw₃ hv₃ => ?_
      by_cases hp : p a = true
      · rw [if_pos hp]
        exact put i t₃ a _ _ hlt ha hp (hb₂.keeps e₃) (W.frame _ _ _ hst₂ fun b _ o e => e₃.heap b o e) hv₃ hw₃ fun t₄ hb₄ hst₄ => ⟨xs.length - (i + 1), by omega, i + 1, by omega, rfl, hb₄, hst₄⟩
      · rw [if_neg hp]
        refine ⟨xs.length - (i + 1), by omega, i + 1, by omega, rfl, ?_, W.frame _ _ _ hst₂ fun b _ o e => e₃.heap b o e⟩
        have := hb₂.keeps e₃
        rw [take_succ_get ha, List.filter_append, List.map_append]
        simp only [List.filter_cons, hp, List.filter_nil, List.map_nil, List.append_nil, if_false, Bool.false_eq_true]
        exact this
  -- the start
  have hpush : ∀ b o, H2.get? b = some o → (pushCells (H2.push { cls := .type "dict", data := .dict #[] }) scope.names).get? b = some o := fun b o e => pushCells_keeps _ _ b o (Heap.get?_push_of_some _ e)
  have h2 : ∀ b o, s₂.heap.get? b = some o → H2.get? b = some o := fun b o e => hH ▸ Heap.get?_push_of_some _ e
  have hb₀ : CB L' scope s D Cad [] { s₂ with heap := pushCells (H2.push { cls := .type "dict", data := .dict #[] }) scope.names } := by
    refine ⟨e₂.trans ⟨⟨fun _ _ e => e, id, rfl⟩, fun b o e => hpush b o (h2 b o e)⟩, ⟨[], 0, ?_, .nil⟩, ⟨_, Heap.Ns.keeps (hCad ▸ Heap.Ns.new H2 (.type "dict")) (pushCells_keeps _ _)⟩, fun y c hm => ?_⟩
    · refine hpush _ _ ?_
      rw [← hH, ← hD]; exact Heap.get?_push_size _ rfl
    · have ok := cellsFrom_ok scope.names (H2.push { cls := .type "dict", data := .dict #[] }) (Cad + 1) [] ⟨fun _ _ hm => (nomatch hm), List.Pairwise.nil⟩ (by rw [Heap.size_push, hCad]; exact Nat.le_refl _)
      rw [Heap.size_push, hCad] at ok
      exact ⟨_, (ok.empty y c hm).1⟩
  have hst₀ : St 0 (pushCells (H2.push { cls := .type "dict", data := .dict #[] }) scope.names) := W.frame _ _ _ hst fun b _ o e => hpush b o (h2 b o e)
  exact codeAny_compStart_list (loop _ hb₀ hst₀) (W.self 0 _ _ _ hst₀ (loop _ hb₀ hst₀))
end Mine

open PySem PySem.W PyProof.Rows
set_option Elab.async false
set_option maxRecDepth 100000
set_option autoImplicit false
set_option linter.unusedVariables false
set_option linter.unusedSimpArgs false
namespace Mine
variable {C : Cx} {k : Nat} {sc : Scope} {ρ : Vars}

theorem cscope_names {scope : Scope} (S : CScope scope sc) : ∀ x ∈ scope.names, x.2 = .local → scope.names.lookup x.1 = some .local := fun x hx hl => look_of_mem S.nodup (by rw [← hl]; exact hx)

/-- [elt for x in iter if c] -/
theorem Ev.comp {α β : Type} (L : LK α) (L' : LK β) {x : Str} {px : Pos} {ifs : List Expr} {elt iter : Expr} {scope : Scope} {pos : Pos} {xs : List α} {p : α → Bool} {f : α → β} (ρ' : Vars)
    (hsrc : Src C k sc ρ L iter xs) (S : CScope scope sc) (P : Caps scope ρ ρ') (hx : scope.names.lookup x = some .local ∨ scope.names.lookup x = some .cell)
    (B : Blk C k (relab scope sc) ρ' L L' x ifs elt xs p f) (hz : xs.length ≤ 16777216) (hs : ∀ env v, foldedSetIterable iter env v = pure v) :
    Ev C k true sc ρ (.ListComp elt [⟨.Name x px, iter, ifs, 0⟩] scope pos) (L'.li ((xs.filter p).map f)) := fun A env s R W O V => by
  rw [eval_ListComp]
  refine wpAny_comprehension_free (use := none) rfl (hs env) (closureFor_eq fun n hn => O.cells n (S.free n hn)) S.kind (cscope_names S) ?_
  refine wpAny_mono (hsrc A env s R W O V) (fun v s₁ h₁ => wpAny_mono h₁ (fun it s₂ h₂ => ?_) fun _ _ q => q.elim) fun _ _ q => q.elim
  obtain ⟨e₂, I, fp, wr, St, rfl, Wk, hst, hfp, hwr⟩ := h₂
  refine comp_run (ρ := ρ) (ρ' := ρ') R W O V S P hx B e₂ Wk hst hfp hwr hz fun D Cad t hD hCad hDC hb => ?_
  obtain ⟨m, hm⟩ := hb.ns
  refine ⟨m, hm, fun h' hs' => ?_⟩
  have hq : ∀ b o, b ≠ Cad → t.heap.get? b = some o → h'.get? b = some o := fun b o hb e => (hs'.2 b hb).trans e
  obtain ⟨vs, n, h1, h2⟩ := hb.acc
  refine ⟨⟨⟨hb.ext.gens, hb.ext.bare, hb.ext.os⟩, fun b o e => hq b o (fun q => ?_) (hb.ext.heap b o e)⟩, (L'.rep ..).mpr ⟨D, vs, n, rfl, fun q => ?_, hq _ _ hDC h1, h2⟩⟩
  · subst q; rw [hCad] at e; cases e
  · obtain ⟨o, ho⟩ := q.2
    rw [hD] at ho; cases ho

/-! ### ranges -/
def upto (a b : Int) : List Int := (List.range (b - a).toNat).map fun (i : Nat) => a + (i : Int)
theorem upto_length (a b : Int) : (upto a b).length = (b - a).toNat := by simp [upto]
theorem upto_get {a b : Int} {i : Nat} (h : i < (b - a).toNat) : (upto a b)[i]? = some (a + (i : Int)) := by
  simp [upto, h]
theorem mem_upto {a b x : Int} : x ∈ upto a b ↔ a ≤ x ∧ x < b := by
  unfold upto
  rw [List.mem_map]
  constructor
  · rintro ⟨i, hi, rfl⟩
    rw [List.mem_range] at hi
    omega
  · rintro ⟨h1, h2⟩
    exact ⟨(x - a).toNat, by rw [List.mem_range]; omega, by omega⟩

theorem src_range_core {A : Around} {s s₁ : Shared} {r : Addr} {a b : Int} {t u v : Tok} (R : Room k A) (e₁ : Ext s s₁) (hr : IsRange s₁.heap r a b 1 t u v) (ha : -(2 ^ 62) ≤ a) (ha' : a < 2 ^ 62) (hb : -(2 ^ 62) ≤ b) (hb' : b < 2 ^ 62) :
    wpAny C.M A (pyIter (.ref r)) (fun it s₂ => Ext s s₂ ∧ ∃ I fp wr St, it = .ref I ∧ Walks C.prog C.w A I fp wr (upto a b).length (fun i v => ∃ x, (upto a b)[i]? = some x ∧ lkI.R v x) St ∧ St 0 s₂.heap ∧
      (∀ b ∈ fp, ∃ o, s₂.heap.get? b = some o) ∧ (∀ b ∈ wr, s.heap.get? b = none)) (fun _ _ => False) s₁ := by
  refine wpAny_pyIter_range hr (small_one ha ha' hb hb') ⟨e₁.trans Ext.push, s₁.heap.objs.size, [s₁.heap.objs.size], [s₁.heap.objs.size], fun i h => IsRangeIter h s₁.heap.objs.size (a + (i : Nat) * 1) (((upto a b).length : Int) - (i : Nat)) 1, rfl, ?_, ?_, ?_, ?_⟩
  · have W := LCg.range_walks (prog := C.prog) (w := C.w) (I := s₁.heap.objs.size) R.handled a (upto a b).length
    have hlen := upto_length a b
    refine ⟨W.sub, W.frame, fun i s Q E hi st hQ => W.item i s Q E hi st fun v h' tk pv => hQ v h' tk ?_, W.done, W.self⟩
    obtain ⟨t, rfl⟩ := pv
    exact ⟨a + (i : Int), upto_get (by omega), t, rfl⟩
  · refine (Heap.get?_push_size _ rfl).trans ?_
    rw [rangeSize_nat, ← upto_length]
    simp [rawInt]
  · intro b hb
    rcases List.mem_cons.mp hb with rfl | hb
    · exact ⟨_, Heap.get?_push_size _ rfl⟩
    · cases hb
  · intro b hb
    rcases List.mem_cons.mp hb with rfl | hb
    · exact none_of_ext e₁ (not_live _)
    · cases hb

theorem Src.range1 {x : Str} {np pos : Pos} {e : Expr} {b : Int} {f : Bool} (g : Gl C sc x (.type "range")) (h : Ev C k f sc ρ e (.int b)) (hn : NS e) (hb : -(2 ^ 62) ≤ b) (hb' : b < 2 ^ 62) :
    Src C k sc ρ lkI (.Call (.Name x np) [e] [] pos) (upto 0 b) := fun A env s R W O S =>
  Call_Name rfl (g A env s np _ _ W O (by
    rw [show backTo pos (starEach [e] env) = [(false, eval e env)] by rw [hn]; rfl]
    refine PySem.callWith_type (by rfl) (Calls.evalArgs_plain (Calls.spliced_cons (h.go R W O S fun v s₁ e₁ r₁ W₁ S₁ => Calls.spliced_nil ?_)))
    obtain ⟨t, rfl⟩ := r₁
    refine call_range_1 ?_
    exact src_range_core (t := s₁.toks) (u := t) (v := s₁.toks + 1) R (e₁.trans Ext.push) (Heap.get?_push_size _ rfl) (by omega) (by omega) hb hb'))
theorem Src.range2 {x : Str} {np pos : Pos} {e e' : Expr} {a b : Int} {f f' : Bool} (g : Gl C sc x (.type "range")) (h : Ev C k f sc ρ e (.int a)) (h' : Ev C k f' sc ρ e' (.int b)) (hn : NS e) (hn' : NS e') (ha : -(2 ^ 62) ≤ a) (ha' : a < 2 ^ 62) (hb : -(2 ^ 62) ≤ b) (hb' : b < 2 ^ 62) :
    Src C k sc ρ lkI (.Call (.Name x np) [e, e'] [] pos) (upto a b) := fun A env s R W O S =>
  Call_Name rfl (g A env s np _ _ W O (by
    rw [show backTo pos (starEach [e, e'] env) = [(false, eval e env), (false, eval e' env)] by rw [hn, hn']; rfl]
    refine PySem.callWith_type (by rfl) (Calls.evalArgs_plain (Calls.spliced_cons (h.go R W O S fun v s₁ e₁ r₁ W₁ S₁ => Calls.spliced_cons (h'.go R W₁ O S₁ fun u s₂ e₂ r₂ W₂ S₂ => Calls.spliced_nil ?_))))
    obtain ⟨t, rfl⟩ := r₁
    obtain ⟨t', rfl⟩ := r₂
    refine call_range_2 ?_
    exact src_range_core (t := t) (u := t') (v := s₂.toks) R ((e₁.trans e₂).trans Ext.push) (Heap.get?_push_size _ rfl) ha ha' hb hb'))

/-! ### methods, sums -/
theorem ints_items : ∀ {vs : List Value} {ns : List Int}, All2 isInt vs ns → ∃ xs : Array (Int × Tok), vs.toArray = intItems xs ∧ xs.size = ns.length ∧ ∀ i, i < ns.length → numAt xs i = ns.getD i 0 := by
  intro vs ns h
  have key : ∃ ts : List (Int × Tok), vs = ts.map (fun x => Value.int x.1 x.2) ∧ ts.map (·.1) = ns := by
    induction h with
    | nil => exact ⟨[], rfl, rfl⟩
    | cons x _ ih =>
      obtain ⟨t, rfl⟩ := x
      obtain ⟨ts, h1, h2⟩ := ih
      exact ⟨(_, t) :: ts, by rw [h1]; rfl, by rw [← h2]; rfl⟩
  obtain ⟨ts, rfl, rfl⟩ := key
  refine ⟨ts.toArray, ?_, by simp, fun i hi => ?_⟩
  · simp [intItems]
  · simp [numAt]
theorem preSum_eq (ns : List Int) (g : Nat → Int) (hg : ∀ i, i < ns.length → g i = ns.getD i 0) : preSum g ns.length = ns.sum := by
  have : ∀ n, n ≤ ns.length → preSum g n = (ns.take n).sum := by
    intro n
    induction n with
    | zero => intro _; simp [preSum]
    | succ n ih =>
      intro hn
      have e : ns[n]? = some ns[n] := List.getElem?_eq_getElem (by omega)
      rw [preSum, ih (by omega), hg n (by omega), take_succ_get e, List.sum_append, List.getD_eq_getElem?_getD, e]
      simp
  rw [this _ (Nat.le_refl _), List.take_length]
theorem Bf.sum {l : List Int} : Bf C k "sum" [.il l] (.int l.sum) := fun A s vs R h => by
  cases h with
  | cons x y =>
    cases y
    obtain ⟨a, vs, n, rfl, _, hx, hv⟩ := x
    obtain ⟨xs, e1, e2, e3⟩ := ints_items hv
    refine sum_intListG R.handled (e1 ▸ hx.isList) fun h' tk t' hk => ⟨Ext.of_heap hk, ⟨t', ?_⟩⟩
    rw [e2, preSum_eq l _ e3]

/-- a method of one argument -/
theorem Ev.meth1 {o e : Expr} {name : Str} {apos pos : Pos} {T id : String} {a b m : MV} {f f' : Bool} (ho : Ev C k f sc ρ o a) (he : Ev C k f' sc ρ e b) (hn : NS e)
    (hbase : ∀ env, attributeBase o name env (eval o env) = eval o env) (hline : (apos.endLine == pos.line) = true) (pa : PlainAttrs T) (slot : Slot T name id) (hty : typeOf (.builtin id) = pure (.type "method_descriptor"))
    (hT : ∀ (s : Shared) (v : Value), Rep s.heap noMu v a → s.TypeIs v T ∧ (∀ r, v = .ref r → ∃ ob, s.heap.get? r = some ob ∧ ob.dict = .none)) (hb : Bf C k id [a, b] m) :
    Ev C k true sc ρ (.Call (.Attribute o name apos) [e] [] pos) m := fun A env s R W O S =>
  Call_method1 (hbase env) (by rw [hn]; rfl) hline (ho.go R W O S fun v s₁ e₁ r₁ W₁ S₁ => ⟨T, id, pa, slot, hty, (hT s₁ v r₁.weak).1, (hT s₁ v r₁.weak).2,
    Calls.callWith_builtin rfl (Calls.evalArgs_plain (Calls.spliced_cons (he.go R W₁ O S₁ fun u s₂ e₂ r₂ W₂ S₂ => Calls.spliced_nil (by
      refine wpAny_mono (hb A s₂ [v, u] R (.cons (r₁.weak.ext e₂) (.cons r₂.weak .nil))) (fun x s₃ q => ⟨(e₁.trans e₂).trans q.1, q.2.newer (e₁.trans e₂)⟩) fun _ _ x => x))))⟩)
theorem typeL {α : Type} (L : LK α) (l : List α) (s : Shared) (v : Value) (h : Rep s.heap noMu v (L.li l)) : s.TypeIs v "list" ∧ (∀ r, v = .ref r → ∃ ob, s.heap.get? r = some ob ∧ ob.dict = none) := by
  obtain ⟨a, vs, n, rfl, _, hx, hv⟩ := (L.rep ..).mp h
  exact ⟨hx.isList.typeIs, fun r e => by cases e; exact ⟨_, hx, rfl⟩⟩
theorem typeS (l : List Nat) (s : Shared) (v : Value) (h : Rep s.heap noMu v (.str l)) : s.TypeIs v "str" ∧ (∀ r, v = .ref r → ∃ ob, s.heap.get? r = some ob ∧ ob.dict = none) := by
  obtain ⟨t, rfl⟩ := h
  exact ⟨typeIs_str _ _ _, fun r e => by cases e⟩
theorem Bf.countL {l : List Int} {x : Int} : Bf C k "list.count" [.il l, .int x] (.int (l.count x)) := fun A s vs R h => by
  cases h with
  | cons h1 h2 =>
    cases h2 with
    | cons h2 h3 =>
      cases h3
      obtain ⟨a, vs, n, rfl, _, hx, hv⟩ := h1
      obtain ⟨t, rfl⟩ := h2
      exact count_list_ints hx.isList (intsAre_of hv) ⟨Ext.toks, ⟨_, rfl⟩⟩
theorem Bf.countS {l x : List Nat} {n : Int} (hn : Txt.count (mkS l) (mkS x) = n) : Bf C k "str.count" [.str l, .str x] (.int n) := fun A s vs R h => by
  cases h with
  | cons h1 h2 =>
    cases h2 with
    | cons h2 h3 =>
      cases h3
      obtain ⟨t, rfl⟩ := h1
      obtain ⟨t', rfl⟩ := h2
      exact SC.count ⟨Ext.toks, ⟨_, by rw [hn]⟩⟩
theorem Bf.join {x : List Nat} {l : List (List Nat)} {r : List Nat} (hx : x.length ≤ 16) (hw : (l.map (·.length)).sum + l.length ≤ 1048576) (hr : Txt.join (mkS x) (l.map mkS) = mkS r) : Bf C k "str.join" [.str x, .sl l] (.str r) := fun A s vs R h => by
  cases h with
  | cons h1 h2 =>
    cases h2 with
    | cons h2 h3 =>
      cases h3
      obtain ⟨t, rfl⟩ := h1
      obtain ⟨a, vs, n, rfl, _, hx', hv⟩ := h2
      exact join_listW hx'.isList (by exact strsAre_of hv) (by rw [mkS_length]; exact hx) (by
        rw [List.map_map, List.length_map]
        have : ((fun x : Str => x.length) ∘ mkS) = fun (x : List Nat) => x.length := by funext y; exact mkS_length y
        rw [this]; exact hw) fun t' tk => ⟨Ext.toks, ⟨t', by rw [hr]⟩⟩
end Mine

open PySem PySem.W PyProof.Rows
set_option Elab.async false
set_option maxRecDepth 100000
set_option autoImplicit false
set_option linter.unusedVariables false
set_option linter.unusedSimpArgs false
namespace Mine
variable {C : Cx} {k : Nat} {sc : Scope} {ρ : Vars}

/-! ### the frame of a def -/
structure FrameOK (C : Cx) (sc : Scope) (env : Env) (B : Addr → Prop) (pr : Addr → Obj → Prop) (own : List Str) (ad : Str → Addr) (ρ : Vars) (s : Shared) : Prop where
  wds : ∃ h₀ : Heap, Wd C h₀ ∧ ∀ b o, h₀.get? b = some o → pr b o
  envOk : EnvOK env sc
  ns : ∃ m, s.heap.Ns env.locals m
  cells : ∀ x c, env.cells.lookup x = some c → ∃ v, s.heap.IsCell c v
  apart : ∀ x y c, env.cells.lookup x = some c → env.cells.lookup y = some c → x = y
  prot : ∀ a o, pr a o → s.heap.get? a = some o ∧ a ≠ env.locals ∧ (∀ x, env.cells.lookup x ≠ some a) ∧ ∀ x ∈ own, ad x ≠ a
  base : ∀ a, B a → ∃ o, pr a o
  owns : ∀ x ∈ own, ¬ B (ad x) ∧ (∃ vs n, IsL s.heap (ad x) vs n)
  inj : ∀ x ∈ own, ∀ y ∈ own, ad x = ad y → x = y
  vars : ∀ x m, ρ.lookup x = some m → ∃ v, Has s.heap env x v ∧ Rep s.heap (fun a => (∃ y ∈ own, y ≠ x ∧ ad y = a) ∨ (x ∈ own ∧ B a)) v m ∧ (x ∈ own → v = .ref (ad x))

theorem FrameOK.wd {env : Env} {B : Addr → Prop} {pr : Addr → Obj → Prop} {own : List Str} {ad : Str → Addr} {s : Shared} (F : FrameOK C sc env B pr own ad ρ s) : Wd C s.heap :=
  let ⟨_, h1, h2⟩ := F.wds; h1.keeps fun b o e => (F.prot b o (h2 b o e)).1
theorem FrameOK.sees {env : Env} {B : Addr → Prop} {pr : Addr → Obj → Prop} {own : List Str} {ad : Str → Addr} {s : Shared} (F : FrameOK C sc env B pr own ad ρ s) : Sees s env ρ := fun x m h => let ⟨v, h1, h2, _⟩ := F.vars x m h; ⟨v, h1, h2.weak⟩

theorem FrameOK.ext {env : Env} {B : Addr → Prop} {pr : Addr → Obj → Prop} {own : List Str} {ad : Str → Addr} {s s' : Shared} (F : FrameOK C sc env B pr own ad ρ s) (e : Ext s s') : FrameOK C sc env B pr own ad ρ s' where
  wds := F.wds
  envOk := F.envOk
  ns := let ⟨m, h⟩ := F.ns; ⟨m, h.keeps e.heap⟩
  cells := fun x c h => let ⟨v, h⟩ := F.cells x c h; ⟨v, h.keeps e.heap⟩
  apart := F.apart
  prot := fun a o h => let ⟨h1, r⟩ := F.prot a o h; ⟨e.heap _ _ h1, r⟩
  base := F.base
  owns := fun x hx => let ⟨h1, vs, n, h2⟩ := F.owns x hx; ⟨h1, vs, n, e.heap _ _ h2⟩
  inj := F.inj
  vars := fun x m h => let ⟨v, h1, h2, h3⟩ := F.vars x m h; ⟨v, h1.keeps e.heap, h2.ext e, h3⟩

theorem FrameOK.weak {env : Env} {B : Addr → Prop} {pr : Addr → Obj → Prop} {own own' : List Str} {ad : Str → Addr} {ρ' : Vars} {s : Shared} (F : FrameOK C sc env B pr own ad ρ s) (ho : ∀ x ∈ own', x ∈ own) (hr : ∀ x m, ρ'.lookup x = some m → ρ.lookup x = some m) : FrameOK C sc env B pr own' ad ρ' s where
  wds := F.wds
  envOk := F.envOk
  ns := F.ns
  cells := F.cells
  apart := F.apart
  prot := fun a o h => let ⟨h1, h2, h3, h4⟩ := F.prot a o h; ⟨h1, h2, h3, fun x hx => h4 x (ho x hx)⟩
  base := F.base
  owns := fun x hx => F.owns x (ho x hx)
  inj := fun x hx y hy => F.inj x (ho x hx) y (ho y hy)
  vars := fun x m h => by
    obtain ⟨v, h1, h2, h3⟩ := F.vars x m (hr x m h)
    refine ⟨v, h1, h2.keep (Keep.of_all fun _ _ e => e) fun a o _ q => ?_, fun hx => h3 (ho x hx)⟩
    rcases q with ⟨y, hy, hn, e⟩ | ⟨hx, hb⟩
    · exact .inl ⟨y, ho y hy, hn, e⟩
    · exact .inr ⟨ho x hx, hb⟩

/-- the name x has been given a datum -/
structure Put (env : Env) (x : Str) (fr : Bool) (m : MV) (s s' : Shared) : Prop where
  g : GExt s s'
  put : ∃ v, Rep s'.heap (mu fr s) v m ∧
    ((env.kindOf x = some .local ∧ (∀ b o, b ≠ env.locals → s.heap.get? b = some o → s'.heap.get? b = some o) ∧ ∀ mm, s.heap.Ns env.locals mm → s'.heap.Ns env.locals (fun y => if y = x then some v else mm y)) ∨
     (env.kindOf x = some .cell ∧ ∃ c, env.cells.lookup x = some c ∧ (∀ b o, b ≠ c → s.heap.get? b = some o → s'.heap.get? b = some o) ∧ s'.heap.IsCell c (some v)))

theorem ns_not_list {h : Heap} {L : Addr} {m : Str → Option Value} (N : h.Ns L m) {vs : Array Value} {n : Nat} : ¬ IsL h L vs n := fun q => by
  obtain ⟨o, es, ep, ho, hd, _⟩ := N
  rw [show h.get? L = _ from q] at ho; cases ho; cases hd
theorem cell_not_list {h : Heap} {c : Addr} {v : Option Value} (N : h.IsCell c v) {vs : Array Value} {n : Nat} : ¬ IsL h c vs n := fun q => by
  obtain ⟨o, ho, hd⟩ := N
  rw [show h.get? c = _ from q] at ho; cases ho; cases hd
theorem cell_not_ns {h : Heap} {c L : Addr} {v : Option Value} {m : Str → Option Value} (N : h.IsCell c v) (M : h.Ns L m) : c ≠ L := by
  rintro rfl
  obtain ⟨o, ho, hd⟩ := N
  obtain ⟨o', es, ep, ho', hd', _⟩ := M
  rw [ho] at ho'; cases ho'; rw [hd] at hd'; cases hd'
theorem seq_ne {h : Heap} {a : Addr} {o : Obj} (ho : h.get? a = some o) (hc : o.cls = .type "list" ∨ o.cls = .type "tuple") (hd : ∃ vs n, o.data = .seq vs n) {L : Addr} (hL : (∃ m, h.Ns L m) ∨ ∃ v, h.IsCell L v) : a ≠ L := by
  rintro rfl
  obtain ⟨vs, n, hd⟩ := hd
  rcases hL with ⟨m, o', es, ep, ho', hd', _⟩ | ⟨v, o', ho', hd'⟩ <;> (rw [ho] at ho'; cases ho'; rw [hd] at hd'; cases hd')

/-- what bears a datum is made of lists and tuples: a step elsewhere keeps it -/
theorem RepL.but {α : Type} {h h' : Heap} {Mu : Addr → Prop} {R R' : Value → α → Prop} {v : Value} {l : List α} {L : Addr} (x : RepL h Mu R v l) (hL : (∃ m, h.Ns L m) ∨ ∃ v, h.IsCell L v) (k : ∀ b o, b ≠ L → h.get? b = some o → h'.get? b = some o) (hr : ∀ v a, R v a → R' v a) : RepL h' Mu R' v l := by
  obtain ⟨a, vs, n, rfl, hn, ho, hv⟩ := x
  exact ⟨a, vs, n, rfl, hn, k a _ (seq_ne ho (.inl rfl) ⟨_, _, rfl⟩ hL) ho, hv.mono hr⟩
theorem Rep.but {h h' : Heap} {Mu : Addr → Prop} {v : Value} {m : MV} {L : Addr} (x : Rep h Mu v m) (hL : (∃ m, h.Ns L m) ∨ ∃ v, h.IsCell L v) (k : ∀ b o, b ≠ L → h.get? b = some o → h'.get? b = some o) : Rep h' Mu v m := by
  cases m with
  | none => exact x
  | bool b => exact x
  | int i => exact x
  | str s => exact x
  | il l => exact RepL.but x hL k fun _ _ y => y
  | sl l => exact RepL.but x hL k fun _ _ y => y
  | bl l => exact RepL.but x hL k fun _ _ y => y
  | tb l => exact RepL.but x hL k fun _ _ y => RepL.but y hL k fun _ _ y => y
  | lo l =>
    obtain ⟨a, vs, rfl, hn, ⟨o, ho, hc, hd⟩, hv⟩ := x
    exact ⟨a, vs, rfl, hn, ⟨o, k a o (seq_ne ho (.inl hc) ⟨_, hd⟩ hL) ho, hc, hd⟩, hv⟩
  | ti l =>
    obtain ⟨a, vs, rfl, hn, ⟨o, ho, hc, hd⟩, hv⟩ := x
    exact ⟨a, vs, rfl, hn, ⟨o, k a o (seq_ne ho (.inr hc) ⟨_, hd⟩ hL) ho, hc, hd⟩, hv⟩
  | pr s l =>
    obtain ⟨a, v1, v2, rfl, hn, ⟨o, ho, hc, hd⟩, h1, h2⟩ := x
    exact ⟨a, v1, v2, rfl, hn, ⟨o, k a o (seq_ne ho (.inr hc) ⟨_, hd⟩ hL) ho, hc, hd⟩, h1, RepL.but h2 hL k fun _ _ y => y⟩

/-- the one object that changes -/
theorem FrameOK.facts {env : Env} {B : Addr → Prop} {pr : Addr → Obj → Prop} {own : List Str} {ad : Str → Addr} {s s' : Shared} {x : Str} {fr : Bool} {m : MV} (F : FrameOK C sc env B pr own ad ρ s) (P : Put env x fr m s s') :
    ∃ v Z, Rep s'.heap (mu fr s) v m ∧ ((∃ m, s.heap.Ns Z m) ∨ ∃ v, s.heap.IsCell Z v) ∧ (∀ b o, b ≠ Z → s.heap.get? b = some o → s'.heap.get? b = some o) ∧ (∃ m, s'.heap.Ns env.locals m) ∧
      (∀ y c, env.cells.lookup y = some c → ∃ v, s'.heap.IsCell c v) ∧ Has s'.heap env x v ∧ (∀ y u, y ≠ x → Has s.heap env y u → Has s'.heap env y u) ∧ (∀ a o, pr a o → a ≠ Z) := by
  obtain ⟨g, v, hr, hp⟩ := P
  obtain ⟨mm, hmm⟩ := F.ns
  rcases hp with ⟨hl, hk, hn⟩ | ⟨hc, c, hcl, hk, hcv⟩
  · refine ⟨v, env.locals, hr, .inl ⟨mm, hmm⟩, hk, ⟨_, hn mm hmm⟩, fun y c hy => ?_, .inl ⟨hl, _, hn mm hmm, by simp⟩, fun y u hy hh => ?_, fun a o hp => (F.prot a o hp).2.1⟩
    · obtain ⟨u, hu⟩ := F.cells y c hy
      have hne := cell_not_ns hu hmm
      obtain ⟨o, ho, hd⟩ := hu
      exact ⟨u, o, hk c o hne ho, hd⟩
    · rcases hh with ⟨h1, m1, h2, h3⟩ | ⟨h1, c, h2, h3⟩
      · exact .inl ⟨h1, _, hn m1 h2, by rw [if_neg hy]; exact h3⟩
      · obtain ⟨o, ho, hd⟩ := h3
        exact .inr ⟨h1, c, h2, o, hk c o (cell_not_ns ⟨o, ho, hd⟩ hmm) ho, hd⟩
  · obtain ⟨v₀, hv₀⟩ := F.cells x c hcl
    have hne := cell_not_ns hv₀ hmm
    have ns' : ∀ m1, s.heap.Ns env.locals m1 → s'.heap.Ns env.locals m1 := fun m1 h => by
      obtain ⟨o, es, ep, ho, r⟩ := h
      exact ⟨o, es, ep, hk _ o (Ne.symm hne) ho, r⟩
    refine ⟨v, c, hr, .inr ⟨v₀, hv₀⟩, hk, ⟨mm, ns' mm hmm⟩, fun y c' hy => ?_, .inr ⟨hc, c, hcl, hcv⟩, fun y u hy hh => ?_, fun a o hp e => (F.prot a o hp).2.2.1 x (e ▸ hcl)⟩
    · by_cases hcc : c' = c
      · subst hcc; exact ⟨_, hcv⟩
      · obtain ⟨u, o, ho, hd⟩ := F.cells y c' hy
        exact ⟨u, o, hk c' o hcc ho, hd⟩
    · rcases hh with ⟨h1, m1, h2, h3⟩ | ⟨h1, c', h2, h3⟩
      · exact .inl ⟨h1, m1, ns' m1 h2, h3⟩
      · have hcc : c' ≠ c := fun e => hy (F.apart y x c (e ▸ h2) hcl)
        obtain ⟨o, ho, hd⟩ := h3
        exact .inr ⟨h1, c', h2, o, hk c' o hcc ho, hd⟩

theorem FrameOK.put {env : Env} {B : Addr → Prop} {pr : Addr → Obj → Prop} {own : List Str} {ad : Str → Addr} {s s' : Shared} {x : Str} {fr : Bool} {m : MV} (F : FrameOK C sc env B pr own ad ρ s) (P : Put env x fr m s s') (hfr : fr = true ∨ m.scalar = true) :
    FrameOK C sc env B pr (own.filter (· != x)) ad ((x, m) :: ρ) s' := by
  obtain ⟨v, Z, hr, hZ, hk, hns, hce, hhas, hoth, hzp⟩ := F.facts P
  have hownZ : ∀ y ∈ own, ad y ≠ Z := fun y hy => by
    obtain ⟨_, vs, n, hl⟩ := F.owns y hy
    exact seq_ne hl (.inl rfl) ⟨_, _, rfl⟩ hZ
  refine ⟨F.wds, F.envOk, hns, hce, F.apart, fun a o hp => ?_, F.base, fun y hy => ?_, fun y hy z hz => F.inj y (List.mem_filter.mp hy).1 z (List.mem_filter.mp hz).1, fun y my hy => ?_⟩
  · obtain ⟨h1, h2, h3, h4⟩ := F.prot a o hp
    exact ⟨hk a o (hzp a o hp) h1, h2, h3, fun y hy => h4 y (List.mem_filter.mp hy).1⟩
  · obtain ⟨h1, vs, n, h2⟩ := F.owns y (List.mem_filter.mp hy).1
    exact ⟨h1, vs, n, hk _ _ (hownZ y (List.mem_filter.mp hy).1) h2⟩
  · rw [List.lookup_cons] at hy
    split at hy
    · rename_i q
      cases hy
      rw [beq_iff_eq.mp q] at *
      refine ⟨v, hhas, ?_, fun hx => ?_⟩
      · rcases hfr with rfl | hs
        · refine hr.keep (Keep.of_all fun _ _ e => e) fun a o _ z => ⟨rfl, ?_⟩
          rcases z with ⟨y, hy, _, e⟩ | ⟨hx, _⟩
          · obtain ⟨_, vs, n, h2⟩ := F.owns y (List.mem_filter.mp hy).1
            exact ⟨_, e ▸ h2⟩
          · have := (List.mem_filter.mp hx).2; simp at this
        · exact hr.scal hs
      · have := (List.mem_filter.mp hx).2; simp at this
    · rename_i q
      obtain ⟨u, h1, h2, h3⟩ := F.vars y my hy
      have hyx : y ≠ x := by intro e; subst e; simp at q
      refine ⟨u, hoth y u hyx h1, (h2.but hZ hk).keep (Keep.of_all fun _ _ e => e) fun a o _ z => ?_, fun hy' => h3 (List.mem_filter.mp hy').1⟩
      rcases z with ⟨z, hz, hn, e⟩ | ⟨hx, hb⟩
      · exact .inl ⟨z, (List.mem_filter.mp hz).1, hn, e⟩
      · exact .inr ⟨(List.mem_filter.mp hx).1, hb⟩
end Mine

open PySem PySem.W PyProof.Rows
set_option Elab.async false
set_option maxRecDepth 100000
set_option autoImplicit false
set_option linter.unusedVariables false
set_option linter.unusedSimpArgs false
namespace Mine
variable {C : Cx} {k : Nat} {sc : Scope} {ρ : Vars}

def MV.isL : MV → Bool
  | .il _ | .sl _ | .bl _ | .tb _ => true
  | _ => false
theorem Rep.isL {h : Heap} {Mu : Addr → Prop} {v : Value} {m : MV} (x : Rep h Mu v m) (hl : m.isL = true) : ∃ a vs n, v = .ref a ∧ ¬ Mu a ∧ IsL h a vs n := by
  cases m with
  | il l => obtain ⟨a, vs, n, h1, h2, h3, _⟩ := x; exact ⟨a, _, n, h1, h2, h3⟩
  | sl l => obtain ⟨a, vs, n, h1, h2, h3, _⟩ := x; exact ⟨a, _, n, h1, h2, h3⟩
  | bl l => obtain ⟨a, vs, n, h1, h2, h3, _⟩ := x; exact ⟨a, _, n, h1, h2, h3⟩
  | tb l => obtain ⟨a, vs, n, h1, h2, h3, _⟩ := x; exact ⟨a, _, n, h1, h2, h3⟩
  | _ => cases hl

theorem FrameOK.putOwn {env : Env} {B : Addr → Prop} {pr : Addr → Obj → Prop} {own : List Str} {ad : Str → Addr} {s s' : Shared} {x : Str} {m : MV} (F : FrameOK C sc env B pr own ad ρ s) (P : Put env x true m s s') (hl : m.isL = true) :
    ∃ ad', FrameOK C sc env B pr (x :: own.filter (· != x)) ad' ((x, m) :: ρ) s' := by
  have F' := F.put P (.inl rfl)
  obtain ⟨v, Z, hr, hZ, hk, hns, hce, hhas, hoth, hzp⟩ := F.facts P
  obtain ⟨a, vs, n, rfl, hn, hla⟩ := hr.isL hl
  have dead : s.heap.get? a = none := by
    cases e : s.heap.get? a with
    | none => rfl
    | some o => exact absurd ⟨rfl, o, e⟩ hn
  have hpr : ∀ o, ¬ pr a o := fun o q => by rw [(F.prot a o q).1] at dead; cases dead
  have hB : ¬ B a := fun q => let ⟨o, ho⟩ := F.base a q; hpr o ho
  have hown : ∀ y ∈ own, ad y ≠ a := fun y hy e => by
    obtain ⟨_, vs, n, h2⟩ := F.owns y hy
    rw [e] at h2
    rw [show s.heap.get? a = _ from h2] at dead; cases dead
  have hin : ∀ y, y ∈ x :: own.filter (· != x) → y ≠ x → y ∈ own := fun y hy hyx => by
    rcases List.mem_cons.mp hy with q | hy
    · exact absurd q hyx
    · exact (List.mem_filter.mp hy).1
  have adx : (fun y => if y = x then a else ad y) x = a := if_pos rfl
  have ady : ∀ y, y ≠ x → (fun y => if y = x then a else ad y) y = ad y := fun y hy => if_neg hy
  generalize (fun y => if y = x then a else ad y) = ad' at adx ady
  refine ⟨ad', F'.wds, F'.envOk, F'.ns, F'.cells, F'.apart, fun b o hb => ?_, F'.base, fun y hy => ?_, fun y hy z hz e => ?_, fun y my hy => ?_⟩
  · obtain ⟨h1, h2, h3, h4⟩ := F'.prot b o hb
    refine ⟨h1, h2, h3, fun y hy => ?_⟩
    by_cases hyx : y = x
    · rw [hyx, adx]; rintro rfl; exact hpr o hb
    · rw [ady y hyx]
      exact (F.prot b o hb).2.2.2 y (hin y hy hyx)
  · by_cases hyx : y = x
    · rw [hyx, adx]; exact ⟨hB, vs, n, hla⟩
    · rw [ady y hyx]
      have hy' := hin y hy hyx
      obtain ⟨h1, vs, n, h2⟩ := F.owns y hy'
      exact ⟨h1, vs, n, hk _ _ (seq_ne h2 (.inl rfl) ⟨_, _, rfl⟩ hZ) h2⟩
  · by_cases hyx : y = x <;> by_cases hzx : z = x
    · rw [hyx, hzx]
    · rw [hyx, adx, ady z hzx] at e
      exact absurd e.symm (hown z (hin z hz hzx))
    · rw [hzx, adx, ady y hyx] at e
      exact absurd e (hown y (hin y hy hyx))
    · rw [ady y hyx, ady z hzx] at e
      exact F.inj y (hin y hy hyx) z (hin z hz hzx) e
  · rw [List.lookup_cons] at hy
    split at hy
    · rename_i q
      cases hy
      rw [beq_iff_eq.mp q] at *
      refine ⟨.ref a, hhas, hr.keep (Keep.of_all fun _ _ e => e) fun b o _ z => ⟨rfl, ?_⟩, fun _ => by rw [adx]⟩
      rcases z with ⟨y, hy, hyx, e⟩ | ⟨_, hb⟩
      · rw [ady y hyx] at e
        obtain ⟨_, vs, n, h2⟩ := F.owns y (hin y hy hyx)
        exact ⟨_, e ▸ h2⟩
      · obtain ⟨o, ho⟩ := F.base b hb
        exact ⟨o, (F.prot b o ho).1⟩
    · rename_i q
      have hyx : y ≠ x := by intro e; subst e; simp at q
      obtain ⟨u, h1, h2, h3⟩ := F.vars y my hy
      have h2' : Rep s.heap (fun b => (∃ z ∈ x :: own.filter (· != x), z ≠ y ∧ ad' z = b) ∨ (y ∈ x :: own.filter (· != x) ∧ B b)) u my := h2.keep (Keep.of_all fun _ _ e => e) fun b o ho z => by
        rcases z with ⟨z, hz, hzy, e⟩ | ⟨hy', hb⟩
        · by_cases hzx : z = x
          · rw [hzx, adx] at e; subst e; rw [dead] at ho; cases ho
          · rw [ady z hzx] at e; exact .inl ⟨z, hin z hz hzx, hzy, e⟩
        · exact .inr ⟨hin y hy' hyx, hb⟩
      exact ⟨u, hoth y u hyx h1, h2'.but hZ hk, fun hy' => by rw [ady y hyx]; exact h3 (hin y hy' hyx)⟩

/-- the list that x owns has been changed -/
theorem FrameOK.mut {env : Env} {B : Addr → Prop} {pr : Addr → Obj → Prop} {own : List Str} {ad : Str → Addr} {s : Shared} {h' : Heap} {x : Str} {m' : MV} {tk : Nat} (F : FrameOK C sc env B pr own ad ρ s) (hx : x ∈ own) (hh : Has s.heap env x (.ref (ad x))) (hs : Heap.SameBut (ad x) s.heap h')
    (hl : ∃ vs n, IsL h' (ad x) vs n) (hr : Rep h' (fun a => (∃ y ∈ own, y ≠ x ∧ ad y = a) ∨ (x ∈ own ∧ B a)) (.ref (ad x)) m') : FrameOK C sc env B pr own ad ((x, m') :: ρ) { s with heap := h', toks := tk } := by
  obtain ⟨_, vs₀, n₀, hl₀⟩ := F.owns x hx
  have hk : ∀ b o, b ≠ ad x → s.heap.get? b = some o → h'.get? b = some o := fun b o hb e => (hs.2 b hb).trans e
  have hns : ∀ {L : Addr} {m : Str → Option Value}, s.heap.Ns L m → h'.Ns L m := fun {L m} N => by
    have hne : L ≠ ad x := fun e => ns_not_list N (e ▸ hl₀)
    obtain ⟨o, es, ep, ho, r⟩ := N
    exact ⟨o, es, ep, hk _ o hne ho, r⟩
  have hce : ∀ {c : Addr} {v : Option Value}, s.heap.IsCell c v → h'.IsCell c v := fun {c v} N => by
    have hne : c ≠ ad x := fun e => cell_not_list N (e ▸ hl₀)
    obtain ⟨o, ho, r⟩ := N
    exact ⟨o, hk _ o hne ho, r⟩
  have hhas : ∀ y u, Has s.heap env y u → Has h' env y u := fun y u H => by
    rcases H with ⟨h1, m1, h2, h3⟩ | ⟨h1, c, h2, h3⟩
    · exact .inl ⟨h1, m1, hns h2, h3⟩
    · exact .inr ⟨h1, c, h2, hce h3⟩
  refine ⟨F.wds, F.envOk, let ⟨m, h⟩ := F.ns; ⟨m, hns h⟩, fun y c hy => let ⟨v, h⟩ := F.cells y c hy; ⟨v, hce h⟩, F.apart, fun a o hp => ?_, F.base, fun y hy => ?_, F.inj, fun y my hy => ?_⟩
  · obtain ⟨h1, h2, h3, h4⟩ := F.prot a o hp
    exact ⟨hk a o (Ne.symm (h4 x hx)) h1, h2, h3, h4⟩
  · by_cases hyx : y = x
    · rw [hyx]; exact ⟨(F.owns x hx).1, hl⟩
    · obtain ⟨h1, vs, n, h2⟩ := F.owns y hy
      exact ⟨h1, vs, n, hk _ _ (fun e => hyx (F.inj y hy x hx e)) h2⟩
  · rw [List.lookup_cons] at hy
    split at hy
    · rename_i q
      cases hy
      rw [beq_iff_eq.mp q] at *
      exact ⟨_, hhas _ _ hh, hr, fun _ => rfl⟩
    · rename_i q
      have hyx : y ≠ x := by intro e; subst e; simp at q
      obtain ⟨u, h1, h2, h3⟩ := F.vars y my hy
      refine ⟨u, hhas y u h1, h2.keep (fun a o hn ho _ => hk a o (fun e => hn (.inl ⟨x, hx, Ne.symm hyx, e.symm⟩)) ho) fun _ _ _ z => z, h3⟩

/-! ### statements -/
inductive MF where
  | next | brk | cont
  | ret (m : MV)
def FlowIs (B : Addr → Prop) (s : Shared) (f : Flow) : MF → Prop
  | .next => f = .next
  | .brk => f = .brk
  | .cont => f = .cont
  | .ret m => ∃ v, f = .ret v ∧ Rep s.heap B v m

def Ends (C : Cx) (sc : Scope) (env : Env) (B : Addr → Prop) (pr : Addr → Obj → Prop) (s : Shared) (P : MF → Vars → List Str → Prop) (f : Flow) (s' : Shared) : Prop :=
  ∃ mf ρ' own' ad', FrameOK C sc env B pr own' ad' ρ' s' ∧ GExt s s' ∧ P mf ρ' own' ∧ FlowIs B s' f mf
def Ex (C : Cx) (k : Nat) (sc : Scope) (ρ : Vars) (own : List Str) (ss : List Stmt) (P : MF → Vars → List Str → Prop) : Prop :=
  ∀ (A : Around) (env : Env) (s : Shared) (B : Addr → Prop) (pr : Addr → Obj → Prop) (ad : Str → Addr), Room k A → FrameOK C sc env B pr own ad ρ s →
    wpAny C.M A (execs ss env) (Ends C sc env B pr s P) (fun _ _ => False) s
theorem Ends.after {env : Env} {B : Addr → Prop} {pr : Addr → Obj → Prop} {s s₁ s' : Shared} {P : MF → Vars → List Str → Prop} {f : Flow} (h : Ends C sc env B pr s₁ P f s') (g : GExt s s₁) : Ends C sc env B pr s P f s' :=
  let ⟨mf, ρ', own', ad', h1, h2, h3⟩ := h; ⟨mf, ρ', own', ad', h1, g.trans h2, h3⟩

variable {own : List Str} {rest : List Stmt} {P : MF → Vars → List Str → Prop}
theorem Ex.nil (h : P .next ρ own) : Ex C k sc ρ own [] P := fun A env s B pr ad R F => wpAny_execs_nil ⟨.next, ρ, own, ad, F, .refl s, h, rfl⟩
theorem Ex.weak {ρ' : Vars} {own' : List Str} {ss : List Stmt} (h : Ex C k sc ρ' own' ss P) (ho : ∀ x ∈ own', x ∈ own) (hr : ∀ x m, ρ'.lookup x = some m → ρ.lookup x = some m) : Ex C k sc ρ own ss P :=
  fun A env s B pr ad R F => h A env s B pr ad R (F.weak ho hr)
/-- one statement that ends plainly, then the rest -/
theorem Ex.step {st : Stmt} (h : ∀ (A : Around) (env : Env) (s : Shared) (B : Addr → Prop) (pr : Addr → Obj → Prop) (ad : Str → Addr), Room k A → FrameOK C sc env B pr own ad ρ s →
      wpAny C.M A (exec st env) (fun f s' => f = .next ∧ GExt s s' ∧ ∃ ρ' own' ad', FrameOK C sc env B pr own' ad' ρ' s' ∧ Ex C k sc ρ' own' rest P) (fun _ _ => False) s) : Ex C k sc ρ own (st :: rest) P :=
  fun A env s B pr ad R F => wpAny_execs_cons (wpAny_mono (h A env s B pr ad R F) (fun f s' ⟨hf, g, ρ', own', ad', F', hx⟩ => by
    subst hf
    exact wpAny_mono (hx A env s' B pr ad' R F') (fun f s'' he => he.after g) fun _ _ x => x) fun _ _ x => x)

/-- x = e -/
def As (C : Cx) (k : Nat) (sc : Scope) (ρ : Vars) (st : Stmt) (x : Str) (fr : Bool) (m : MV) : Prop :=
  ∀ (A : Around) (env : Env) (s : Shared), Room k A → Wd C s.heap → EnvOK env sc → Sees s env ρ → (∃ mm, s.heap.Ns env.locals mm) → (∀ y c, env.cells.lookup y = some c → ∃ v, s.heap.IsCell c v) →
    wpAny C.M A (exec st env) (fun f s' => f = .next ∧ Put env x fr m s s') (fun _ _ => False) s
theorem Ex.assign {st : Stmt} {x : Str} {fr : Bool} {m : MV} (h : As C k sc ρ st x fr m) (hfr : fr = true ∨ m.scalar = true) (hx : Ex C k sc ((x, m) :: ρ) (own.filter (· != x)) rest P) : Ex C k sc ρ own (st :: rest) P :=
  Ex.step fun A env s B pr ad R F => wpAny_mono (h A env s R F.wd F.envOk F.sees F.ns F.cells) (fun f s' ⟨hf, hp⟩ => ⟨hf, hp.g, _, _, _, F.put hp hfr, hx⟩) fun _ _ x => x
theorem Ex.assignOwn {st : Stmt} {x : Str} {m : MV} (h : As C k sc ρ st x true m) (hl : m.isL = true) (hx : Ex C k sc ((x, m) :: ρ) (x :: own.filter (· != x)) rest P) : Ex C k sc ρ own (st :: rest) P :=
  Ex.step fun A env s B pr ad R F => wpAny_mono (h A env s R F.wd F.envOk F.sees F.ns F.cells) (fun f s' ⟨hf, hp⟩ => ⟨hf, hp.g, _, _, (F.putOwn hp hl).choose, (F.putOwn hp hl).choose_spec, hx⟩) fun _ _ x => x

/-- storing a value -/
theorem store_put {A : Around} {env : Env} {s s₁ : Shared} {x : Str} {v : Value} {fr : Bool} {m : MV} {E : Value → Shared → Prop} (e₁ : Ext s s₁) (hr : Rep s₁.heap (mu fr s) v m) (O : EnvOK env sc) (hns : ∃ mm, s.heap.Ns env.locals mm) (hce : ∀ y c, env.cells.lookup y = some c → ∃ v, s.heap.IsCell c v)
    (hx : sc.names.lookup x = some .local ∨ sc.names.lookup x = some .cell) : wpAny C.M A (storeName env x v) (fun _ s' => Put env x fr m s s') E s₁ := by
  obtain ⟨mm, hmm⟩ := hns
  rcases hx with hx | hx
  · have hk := (O.kindOf x).trans hx
    refine wpAny_storeName_local hk (hmm.keeps e₁.heap) (fun h' hn hs => ?_) (by rw [O.k]; rfl)
    have hq : ∀ b o, b ≠ env.locals → s₁.heap.get? b = some o → h'.get? b = some o := fun b o hb e => (hs.2 b hb).trans e
    refine ⟨⟨e₁.gens, e₁.bare, e₁.os⟩, v, hr.but (.inl ⟨mm, hmm.keeps e₁.heap⟩) hq, .inl ⟨hk, fun b o hb e => hq b o hb (e₁.heap b o e), fun m2 h2 => ?_⟩⟩
    have : m2 = mm := by
      obtain ⟨o, es, ep, ho, hd, _, hf⟩ := h2
      obtain ⟨o', es', ep', ho', hd', _, hf'⟩ := hmm
      rw [ho] at ho'; cases ho'; rw [hd] at hd'; cases hd'
      funext y; rw [← hf, ← hf']
    rw [this]; exact hn
  · have hk := (O.kindOf x).trans hx
    obtain ⟨c, hc⟩ := O.cells x hx
    obtain ⟨v₀, hv₀⟩ := hce x c hc
    refine wpAny_storeName_cell O.k hk hc (hv₀.keeps e₁.heap) fun h' hn hs => ?_
    have hq : ∀ b o, b ≠ c → s₁.heap.get? b = some o → h'.get? b = some o := fun b o hb e => (hs.2 b hb).trans e
    exact ⟨⟨e₁.gens, e₁.bare, e₁.os⟩, v, hr.but (.inr ⟨v₀, hv₀.keeps e₁.heap⟩) hq, .inr ⟨hk, c, hc, fun b o hb e => hq b o hb (e₁.heap b o e), hn⟩⟩

theorem As.ev {x : Str} {px pos : Pos} {e : Expr} {fr : Bool} {m : MV} (h : Ev C k fr sc ρ e m) (hx : sc.names.lookup x = some .local ∨ sc.names.lookup x = some .cell) (hs : ∀ env, swapsWith e (some (.Name x px)) pos.line env = pure false) : As C k sc ρ (.Assign [.Name x px] e pos) x fr m :=
  fun A env s R W O S hns hce => wpAny_Assign_Name (h.go R W O S fun v s₁ e₁ r₁ W₁ S₁ => wpAny_mono (store_put e₁ r₁ O hns hce hx) (fun _ s' hp => ⟨rfl, hp⟩) fun _ _ x => x) (hs env)
theorem As.augI {x : Str} {px pos : Pos} {e : Expr} {f : Bool} {a b : Int} (h1 : ρ.lookup x = some (.int a)) (h : Ev C k f sc ρ e (.int b)) (hx : sc.names.lookup x = some .local ∨ sc.names.lookup x = some .cell) : As C k sc ρ (.AugAssign (.Name x px) .Add e pos) x true (.int (a + b)) :=
  fun A env s R W O S hns hce => by
    obtain ⟨v, hv, t, rfl⟩ := S x _ h1
    refine wpAny_AugAssign_Name (hv.load O (h.go R W O S fun u s₁ e₁ r₁ W₁ S₁ => ?_))
    obtain ⟨t', rfl⟩ := r₁
    exact P.iadd_int (wpAny_mono (store_put (e₁.trans Ext.toks) (m := .int (a + b)) ⟨_, rfl⟩ O hns hce hx) (fun _ s' hp => ⟨rfl, hp⟩) fun _ _ x => x)
end Mine

open PySem PySem.W PyProof.Rows
set_option Elab.async false
set_option maxRecDepth 100000
set_option autoImplicit false
set_option linter.unusedVariables false
set_option linter.unusedSimpArgs false
namespace Mine
variable {C : Cx} {k : Nat} {sc : Scope} {ρ : Vars} {own : List Str} {rest : List Stmt} {P : MF → Vars → List Str → Prop}

theorem execs_app (env : Env) : ∀ (a b : List Stmt), execs (a ++ b) env = (execs a env >>= fun f => match f with | .next => execs b env | f => pure f)
  | [], b => by rw [List.nil_append]; show _ = (pure Flow.next >>= _); rw [pure_bind]
  | st :: a, b => by
    rw [List.cons_append, execs_cons, execs_cons, bind_assoc]
    congr 1
    funext f
    cases f with
    | next => exact execs_app env a b
    | brk => rw [pure_bind]
    | cont => rw [pure_bind]
    | ret v => rw [pure_bind]

theorem execs_If (env : Env) (t : Expr) (body orelse : List Stmt) (p : Pos) (rest : List Stmt) :
    execs (.If t body orelse p :: rest) env = (do standAt p; if ← isTrue t env (eval t env) then execs (body ++ rest) env else execs (orelse ++ rest) env) := by
  rw [execs_cons, execs_app, execs_app]
  show ((standAt p >>= fun _ => isTrue t env (eval t env) >>= fun b => if b = true then execs body env else execs orelse env) >>= _) = _
  rw [bind_assoc]
  congr 1
  funext _
  rw [bind_assoc]
  congr 1
  funext b
  cases b <;> rfl

theorem Ex.ite {t : Expr} {body orelse : List Stmt} {p : Pos} {b : Bool} (ht : Ts C k sc ρ t b) (h1 : b = true → Ex C k sc ρ own (body ++ rest) P) (h2 : b = false → Ex C k sc ρ own (orelse ++ rest) P) : Ex C k sc ρ own (.If t body orelse p :: rest) P := fun A env s B pr ad R F => by
  rw [execs_If]
  refine wpAny_bind (wpAny_standAt (wpAny_bind (ht.go R F.wd F.envOk F.sees fun s₁ e₁ W₁ S₁ => ?_)))
  cases b with
  | true => exact wpAny_mono (h1 rfl A env s₁ B pr ad R (F.ext e₁)) (fun f s' he => he.after e₁.toGExt) fun _ _ x => x
  | false => exact wpAny_mono (h2 rfl A env s₁ B pr ad R (F.ext e₁)) (fun f s' he => he.after e₁.toGExt) fun _ _ x => x

theorem FrameOK.live {env : Env} {B : Addr → Prop} {pr : Addr → Obj → Prop} {ad : Str → Addr} {s : Shared} (F : FrameOK C sc env B pr own ad ρ s) {a : Addr} (h : B a) : ∃ o, s.heap.get? a = some o :=
  let ⟨o, ho⟩ := F.base a h; ⟨o, (F.prot a o ho).1⟩

theorem Ex.ret {e : Expr} {p : Pos} {m : MV} (h : Ev C k true sc ρ e m) (hp : P (.ret m) ρ own) : Ex C k sc ρ own (.Return (some e) p :: rest) P := fun A env s B pr ad R F =>
  wpAny_execs_cons (wpAny_Return_some (h.go R F.wd F.envOk F.sees fun v s₁ e₁ r₁ W₁ S₁ =>
    ⟨.ret m, ρ, own, ad, F.ext e₁, e₁.toGExt, hp, v, rfl, r₁.keep (Keep.of_all fun _ _ e => e) fun a o _ hb => ⟨rfl, F.live hb⟩⟩))
theorem Ex.retOwn {x : Str} {np p : Pos} {m : MV} (hx : x ∈ own) (hm : ρ.lookup x = some m) (hd : (x == ("__debug__" : Str)) = false) (hp : P (.ret m) ρ own) : Ex C k sc ρ own (.Return (some (.Name x np)) p :: rest) P := fun A env s B pr ad R F => by
  obtain ⟨v, h1, h2, h3⟩ := F.vars x m hm
  exact wpAny_execs_cons (wpAny_Return_some (wpAny_Name (h1.load F.envOk ⟨.ret m, ρ, own, ad, F, .refl s, hp, v, rfl, h2.keep (Keep.of_all fun _ _ e => e) fun a o _ hb => .inr ⟨hx, hb⟩⟩) hd))
theorem Ex.brk {p : Pos} (hp : P .brk ρ own) : Ex C k sc ρ own (.Break p :: rest) P := fun A env s B pr ad R F =>
  wpAny_execs_cons (wpAny_Break ⟨.brk, ρ, own, ad, F, .refl s, hp, rfl⟩)

/-! #### x.append(e) -/
/-- x.append(e), x a list of its own -/
theorem Ex.append {α : Type} (L : LK α) {x : Str} {np apos cpos pos : Pos} {e : Expr} {f : Bool} {l : List α} {a : α} (hx : x ∈ own) (hl : ρ.lookup x = some (L.li l)) (he : Ev C k f sc ρ e (L.one a)) (hn : NS e) (hd : (x == ("__debug__" : Str)) = false)
    (hbase : ∀ env, attributeBase (.Name x np) ("append" : Str) env (eval (.Name x np) env) = eval (.Name x np) env) (hline : (apos.endLine == cpos.line) = true) (hz : l.length ≤ 16777216)
    (h : Ex C k sc ((x, L.li (l ++ [a])) :: ρ) own rest P) :
    Ex C k sc ρ own (.Expr (.Call (.Attribute (.Name x np) ("append" : Str) apos) [e] [] cpos) pos :: rest) P := Ex.step fun A env s B pr ad R F => by
  have hint : interactive env = false := by
    unfold interactive
    rw [F.envOk.k]; rfl
  refine wpAny_Expr (Call_method1 (hbase env) (by rw [hn]; rfl) hline ?_) hint
  obtain ⟨v, h1, h2, h3⟩ := F.vars x _ hl
  obtain rfl := h3 hx
  have hT := typeL L l s _ h2.weak
  refine wpAny_Name (h1.load F.envOk ⟨"list", "list.append", PySem.F.plainAttrs_list, PySem.F.slot_list_append, PySem.F.type_list_append, hT.1, hT.2, ?_⟩) hd
  refine Calls.callWith_builtin rfl (Calls.evalArgs_plain (Calls.spliced_cons (he.go R F.wd F.envOk F.sees fun u s₁ e₁ r₁ W₁ S₁ => Calls.spliced_nil ?_)))
  have F₁ := F.ext e₁
  obtain ⟨a', vs, n, ha', hnm, hla, hv⟩ := (L.rep ..).mp (h2.ext e₁)
  cases ha'
  refine wpAny_list_append_plain ⟨n, hla⟩ (fun h' hp hs => ?_) (by rw [List.size_toArray, hv.length]; exact hz)
  obtain ⟨n', hp⟩ := hp
  have e' : vs.toArray.push u = (vs ++ [u]).toArray := by simp
  rw [e'] at hp
  refine ⟨rfl, ⟨e₁.gens, e₁.bare, e₁.os⟩, _, _, _, F₁.mut (m' := L.li (l ++ [a])) hx (h1.keeps e₁.heap) hs ⟨_, _, hp⟩ ?_, h⟩
  exact (L.rep ..).mpr ⟨_, _, n', rfl, hnm, hp, hv.append (.cons ((L.orep ..).mp r₁) .nil)⟩

/-! #### while -/
/-- a while, its state a datum of the prover's own -/
theorem Ex.while {σ : Type} (enc : σ → Vars) (meas : σ → Nat) (inv : σ → Prop) (test : σ → Bool) {t : Expr} {body : List Stmt} {p : Pos} (s₀ : σ) (h0 : inv s₀)
    (hin : ∀ x m, (enc s₀).lookup x = some m → ρ.lookup x = some m)
    (ht : ∀ st, inv st → Ts C k sc (enc st) t (test st))
    (hb : ∀ st, inv st → test st = true → Ex C k sc (enc st) own body (fun mf ρ' own' => (∀ x ∈ own, x ∈ own') ∧ match mf with
      | .next | .cont => ∃ st', inv st' ∧ meas st' < meas st ∧ ∀ x m, (enc st').lookup x = some m → ρ'.lookup x = some m
      | .brk => Ex C k sc ρ' own rest P
      | .ret m => P (.ret m) ρ' own'))
    (hend : ∀ st, inv st → test st = false → Ex C k sc (enc st) own rest P) : Ex C k sc ρ own (.While t body [] p :: rest) P := fun A env s B pr ad R F => by
  refine wpAny_execs_cons (wpAny_While (codeAny_whileLoop (fun n s' => ∃ st ad', meas st = n ∧ inv st ∧ FrameOK C sc env B pr own ad' (enc st) s' ∧ GExt s s') (fun n s₁ hI => ?_) (meas s₀) ⟨s₀, ad, rfl, h0, F.weak (fun _ h => h) hin, .refl s⟩))
  obtain ⟨st, ad₁, hm, hi, F₁, g₁⟩ := hI
  refine (ht st hi).go R F₁.wd F₁.envOk F₁.sees fun s₂ e₂ W₂ S₂ => ?_
  have F₂ := F₁.ext e₂
  have g₂ := g₁.trans e₂.toGExt
  cases hts : test st with
  | true =>
    rw [if_pos rfl]
    refine wpAny_mono (hb st hi hts A env s₂ B pr ad₁ R F₂) (fun f s₃ he => ?_) fun _ _ x => x.elim
    obtain ⟨mf, ρ', own', ad', F₃, g₃, ⟨ho, hp⟩, hf⟩ := he
    have g := g₂.trans g₃
    cases mf with
    | next =>
      obtain rfl := hf
      obtain ⟨st', h1, h2, h3⟩ := hp
      exact ⟨_, hm ▸ h2, st', ad', rfl, h1, F₃.weak ho h3, g⟩
    | cont =>
      obtain rfl := hf
      obtain ⟨st', h1, h2, h3⟩ := hp
      exact ⟨_, hm ▸ h2, st', ad', rfl, h1, F₃.weak ho h3, g⟩
    | brk =>
      obtain rfl := hf
      exact wpAny_mono (hp A env s₃ B pr ad' R (F₃.weak ho fun _ _ h => h)) (fun f s' he => he.after g) fun _ _ x => x
    | ret m =>
      obtain ⟨v, rfl, hr⟩ := hf
      exact ⟨.ret m, ρ', own', ad', F₃, g, hp, v, rfl, hr⟩
  | false =>
    rw [if_neg Bool.false_ne_true]
    refine wpAny_execs_nil ?_
    exact wpAny_mono (hend st hi hts A env s₂ B pr ad₁ R F₂) (fun f s' he => he.after g₂) fun _ _ x => x
end Mine

open PySem PySem.W PyProof.Rows
set_option Elab.async false
set_option maxRecDepth 100000
set_option autoImplicit false
set_option linter.unusedVariables false
set_option linter.unusedSimpArgs false
namespace Mine
variable {C : Cx} {k : Nat} {sc : Scope} {ρ : Vars} {own : List Str} {rest : List Stmt} {P : MF → Vars → List Str → Prop}

theorem RepL.move {α : Type} {h h' : Heap} {Mu : Addr → Prop} {R R' : Value → α → Prop} {v : Value} {l : List α} {wr : List Addr} (x : RepL h Mu R v l) (hw : ∀ b ∈ wr, ∃ o vs, h.get? b = some o ∧ o.data = .fields vs) (k : ∀ b o, b ∉ wr → h.get? b = some o → h'.get? b = some o) (hr : ∀ v a, R v a → R' v a) : RepL h' Mu R' v l := by
  obtain ⟨a, vs, n, rfl, hn, ho, hv⟩ := x
  refine ⟨a, vs, n, rfl, hn, k a _ (fun hm => ?_) ho, hv.mono hr⟩
  obtain ⟨o, us, h1, h2⟩ := hw a hm
  rw [show h.get? a = _ from ho] at h1; cases h1; cases h2
theorem Rep.move {h h' : Heap} {Mu : Addr → Prop} {v : Value} {m : MV} {wr : List Addr} (x : Rep h Mu v m) (hw : ∀ b ∈ wr, ∃ o vs, h.get? b = some o ∧ o.data = .fields vs) (k : ∀ b o, b ∉ wr → h.get? b = some o → h'.get? b = some o) : Rep h' Mu v m := by
  have key : ∀ {a : Addr} {o : Obj} {vs : Array Value} {n : Nat}, h.get? a = some o → o.data = .seq vs n → h'.get? a = some o := fun {a o vs n} ho hd => k a o (fun hm => by
    obtain ⟨o', us, h1, h2⟩ := hw a hm
    rw [ho] at h1; cases h1; rw [hd] at h2; cases h2) ho
  cases m with
  | none => exact x
  | bool b => exact x
  | int i => exact x
  | str s => exact x
  | il l => exact RepL.move x hw k fun _ _ y => y
  | sl l => exact RepL.move x hw k fun _ _ y => y
  | bl l => exact RepL.move x hw k fun _ _ y => y
  | tb l => exact RepL.move x hw k fun _ _ y => RepL.move y hw k fun _ _ y => y
  | lo l =>
    obtain ⟨a, vs, rfl, hn, ⟨o, ho, hc, n, hd⟩, hv⟩ := x
    exact ⟨a, vs, rfl, hn, ⟨o, key ho hd, hc, n, hd⟩, hv⟩
  | ti l =>
    obtain ⟨a, vs, rfl, hn, ⟨o, ho, hc, n, hd⟩, hv⟩ := x
    exact ⟨a, vs, rfl, hn, ⟨o, key ho hd, hc, n, hd⟩, hv⟩
  | pr s l =>
    obtain ⟨a, v1, v2, rfl, hn, ⟨o, ho, hc, n, hd⟩, h1, h2⟩ := x
    exact ⟨a, v1, v2, rfl, hn, ⟨o, key ho hd, hc, n, hd⟩, h1, RepL.move h2 hw k fun _ _ y => y⟩

theorem FrameOK.move {env : Env} {B : Addr → Prop} {pr : Addr → Obj → Prop} {ad : Str → Addr} {s s' : Shared} {wr : List Addr} (F : FrameOK C sc env B pr own ad ρ s) (hw : ∀ b ∈ wr, ∃ o vs, s.heap.get? b = some o ∧ o.data = .fields vs) (k : ∀ b o, b ∉ wr → s.heap.get? b = some o → s'.heap.get? b = some o)
    (hp : ∀ a o, pr a o → a ∉ wr) : FrameOK C sc env B pr own ad ρ s' := by
  have off : ∀ {a : Addr} {o : Obj}, s.heap.get? a = some o → (∀ vs, o.data ≠ .fields vs) → s'.heap.get? a = some o := fun {a o} ho hd => k a o (fun hm => by
    obtain ⟨o', us, h1, h2⟩ := hw a hm
    rw [ho] at h1; cases h1; exact hd us h2) ho
  have hns : ∀ {L : Addr} {m : Str → Option Value}, s.heap.Ns L m → s'.heap.Ns L m := fun {L m} ⟨o, es, ep, ho, hd, r⟩ => ⟨o, es, ep, off ho (fun vs q => by rw [hd] at q; cases q), hd, r⟩
  have hce : ∀ {c : Addr} {v : Option Value}, s.heap.IsCell c v → s'.heap.IsCell c v := fun {c v} ⟨o, ho, hd⟩ => ⟨o, off ho (fun vs q => by rw [hd] at q; cases q), hd⟩
  refine ⟨F.wds, F.envOk, let ⟨m, h⟩ := F.ns; ⟨m, hns h⟩, fun y c hy => let ⟨v, h⟩ := F.cells y c hy; ⟨v, hce h⟩, F.apart, fun a o h => let ⟨h1, r⟩ := F.prot a o h; ⟨k a o (hp a o h) h1, r⟩, F.base, fun y hy => ?_, F.inj, fun y my hy => ?_⟩
  · obtain ⟨h1, vs, n, h2⟩ := F.owns y hy
    exact ⟨h1, vs, n, off h2 fun vs q => by cases q⟩
  · obtain ⟨u, h1, h2, h3⟩ := F.vars y my hy
    refine ⟨u, ?_, h2.move hw k, h3⟩
    rcases h1 with ⟨h1, m1, h2, h3⟩ | ⟨h1, c, h2, h3⟩
    · exact .inl ⟨h1, m1, hns h2, h3⟩
    · exact .inr ⟨h1, c, h2, hce h3⟩

/-- more is protected -/
theorem FrameOK.more {env : Env} {B : Addr → Prop} {pr pr' : Addr → Obj → Prop} {ad : Str → Addr} {s : Shared} (F : FrameOK C sc env B pr own ad ρ s) (hp : ∀ a o, pr' a o → s.heap.get? a = some o ∧ a ≠ env.locals ∧ (∀ x, env.cells.lookup x ≠ some a) ∧ ∀ x ∈ own, ad x ≠ a) :
    FrameOK C sc env B (fun a o => pr a o ∨ pr' a o) own ad ρ s :=
  ⟨let ⟨h, h1, h2⟩ := F.wds; ⟨h, h1, fun b o e => .inl (h2 b o e)⟩, F.envOk, F.ns, F.cells, F.apart, fun a o h => h.elim (F.prot a o) (hp a o), fun a h => let ⟨o, ho⟩ := F.base a h; ⟨o, .inl ho⟩, F.owns, F.inj, F.vars⟩
theorem FrameOK.less {env : Env} {B : Addr → Prop} {pr pr' : Addr → Obj → Prop} {ad : Str → Addr} {s : Shared} (F : FrameOK C sc env B (fun a o => pr a o ∨ pr' a o) own ad ρ s) (hw : ∃ h₀ : Heap, Wd C h₀ ∧ ∀ b o, h₀.get? b = some o → pr b o) (hb : ∀ a, B a → ∃ o, pr a o) :
    FrameOK C sc env B pr own ad ρ s :=
  ⟨hw, F.envOk, F.ns, F.cells, F.apart, fun a o h => F.prot a o (.inl h), hb, F.owns, F.inj, F.vars⟩

def Off (env : Env) (own : List Str) (ad : Str → Addr) (b : Addr) : Prop := b ≠ env.locals ∧ (∀ x, env.cells.lookup x ≠ some b) ∧ ∀ x ∈ own, ad x ≠ b

/-- what a for goes over -/
def SrcF (C : Cx) (k : Nat) (sc : Scope) (ρ : Vars) (own : List Str) {α : Type} (L : LK α) (e : Expr) (xs : List α) : Prop :=
  ∀ (A : Around) (env : Env) (s : Shared) (B : Addr → Prop) (pr : Addr → Obj → Prop) (ad : Str → Addr), Room k A → FrameOK C sc env B pr own ad ρ s →
    wpAny C.M A (eval e env) (fun x s₁ => wpAny C.M A (pyIter x) (fun it s₂ => Ext s s₂ ∧ ∃ I fp wr St, it = .ref I ∧ Walks C.prog C.w A I fp wr xs.length (fun i v => ∃ a, xs[i]? = some a ∧ L.R v a) St ∧ St 0 s₂.heap ∧
      (∀ b ∈ fp, (∃ o, s₂.heap.get? b = some o) ∧ Off env own ad b) ∧ (∀ b ∈ wr, s.heap.get? b = none) ∧ ∀ i h, St i h → ∀ b ∈ wr, ∃ o vs, h.get? b = some o ∧ o.data = .fields vs) (fun _ _ => False) s₁) (fun _ _ => False) s

theorem FrameOK.off {env : Env} {B : Addr → Prop} {pr : Addr → Obj → Prop} {ad : Str → Addr} {s : Shared} (F : FrameOK C sc env B pr own ad ρ s) {b : Addr} (h : s.heap.get? b = none) : Off env own ad b := by
  refine ⟨?_, fun x hx => ?_, fun x hx e => ?_⟩
  · rintro rfl
    obtain ⟨m, o, es, ep, ho, _⟩ := F.ns
    rw [h] at ho; cases ho
  · obtain ⟨v, o, ho, _⟩ := F.cells x b hx
    rw [h] at ho; cases ho
  · obtain ⟨_, vs, n, h2⟩ := F.owns x hx
    rw [e] at h2
    rw [show s.heap.get? b = _ from h2] at h; cases h

theorem list_src {α : Type} (L : LK α) {A : Around} {env : Env} {s s₁ : Shared} {ad : Str → Addr} {xs : List α} {a : Addr} {vs : List Value} {n : Nat} (hh : A.handled = none) (e₁ : Ext s s₁) (ha : IsL s₁.heap a vs.toArray n) (hv : All2 L.R vs xs) (hoff : Off env own ad a) (hoff' : ∀ b, s.heap.get? b = none → Off env own ad b) :
    wpAny C.M A (pyIter (.ref a)) (fun it s₂ => Ext s s₂ ∧ ∃ I fp wr St, it = .ref I ∧ Walks C.prog C.w A I fp wr xs.length (fun i v => ∃ a, xs[i]? = some a ∧ L.R v a) St ∧ St 0 s₂.heap ∧
      (∀ b ∈ fp, (∃ o, s₂.heap.get? b = some o) ∧ Off env own ad b) ∧ (∀ b ∈ wr, s.heap.get? b = none) ∧ ∀ i h, St i h → ∀ b ∈ wr, ∃ o vs, h.get? b = some o ∧ o.data = .fields vs) (fun _ _ => False) s₁ := by
  have hne : a ≠ s₁.heap.objs.size := Nat.ne_of_lt (Heap.lt_size ha)
  refine wpAny_pyIter_list ha.isList ⟨e₁.trans Ext.push, s₁.heap.objs.size, [s₁.heap.objs.size, a], [s₁.heap.objs.size], fun i h => h.IsListIter s₁.heap.objs.size a i ∧ h.IsList a vs.toArray, rfl, ?_, ⟨⟨_, Heap.get?_push_size _ rfl, rfl, rfl⟩, ha.isList.push _⟩, ?_, ?_, ?_⟩
  · have W := Walks.list (prog := C.prog) (w := C.w) hh s₁.heap.objs.size a hne vs.toArray
    have hsz : vs.toArray.size = xs.length := by rw [List.size_toArray, hv.length]
    rw [hsz] at W
    exact Walks.weak W fun i v hi => by
      obtain ⟨b, hb, hr⟩ := hv.getL (i := i) (a := v) (by simpa using hi)
      exact ⟨b, hb, hr⟩
  · intro b hb
    rcases List.mem_cons.mp hb with rfl | hb
    · exact ⟨⟨_, Heap.get?_push_size _ rfl⟩, hoff' _ (none_of_ext e₁ (not_live _))⟩
    · rcases List.mem_cons.mp hb with rfl | hb
      · exact ⟨⟨_, Heap.get?_push_of_some _ ha⟩, hoff⟩
      · cases hb
  · intro b hb
    rcases List.mem_cons.mp hb with rfl | hb
    · exact none_of_ext e₁ (not_live _)
    · cases hb
  · rintro i h ⟨⟨o, ho, _, hd⟩, _⟩ b hb
    rcases List.mem_cons.mp hb with rfl | hb
    · exact ⟨o, _, ho, hd⟩
    · cases hb

theorem SrcF.fresh {α : Type} {L : LK α} {e : Expr} {xs : List α} (h : Ev C k true sc ρ e (L.li xs)) : SrcF C k sc ρ own L e xs := fun A env s B pr ad R F =>
  h.go R F.wd F.envOk F.sees fun v s₁ e₁ r₁ W₁ S₁ => by
    obtain ⟨a, vs, n, rfl, hm, ha, hv⟩ := (L.rep ..).mp r₁
    refine list_src L R.handled e₁ ha hv (F.off ?_) fun b hb => F.off hb
    cases e : s.heap.get? a with
    | none => rfl
    | some o => exact absurd ⟨rfl, o, e⟩ hm
theorem SrcF.name {α : Type} {L : LK α} {x : Str} {p : Pos} {xs : List α} (h : ρ.lookup x = some (L.li xs)) (hx : x ∉ own) (hd : (x == ("__debug__" : Str)) = false) : SrcF C k sc ρ own L (.Name x p) xs := fun A env s B pr ad R F => by
  obtain ⟨v, h1, h2, h3⟩ := F.vars x _ h
  obtain ⟨a, vs, n, rfl, hm, ha, hv⟩ := (L.rep ..).mp h2
  refine wpAny_Name (h1.load F.envOk (list_src L R.handled (Ext.refl s) ha hv ⟨?_, fun y hy => ?_, fun y hy e => hm (.inl ⟨y, hy, fun q => hx (q ▸ hy), e⟩)⟩ fun b hb => F.off hb)) hd
  · rintro rfl
    obtain ⟨m, hns⟩ := F.ns
    exact ns_not_list hns ha
  · obtain ⟨v, hc⟩ := F.cells y a hy
    exact cell_not_list hc ha
theorem SrcF.range1 {x : Str} {np pos : Pos} {e : Expr} {b : Int} {f : Bool} (g : Gl C sc x (.type "range")) (h : Ev C k f sc ρ e (.int b)) (hn : NS e) (hb : -(2 ^ 62) ≤ b) (hb' : b < 2 ^ 62) :
    SrcF C k sc ρ own lkI (.Call (.Name x np) [e] [] pos) (upto 0 b) := fun A env s B pr ad R F =>
  Call_Name rfl (g A env s np _ _ F.wd F.envOk (by
    rw [show backTo pos (starEach [e] env) = [(false, eval e env)] by rw [hn]; rfl]
    refine PySem.callWith_type (by rfl) (Calls.evalArgs_plain (Calls.spliced_cons (h.go R F.wd F.envOk F.sees fun v s₁ e₁ r₁ W₁ S₁ => Calls.spliced_nil ?_)))
    obtain ⟨t, rfl⟩ := r₁
    refine call_range_1 ?_
    have e₂ : Ext s { s₁ with heap := s₁.heap.push { cls := .type "range", data := .fields #[.int 0 s₁.toks, .int b t, .int 1 (s₁.toks + 1)] }, toks := s₁.toks + 1 + 1 } := e₁.trans Ext.push
    generalize hs₂ : ({ s₁ with heap := s₁.heap.push { cls := .type "range", data := .fields #[.int 0 s₁.toks, .int b t, .int 1 (s₁.toks + 1)] }, toks := s₁.toks + 1 + 1 } : Shared) = s₂ at e₂
    have hr : IsRange s₂.heap s₁.heap.objs.size 0 b 1 s₁.toks t (s₁.toks + 1) := by rw [← hs₂]; exact Heap.get?_push_size _ rfl
    refine wpAny_pyIter_range hr (small_one (by omega) (by omega) hb hb') ⟨e₂.trans Ext.push, s₂.heap.objs.size, [s₂.heap.objs.size], [s₂.heap.objs.size], fun i h => IsRangeIter h s₂.heap.objs.size (0 + (i : Nat) * 1) (((upto 0 b).length : Int) - (i : Nat)) 1, rfl, ?_, ?_, ?_, ?_, ?_⟩
    · have W := LCg.range_walks (prog := C.prog) (w := C.w) (I := s₂.heap.objs.size) R.handled 0 (upto 0 b).length
      have hlen := upto_length 0 b
      refine ⟨W.sub, W.frame, fun i s Q E hi st hQ => W.item i s Q E hi st fun v h' tk pv => hQ v h' tk ?_, W.done, W.self⟩
      obtain ⟨t, rfl⟩ := pv
      exact ⟨0 + (i : Int), upto_get (by omega), t, rfl⟩
    · refine (Heap.get?_push_size _ rfl).trans ?_
      rw [rangeSize_nat, ← upto_length]
      simp [rawInt]
    · intro b hb
      rcases List.mem_cons.mp hb with rfl | hb
      · exact ⟨⟨_, Heap.get?_push_size _ rfl⟩, F.off (none_of_ext e₂ (not_live _))⟩
      · cases hb
    · intro b hb
      rcases List.mem_cons.mp hb with rfl | hb
      · exact none_of_ext e₂ (not_live _)
      · cases hb
    · intro i h hst b hb
      rcases List.mem_cons.mp hb with rfl | hb
      · exact ⟨_, _, hst, rfl⟩
      · cases hb))

/-- for x in e -/
theorem Ex.for {σ α : Type} (L : LK α) (enc : σ → Vars) (inv : Nat → σ → Prop) {x : Str} {px pos : Pos} {e : Expr} {body : List Stmt} {xs : List α} (hsrc : SrcF C k sc ρ own L e xs) (hxo : x ∉ own)
    (hx : sc.names.lookup x = some .local ∨ sc.names.lookup x = some .cell) (hs : ∀ env v, foldedSetIterable e env v = pure v) (s₀ : σ) (h0 : inv 0 s₀)
    (hin : ∀ x m, (enc s₀).lookup x = some m → ρ.lookup x = some m)
    (hb : ∀ i a st, xs[i]? = some a → inv i st → Ex C k sc ((x, L.one a) :: enc st) own body (fun mf ρ' own' => (∀ x ∈ own, x ∈ own') ∧ match mf with
      | .next | .cont => ∃ st', inv (i + 1) st' ∧ ∀ x m, (enc st').lookup x = some m → ρ'.lookup x = some m
      | .brk => Ex C k sc ρ' own rest P
      | .ret m => P (.ret m) ρ' own'))
    (hend : ∀ st, inv xs.length st → Ex C k sc (enc st) own rest P) : Ex C k sc ρ own (.For (.Name x px) e body [] pos :: rest) P := fun A env s B pr ad R F => by
  refine wpAny_execs_cons (wpAny_For (wpAny_mono (hsrc A env s B pr ad R F) (fun v s₁ h₁ => wpAny_mono h₁ (fun it s₂ h₂ => ?_) fun _ _ x => x.elim) fun _ _ x => x.elim) (hs env))
  obtain ⟨e₂, I, fp, wr, St, rfl, W, hst, hfp, hwr, hit⟩ := h₂
  have hpw : ∀ a o, pr a o → a ∉ wr := fun a o hp hm => by have := (F.prot a o hp).1; rw [hwr a hm] at this; cases this
  refine codeAny_forLoop (fun n s' => ∃ i st ad', n = xs.length - i ∧ i ≤ xs.length ∧ inv i st ∧ FrameOK C sc env B pr own ad' (enc st) s' ∧ St i s'.heap ∧ GExt s s' ∧ ∀ b ∈ fp, (∃ o, s'.heap.get? b = some o) ∧ Off env own ad' b)
    (fun n t hI => ?_) (xs.length - 0) ⟨0, s₀, ad, rfl, Nat.zero_le _, h0, (F.ext e₂).weak (fun _ h => h) hin, hst, e₂.toGExt, hfp⟩
  obtain ⟨i, st, ad₁, hn, hi, hinv, F₁, hst₁, g₁, hfp₁⟩ := hI
  have moved : ∀ h' tk, (∀ b o, b ∉ wr → t.heap.get? b = some o → h'.get? b = some o) → FrameOK C sc env B pr own ad₁ (enc st) { t with heap := h', toks := tk } := fun h' tk hk => F₁.move (s' := { t with heap := h', toks := tk }) (hit i _ hst₁) hk hpw
  by_cases hlt : i < xs.length
  · refine W.item i t _ _ hlt hst₁ fun v h' tk hP hst' hk => ?_
    obtain ⟨a, ha, hr⟩ := hP
    have F₂ := moved h' tk hk
    refine wpAny_assign_Name (wpAny_mono (store_put (C := C) (fr := false) (Ext.refl _) ((L.orep _ (mu false _) v a).mpr hr) F₂.envOk F₂.ns F₂.cells hx) (fun _ t₃ hput => ?_) fun _ _ x => x)
    have F₃ := (F₂.put hput (.inr (L.osc a))).weak (own' := own) (fun y hy => List.mem_filter.mpr ⟨hy, by simpa using fun q : y = x => hxo (q ▸ hy)⟩) (fun _ _ h => h)
    -- the store leaves the walk alone
    have keep₃ : ∀ b ∈ fp, ∀ o, h'.get? b = some o → t₃.heap.get? b = some o := fun b hb o ho => by
      obtain ⟨_, hoff⟩ := hfp₁ b hb
      obtain ⟨_, v', _, hp⟩ := hput
      rcases hp with ⟨_, hk3, _⟩ | ⟨_, c, hc, hk3, _⟩
      · exact hk3 b o hoff.1 ho
      · exact hk3 b o (fun q => hoff.2.1 x (q ▸ hc)) ho
    have live₂ : ∀ b ∈ fp, ∃ o, h'.get? b = some o := fun b hb => by
      by_cases hbw : b ∈ wr
      · obtain ⟨o, _, ho, _⟩ := hit _ _ hst' b hbw
        exact ⟨o, ho⟩
      · obtain ⟨⟨o, ho⟩, _⟩ := hfp₁ b hb
        exact ⟨o, hk b o hbw ho⟩
    have hst₃ : St (i + 1) t₃.heap := W.frame _ _ _ hst' keep₃
    have F₄ := F₃.more (pr' := fun b o => b ∈ fp ∧ t₃.heap.get? b = some o) fun b o hb => ⟨hb.2, (hfp₁ b hb.1).2⟩
    refine wpAny_mono (hb i a st ha hinv A env t₃ B _ ad₁ R F₄) (fun f t₄ he => ?_) fun _ _ x => x.elim
    obtain ⟨mf, ρ', own', ad', F₅, g₅, ⟨hown, hp⟩, hf⟩ := he
    have g : GExt s t₄ := (g₁.trans ⟨hput.g.gens, hput.g.bare, hput.g.os⟩).trans g₅
    have F₆ := (F₅.weak (own' := own) hown fun _ _ h => h).less F.wds F.base
    have keep₅ : ∀ b ∈ fp, ∀ o, t₃.heap.get? b = some o → t₄.heap.get? b = some o := fun b hb o ho => (F₅.prot b o (.inr ⟨hb, ho⟩)).1
    have off₅ : ∀ b ∈ fp, (∃ o, t₄.heap.get? b = some o) ∧ Off env own ad' b := fun b hb => by
      obtain ⟨o, ho⟩ := live₂ b hb
      obtain ⟨q1, q2, q3, q4⟩ := F₅.prot b o (.inr ⟨hb, keep₃ b hb o ho⟩)
      exact ⟨⟨o, q1⟩, q2, q3, fun y hy => q4 y (hown y hy)⟩
    cases mf with
    | next =>
      obtain rfl := hf
      obtain ⟨st', h1, h2⟩ := hp
      exact ⟨xs.length - (i + 1), by omega, i + 1, st', ad', rfl, by omega, h1, F₆.weak (fun _ h => h) h2, W.frame _ _ _ hst₃ keep₅, g, off₅⟩
    | cont =>
      obtain rfl := hf
      obtain ⟨st', h1, h2⟩ := hp
      exact ⟨xs.length - (i + 1), by omega, i + 1, st', ad', rfl, by omega, h1, F₆.weak (fun _ h => h) h2, W.frame _ _ _ hst₃ keep₅, g, off₅⟩
    | brk =>
      obtain rfl := hf
      exact wpAny_mono (hp A env t₄ B pr ad' R F₆) (fun f s' he => he.after g) fun _ _ x => x
    | ret m =>
      obtain ⟨v, rfl, hr⟩ := hf
      exact ⟨.ret m, ρ', own', ad', F₅.less F.wds F.base, g, hp, v, rfl, hr⟩
  · have hi' : i = xs.length := by omega
    refine W.done t _ _ (hi' ▸ hst₁) fun h' tk hk => wpAny_execs_nil ?_
    exact wpAny_mono (hend st (hi' ▸ hinv) A env _ B pr ad₁ R (moved h' tk hk)) (fun f s' he => he.after ⟨g₁.gens, g₁.bare, g₁.os⟩) fun _ _ x => x
end Mine

open PySem PySem.W PyProof.Rows
set_option Elab.async false
set_option maxRecDepth 100000
set_option autoImplicit false
set_option linter.unusedVariables false
set_option linter.unusedSimpArgs false
namespace Mine
variable {C : Cx} {k : Nat}

/-! ### defs -/
structure DefOK (C : Cx) (f : Addr) (fd : FuncData) (names : List Str) (body : List Stmt) : Prop where
  obj : ∃ oc od osl, C.K.lookup f = some ⟨oc, od, .func fd, osl⟩
  code : codeIn C.K fd.code fd.qualname = true
  body : fd.body = .stmts body
  closure : fd.closure = []
  globals : fd.globals = mainGlobals
  builtins : fd.builtins = builtinsNs
  co : fd.scope.isCoroutine = false
  kind : fd.scope.kind = .function
  bind : ∀ vals : List Value, vals.length = names.length → bindArgs fd ⟨vals, []⟩ = pure (names.zip vals)
  kinds : ∀ x ∈ names, fd.scope.names.lookup x = some .local ∨ fd.scope.names.lookup x = some .cell

theorem bind1 {fd : FuncData} {x : Str} (h : ∀ v, bindArgs fd ⟨[v], []⟩ = pure [(x, v)]) : ∀ vals : List Value, vals.length = [x].length → bindArgs fd ⟨vals, []⟩ = pure ([x].zip vals)
  | [v], _ => h v
theorem bind2 {fd : FuncData} {x y : Str} (h : ∀ v u, bindArgs fd ⟨[v, u], []⟩ = pure [(x, v), (y, u)]) : ∀ vals : List Value, vals.length = [x, y].length → bindArgs fd ⟨vals, []⟩ = pure ([x, y].zip vals)
  | [v, u], _ => h v u
theorem bind3 {fd : FuncData} {x y z : Str} (h : ∀ v u t, bindArgs fd ⟨[v, u, t], []⟩ = pure [(x, v), (y, u), (z, t)]) : ∀ vals : List Value, vals.length = [x, y, z].length → bindArgs fd ⟨vals, []⟩ = pure ([x, y, z].zip vals)
  | [v, u, t], _ => h v u t
theorem bindL_other (kd : Str → Option NameKind) (x : Str) : ∀ (binds : List (Str × Value)) (m : Str → Option Value), (∀ v, (x, v) ∉ binds) → bindL kd binds m x = m x
  | [], _, _ => rfl
  | (n, v) :: r, m, h => by
    unfold bindL
    rw [bindL_other kd x r _ fun v hv => h v (.tail _ hv)]
    have hne : x ≠ n := fun e => h v (e ▸ .head _)
    split <;> simp [hne]
theorem bindC_other (kd : Str → Option NameKind) (x : Str) : ∀ (binds : List (Str × Value)) (m : Str → Option Value), (∀ v, (x, v) ∉ binds) → bindC kd binds m x = m x
  | [], _, _ => rfl
  | (n, v) :: r, m, h => by
    unfold bindC
    rw [bindC_other kd x r _ fun v hv => h v (.tail _ hv)]
    have hne : x ≠ n := fun e => h v (e ▸ .head _)
    split <;> simp [hne]
theorem bindL_at (kd : Str → Option NameKind) (x : Str) (hk : kd x = some .local) : ∀ (binds : List (Str × Value)) (m : Str → Option Value) (v : Value), (binds.map (·.1)).Nodup → (x, v) ∈ binds → bindL kd binds m x = some v
  | (n, u) :: r, m, v, hn, h => by
    unfold bindL
    rw [List.map_cons, List.nodup_cons] at hn
    rcases List.mem_cons.mp h with e | h
    · cases e
      rw [bindL_other kd x r _ fun v hv => hn.1 (List.mem_map_of_mem (f := (·.1)) hv), if_pos hk]; simp
    · exact bindL_at kd x hk r _ v hn.2 h
theorem bindC_at (kd : Str → Option NameKind) (x : Str) (hk : kd x = some .cell) : ∀ (binds : List (Str × Value)) (m : Str → Option Value) (v : Value), (binds.map (·.1)).Nodup → (x, v) ∈ binds → bindC kd binds m x = some v
  | (n, u) :: r, m, v, hn, h => by
    unfold bindC
    rw [List.map_cons, List.nodup_cons] at hn
    rcases List.mem_cons.mp h with e | h
    · cases e
      rw [bindC_other kd x r _ fun v hv => hn.1 (List.mem_map_of_mem (f := (·.1)) hv), if_neg (by rw [hk]; decide)]; simp
    · exact bindC_at kd x hk r _ v hn.2 h

theorem zip_look : ∀ {names : List Str} {ms : List MV} {vs : List Value} {h : Heap}, All2 (Rep h noMu) vs ms → ∀ {x : Str} {m : MV}, (names.zip ms).lookup x = some m → ∃ v, (x, v) ∈ names.zip vs ∧ Rep h noMu v m
  | [], _, _, _, _, x, m, e => by simp at e
  | n :: names, _, _, _, .nil, x, m, e => by simp at e
  | n :: names, _, _, _, .cons r rs, x, m, e => by
    rw [List.zip_cons_cons, List.lookup_cons] at e
    rw [List.zip_cons_cons]
    split at e
    · rename_i q; cases e; rw [beq_iff_eq.mp q]; exact ⟨_, .head _, r⟩
    · obtain ⟨v, h1, h2⟩ := zip_look rs e; exact ⟨v, .tail _ h1, h2⟩
theorem zip_names {α : Type} : ∀ {names : List Str} {vs : List α}, vs.length = names.length → (names.zip vs).map (·.1) = names
  | [], [], _ => rfl
  | n :: names, v :: vs, h => by rw [List.zip_cons_cons, List.map_cons, zip_names (by simpa using h)]

theorem startFrame {f : Addr} {fd : FuncData} {names : List Str} {body : List Stmt} (D : DefOK C f fd names body) (hnd : names.Nodup) {s s₁ : Shared} {vs : List Value} {ms : List MV} (W : Wd C s.heap) (hv : All2 (Rep s.heap noMu) vs ms) (hlen : ms.length = names.length)
    (x : InCallC s (callEnvC fd s.heap.objs.size f).locals (bindL (callEnvC fd s.heap.objs.size f).kindOf (names.zip vs) fun _ => none) (callEnvC fd s.heap.objs.size f).cells (bindC (callEnvC fd s.heap.objs.size f).kindOf (names.zip vs) fun _ => none) s₁) :
    FrameOK C fd.scope (callEnvC fd s.heap.objs.size f) (fun a => ∃ o, s.heap.get? a = some o) (fun a o => s.heap.get? a = some o) [] (fun _ => 0) (names.zip ms) s₁ := by
  have hvl : vs.length = names.length := hv.length.trans hlen
  have hbn : ((names.zip vs).map (·.1)).Nodup := by rw [zip_names hvl]; exact hnd
  have O : EnvOK (callEnvC fd s.heap.objs.size f) fd.scope := ⟨rfl, D.kind, D.globals, D.builtins, fun n hn => Option.isSome_iff_exists.mp (cellsFrom_some _ _ _ (.inl hn))⟩
  have hkeep := x.toInCall.keep
  refine ⟨⟨s.heap, W, fun _ _ e => e⟩, O, ⟨_, x.toInCall.ns⟩, fun y c hy => ⟨_, x.cell y c hy⟩, fun y z c hy hz => name_of_addr x.apart (mem_of_lookup hy) (mem_of_lookup hz), fun a o ho => ⟨hkeep a o ho, ?_, fun y hy => ?_, fun y hy => (nomatch hy)⟩, fun a h => h, fun y hy => (nomatch hy), fun y hy => (nomatch hy), fun y m hy => ?_⟩
  · exact Nat.ne_of_lt (Heap.lt_size ho)
  · have := x.above y a (mem_of_lookup hy)
    have h2 := Heap.lt_size ho
    have h3 : (callEnvC fd s.heap.objs.size f).locals = s.heap.objs.size := rfl
    rw [h3] at this
    exact absurd (Nat.lt_trans this h2) (Nat.lt_irrefl _)
  · obtain ⟨v, hm, hr⟩ := zip_look hv hy
    have hyn : y ∈ names := by
      have := List.mem_map_of_mem (f := (·.1)) hm
      rw [zip_names hvl] at this; exact this
    refine ⟨v, ?_, hr.keep (Keep.of_all hkeep) (fun a o _ q => by rcases q with ⟨z, hz, _⟩ | ⟨hz, _⟩ <;> exact (nomatch hz)), fun hz => (nomatch hz)⟩
    rcases D.kinds y hyn with hk | hk
    · exact .inl ⟨(O.kindOf y).trans hk, _, x.toInCall.ns, bindL_at _ y ((O.kindOf y).trans hk) _ _ v hbn hm⟩
    · obtain ⟨c, hc⟩ := O.cells y hk
      refine .inr ⟨(O.kindOf y).trans hk, c, hc, ?_⟩
      have := x.cell y c hc
      rw [bindC_at _ y ((O.kindOf y).trans hk) _ _ v hbn hm] at this
      exact this

theorem Room.deep {A : Around} (R : Room (k + 1) A) (env : Env) : Room k (A.deeper env) := ⟨R.handled, by have := R.depth; show A.depth + 1 + k < _; omega, by have := R.units; show A.units + 3 + _ + _ < _; omega⟩

theorem Fn.of {f : Addr} {fd : FuncData} {names : List Str} {body : List Stmt} {ms : List MV} {m : MV} (D : DefOK C f fd names body) (hgen : fd.scope.isGenerator = false) (hnd : names.Nodup) (hlen : ms.length = names.length)
    (h : Ex C k fd.scope (names.zip ms) [] body (fun mf _ _ => mf = .ret m)) : Fn C (k + 1) f ms m := fun A s vs R W hv => by
  obtain ⟨oc, od, osl, ho⟩ := D.obj
  have hvl : vs.length = names.length := hv.length.trans hlen
  obtain ⟨p, l, mean, mg, mb, T⟩ := W.top
  refine wpAny_call (codeAny_call_cells (by have := R.depth; omega) (W.k _ _ ho) rfl T.nolimit (codeRec_of W.k D.code) D.body (D.bind vs hvl) D.closure (fun x hx => ?_) (fun s₁ x => ?_) D.co hgen D.kind)
  · have hxn : x.1 ∈ names := by
      have := List.mem_map_of_mem (f := (·.1)) hx
      rw [zip_names hvl] at this; exact this
    rcases D.kinds x.1 hxn with hk | hk
    · exact .inl hk
    · exact .inr ⟨hk, cellsFrom_some _ _ _ (.inl hk)⟩
  · have F := startFrame D hnd W hv hlen x
    refine wpAny_mono (h _ _ s₁ _ _ _ (R.deep _) F) (fun fl s' he => ?_) fun _ _ x => x.elim
    obtain ⟨mf, ρ', own', ad', F', g, hp, hf⟩ := he
    subst hp
    obtain ⟨v, rfl, hr⟩ := hf
    obtain ⟨h₁, tk₁, e₁⟩ := x.toInCall.same
    have g₁ : GExt s s₁ := by rw [e₁]; exact ⟨fun _ _ e => e, id, rfl⟩
    exact ⟨⟨g₁.trans g, fun b o e => (F'.prot b o e).1⟩, hr.keep (Keep.of_all fun _ _ e => e) fun a o _ q => q.2⟩
end Mine

open PySem PySem.W PyProof.Rows
set_option Elab.async false
set_option maxRecDepth 100000
set_option autoImplicit false
set_option linter.unusedVariables false
set_option linter.unusedSimpArgs false
namespace Mine
variable {C : Cx} {k : Nat} {sc : Scope} {ρ : Vars} {own : List Str} {rest : List Stmt} {P : MF → Vars → List Str → Prop}

theorem sub_nil {ρ : Vars} : ∀ x m, ([] : Vars).lookup x = some m → ρ.lookup x = some m := fun x m h => by simp at h
theorem sub_cons {y : Str} {n : MV} {l ρ : Vars} (h : ρ.lookup y = some n) (hs : ∀ x m, l.lookup x = some m → ρ.lookup x = some m) : ∀ x m, ((y, n) :: l).lookup x = some m → ρ.lookup x = some m := fun x m e => by
  rw [List.lookup_cons] at e
  split at e
  · rename_i q; cases e; rw [beq_iff_eq.mp q]; exact h
  · exact hs x m e
theorem Ex.set {st : Stmt} {x : Str} {fr : Bool} {m : MV} (h : As C k sc ρ st x fr m) (hfr : fr = true ∨ m.scalar = true) (hxo : x ∉ own) (hx : Ex C k sc ((x, m) :: ρ) own rest P) : Ex C k sc ρ own (st :: rest) P :=
  Ex.assign h hfr (hx.weak (fun y hy => List.mem_filter.mpr ⟨hy, by simpa using fun q : y = x => hxo (q ▸ hy)⟩) fun _ _ h => h)
theorem Ex.setOwn {st : Stmt} {x : Str} {m : MV} (h : As C k sc ρ st x true m) (hl : m.isL = true) (hxo : x ∉ own) (hx : Ex C k sc ((x, m) :: ρ) (x :: own) rest P) : Ex C k sc ρ own (st :: rest) P :=
  Ex.assignOwn h hl (hx.weak (fun y hy => by
    rcases List.mem_cons.mp hy with rfl | hy
    · exact .head _
    · exact .tail _ (List.mem_filter.mpr ⟨hy, by simpa using fun q : y = x => hxo (q ▸ hy)⟩)) fun _ _ h => h)
theorem Ev.glob {x : Str} {p : Pos} {i : Int} {t : Tok} (g : Gl C sc x (.int i t)) : Ev C k true sc ρ (.Name x p) (.int i) := fun A env s R W O S => g A env s p _ _ W O ⟨Ext.refl s, t, rfl⟩

/-- x = [elt for ..], as the store is taken into the block -/
theorem As.comp {α β : Type} (L : LK α) (L' : LK β) {y : Str} {py spos : Pos} {x : Str} {px : Pos} {ifs : List Expr} {elt iter : Expr} {scope : Scope} {pos : Pos} {xs : List α} {p : α → Bool} {f : α → β} (ρ' : Vars)
    (hsrc : Src C k sc ρ L iter xs) (S : CScope scope sc) (Pc : Caps scope ρ ρ') (hx : scope.names.lookup x = some .local ∨ scope.names.lookup x = some .cell)
    (B : Blk C k (relab scope sc) ρ' L L' x ifs elt xs p f) (hz : xs.length ≤ 16777216) (hs : ∀ env v, foldedSetIterable iter env v = pure v) (hy : sc.names.lookup y = some .local)
    (hsw : ∀ env, EnvOK env sc → swapsWith (.ListComp elt [⟨.Name x px, iter, ifs, 0⟩] scope pos) (some (.Name y py)) spos.line env = pure true) :
    As C k sc ρ (.Assign [.Name y py] (.ListComp elt [⟨.Name x px, iter, ifs, 0⟩] scope pos) spos) y true (L'.li ((xs.filter p).map f)) := fun A env s R W O V hns hce => by
  rw [exec_Assign_Name_used _ _ _ _ (hsw env O), arm_evalThenUse_ListComp]
  dsimp only
  refine wpAny_bind (wpAny_standAt (wpAny_bind (wpAny_bind ?_)))
  refine wpAny_comprehension_free (use := some (assign (.Name y py) env)) rfl (hs env) (closureFor_eq fun n hn => O.cells n (S.free n hn)) S.kind (cscope_names S) ?_
  refine wpAny_mono (hsrc A env s R W O V) (fun v s₁ h₁ => wpAny_mono h₁ (fun it s₂ h₂ => ?_) fun _ _ q => q.elim) fun _ _ q => q.elim
  obtain ⟨e₂, I, fp, wr, St, rfl, Wk, hst, hfp, hwr⟩ := h₂
  refine comp_run (ρ := ρ) (ρ' := ρ') R W O V S Pc hx B e₂ Wk hst hfp hwr hz fun D Cad t hD hCad hDC hb => ?_
  obtain ⟨vs, n, h1, h2⟩ := hb.acc
  obtain ⟨mm, hmm⟩ := hns
  obtain ⟨mC, hmC⟩ := hb.ns
  have hLC : env.locals ≠ Cad := by
    rintro rfl
    obtain ⟨o, es, ep, ho, _⟩ := hmm
    rw [hCad] at ho; cases ho
  have hLD : env.locals ≠ D := by
    rintro rfl
    obtain ⟨o, es, ep, ho, _⟩ := hmm
    rw [hD] at ho; cases ho
  have hk := (O.kindOf y).trans hy
  refine wpAny_assign_Name (wpAny_storeName_local hk (hmm.keeps hb.ext.heap) (fun h' hn hs => ?_) (by rw [O.k]; rfl))
  have q1 : ∀ b o, b ≠ env.locals → t.heap.get? b = some o → h'.get? b = some o := fun b o hb e => (hs.2 b hb).trans e
  refine ⟨mC, ?_, fun h'' hs'' => wpAny_pure (wpAny_pure ⟨rfl, ⟨hb.ext.gens, hb.ext.bare, hb.ext.os⟩, .ref D, (L'.rep ..).mpr ⟨D, vs, n, rfl, fun q => ?_, ?_, h2⟩, .inl ⟨hk, fun b o hb' e => ?_, fun m2 hm2 => ?_⟩⟩)⟩
  · obtain ⟨o, es, ep, ho, r⟩ := hmC
    exact ⟨o, es, ep, q1 _ o (Ne.symm hLC) ho, r⟩
  · obtain ⟨o, ho⟩ := q.2
    rw [hD] at ho; cases ho
  · exact (hs''.2 D hDC).trans (q1 _ _ (Ne.symm hLD) h1)
  · refine (hs''.2 b ?_).trans (q1 b o hb' (hb.ext.heap b o e))
    rintro rfl
    rw [hCad] at e; cases e
  · have : m2 = mm := by
      obtain ⟨o, es, ep, ho, hd, _, hf⟩ := hm2
      obtain ⟨o', es', ep', ho', hd', _, hf'⟩ := hmm
      rw [ho] at ho'; cases ho'; rw [hd] at hd'; cases hd'
      funext y; rw [← hf, ← hf']
    rw [this]
    obtain ⟨o, es, ep, ho, r⟩ := hn
    exact ⟨o, es, ep, (hs''.2 _ hLC).trans ho, r⟩
end Mine

open PySem PySem.W PyProof.Rows
set_option Elab.async false
set_option maxRecDepth 100000
set_option autoImplicit false
set_option linter.unusedVariables false
set_option linter.unusedSimpArgs false
namespace Mine

/-! ### generators: the statements of a body that yields -/
section
variable {M : Model} {A : Around} {R : GenEnd} {Y : Protocol} {n : Nat} {s₀ : Shared} {c : Code} {fs : List Frame} {s : Shared} {env : Env}
  {K : Flow → Sem Fin} {H : Value → Sem Fin} {gd : Bool → Bool} {lv : List Value → List Value}

theorem seg_plain {st : Stmt} (h : wpAny M (A.over c fs) (exec st env) (fun f s' => f = .next ∧ Seg M A R Y n s₀ c (K .next) fs s') (fun _ _ => False) s) : Seg M A R Y n s₀ c ((exec st env).wrap K H gd lv) fs s :=
  seg_wrap (wpAny_mono h (fun f s' ⟨e, q⟩ => e ▸ q) fun _ _ x => x.elim)

theorem seg_If {t : Expr} {body orelse : List Stmt} {pos : Pos} {b : Bool} (h : wpAny M (A.over c fs) (isTrue t env (eval t env)) (fun b' s' => b' = b ∧ Seg M A R Y n s₀ c ((execs (if b then body else orelse) env).wrap K H gd lv) fs s') (fun _ _ => False) s) :
    Seg M A R Y n s₀ c ((exec (.If t body orelse pos) env).wrap K H gd lv) fs s := by
  have e : exec (.If t body orelse pos) env = (standAt pos >>= fun _ => isTrue t env (eval t env)) >>= fun b => if b = true then execs body env else execs orelse env := by
    rw [bind_assoc]; rfl
  rw [e, Sem.bind_eq_wrap', Sem.wrap_wrap]
  refine seg_wrap (wpAny_bind (wpAny_standAt (wpAny_mono h (fun b' s' ⟨eb, q⟩ => ?_) fun _ _ x => x.elim)))
  subst eb
  cases b'
  · exact q
  · exact q

theorem seg_For {x : Str} {px : Pos} {iter : Expr} {body : List Stmt} {pos : Pos}
    (h : wpAny M (A.over c fs) (eval iter env) (fun v s₁ => wpAny M (A.over c fs) (pyIter v) (fun it s₂ => ∀ p, Seg M A R Y n s₀ (.forLoop (.Name x px) it body [] env) (M.den (.forLoop (.Name x px) it body [] env))
      (.ret (fun r => ((match r with | .ok f => (.pure f : Sem Flow) | .error e => .raise e).onRaise fun (x : Value) => do
        if (← field x 1) == Value.none then unsupported "frame.own-activation:exception-without-traceback"
        setFlight x env.frame).wrap K H gd lv) none (gd false) (lv []) c p [] :: fs) s₂) (fun _ _ => False) s₁) (fun _ _ => False) s)
    (hs : ∀ v, foldedSetIterable iter env v = pure v) :
    Seg M A R Y n s₀ c ((exec (.For (.Name x px) iter body [] pos) env).wrap K H gd lv) fs s := by
  have e : exec (.For (.Name x px) iter body [] pos) env = (standAt pos >>= fun _ => eval iter env >>= fun v => standAt iter.pos >>= fun _ => holding [v] (pyIter v)) >>= fun it => runOwn (.forLoop (.Name x px) it body [] env) env := by
    rw [bind_assoc]
    show (standAt pos >>= fun _ => eval iter env >>= fun v => foldedSetIterable iter env v >>= fun v => standAt iter.pos >>= fun _ => holding [v] (pyIter v) >>= fun it => runOwn (.forLoop (.Name x px) it body [] env) env) = _
    congr 1
    funext _
    rw [bind_assoc]
    congr 1
    funext v
    rw [hs, pure_bind, bind_assoc]
  rw [e, Sem.bind_eq_wrap', Sem.wrap_wrap]
  refine seg_wrap (wpAny_bind (wpAny_standAt (wpAny_bind (wpAny_mono h (fun v s₁ h₁ => wpAny_bind (wpAny_standAt (wpAny_holding (wpAny_mono h₁ (fun it s₂ h₂ => ?_) fun _ _ x => x.elim)))) fun _ _ x => x.elim))))
  exact seg_call h₂
end

section
variable {prog : Program} {w : World} {A : Around} {R : GenEnd} {Y : Protocol} {n : Nat} {s₀ : Shared} {fs : List Frame} {s : Shared} {env : Env}
abbrev forK (target : Expr) (it : Value) (body : List Stmt) (env : Env) : Flow → Sem Fin := fun f => match f with
  | .next | .cont => .pure (.again (.forLoop target it body [] env))
  | .brk => .pure (.done .next)
  | .ret v => .pure (.done (.ret v))
abbrev notedH (env : Env) : Value → Sem Fin := fun e => (do noteFrame e env; theTreesLotGoes e : Sem Unit).wrap (fun _ => .raise e) .raise id id

theorem seg_forLoop {x : Str} {px : Pos} {it : Value} {body : List Stmt}
    (h : wpAny (model prog w) (A.over (.forLoop (.Name x px) it body [] env) fs) (pyNext it) (fun r s₁ => match r with
      | none => Seg (model prog w) A R Y n s₀ (.forLoop (.Name x px) it body [] env) (.pure (.again (.block [] env))) fs s₁
      | some v => wpAny (model prog w) (A.over (.forLoop (.Name x px) it body [] env) fs) (assign (.Name x px) env v) (fun _ s₂ =>
          Seg (model prog w) A R Y n s₀ (.forLoop (.Name x px) it body [] env) ((execs body env).wrap (forK (.Name x px) it body env) (notedH env) id id) fs s₂) (fun _ _ => False) s₁) (fun _ _ => False) s) :
    Seg (model prog w) A R Y n s₀ (.forLoop (.Name x px) it body [] env) ((model prog w).den (.forLoop (.Name x px) it body [] env)) fs s := by
  show Seg _ A R Y n s₀ _ ((forTurn (.Name x px) it body [] env).onRaise (fun x => do noteFrame x env; theTreesLotGoes x)) fs s
  have e : forTurn (.Name x px) it body [] env = (standAt (Expr.Name x px).pos >>= fun _ => (pyNext it).onRaise (fun _ => standAt { (Expr.Name x px).pos with line := 0 })) >>= fun r => match r with
      | none => again (.block [] env)
      | some v => assign (.Name x px) env v >>= fun _ => execs body env >>= fun f => match f with
        | .next | .cont => again (.forLoop (.Name x px) it body [] env)
        | .brk => pure (.done .next)
        | .ret v => pure (.done (.ret v)) := by
    unfold forTurn
    rw [bind_assoc]
    congr 1
  rw [e, Sem.onRaise_eq_wrap, Sem.bind_eq_wrap', Sem.wrap_wrap]
  refine seg_wrap (wpAny_bind (wpAny_standAt (wpAny_onRaise (wpAny_mono h (fun r s₁ h₁ => ?_) fun _ _ x => x.elim))))
  cases r with
  | none => exact h₁
  | some v =>
    dsimp only
    rw [Sem.bind_eq_wrap', Sem.wrap_wrap]
    refine seg_wrap (wpAny_mono h₁ (fun _ s₂ h₂ => ?_) fun _ _ x => x.elim)
    rw [Sem.bind_eq_wrap', Sem.wrap_wrap]
    refine (congrArg (fun t => Seg _ A R Y n s₀ _ t fs s₂) (Sem.wrap_congr (execs body env) id id (K' := forK (.Name x px) it body env) (H' := notedH env) (fun f => by cases f <;> rfl) (fun e => Sem.bind_eq_wrap _ _))).mpr h₂
end
end Mine

open PySem PySem.W PyProof.Rows
set_option Elab.async false
set_option maxRecDepth 100000
set_option autoImplicit false
set_option linter.unusedVariables false
set_option linter.unusedSimpArgs false
namespace Mine

/-- the first n sizes that the generator tells -/
def gi : Nat → Option Int → List Int → List Int
  | 0, _, _ => []
  | _ + 1, _, [] => []
  | n + 1, last, x :: r => if x = 127 then [] else if x = 0 then List.replicate (n + 1) (last.getD 0) else x :: gi n (some x) r

/-- what must stand still while the generator sleeps -/
def Ag (pr : Addr → Obj → Prop) (Lg I : Addr) (h h' : Heap) : Prop :=
  (∀ b o, pr b o → h'.get? b = some o) ∧ ∀ b o, b = Lg ∨ b = I → h.get? b = some o → h'.get? b = some o
structure Moved (Lg I : Addr) (s₀ s₁ : Shared) : Prop where
  g : GExt s₀ s₁
  keep : ∀ b o, b ≠ Lg → b ≠ I → s₀.heap.get? b = some o → s₁.heap.get? b = some o
theorem Moved.refl {Lg I : Addr} (s : Shared) : Moved Lg I s s := ⟨.refl s, fun _ _ _ _ e => e⟩
theorem Moved.trans {Lg I : Addr} {s s' s'' : Shared} (x : Moved Lg I s s') (y : Moved Lg I s' s'') : Moved Lg I s s'' :=
  ⟨x.g.trans y.g, fun b o h1 h2 e => y.keep b o h1 h2 (x.keep b o h1 h2 e)⟩
theorem Moved.ext {Lg I : Addr} {s s' : Shared} (x : Ext s s') : Moved Lg I s s' := ⟨x.toGExt, fun b o _ _ e => x.heap b o e⟩
def NotSeq (h : Heap) (b : Addr) : Prop := ∃ o, h.get? b = some o ∧ ∀ vs n, o.data ≠ .seq vs n

def YY (pr : Addr → Obj → Prop) (Lg I : Addr) (N : Nat) (xs : List Int) : Protocol := fun n s₀ v s₁ kap =>
  (∃ x, isInt v x ∧ xs[N - 1 - n]? = some x) ∧ Moved Lg I s₀ s₁ ∧ (NotSeq s₁.heap Lg ∧ NotSeq s₁.heap I) ∧ (n ≠ 0 → ∀ s'' : Shared, Ag pr Lg I s₁.heap s''.heap → kap (.send .none) s'')
def RR (Lg I : Addr) (N : Nat) (xs : List Int) : GenEnd := fun n s₀ r s₁ => r = .ok (.ret .none) ∧ xs.length + n ≤ N ∧ Moved Lg I s₀ s₁

structure GS (env : Env) (pr : Addr → Obj → Prop) (ra : Addr) (grp last x : Str) (lv xv : Option Int) (h : Heap) : Prop where
  prot : ∀ b o, pr b o → h.get? b = some o
  ns : ∃ m, h.Ns env.locals m ∧ m grp = some (.ref ra) ∧ (∃ v, m last = some v ∧ (match lv with | none => v = .none | some i => isInt v i)) ∧ ∀ i, xv = some i → ∃ v, m x = some v ∧ isInt v i

theorem Ns_notSeq {h : Heap} {L : Addr} {m : Str → Option Value} (N : h.Ns L m) : NotSeq h L := by
  obtain ⟨o, es, ep, ho, hd, _⟩ := N
  exact ⟨o, ho, fun vs n e => by rw [hd] at e; cases e⟩
theorem listIter_notSeq {h : Heap} {I l : Addr} {i : Nat} (N : h.IsListIter I l i) : NotSeq h I := by
  obtain ⟨o, ho, hc, hd⟩ := N
  exact ⟨o, ho, fun vs n e => by rw [hd] at e; cases e⟩

section
variable {C : Cx} {k : Nat} {sc : Scope} {A : Around} {env : Env} {pr : Addr → Obj → Prop} {I ra : Addr} {N : Nat} {xs row : List Int} {vs : List Value} {nn : Nat} {grp last x : Str}

theorem GS.ag {lv xv : Option Int} {h h' : Heap} (g : GS env pr ra grp last x lv xv h) (a : Ag pr env.locals I h h') : GS env pr ra grp last x lv xv h' :=
  ⟨a.1, let ⟨m, ⟨o, es, ep, ho, r⟩, q⟩ := g.ns; ⟨m, ⟨o, es, ep, a.2 _ o (.inl rfl) ho, r⟩, q⟩⟩
theorem IsListIter.ag {L : Addr} {h h' : Heap} {l : Addr} {i : Nat} (g : h.IsListIter I l i) (a : Ag pr L I h h') : h'.IsListIter I l i :=
  let ⟨o, ho, r⟩ := g; ⟨o, a.2 _ o (.inr rfl) ho, r⟩

theorem GS.keeps {lv xv : Option Int} {h h' : Heap} (g : GS env pr ra grp last x lv xv h) (a : ∀ b o, h.get? b = some o → h'.get? b = some o) : GS env pr ra grp last x lv xv h' :=
  ⟨fun b o e => a b o (g.prot b o e), let ⟨m, n, q⟩ := g.ns; ⟨m, n.keeps a, q⟩⟩
theorem GS.wd {lv xv : Option Int} {h : Heap} (g : GS env pr ra grp last x lv xv h) (hw : ∃ h₀ : Heap, Wd C h₀ ∧ ∀ b o, h₀.get? b = some o → pr b o) : Wd C h :=
  let ⟨h₀, h1, h2⟩ := hw; h1.keeps fun b o e => g.prot b o (h2 b o e)
theorem IsListIter.keeps' {h h' : Heap} {l : Addr} {i : Nat} (g : h.IsListIter I l i) (a : ∀ b o, h.get? b = some o → h'.get? b = some o) : h'.IsListIter I l i :=
  let ⟨o, ho, r⟩ := g; ⟨o, a _ o ho, r⟩

/-- while True: yield last -/
theorem seg_giWhile {t : Expr} {ln yp ep : Pos} {fs : List Frame} (hw : ∃ h₀ : Heap, Wd C h₀ ∧ ∀ b o, h₀.get? b = some o → pr b o) (O : EnvOK env sc) (hlast : sc.names.lookup last = some .local) (hd : (last == ("__debug__" : Str)) = false)
    (hco : sc.isCoroutine = false) (ht : Ts C k sc [] t true) (hfs : splitAtGen fs = none) (hfg : fs.any Frame.guarded = false) (hR : Room k (A.over (.whileLoop t [.Expr (.Yield (some (.Name last ln)) yp) ep] [] env) fs)) (l : Int) (xv : Option Int) :
    ∀ n s₀ s, n + 1 ≤ N → Moved env.locals I s₀ s → GS env pr ra grp last x (some l) xv s.heap → (∃ j, s.heap.IsListIter I ra j) → xs.drop (N - (n + 1)) = List.replicate (n + 1) l →
      Seg C.M A (RR env.locals I N xs) (YY pr env.locals I N xs) (n + 1) s₀ (.whileLoop t [.Expr (.Yield (some (.Name last ln)) yp) ep] [] env) (C.M.den (.whileLoop t [.Expr (.Yield (some (.Name last ln)) yp) ep] [] env)) fs s := by
  have hint : interactive env = false := by unfold interactive; rw [O.k]; rfl
  have step : ∀ n s₀ s, n + 1 ≤ N → Moved env.locals I s₀ s → GS env pr ra grp last x (some l) xv s.heap → (∃ j, s.heap.IsListIter I ra j) → xs.drop (N - (n + 1)) = List.replicate (n + 1) l →
      (n ≠ 0 → ∀ s, GS env pr ra grp last x (some l) xv s.heap → (∃ j, s.heap.IsListIter I ra j) → Seg C.M A (RR env.locals I N xs) (YY pr env.locals I N xs) n s (.whileLoop t [.Expr (.Yield (some (.Name last ln)) yp) ep] [] env) (C.M.den (.whileLoop t [.Expr (.Yield (some (.Name last ln)) yp) ep] [] env)) fs s) →
      Seg C.M A (RR env.locals I N xs) (YY pr env.locals I N xs) (n + 1) s₀ (.whileLoop t [.Expr (.Yield (some (.Name last ln)) yp) ep] [] env) (C.M.den (.whileLoop t [.Expr (.Yield (some (.Name last ln)) yp) ep] [] env)) fs s := by
    intro n s₀ s hN hm hg hit hx ih
    refine seg_whileLoop ?_
    refine wpAny_mono (ht _ env s hR (hg.wd hw) O (fun x m h => by simp at h)) (fun b s₁ ⟨e₁, hb⟩ => ?_) fun _ _ q => q.elim
    subst hb
    rw [if_pos rfl]
    refine seg_execs_cons (seg_Expr_Yield hfs rfl hfg ?_ (by rw [O.scope]; exact hco) hint)
    have hg₁ := hg.keeps e₁.heap
    obtain ⟨m, hns, hgr, ⟨v, hv, ⟨tk, rfl⟩⟩, _⟩ := hg₁.ns
    refine wpAny_Name (wpAny_loadName_local O.k ((O.kindOf _).trans hlast) hns hv fun kap hk => ?_) hd
    obtain ⟨j, hj⟩ := hit
    have hj₁ := IsListIter.keeps' hj e₁.heap
    refine ⟨⟨l, ⟨tk, rfl⟩, ?_⟩, hm.trans (.ext e₁), ⟨Ns_notSeq hns, listIter_notSeq hj₁⟩, fun hn s'' ha => hk _ _ ?_⟩
    · have := congrArg (fun z => z[0]?) hx
      simp only [List.getElem?_drop] at this
      rw [show N - 1 - n = N - (n + 1) + 0 by omega, this]; simp
    · show Seg _ _ _ _ _ _ _ (.pure (.again _)) _ _
      exact seg_again rfl (ih hn s'' (hg₁.ag ha) ⟨j, IsListIter.ag hj₁ ha⟩)
  intro n
  induction n with
  | zero => exact fun s₀ s h1 h2 h3 h4 h5 => step 0 s₀ s h1 h2 h3 h4 h5 fun q => absurd rfl q
  | succ n ih =>
    refine fun s₀ s h1 h2 h3 h4 h5 => step (n + 1) s₀ s h1 h2 h3 h4 h5 fun _ s' g' i' => ih s' s' (by omega) (.refl _) g' i' ?_
    have := congrArg (List.drop 1) h5
    rw [List.drop_drop, show N - (n + 1 + 1) + 1 = N - (n + 1) by omega] at this
    rw [this]; simp [List.replicate_succ]

theorem GS.seesX {lv : Option Int} {i : Int} {s : Shared} (g : GS env pr ra grp last x lv (some i) s.heap) (O : EnvOK env sc) (hx : sc.names.lookup x = some .local) : Sees s env [(x, .int i)] := fun y m h => by
  rw [List.lookup_cons] at h
  split at h
  · rename_i q
    cases h
    rw [beq_iff_eq.mp q]
    obtain ⟨m, hns, _, _, hv⟩ := g.ns
    obtain ⟨v, hv, hi⟩ := hv i rfl
    exact ⟨v, .inl ⟨(O.kindOf _).trans hx, m, hns, hv⟩, hi⟩
  · simp at h
theorem GS.seesL {l : Int} {xv : Option Int} {s : Shared} (g : GS env pr ra grp last x (some l) xv s.heap) (O : EnvOK env sc) (hx : sc.names.lookup last = some .local) : Sees s env [(last, .int l)] := fun y m h => by
  rw [List.lookup_cons] at h
  split at h
  · rename_i q
    cases h
    rw [beq_iff_eq.mp q]
    obtain ⟨m, hns, _, ⟨v, hv, hi⟩, _⟩ := g.ns
    exact ⟨v, .inl ⟨(O.kindOf _).trans hx, m, hns, hv⟩, hi⟩
  · simp at h

abbrev giBody (t1 t2 t3 t4 : Expr) (rs : List Stmt) (last x : Str) (p1 p2 p3 p4 p5 ln yp ep q1 q2 q3 q4 q5 q6 : Pos) : List Stmt :=
  [.If t1 [.Return none p1] [] p2, .If t2 [.If t3 rs [] p3, .While t4 [.Expr (.Yield (some (.Name last ln)) yp) ep] [] p4] [] p5, .Expr (.Yield (some (.Name x q1)) q2) q3, .Assign [.Name last q4] (.Name x q5) q6]

theorem gi_end {n : Nat} (hN : n + 1 ≤ N) (h : xs.drop (N - (n + 1)) = []) : xs.length + (n + 1) ≤ N := by
  have := List.drop_eq_nil_iff.mp h
  omega

theorem seg_giFor {t1 t2 t3 t4 : Expr} {rs : List Stmt} {p1 p2 p3 p4 p5 ln yp ep q1 q2 q3 q4 q5 q6 px : Pos} {fs : List Frame}
    (hw : ∃ h₀ : Heap, Wd C h₀ ∧ ∀ b o, h₀.get? b = some o → pr b o) (O : EnvOK env sc) (hlast : sc.names.lookup last = some .local) (hx : sc.names.lookup x = some .local) (hd : (last == ("__debug__" : Str)) = false) (hdx : (x == ("__debug__" : Str)) = false)
    (hxl : x ≠ last) (hxg : x ≠ grp) (hlg : last ≠ grp)
    (hco : sc.isCoroutine = false) (ht1 : ∀ i, Ts C k sc [(x, .int i)] t1 (decide (i = 127))) (ht2 : ∀ i, Ts C k sc [(x, .int i)] t2 (decide (i = 0))) (ht3 : ∀ i, Ts C k sc [(last, .int i)] t3 false) (ht4 : Ts C k sc [] t4 true)
    (hfs : splitAtGen fs = none) (hfg : fs.any Frame.guarded = false)
    (hR1 : Room k (A.over (.forLoop (.Name x px) (.ref I) (giBody t1 t2 t3 t4 rs last x p1 p2 p3 p4 p5 ln yp ep q1 q2 q3 q4 q5 q6) [] env) fs))
    (hR2 : ∀ K p, Room k (A.over (.whileLoop t4 [.Expr (.Yield (some (.Name last ln)) yp) ep] [] env) (.ret K none false [] (.forLoop (.Name x px) (.ref I) (giBody t1 t2 t3 t4 rs last x p1 p2 p3 p4 p5 ln yp ep q1 q2 q3 q4 q5 q6) [] env) p [] :: fs)))
    (hpr : ∀ b o, pr b o → b ≠ env.locals ∧ b ≠ I) (hLI : env.locals ≠ I) (hra : ra ≠ I) (hrow : ∀ h : Heap, (∀ b o, pr b o → h.get? b = some o) → IsL h ra vs.toArray nn) (hv : All2 isInt vs row)
    (hsw : ∀ e : Expr, swapsWith (.Name x q5) (some (.Name last q4)) q6.line env = pure false)
    (hend : ∀ n s₀ s c f, (f = .next ∨ f = .ret .none) → xs.length + n ≤ N → Moved env.locals I s₀ s → Seg C.M A (RR env.locals I N xs) (YY pr env.locals I N xs) n s₀ c (.pure (.done f)) fs s) :
    ∀ d n j lv xv s₀ s, row.length - j = d → j ≤ row.length → n + 1 ≤ N → Moved env.locals I s₀ s → GS env pr ra grp last x lv xv s.heap → s.heap.IsListIter I ra j → (lv = none → (row.drop j).head? ≠ some 0) → xs.drop (N - (n + 1)) = gi (n + 1) lv (row.drop j) →
      Seg C.M A (RR env.locals I N xs) (YY pr env.locals I N xs) (n + 1) s₀ (.forLoop (.Name x px) (.ref I) (giBody t1 t2 t3 t4 rs last x p1 p2 p3 p4 p5 ln yp ep q1 q2 q3 q4 q5 q6) [] env)
        (C.M.den (.forLoop (.Name x px) (.ref I) (giBody t1 t2 t3 t4 rs last x p1 p2 p3 p4 p5 ln yp ep q1 q2 q3 q4 q5 q6) [] env)) fs s := by
  have hint : interactive env = false := by unfold interactive; rw [O.k]; rfl
  intro d
  induction d with
  | zero =>
    intro n j lv xv s₀ s hd' hj hN hm hg hit hok hxs
    refine seg_forLoop ?_
    have W := Walks.list (prog := C.prog) (w := C.w) hR1.handled I ra hra vs.toArray
    have hjl : j = vs.toArray.size := by rw [List.size_toArray, hv.length]; omega
    subst hjl
    refine W.done s _ _ ⟨hit, (hrow _ hg.prot).isList⟩ fun h' tk hk => ?_
    dsimp only
    refine seg_again rfl ?_
    refine hend _ _ _ _ _ (.inl rfl) (gi_end hN ?_) (hm.trans ⟨⟨fun _ _ e => e, id, rfl⟩, fun b o _ hb e => hk b o (by simpa using hb) e⟩)
    rw [hxs, List.drop_eq_nil_of_le (by omega)]; rfl
  | succ d ih =>
    intro n j lv xv s₀ s hd' hj hN hm hg hit hok hxs
    refine seg_forLoop ?_
    have W := Walks.list (prog := C.prog) (w := C.w) hR1.handled I ra hra vs.toArray
    have hjl : j < row.length := by omega
    have hjv : j < vs.toArray.size := by rw [List.size_toArray, hv.length]; omega
    refine W.item j s _ _ hjv ⟨hit, (hrow _ hg.prot).isList⟩ fun v h' tk pv st' hk => ?_
    dsimp only
    obtain ⟨i, hi, hvi⟩ := hv.getL (i := j) (a := v) (by simpa using pv)
    have hdrop : row.drop j = i :: row.drop (j + 1) := by
      rw [List.drop_eq_getElem_cons hjl]
      rw [List.getElem?_eq_getElem hjl] at hi
      cases hi; rfl
    obtain ⟨m, hns, hmg, hml, hmx⟩ := hg.ns
    have hns' : h'.Ns env.locals m := by
      obtain ⟨o, es, ep, ho, r⟩ := hns
      exact ⟨o, es, ep, hk _ o (by simpa using hLI) ho, r⟩
    refine wpAny_assign_Name (wpAny_storeName_local ((O.kindOf _).trans hx) hns' (fun h'' hn hs => ?_) (by rw [O.k]; rfl))
    have hk2 : ∀ b o, b ≠ env.locals → h'.get? b = some o → h''.get? b = some o := fun b o hb e => (hs.2 b hb).trans e
    have hm₁ : Moved env.locals I s₀ { s with heap := h'', toks := tk + 1 } := hm.trans ⟨⟨fun _ _ e => e, id, rfl⟩, fun b o h1 h2 e => hk2 b o h1 (hk b o (by simpa using h2) e)⟩
    have hg₁ : GS env pr ra grp last x lv (some i) h'' := ⟨fun b o e => hk2 b o (hpr b o e).1 (hk b o (by simpa using (hpr b o e).2) (hg.prot b o e)), _, hn, by rw [if_neg (Ne.symm hxg)]; exact hmg, by rw [if_neg (Ne.symm hxl)]; exact hml, fun i' e => by cases e; exact ⟨v, by simp, hvi⟩⟩
    have hit₁ : h''.IsListIter I ra (j + 1) := by
      obtain ⟨o, ho, r⟩ := st'.1
      exact ⟨o, hk2 I o (Ne.symm hLI) ho, r⟩
    refine seg_execs_cons (seg_If (b := decide (i = 127)) ?_)
    refine wpAny_mono (ht1 i _ env _ hR1 (hg₁.wd hw) O (GS.seesX (s := { s with heap := h'', toks := tk + 1 }) hg₁ O hx)) (fun b s₁ ⟨e₁, hb⟩ => ⟨hb, ?_⟩) fun _ _ q => q.elim
    subst hb
    by_cases h127 : i = 127
    · rw [decide_eq_true h127, if_pos rfl]
      refine seg_execs_cons (seg_wrap (wpAny_Return_none ?_))
      refine hend _ _ _ _ _ (.inr rfl) (gi_end hN ?_) (hm₁.trans (.ext e₁))
      rw [hxs, hdrop, h127]; rfl
    · rw [decide_eq_false h127, if_neg Bool.false_ne_true]
      refine seg_execs_nil ?_
      dsimp only
      have hg₁ := hg₁.keeps e₁.heap
      have hit₁ := IsListIter.keeps' hit₁ e₁.heap
      have hm₁ := hm₁.trans (.ext e₁)
      refine seg_execs_cons (seg_If (b := decide (i = 0)) ?_)
      refine wpAny_mono (ht2 i _ env s₁ hR1 (hg₁.wd hw) O (hg₁.seesX O hx)) (fun b s₂ ⟨e₂, hb⟩ => ⟨hb, ?_⟩) fun _ _ q => q.elim
      subst hb
      have hg₂ := hg₁.keeps e₂.heap
      have hit₂ := IsListIter.keeps' hit₁ e₂.heap
      have hm₂ := hm₁.trans (.ext e₂)
      by_cases h0 : i = 0
      · rw [decide_eq_true h0, if_pos rfl]
        obtain ⟨l, rfl⟩ : ∃ l, lv = some l := by
          cases lv with
          | some l => exact ⟨l, rfl⟩
          | none => exact absurd (by rw [hdrop, h0]; rfl) (hok rfl)
        refine seg_execs_cons (seg_If (b := false) ?_)
        refine wpAny_mono (ht3 l _ env s₂ hR1 (hg₂.wd hw) O (hg₂.seesL O hlast)) (fun b s₃ ⟨e₃, hb⟩ => ⟨hb, ?_⟩) fun _ _ q => q.elim
        rw [if_neg Bool.false_ne_true]
        refine seg_execs_nil ?_
        dsimp only
        refine seg_execs_cons (seg_While fun p => ?_)
        refine seg_giWhile (x := x) (xv := some i) (k := k) hw O hlast hd hco ht4 ?_ ?_ (hR2 _ _) l _ _ _ hN (hm₂.trans (.ext e₃)) (hg₂.keeps e₃.heap) ⟨_, IsListIter.keeps' hit₂ e₃.heap⟩ ?_
        · show (splitAtGen fs).map _ = none
          rw [hfs]; rfl
        · show (false || fs.any Frame.guarded) = false
          rw [hfg]; rfl
        · rw [hxs, hdrop, h0]; rfl
      · rw [decide_eq_false h0, if_neg Bool.false_ne_true]
        refine seg_execs_nil ?_
        dsimp only
        refine seg_execs_cons (seg_Expr_Yield hfs rfl hfg ?_ (by rw [O.scope]; exact hco) hint)
        obtain ⟨m₂, hns₂, hgr₂, hl₂, hx₂⟩ := hg₂.ns
        obtain ⟨v₂, hv₂, hi₂⟩ := hx₂ i rfl
        have hgi : xs.drop (N - (n + 1)) = i :: gi n (some i) (row.drop (j + 1)) := by rw [hxs, hdrop]; simp [gi, h127, h0]
        refine wpAny_Name (wpAny_loadName_local O.k ((O.kindOf _).trans hx) hns₂ hv₂ fun kap hkap => ?_) hdx
        refine ⟨⟨i, hi₂, ?_⟩, hm₂, ⟨Ns_notSeq hns₂, listIter_notSeq hit₂⟩, fun hn s'' ha => hkap _ _ ?_⟩
        · have := congrArg (fun z => z[0]?) hgi
          simp only [List.getElem?_drop] at this
          rw [show N - 1 - n = N - (n + 1) + 0 by omega, this]; simp
        · obtain ⟨n, rfl⟩ : ∃ n', n = n' + 1 := ⟨n - 1, by omega⟩
          have hg₃ := hg₂.ag ha
          have hit₃ := IsListIter.ag hit₂ ha
          dsimp only
          refine seg_execs_cons (seg_plain ?_)
          obtain ⟨m₃, hns₃, hgr₃, hl₃, hx₃⟩ := hg₃.ns
          obtain ⟨v₃, hv₃, hi₃⟩ := hx₃ i rfl
          refine wpAny_Assign_Name (wpAny_Name (wpAny_loadName_local O.k ((O.kindOf _).trans hx) hns₃ hv₃ (wpAny_storeName_local ((O.kindOf _).trans hlast) hns₃ (fun h₄ hn₄ hs₄ => ?_) (by rw [O.k]; rfl))) hdx) (hsw (.Name x q5))
          have hk4 : ∀ b o, b ≠ env.locals → s''.heap.get? b = some o → h₄.get? b = some o := fun b o hb e => (hs₄.2 b hb).trans e
          refine ⟨rfl, seg_execs_nil (seg_again rfl ?_)⟩
          refine ih n (j + 1) (some i) (some i) s'' _ (by omega) (by omega) (by omega) ⟨⟨fun _ _ e => e, id, rfl⟩, fun b o h1 h2 e => hk4 b o h1 e⟩ ⟨fun b o e => hk4 b o (hpr b o e).1 (hg₃.prot b o e), _, hn₄, by rw [if_neg (Ne.symm hlg)]; exact hgr₃, ⟨v₃, by simp, hi₃⟩, fun i' e => ⟨v₃, by rw [if_neg hxl]; exact hv₃, by cases e; exact hi₃⟩⟩ ?_ (fun q => by cases q) ?_
          · obtain ⟨o, ho, r⟩ := hit₃
            exact ⟨o, hk4 I o (Ne.symm hLI) ho, r⟩
          · have := congrArg (List.drop 1) hgi
            rw [List.drop_drop, show N - (n + 1 + 1) + 1 = N - (n + 1) by omega] at this
            rw [this]; rfl
end
end Mine

open PySem PySem.W PyProof.Rows
set_option Elab.async false
set_option maxRecDepth 100000
set_option autoImplicit false
set_option linter.unusedVariables false
set_option linter.unusedSimpArgs false
namespace Mine

abbrev giFunc (t1 t2 t3 t4 : Expr) (rs : List Stmt) (grp last x : Str) (p1 p2 p3 p4 p5 ln yp ep q1 q2 q3 q4 q5 q6 px a1 a3 a4 a5 a6 : Pos) (a2 : Nat) : List Stmt :=
  [.Assign [.Name last a1] (.Constant .none a2 a3) a4, .For (.Name x px) (.Name grp a5) (giBody t1 t2 t3 t4 rs last x p1 p2 p3 p4 p5 ln yp ep q1 q2 q3 q4 q5 q6) [] a6]

section
variable {C : Cx} {k : Nat} {sc : Scope} {A : Around} {env : Env} {pr : Addr → Obj → Prop} {I ra : Addr} {N : Nat} {xs row : List Int} {vs : List Value} {nn : Nat} {grp last x : Str}

theorem seg_giFunc {t1 t2 t3 t4 : Expr} {rs : List Stmt} {p1 p2 p3 p4 p5 ln yp ep q1 q2 q3 q4 q5 q6 px a1 a3 a4 a5 a6 : Pos} {a2 : Nat}
    (hw : ∃ h₀ : Heap, Wd C h₀ ∧ ∀ b o, h₀.get? b = some o → pr b o) (O : EnvOK env sc) (hgrp : sc.names.lookup grp = some .local) (hlast : sc.names.lookup last = some .local) (hx : sc.names.lookup x = some .local)
    (hdg : (grp == ("__debug__" : Str)) = false) (hd : (last == ("__debug__" : Str)) = false) (hdx : (x == ("__debug__" : Str)) = false)
    (hxl : x ≠ last) (hxg : x ≠ grp) (hlg : last ≠ grp)
    (hco : sc.isCoroutine = false) (ht1 : ∀ i, Ts C k sc [(x, .int i)] t1 (decide (i = 127))) (ht2 : ∀ i, Ts C k sc [(x, .int i)] t2 (decide (i = 0))) (ht3 : ∀ i, Ts C k sc [(last, .int i)] t3 false) (ht4 : Ts C k sc [] t4 true)
    (hR : Room (k + 8) A)
    (hpr : ∀ b o, pr b o → b ≠ env.locals) (hra : ∃ o, pr ra o) (hrow : ∀ h : Heap, (∀ b o, pr b o → h.get? b = some o) → IsL h ra vs.toArray nn) (hv : All2 isInt vs row)
    (hsw : ∀ e : Expr, swapsWith (.Name x q5) (some (.Name last q4)) q6.line env = pure false) (hsw' : swapsWith (.Constant .none a2 a3) (some (.Name last a1)) a4.line env = pure false)
    (hfo : ∀ v, foldedSetIterable (.Name grp a5) env v = pure v)
    (hok : row.head? ≠ some 0) (hN : 1 ≤ N) (hxs : xs = gi N none row)
    (s : Shared) (hI : s.heap.objs.size = I) (hprot : ∀ b o, pr b o → s.heap.get? b = some o) (hns : ∃ m, s.heap.Ns env.locals m ∧ m grp = some (.ref ra)) :
    Seg C.M A (RR env.locals I N xs) (YY pr env.locals I N xs) N s (.func (giFunc t1 t2 t3 t4 rs grp last x p1 p2 p3 p4 p5 ln yp ep q1 q2 q3 q4 q5 q6 px a1 a3 a4 a5 a6 a2) env)
      (C.M.den (.func (giFunc t1 t2 t3 t4 rs grp last x p1 p2 p3 p4 p5 ln yp ep q1 q2 q3 q4 q5 q6 px a1 a3 a4 a5 a6 a2) env)) [] s := by
  obtain ⟨n, rfl⟩ : ∃ n, N = n + 1 := ⟨N - 1, by omega⟩
  obtain ⟨m, hns, hmg⟩ := hns
  have hLI : env.locals ≠ I := by
    obtain ⟨o, es, ep, ho, _⟩ := hns
    exact hI ▸ Nat.ne_of_lt (Heap.lt_size ho)
  have hprI : ∀ b o, pr b o → b ≠ env.locals ∧ b ≠ I := fun b o h => ⟨hpr b o h, hI ▸ Nat.ne_of_lt (Heap.lt_size (hprot b o h))⟩
  refine seg_func (seg_execs_cons (seg_plain ?_))
  refine wpAny_Assign_Name (wpAny_Constant_none (wpAny_storeName_local ((O.kindOf _).trans hlast) hns (fun h' hn hs => ?_) (by rw [O.k]; rfl))) hsw'
  have hk : ∀ b o, b ≠ env.locals → s.heap.get? b = some o → h'.get? b = some o := fun b o hb e => (hs.2 b hb).trans e
  have hsz : h'.objs.size = I := hs.1.trans hI
  have hprot' : ∀ b o, pr b o → h'.get? b = some o := fun b o e => hk b o (hpr b o e) (hprot b o e)
  refine ⟨rfl, ?_⟩
  dsimp only
  refine seg_execs_cons (seg_For ?_ hfo)
  refine wpAny_Name (wpAny_loadName_local O.k ((O.kindOf _).trans hgrp) hn (by rw [if_neg (Ne.symm hlg)]; exact hmg) ?_) hdg
  refine wpAny_pyIter_list (hrow _ hprot').isList ?_
  dsimp only
  rw [hsz]
  intro p
  obtain ⟨ora, hora⟩ := hra
  refine seg_giFor (k := k) (row := row) (vs := vs) (nn := nn) hw O hlast hx hd hdx hxl hxg hlg hco ht1 ht2 ht3 ht4 rfl rfl ?_ ?_ hprI hLI (hprI ra ora hora).2 hrow hv hsw ?_ row.length n 0 none none s _ (by omega) (by omega) (by omega) ?_ ?_ ?_ (fun _ => hok) ?_
  · exact ⟨hR.handled, by have := hR.depth; show A.depth + 1 + 0 + k < _; omega, by have := hR.units; show A.units + 3 + 0 + 20 * k + 100 < _; omega⟩
  · intro K p
    exact ⟨hR.handled, by have := hR.depth; show A.depth + 1 + 0 + k < _; omega, by have := hR.units; show A.units + 3 + 0 + 20 * k + 100 < _; omega⟩
  · intro n s₀ s₁ c f hf h1 h2
    refine seg_leaf (.ok f) ?_
    rcases hf with rfl | rfl
    · exact seg_end (.ok (.ret .none)) ⟨rfl, h1, h2⟩
    · exact seg_end (.ok (.ret .none)) ⟨rfl, h1, h2⟩
  · exact ⟨⟨fun _ _ e => e, id, rfl⟩, fun b o h1 h2 e => Heap.get?_push_of_some _ (hk b o h1 e)⟩
  · refine ⟨fun b o e => Heap.get?_push_of_some _ (hprot' b o e), _, hn.push _, by rw [if_neg (Ne.symm hlg)]; exact hmg, ⟨.none, by simp, rfl⟩, fun i e => by cases e⟩
  · have : (h'.push { cls := .type "list_iterator", data := .fields #[.ref ra, .int 0 0] }).IsListIter h'.objs.size ra 0 := ⟨_, Heap.get?_push_size _ rfl, rfl, rfl⟩
    rw [hsz] at this
    exact this
  · rw [hxs, show n + 1 - (n + 1) = 0 by omega]; rfl

/-- what a call of the generator's def gives: a generator not yet begun -/
def GenSpec (C : Cx) (k : Nat) (f : Addr) (row : List Int) (N : Nat) (xs : List Int) : Prop :=
  ∀ (A : Around) (s : Shared) (ra : Addr) (vs : List Value) (nn : Nat), Room k A → Wd C s.heap → IsL s.heap ra vs.toArray nn → All2 isInt vs row →
    wpAny C.M A (call (.ref f) [.ref ra]) (fun v s' => Ext s s' ∧ ∃ a Lg cd, v = .ref a ∧ s.heap.get? a = none ∧ s.heap.get? Lg = none ∧ a ≠ Lg ∧ s'.heap.IsGen a s.gens.size ∧ s'.gens[s.gens.size]? = some (.fresh cd) ∧ NotSeq s'.heap Lg ∧
      ∀ (pr : Addr → Obj → Prop) (A' : Around) (s'' : Shared), (∃ h₀ : Heap, Wd C h₀ ∧ ∀ b o, h₀.get? b = some o → pr b o) → (∀ b o, pr b o → b ≠ Lg) → (∃ o, pr ra o) → (∀ h : Heap, (∀ b o, pr b o → h.get? b = some o) → IsL h ra vs.toArray nn) → Room k A' →
        (∀ b o, pr b o → s''.heap.get? b = some o) → (∀ o, s'.heap.get? Lg = some o → s''.heap.get? Lg = some o) → Seg C.M A' (RR Lg s''.heap.objs.size N xs) (YY pr Lg s''.heap.objs.size N xs) N s'' cd (C.M.den cd) [] s'') (fun _ _ => False) s

theorem GenSpec.of {f : Addr} {fd : FuncData} {grp : Str} {body : List Stmt} (D : DefOK C f fd [grp] body) (hgen : fd.scope.isGenerator = true) (hgrp : fd.scope.names.lookup grp = some .local)
    (h : ∀ (A : Around) (env : Env) (pr : Addr → Obj → Prop) (ra : Addr) (vs : List Value) (nn : Nat) (s : Shared), Room k A → EnvOK env fd.scope → (∃ h₀ : Heap, Wd C h₀ ∧ ∀ b o, h₀.get? b = some o → pr b o) → (∀ b o, pr b o → b ≠ env.locals) → (∃ o, pr ra o) →
      (∀ h : Heap, (∀ b o, pr b o → h.get? b = some o) → IsL h ra vs.toArray nn) → All2 isInt vs row → (∀ b o, pr b o → s.heap.get? b = some o) → (∃ m, s.heap.Ns env.locals m ∧ m grp = some (.ref ra)) →
        Seg C.M A (RR env.locals s.heap.objs.size N xs) (YY pr env.locals s.heap.objs.size N xs) N s (.func body env) (C.M.den (.func body env)) [] s) : GenSpec C k f row N xs := fun A s ra vs nn R W hl hv => by
  obtain ⟨oc, od, osl, ho⟩ := D.obj
  obtain ⟨p, l, mean, mg, mb, T⟩ := W.top
  refine wpAny_call (codeAny_call_generator (by have := R.depth; omega) (W.k _ _ ho) rfl D.co hgen D.body (codeRec_of W.k D.code) ?_)
  rw [D.bind [.ref ra] rfl, D.closure]
  refine wpAny_pure (wpAny_newFunctionEnv_cells D.kind (fun x hx => ?_) fun env he s₁ x => ?_)
  · simp only [List.zip_cons_cons, List.zip_nil_right, List.mem_cons, List.not_mem_nil, or_false] at hx
    subst hx
    exact .inl hgrp
  · have O : EnvOK env fd.scope := by
      rw [he]
      exact ⟨rfl, D.kind, D.globals, D.builtins, fun n hn => Option.isSome_iff_exists.mp (cellsFrom_some _ _ _ (.inl hn))⟩
    have hL : env.locals = s.heap.objs.size := by rw [he]; rfl
    obtain ⟨h₁, tk₁, rfl⟩ := x.toInCall.same
    have hkeep := x.toInCall.keep
    have hns := x.toInCall.ns
    have hlt : env.locals < h₁.objs.size := by
      obtain ⟨o, es, ep, ho, _⟩ := hns
      exact Heap.lt_size ho
    have dead : ∀ b, s.heap.objs.size ≤ b → s.heap.get? b = none := fun b hb => by
      cases e : s.heap.get? b with
      | none => rfl
      | some o => exact absurd (Heap.lt_size e) (Nat.not_lt.mpr hb)
    refine ⟨T.nolimit.keeps hkeep, ⟨⟨fun g st e => ?_, fun hb => hb.push rfl, rfl⟩, fun b o e => Heap.get?_push_of_some _ (hkeep b o e)⟩, h₁.objs.size, env.locals, .func body env, rfl, dead _ (Nat.le_of_lt (hL ▸ hlt)), dead _ (Nat.le_of_eq hL.symm), Nat.ne_of_gt hlt, ⟨_, _, _, Heap.get?_push_size _ rfl, rfl, rfl, rfl⟩, Array.getElem?_push_size .., Ns_notSeq (hns.push _), fun pr A' s'' hw hpL hra hrow R' hpr hLg => ?_⟩
    · have hlt : g < s.gens.size := (Array.getElem?_eq_some_iff.mp e).1
      exact (Array.getElem?_push_lt hlt).trans ((Array.getElem?_eq_getElem hlt).symm.trans e)
    · refine h A' env pr ra vs nn s'' R' O hw hpL hra hrow hv hpr ⟨_, ?_, bindL_at env.kindOf grp ((O.kindOf _).trans hgrp) [(grp, .ref ra)] (fun _ => none) (.ref ra) (by simp) (by simp)⟩
      obtain ⟨o, es, ep, ho, r⟩ := hns.push { cls := .type "generator", data := .fields #[.int s.gens.size 0, .str fd.name tk₁, .str fd.qualname (tk₁ + 1)] }
      exact ⟨o, es, ep, hLg o ho, r⟩
end
end Mine

open PySem PySem.W PyProof.Rows
set_option Elab.async false
set_option maxRecDepth 100000
set_option autoImplicit false
set_option linter.unusedVariables false
set_option linter.unusedSimpArgs false
namespace Mine

section
variable {prog : Program} {w : World} {A : Around} {E : Value → Shared → Prop} {s : Shared}
theorem pyNext_def {a : Addr} {g n : Nat} {gs : GenState} {P : Nat → Shared → Shared → Prop} {Y : Protocol} {Q : Option Value → Shared → Prop} (hh : A.handled = none)
    (hl : s.heap.NoLimit) (hroom : A.depth < recursionLimit) (hg : s.heap.IsGen a g) (hgs : s.gens[g]? = some gs)
    (hgo : gs.Goes (model prog w) A.in1 (fun n s₀ r s₁ => r = .ok (.ret .none) ∧ P n s₀ s₁) Y n (.send .none) (s.setGen g .running))
    (hY : ∀ v s₁ gs', gs'.bare = true → Y (n - 1) (s.setGen g .running) v s₁ (fun r' s'' => match n with
        | 0 => False
        | m + 1 => gs'.Goes (model prog w) A.in1 (fun n s₀ r s₁ => r = .ok (.ret .none) ∧ P n s₀ s₁) Y m r' s'') → Q (some v) (s₁.setGen g gs'))
    (hP : ∀ s₁, P n (s.setGen g .running) s₁ → ∀ h', (∀ b o, s₁.heap.get? b = some o → h'.get? b = some o) → Q none { s₁.setGen g .finished with heap := h' }) :
    wpAny (model prog w) A (pyNext (.ref a)) Q E s := by
  unfold pyNext
  refine wpAny_bind (wpAny_attempt (wpAny_callSpecial?_slot (name := Str.ofString "__next__") hg.typeIs slot_gen_next
    (wpAny_call_entry slot_gen_next hg.typeIs entry_gen_next ?_ (args_gen_next _))))
  show wpAny _ A.in1 (Builtin.Generator.genWake (.ref a) (.send .none)) _ _ s
  unfold Builtin.Generator.genWake
  refine wpAny_bind (wpAny_holding (wpAny_genNumber hg (wpAny_bind (wpAny_genState hgs ?_))))
  cases gs with
  | running => exact hgo.elim
  | finished => exact hgo.elim
  | _ =>
    refine wpAny_bind (wpAny_roomToWake hl hroom ?_)
    show wpAny _ A.in1 (.resume g (.send .none) [] _) _ _ s
    refine wpAny_resumeQ hgs hgo (fun x s₁ hx => ?_) (fun v s₁ gs' hb hv => ?_)
    · obtain ⟨rfl, hp⟩ := hx
      show wpAny _ A.in1 (newExc (.type "StopIteration") [] >>= _) _ _ _
      refine wpAny_bind ?_
      simp only [newExc, newTuple]
      refine wpAny_bind (wpAny_newObj_type ?_ (by size_fits))
      refine wpAny_bind (m := firstArgMember _ _) (wpAny_of_eq (a := Value.none) (by first | rfl | (simp only [firstArgMember]; rfl)) ?_)
      refine wpAny_newObj_type ?_ (by size_fits)
      simp only [raiseNew]
      refine wpAny_bind (wpAny_bind (wpAny_handled ?_))
      first | rw [show A.in1.handled = none from hh] | rw [hh]
      refine wpAny_throw ?_
      refine wpAny_bind (wpAny_isInstance (T := "StopIteration") (b := true) ⟨_, Heap.get?_push_size _ rfl, rfl⟩ isSubtype_stop ?_)
      exact wpAny_pure (hP s₁ hp _ fun b o hb => Heap.get?_push_of_some _ (Heap.get?_push_of_some _ hb))
    · exact wpAny_pure ⟨v, rfl, wpAny_pure (hY v s₁ gs' hb hv)⟩
end

theorem setGen_other {s : Shared} {g g' : Nat} {x : GenState} (h : g ≠ g') : (s.setGen g x).gens[g']? = s.gens[g']? := by simp [Shared.setGen, h]

theorem AllBare.setGen {s : Shared} {g : Nat} {x : GenState} (h : AllBare s.gens) (hx : x.bare = true) : AllBare (s.setGen g x).gens := fun y hy => by
  obtain ⟨i, hi, e⟩ := Array.mem_iff_getElem.mp hy
  have e : (s.setGen g x).gens[i]? = some y := by rw [Array.getElem?_eq_getElem hi, e]
  by_cases hg : g = i
  · subst hg
    have hlt : g < s.gens.size := by simpa [Shared.setGen] using hi
    have := setGen_self (s := s) (x := x) (Array.getElem?_eq_getElem hlt)
    rw [this] at e; cases e; exact hx
  · rw [setGen_other hg] at e
    obtain ⟨hi', e'⟩ := Array.getElem?_eq_some_iff.mp e
    exact h _ (e' ▸ Array.getElem_mem hi')

/-- a step of a generator of its own, seen from before it was made -/
theorem GExt.step {s t s₁ : Shared} {g : Nat} {gs' : GenState} (hgs : g = s.gens.size) (x : GExt s t) (y : GExt (t.setGen g .running) s₁) (hb : gs'.bare = true) : GExt s (s₁.setGen g gs') := by
  refine ⟨fun g' st e => ?_, fun h => ?_, y.os.trans x.os⟩
  · have hlt : g' < s.gens.size := (Array.getElem?_eq_some_iff.mp e).1
    have hne : g ≠ g' := by omega
    rw [setGen_other hne]
    refine y.gens g' st ?_
    rw [setGen_other hne]
    exact x.gens g' st e
  · exact AllBare.setGen (y.bare (AllBare.setGen (x.bare h) rfl)) hb

variable {C : Cx} {k : Nat} {sc : Scope} {ρ : Vars} {own : List Str} {rest : List Stmt} {P : MF → Vars → List Str → Prop}

theorem Rep.off {h h' : Heap} {Mu : Addr → Prop} {v : Value} {m : MV} {W : Addr → Prop} (x : Rep h Mu v m) (hw : ∀ b, W b → ∀ o vs n, h.get? b = some o → o.data ≠ .seq vs n) (k : ∀ b o, ¬ W b → h.get? b = some o → h'.get? b = some o) : Rep h' Mu v m := by
  have key : ∀ {a : Addr} {o : Obj} {vs : Array Value} {n : Nat}, h.get? a = some o → o.data = .seq vs n → h'.get? a = some o := fun {a o vs n} ho hd => k a o (fun hm => hw a hm o vs n ho hd) ho
  have keyL : ∀ {α : Type} {R R' : Value → α → Prop} {v : Value} {l : List α}, RepL h Mu R v l → (∀ v a, R v a → R' v a) → RepL h' Mu R' v l := fun {α R R' v l} ⟨a, vs, n, h1, h2, h3, h4⟩ hr => ⟨a, vs, n, h1, h2, key h3 rfl, h4.mono hr⟩
  cases m with
  | none => exact x
  | bool b => exact x
  | int i => exact x
  | str s => exact x
  | il l => exact keyL x fun _ _ y => y
  | sl l => exact keyL x fun _ _ y => y
  | bl l => exact keyL x fun _ _ y => y
  | tb l => exact keyL x fun _ _ y => keyL y fun _ _ y => y
  | lo l =>
    obtain ⟨a, vs, rfl, hn, ⟨o, ho, hc, n, hd⟩, hv⟩ := x
    exact ⟨a, vs, rfl, hn, ⟨o, key ho hd, hc, n, hd⟩, hv⟩
  | ti l =>
    obtain ⟨a, vs, rfl, hn, ⟨o, ho, hc, n, hd⟩, hv⟩ := x
    exact ⟨a, vs, rfl, hn, ⟨o, key ho hd, hc, n, hd⟩, hv⟩
  | pr s l =>
    obtain ⟨a, v1, v2, rfl, hn, ⟨o, ho, hc, n, hd⟩, h1, h2⟩ := x
    exact ⟨a, v1, v2, rfl, hn, ⟨o, key ho hd, hc, n, hd⟩, h1, keyL h2 fun _ _ y => y⟩

theorem FrameOK.moveOff {env : Env} {B : Addr → Prop} {pr : Addr → Obj → Prop} {ad : Str → Addr} {s s' : Shared} {W : Addr → Prop} (F : FrameOK C sc env B pr own ad ρ s) (hw : ∀ b, W b → Off env own ad b ∧ ∀ o vs n, s.heap.get? b = some o → o.data ≠ .seq vs n)
    (k : ∀ b o, ¬ W b → s.heap.get? b = some o → s'.heap.get? b = some o) (hp : ∀ a o, pr a o → ¬ W a) : FrameOK C sc env B pr own ad ρ s' := by
  have hns : ∀ {m : Str → Option Value}, s.heap.Ns env.locals m → s'.heap.Ns env.locals m := fun {m} ⟨o, es, ep, ho, hd, r⟩ => ⟨o, es, ep, k _ o (fun h => (hw _ h).1.1 rfl) ho, hd, r⟩
  have hce : ∀ {x : Str} {c : Addr} {v : Option Value}, env.cells.lookup x = some c → s.heap.IsCell c v → s'.heap.IsCell c v := fun {x c v} hx ⟨o, ho, hd⟩ => ⟨o, k _ o (fun h => (hw _ h).1.2.1 x hx) ho, hd⟩
  refine ⟨F.wds, F.envOk, let ⟨m, h⟩ := F.ns; ⟨m, hns h⟩, fun y c hy => let ⟨v, h⟩ := F.cells y c hy; ⟨v, hce hy h⟩, F.apart, fun a o h => let ⟨h1, r⟩ := F.prot a o h; ⟨k a o (hp a o h) h1, r⟩, F.base, fun y hy => ?_, F.inj, fun y my hy => ?_⟩
  · obtain ⟨h1, vs, n, h2⟩ := F.owns y hy
    exact ⟨h1, vs, n, k _ _ (fun h => (hw _ h).1.2.2 y hy rfl) h2⟩
  · obtain ⟨u, h1, h2, h3⟩ := F.vars y my hy
    refine ⟨u, ?_, h2.off (fun b hb => (hw b hb).2) k, h3⟩
    rcases h1 with ⟨h1, m1, h2, h3⟩ | ⟨h1, c, h2, h3⟩
    · exact .inl ⟨h1, m1, hns h2, h3⟩
    · exact .inr ⟨h1, c, h2, hce h2 h3⟩
end Mine

open PySem PySem.W PyProof.Rows
set_option Elab.async false
set_option maxRecDepth 100000
set_option autoImplicit false
set_option linter.unusedVariables false
set_option linter.unusedSimpArgs false
namespace Mine
variable {C : Cx} {k : Nat} {sc : Scope} {ρ : Vars} {own : List Str} {rest : List Stmt} {P : MF → Vars → List Str → Prop}

theorem Room.in1 {A : Around} (R : Room (k + 1) A) : Room k A.in1 := ⟨R.handled, by have := R.depth; show A.depth + k < _; omega, by have := R.units; show A.units + 1 + _ + _ < _; omega⟩

/-- for x in f(r), f the generator's def -/
theorem Ex.forGen {σ : Type} (enc : σ → Vars) (inv : Nat → σ → Prop) {x fn r : Str} {px pos cp np rp : Pos} {f : Addr} {oc : Value} {od : Option Addr} {fd : FuncData} {osl : Array (Option Value)} {body : List Stmt} {row xs : List Int} {N : Nat}
    (g : Gl C sc fn (.ref f)) (ho : C.K.lookup f = some ⟨oc, od, .func fd, osl⟩) (G : GenSpec C k f row N xs) (hr : ρ.lookup r = some (.il row)) (hro : r ∉ own) (hdr : (r == ("__debug__" : Str)) = false) (hxo : x ∉ own)
    (hx : sc.names.lookup x = some .local ∨ sc.names.lookup x = some .cell) (hs : ∀ env v, foldedSetIterable (.Call (.Name fn np) [.Name r rp] [] cp) env v = pure v) (s₀ : σ) (h0 : inv 0 s₀) (hN : 1 ≤ N) (hlen : xs.length ≤ N)
    (hin : ∀ x m, (enc s₀).lookup x = some m → ρ.lookup x = some m)
    (hb : ∀ i a st, xs[i]? = some a → i < N → inv i st → Ex C (k + 1) sc ((x, .int a) :: enc st) own body (fun mf ρ' own' => (∀ x ∈ own, x ∈ own') ∧ match mf with
      | .next | .cont => i + 1 < N ∧ ∃ st', inv (i + 1) st' ∧ ∀ x m, (enc st').lookup x = some m → ρ'.lookup x = some m
      | .brk => Ex C (k + 1) sc ρ' own rest P
      | .ret m => P (.ret m) ρ' own'))
    (hend : ∀ st, xs.length < N → inv xs.length st → Ex C (k + 1) sc (enc st) own rest P) : Ex C (k + 1) sc ρ own (.For (.Name x px) (.Call (.Name fn np) [.Name r rp] [] cp) body [] pos :: rest) P := fun A env s B pr ad R F => by
  refine wpAny_execs_cons (wpAny_For (Call_Name rfl (g A env s np _ _ F.wd F.envOk ?_)) (hs env))
  rw [show backTo cp (starEach [.Name r rp] env) = [(false, eval (.Name r rp) env)] from rfl]
  refine Calls.callWith_function (o := ⟨oc, od, .func fd, osl⟩) (fd := fd) (Calls.evalArgs_plain (Calls.spliced_cons ?_))
  obtain ⟨vr, hr1, hr2, _⟩ := F.vars r _ hr
  obtain ⟨ra, vs, nn, rfl, hmu, hla, hv⟩ := hr2
  refine wpAny_Name (hr1.load F.envOk (Calls.spliced_nil ⟨⟨F.wd.k _ _ ho, rfl⟩, ?_⟩)) hdr
  refine wpAny_mono (G A s ra vs nn (R.le (by omega)) F.wd hla hv) (fun v s₂ h₂ => ?_) fun _ _ q => q.elim
  obtain ⟨e₂, a, Lg, cd, rfl, hda, hdL, haL, hgen, hgs, hnsq, hgo⟩ := h₂
  refine wpAny_pyIter_gen hgen ?_
  -- the row's list, and what the generator leans on
  have hraOff : ∀ ad', (∀ y ∈ own, ad' y ≠ ra) → Off env own ad' ra := fun ad' h => by
    refine ⟨?_, fun y hy => ?_, fun y hy e => h y hy e⟩
    · rintro rfl
      obtain ⟨m, hns⟩ := F.ns
      exact ns_not_list hns hla
    · obtain ⟨v, hc⟩ := F.cells y ra hy
      exact cell_not_list hc hla
  have hraO : Off env own ad ra := hraOff ad fun y hy e => hmu (.inl ⟨y, hy, fun q => hro (q ▸ hy), e⟩)
  have hLO : Off env own ad Lg := F.off hdL
  have haO : Off env own ad a := F.off hda
  let I := s₂.heap.objs.size
  let prg : Addr → Obj → Prop := fun b o => pr b o ∨ (b = ra ∧ s.heap.get? b = some o)
  have hprgL : ∀ b o, prg b o → b ≠ Lg := fun b o h => by
    rintro rfl
    rcases h with h | ⟨_, h⟩
    · rw [(F.prot _ o h).1] at hdL; cases hdL
    · rw [h] at hdL; cases hdL
  have hprgI : ∀ b o, prg b o → b ≠ I := fun b o h => by
    rcases h with h | ⟨_, h⟩
    · exact Nat.ne_of_lt (Heap.lt_size (e₂.heap b o (F.prot _ o h).1))
    · exact Nat.ne_of_lt (Heap.lt_size (e₂.heap b o h))
  have hLI : Lg ≠ I := by
    obtain ⟨o, ho, _⟩ := hnsq
    exact Nat.ne_of_lt (Heap.lt_size ho)
  have haI : a ≠ I := by
    obtain ⟨o, _, _, ho, _⟩ := hgen
    exact Nat.ne_of_lt (Heap.lt_size ho)
  have hraL : ra ≠ Lg := by rintro rfl; rw [show s.heap.get? ra = _ from hla] at hdL; cases hdL
  have hraI : ra ≠ I := Nat.ne_of_lt (Heap.lt_size (e₂.heap ra _ hla))
  have hrow : ∀ h : Heap, (∀ b o, prg b o → h.get? b = some o) → IsL h ra vs.toArray nn := fun h hp => hp ra _ (.inr ⟨rfl, hla⟩)
  have hw : ∃ h₀ : Heap, Wd C h₀ ∧ ∀ b o, h₀.get? b = some o → prg b o := let ⟨h₀, h1, h2⟩ := F.wds; ⟨h₀, h1, fun b o e => .inl (h2 b o e)⟩
  refine codeAny_forLoop (fun n t => ∃ i st ad' gs, n = N - i ∧ i < N ∧ i ≤ xs.length ∧ inv i st ∧ FrameOK C sc env B pr own ad' (enc st) t ∧ GExt s t ∧ t.gens[s.gens.size]? = some gs ∧ t.heap.IsGen a s.gens.size ∧ IsL t.heap ra vs.toArray nn ∧ NotSeq t.heap Lg ∧
      Off env own ad' ra ∧ Off env own ad' Lg ∧ Off env own ad' a ∧ ((i = 0 ∧ t.heap.objs.size = I) ∨ (i ≠ 0 ∧ NotSeq t.heap I ∧ Off env own ad' I)) ∧
      ∀ s'' : Shared, Ag prg Lg I t.heap s''.heap → (i = 0 → s''.heap.objs.size = I) → gs.Goes C.M A.in1 (RR Lg I N xs) (YY prg Lg I N xs) (N - i) (.send .none) s'')
    (fun n t hI => ?turn) (N - 0) ⟨0, s₀, ad, .fresh cd, rfl, by omega, by omega, h0, (F.ext e₂).weak (fun _ h => h) hin, e₂.toGExt, hgs, hgen, e₂.heap _ _ hla, hnsq, hraO, hLO, haO, .inl ⟨rfl, rfl⟩, fun s'' hag h0' => ⟨rfl, ?start⟩⟩
  case start =>
    have := hgo prg A.in1 s'' hw hprgL ⟨_, .inr ⟨rfl, hla⟩⟩ hrow R.in1 hag.1 (fun o ho => hag.2 _ o (.inl rfl) ho)
    rw [h0' rfl] at this
    exact this
  case turn =>
    obtain ⟨i, st, ad₁, gs, hn, hiN, hile, hinv, F₁, g₁, hgs₁, hgen₁, hla₁, hnsq₁, hraO₁, hLO₁, haO₁, hIO, hgo₁⟩ := hI
    have T : t.heap.NoLimit := let ⟨p, l, mean, mg, mb, T⟩ := F₁.wd.top; T.nolimit
    have hprg₁ : ∀ b o, prg b o → t.heap.get? b = some o := fun b o h => by
      rcases h with h | ⟨rfl, h⟩
      · exact (F₁.prot b o h).1
      · rw [show s.heap.get? b = _ from hla] at h; cases h; exact hla₁
    have hW : ∀ b, (b = Lg ∨ b = I) → Off env own ad₁ b ∧ ∀ o vs n, t.heap.get? b = some o → o.data ≠ .seq vs n := fun b hb => by
      rcases hb with rfl | rfl
      · refine ⟨hLO₁, fun o vs n e => ?_⟩
        obtain ⟨o', h1, h2⟩ := hnsq₁
        rw [h1] at e; cases e; exact h2 vs n
      · rcases hIO with ⟨_, h⟩ | ⟨_, ⟨o', h1, h2⟩, h3⟩
        · have dead : t.heap.get? I = none := by
            cases e : t.heap.get? I with
            | none => rfl
            | some o => have := Heap.lt_size e; rw [h] at this; exact absurd this (Nat.lt_irrefl _)
          exact ⟨F₁.off dead, fun o vs n e => by rw [dead] at e; cases e⟩
        · exact ⟨h3, fun o vs n e => by rw [h1] at e; cases e; exact h2 vs n⟩
    have hWp : ∀ a o, pr a o → ¬ (a = Lg ∨ a = I) := fun a o h q => q.elim (hprgL a o (.inl h)) (hprgI a o (.inl h))
    have hgo₂ := hgo₁ (t.setGen s.gens.size .running) ⟨hprg₁, fun _ _ _ e => e⟩ (fun h => by
      rcases hIO with ⟨_, q⟩ | ⟨q, _⟩
      · exact q
      · exact absurd h q)
    rw [show N - i = N - (i + 1) + 1 by omega] at hgo₂
    refine pyNext_def (P := fun n s₀ s₁ => xs.length + n ≤ N ∧ Moved Lg I s₀ s₁) R.handled T (by have := R.depth; omega) hgen₁ hgs₁ hgo₂ (fun v s₁ gs' hbare hv => ?_) (fun s₁ hfin h' hk => ?_)
    · obtain ⟨⟨xv, hxv, hget⟩, hmv, ⟨hq1, hq2⟩, hkap⟩ := hv
      rw [show N - 1 - (N - (i + 1) + 1 - 1) = i by omega] at hget
      have F₂ : FrameOK C sc env B pr own ad₁ (enc st) (s₁.setGen s.gens.size gs') := F₁.moveOff (W := fun b => b = Lg ∨ b = I) hW (fun b o hb e => hmv.keep b o (fun q => hb (.inl q)) (fun q => hb (.inr q)) e) hWp
      have g₂ : GExt s (s₁.setGen s.gens.size gs') := GExt.step rfl g₁ hmv.g hbare
      have hgs₂ : (s₁.setGen s.gens.size gs').gens[s.gens.size]? = some gs' := setGen_self (hmv.g.gens _ _ (setGen_self hgs₁))
      dsimp only
      refine wpAny_assign_Name (wpAny_mono (store_put (C := C) (fr := false) (m := .int xv) (Ext.refl _) hxv F₂.envOk F₂.ns F₂.cells hx) (fun _ t₃ hput => ?_) fun _ _ x => x)
      have F₃ := (F₂.put hput (.inr rfl)).weak (own' := own) (fun y hy => List.mem_filter.mpr ⟨hy, by simpa using fun q : y = x => hxo (q ▸ hy)⟩) (fun _ _ h => h)
      have keep₃ : ∀ b, Off env own ad₁ b → ∀ o, s₁.heap.get? b = some o → t₃.heap.get? b = some o := fun b hoff o ho => by
        obtain ⟨_, v', _, hp⟩ := hput
        rcases hp with ⟨_, hk3, _⟩ | ⟨_, c, hc, hk3, _⟩
        · exact hk3 b o hoff.1 ho
        · exact hk3 b o (fun q => hoff.2.1 x (q ▸ hc)) ho
      have hset : ∀ b, (b = ra ∨ b = Lg ∨ b = a ∨ b = I) → Off env own ad₁ b := fun b hb => by
        rcases hb with rfl | rfl | rfl | rfl
        · exact hraO₁
        · exact hLO₁
        · exact haO₁
        · exact (hW _ (.inr rfl)).1
      have F₄ := F₃.more (pr' := fun b o => (b = ra ∨ b = Lg ∨ b = a ∨ b = I) ∧ t₃.heap.get? b = some o) fun b o hb => ⟨hb.2, hset b hb.1⟩
      refine wpAny_mono (hb i xv st hget hiN hinv A env t₃ B _ ad₁ R F₄) (fun f t₄ he => ?_) fun _ _ x => x.elim
      obtain ⟨mf, ρ', own', ad', F₅, g₅, ⟨hown, hp⟩, hf⟩ := he
      have g : GExt s t₄ := (g₂.trans hput.g).trans g₅
      have F₆ := (F₅.weak (own' := own) hown fun _ _ h => h).less F.wds F.base
      have all : ∀ b, (b = ra ∨ b = Lg ∨ b = a ∨ b = I) → ∀ o, s₁.heap.get? b = some o → t₄.heap.get? b = some o ∧ Off env own ad' b := fun b hb o ho => by
        obtain ⟨q1, q2, q3, q4⟩ := F₅.prot b o (.inr ⟨hb, keep₃ b (hset b hb) o ho⟩)
        exact ⟨q1, q2, q3, fun y hy => q4 y (hown y hy)⟩
      have hgs₄ : t₄.gens[s.gens.size]? = some gs' := g₅.gens _ _ (hput.g.gens _ _ hgs₂)
      have hra₂ : IsL s₁.heap ra vs.toArray nn := hmv.keep _ _ hraL hraI hla₁
      obtain ⟨oL, hoL, hsL⟩ := hq1
      obtain ⟨oI, hoI, hsI⟩ := hq2
      have hgen₂ : s₁.heap.IsGen a s.gens.size := let ⟨o, nm, qn, ho, r⟩ := hgen₁; ⟨o, nm, qn, hmv.keep a o haL haI ho, r⟩
      have hgen₄ : t₄.heap.IsGen a s.gens.size ∧ Off env own ad' a := let ⟨o, nm, qn, ho, r⟩ := hgen₂; ⟨⟨o, nm, qn, (all a (.inr (.inr (.inl rfl))) o ho).1, r⟩, (all a (.inr (.inr (.inl rfl))) o ho).2⟩
      have nxt : i + 1 < N → (∃ st', inv (i + 1) st' ∧ ∀ x m, (enc st').lookup x = some m → ρ'.lookup x = some m) → ∃ m, m < n ∧ ∃ i st ad' gs, m = N - i ∧ i < N ∧ i ≤ xs.length ∧ inv i st ∧ FrameOK C sc env B pr own ad' (enc st) t₄ ∧ GExt s t₄ ∧ t₄.gens[s.gens.size]? = some gs ∧ t₄.heap.IsGen a s.gens.size ∧ IsL t₄.heap ra vs.toArray nn ∧ NotSeq t₄.heap Lg ∧
          Off env own ad' ra ∧ Off env own ad' Lg ∧ Off env own ad' a ∧ ((i = 0 ∧ t₄.heap.objs.size = I) ∨ (i ≠ 0 ∧ NotSeq t₄.heap I ∧ Off env own ad' I)) ∧
          ∀ s'' : Shared, Ag prg Lg I t₄.heap s''.heap → (i = 0 → s''.heap.objs.size = I) → gs.Goes C.M A.in1 (RR Lg I N xs) (YY prg Lg I N xs) (N - i) (.send .none) s'' := fun hlt ⟨st', h1, h2⟩ => by
        refine ⟨N - (i + 1), by omega, i + 1, st', ad', gs', rfl, hlt, ?_, h1, F₆.weak (fun _ h => h) h2, g, hgs₄, hgen₄.1, (all ra (.inl rfl) _ hra₂).1, ⟨oL, (all Lg (.inr (.inl rfl)) _ hoL).1, hsL⟩,
          (all ra (.inl rfl) _ hra₂).2, (all Lg (.inr (.inl rfl)) _ hoL).2, hgen₄.2, .inr ⟨by omega, ⟨oI, (all I (.inr (.inr (.inr rfl))) _ hoI).1, hsI⟩, (all I (.inr (.inr (.inr rfl))) _ hoI).2⟩, fun s'' hag _ => ?_⟩
        · have := (List.getElem?_eq_some_iff.mp hget).1
          omega
        · refine hkap (by omega) s'' ⟨hag.1, fun b o hb' ho' => hag.2 b o hb' (all b (by rcases hb' with h | h; exact .inr (.inl h); exact .inr (.inr (.inr h))) o ho').1⟩
      cases mf with
      | next =>
        obtain rfl := hf
        exact nxt hp.1 hp.2
      | cont =>
        obtain rfl := hf
        exact nxt hp.1 hp.2
      | brk =>
        obtain rfl := hf
        exact wpAny_mono (hp A env t₄ B pr ad' R F₆) (fun f s' he => he.after g) fun _ _ x => x
      | ret m =>
        obtain ⟨v, rfl, hr⟩ := hf
        exact ⟨.ret m, ρ', own', ad', F₅.less F.wds F.base, g, hp, v, rfl, hr⟩
    · obtain ⟨hle, hmv⟩ := hfin
      have hi' : i = xs.length := by omega
      subst hi'
      have g₂ : GExt s (s₁.setGen s.gens.size .finished) := GExt.step rfl g₁ hmv.g rfl
      refine wpAny_execs_nil ?_
      exact wpAny_mono (hend st hiN hinv A env _ B pr ad₁ R (F₁.moveOff (W := fun b => b = Lg ∨ b = I) hW (fun b o hb e => hk b o (hmv.keep b o (fun q => hb (.inl q)) (fun q => hb (.inr q)) e)) hWp)) (fun f s' he => he.after ⟨g₂.gens, g₂.bare, g₂.os⟩) fun _ _ x => x
end Mine

open PySem PySem.W PyProof.Rows
set_option Elab.async false
set_option maxRecDepth 100000
set_option autoImplicit false
set_option linter.unusedVariables false
set_option linter.unusedSimpArgs false
namespace Mine
variable {C : Cx} {k : Nat} {sc : Scope} {ρ : Vars} {own : List Str} {rest : List Stmt} {P : MF → Vars → List Str → Prop}

theorem Ev.neg {e : Expr} {p : Pos} {f : Bool} {a : Int} (h : Ev C k f sc ρ e (.int a)) : Ev C k true sc ρ (.UnaryOp .USub e p) (.int (-a)) := fun A env s R W O S =>
  wpAny_UnaryOp (h.go R W O S fun v s₁ e₁ r₁ W₁ S₁ => by
    obtain ⟨t, rfl⟩ := r₁
    exact P.neg_int ⟨e₁.trans Ext.toks, _, rfl⟩)
theorem As.ev' {x : Str} {px pos : Pos} {e : Expr} {fr : Bool} {m : MV} (h : Ev C k fr sc ρ e m) (hx : sc.names.lookup x = some .local ∨ sc.names.lookup x = some .cell) (hs : ∀ env, EnvOK env sc → swapsWith e (some (.Name x px)) pos.line env = pure false) : As C k sc ρ (.Assign [.Name x px] e pos) x fr m :=
  fun A env s R W O S hns hce => wpAny_Assign_Name (h.go R W O S fun v s₁ e₁ r₁ W₁ S₁ => wpAny_mono (store_put e₁ r₁ O hns hce hx) (fun _ s' hp => ⟨rfl, hp⟩) fun _ _ x => x) (hs env O)
theorem swaps_cell {env : Env} {elt : Expr} {gs : List Comprehension} {scope : Scope} {pos px : Pos} {x : Str} {l : Nat} (O : EnvOK env sc) (h : sc.names.lookup x = some .cell) : swapsWith (.ListComp elt gs scope pos) (some (.Name x px)) l env = pure false := by
  show (pure (env.blockKind == .function && env.kindOf x == some .local && px.line == pos.line && !(scope.names.any fun (n, k) => n == x && (k == .local || k == .cell))) : Sem Bool) = _
  rw [O.kindOf, h]
  rw [show (some NameKind.cell == some NameKind.local) = false from rfl]
  simp
theorem swaps_local {env : Env} {elt : Expr} {gs : List Comprehension} {scope : Scope} {pos px : Pos} {x : Str} {l : Nat} (O : EnvOK env sc) (h : sc.names.lookup x = some .local) (hl : (px.line == pos.line) = true) (hn : (scope.names.any fun (n, k) => n == x && (k == .local || k == .cell)) = false) : swapsWith (.ListComp elt gs scope pos) (some (.Name x px)) l env = pure true := by
  show (pure (env.blockKind == .function && env.kindOf x == some .local && px.line == pos.line && !(scope.names.any fun (n, k) => n == x && (k == .local || k == .cell))) : Sem Bool) = _
  rw [O.kindOf, h, hl, hn]
  unfold Env.blockKind
  rw [O.k]
  rfl
theorem CScope.of {scope sc : Scope} (h1 : scope.kind = .function) (h2 : (scope.names.map (·.1)).Nodup) (h3 : (scope.names.all fun p => p.2 != .free || sc.names.lookup p.1 == some .cell) = true) : CScope scope sc :=
  ⟨h1, h2, fun n hn => by
    have := List.all_eq_true.mp h3 _ hn
    simpa using this⟩
def csOk (scope sc : Scope) : Bool := decide ((scope.names.map (·.1)).Nodup) && scope.names.all fun p => p.2 != .free || sc.names.lookup p.1 == some .cell
theorem CScope.of' {scope sc : Scope} (h1 : scope.kind = .function) (h : csOk scope sc = true) : CScope scope sc := by
  unfold csOk at h
  rw [Bool.and_eq_true, decide_eq_true_eq] at h
  exact CScope.of h1 h.1 h.2
theorem caps_nil {scope : Scope} {ρ : Vars} : Caps scope ρ [] := fun y m h => by simp at h
theorem caps_cons {scope : Scope} {ρ ρ' : Vars} {y : Str} {m : MV} (h1 : scope.names.lookup y = some .free) (h2 : ρ.lookup y = some m) (h : Caps scope ρ ρ') : Caps scope ρ ((y, m) :: ρ') := fun z n e => by
  rw [List.lookup_cons] at e
  split at e
  · rename_i q; cases e; rw [beq_iff_eq.mp q]; exact ⟨h1, h2⟩
  · exact h z n e
theorem As.eq {st : Stmt} {x : Str} {fr : Bool} {m m' : MV} (h : As C k sc ρ st x fr m) (e : m = m') : As C k sc ρ st x fr m' := e ▸ h
theorem Ex.seq {ρ₂ : Vars} {own₂ : List Str} {ss : List Stmt} (h : Ex C k sc ρ own ss (fun mf ρ' own' => mf = .next ∧ (∀ x ∈ own₂, x ∈ own') ∧ ∀ x m, ρ₂.lookup x = some m → ρ'.lookup x = some m)) (hr : Ex C k sc ρ₂ own₂ rest P) : Ex C k sc ρ own (ss ++ rest) P := fun A env s B pr ad R F => by
  rw [execs_app]
  refine wpAny_bind (wpAny_mono (h A env s B pr ad R F) (fun f s' ⟨mf, ρ', own', ad', F', g, ⟨hm, ho, hs⟩, hf⟩ => ?_) fun _ _ x => x.elim)
  subst hm
  obtain rfl := hf
  exact wpAny_mono (hr A env s' B pr ad' R (F'.weak ho hs)) (fun f s'' he => he.after g) fun _ _ x => x
theorem Ex.iteJ (ρ₂ : Vars) {t : Expr} {body orelse : List Stmt} {p : Pos} {b : Bool} (ht : Ts C k sc ρ t b) (h1 : b = true → Ex C k sc ρ own body (fun mf ρ' own' => mf = .next ∧ (∀ x ∈ own, x ∈ own') ∧ ∀ x m, ρ₂.lookup x = some m → ρ'.lookup x = some m))
    (h2 : b = false → Ex C k sc ρ own orelse (fun mf ρ' own' => mf = .next ∧ (∀ x ∈ own, x ∈ own') ∧ ∀ x m, ρ₂.lookup x = some m → ρ'.lookup x = some m)) (hr : Ex C k sc ρ₂ own rest P) : Ex C k sc ρ own (.If t body orelse p :: rest) P :=
  Ex.ite ht (fun h => Ex.seq (h1 h) hr) (fun h => Ex.seq (h2 h) hr)
end Mine

open PySem PySem.W PyProof.Rows
set_option Elab.async false
set_option maxRecDepth 100000
set_option autoImplicit false
set_option linter.unusedVariables false
set_option linter.unusedSimpArgs false
namespace Mine

/-! ### exceptions on their way -/
structure Up (ls : List Addr) (h h' : Heap) : Prop where
  keep : ∀ b o, b ∉ ls → h.get? b = some o → h'.get? b = some o
  slot : ∀ b o, b ∈ ls → h.get? b = some o → ∃ sl, h'.get? b = some { o with slots := sl }
theorem Up.refl (ls : List Addr) (h : Heap) : Up ls h h := ⟨fun _ _ _ e => e, fun _ o _ e => ⟨o.slots, e⟩⟩
theorem Up.of_all {ls : List Addr} {h h' : Heap} (k : ∀ b o, h.get? b = some o → h'.get? b = some o) : Up ls h h' := ⟨fun b o _ e => k b o e, fun b o _ e => ⟨o.slots, k b o e⟩⟩
theorem Up.trans {ls : List Addr} {h h' h'' : Heap} (x : Up ls h h') (y : Up ls h' h'') : Up ls h h'' :=
  ⟨fun b o hb e => y.keep b o hb (x.keep b o hb e), fun b o hb e => let ⟨_, e₁⟩ := x.slot b o hb e; let ⟨sl, e₂⟩ := y.slot b _ hb e₁; ⟨sl, e₂⟩⟩

structure Fly (ls : List Addr) (h₀ : Heap) (e t : Addr) (cls : Value) (args : List Value) (cx : Value) (fl : Option Value) (h : Heap) : Prop where
  up : Up ls h₀ h
  de : h₀.get? e = none
  dt : h₀.get? t = none
  tup : h.get? t = some { cls := .type "tuple", data := .seq args.toArray }
  exc : ∃ oe vs, h.get? e = some oe ∧ oe.cls = cls ∧ oe.data = .fields vs ∧ vs.size = 6 ∧ (vs[0]? = some (.ref t) ∧ vs[2]? = some cx) ∧ (match fl with
    | none => vs[1]? = some .none
    | some f => ∃ T oT ts, vs[1]? = some (.ref T) ∧ T ≠ e ∧ h₀.get? T = none ∧ h.get? T = some oT ∧ oT.data = .fields ts ∧ ts[3]? = some f)
  lsL : ∀ b ∈ ls, ∃ o es n, h.get? b = some o ∧ o.data = .dict es n

/-- the frames of an activation -/
def Frames (ls : List Addr) (l : List Env) : Prop := ∀ env ∈ l, env.scope.kind ≠ .module ∧ ∃ L, env.frame = some L ∧ L ∈ ls
abbrev noHeap : Heap := { objs := #[] }
theorem noHeap_get (b : Addr) : noHeap.get? b = none := by
  cases e : noHeap.get? b with
  | none => rfl
  | some o => exact absurd (Heap.lt_size e) (Nat.not_lt_zero _)
theorem Frames.fun {ls : List Addr} {l : List Env} {h : Heap} (F : Frames ls l) (D : ∀ b ∈ ls, ∃ o es n, h.get? b = some o ∧ o.data = .dict es n) : h.FunFrames noHeap l := by
  induction l with
  | nil => trivial
  | cons env r ih =>
    obtain ⟨hk, L, hf, hL⟩ := F env (.head _)
    obtain ⟨o, es, n, ho, hd⟩ := D L hL
    exact ⟨hk, ⟨L, o, hf, noHeap_get L, ho, fun vs q => by rw [hd] at q; cases q⟩, ih fun e he => F e (.tail _ he)⟩

section
variable {M : Model} {A : Around} {E : Value → Shared → Prop} {s : Shared} {ls : List Addr} {h₀ : Heap} {e t : Addr} {cls : Value} {args : List Value} {cx : Value} {env : Env} {outer : List Env} {L : Addr}

theorem Fly.slots {fl : Option Value} {h h' : Heap} {S : List Addr} (F : Fly ls h₀ e t cls args cx fl h) (hs : Heap.SlotsOnly S h h') (hS : ∀ b ∈ S, b ∈ ls) : Fly ls h₀ e t cls args cx fl h' := by
  have keep : ∀ b o, h.get? b = some o → (∀ es n, o.data ≠ .dict es n) → h'.get? b = some o := fun b o hb hd => by
    refine (hs.2.1 b fun q => ?_).trans hb
    obtain ⟨o', es, n, ho', hd'⟩ := F.lsL b (hS b q)
    rw [hb] at ho'; cases ho'; exact hd es n hd'
  obtain ⟨oe, vs, h1, h2, h3, h4, h5, h6⟩ := F.exc
  refine ⟨F.up.trans ⟨fun b o hb hx => (hs.2.1 b fun q => hb (hS b q)).trans hx, fun b o hb hx => hs.2.2 b o hx⟩, F.de, F.dt, keep _ _ F.tup (fun es n q => by cases q), ⟨oe, vs, keep _ _ h1 (fun es n q => by rw [h3] at q; cases q), h2, h3, h4, h5, ?_⟩, fun b hb => ?_⟩
  · cases fl with
    | none => exact h6
    | some f =>
      obtain ⟨T, oT, ts, q1, q2, q3, q4, q5, q6⟩ := h6
      exact ⟨T, oT, ts, q1, q2, q3, keep _ _ q4 (fun es n q => by rw [q5] at q; cases q), q5, q6⟩
  · obtain ⟨o, es, n, ho, hd⟩ := F.lsL b hb
    obtain ⟨sl, hx⟩ := hs.2.2 b o ho
    exact ⟨_, es, n, hx, hd⟩

/-- a new entry at the head of the exception's trace -/
theorem Fly.entry {fl : Option Value} {head : Value} {hadNext : Bool} {Q : Unit → Shared → Prop} (F : Fly ls h₀ e t cls args cx fl s.heap) (hfr : A.frames = some (env :: outer)) (Fr : Frames ls (env :: outer)) (hf : env.frame = some L)
    (h : ∀ h', Fly ls h₀ e t cls args cx (some (rawInt L)) h' → Q () { s with heap := h' }) :
    wpAny M A (do let a ← frameOf env; let pl ← entryPlaceOf L hadNext; let b ← EntryCells.newEntry head a .none (rawInt L) .none pl; setField (.ref e) 1 b) Q E s := by
  have hin : ∀ b ∈ (env :: outer).filterMap (·.frame), b ∈ ls := fun b hb => by
    obtain ⟨x, hx, hxf⟩ := List.mem_filterMap.mp hb
    obtain ⟨_, L', hL', hm⟩ := Fr x hx
    rw [hL'] at hxf; cases hxf; exact hm
  refine wpAny_bind (wpAny_frameOf_fun hfr (Fr.fun F.lsL) hf fun h₁ hs₁ => ?_)
  have F₁ := F.slots hs₁ hin
  refine wpAny_bind (wpAny_entryPlaceOf fun pl hpl => ?_)
  unfold EntryCells.newEntry newFields
  refine wpAny_bind (wpAny_newObj_type ?_ (hpl.sizeOk5 _ _ _ _ _))
  obtain ⟨oe, vs, h1, h2, h3, h4, h5, h6⟩ := F₁.exc
  generalize hto : ({ cls := .type "traceback", dict := none, data := .fields ([head, .ref L, .none, rawInt L, .none] ++ (if pl.isEmpty then List.replicate 6 Value.none else pl)).toArray } : Obj) = to
  have he₂ := Heap.get?_push_of_some (h := h₁) to h1
  refine wpAny_setField he₂ h3 (by omega) ?_
  have hTe : h₁.objs.size ≠ e := Nat.ne_of_gt (Heap.lt_size h1)
  have hd₃ := Obj.data_mapFields h3 (·.setIfInBounds 1 (Value.ref h₁.objs.size))
  have he₃ := Heap.get?_update_self (Obj.mapFields (·.setIfInBounds 1 (Value.ref h₁.objs.size))) he₂ (Obj.isFreed_of_fields hd₃)
  have keep : ∀ b o, b ≠ e → h₁.get? b = some o → ((h₁.push to).update e (Obj.mapFields (·.setIfInBounds 1 (Value.ref h₁.objs.size)))).get? b = some o := fun b o hbe hb => by
    rw [Heap.get?_update_other _ _ (Ne.symm hbe)]
    exact Heap.get?_push_of_some _ hb
  have hT₃ : ((h₁.push to).update e (Obj.mapFields (·.setIfInBounds 1 (Value.ref h₁.objs.size)))).get? h₁.objs.size = some to := by
    rw [Heap.get?_update_other _ _ (Ne.symm hTe)]
    exact Heap.get?_push_size _ (by rw [← hto]; rfl)
  have hne : ∀ b ∈ ls, b ≠ e := fun b hb q => by
    obtain ⟨o, es, n, ho, hd⟩ := F₁.lsL b hb
    rw [q, h1] at ho; cases ho; rw [h3] at hd; cases hd
  have hte : t ≠ e := fun q => by
    have := F₁.tup
    rw [q, h1] at this; cases this; cases h3
  have hv6 : (vs.setIfInBounds 1 (Value.ref h₁.objs.size)).size = 6 := by rw [Array.size_setIfInBounds, h4]
  have hv0 : (vs.setIfInBounds 1 (Value.ref h₁.objs.size))[0]? = some (.ref t) ∧ (vs.setIfInBounds 1 (Value.ref h₁.objs.size))[2]? = some cx := by rw [Array.getElem?_setIfInBounds_ne (by decide), Array.getElem?_setIfInBounds_ne (by decide)]; exact h5
  have hv1 : (vs.setIfInBounds 1 (Value.ref h₁.objs.size))[1]? = some (.ref h₁.objs.size) := by rw [Array.getElem?_setIfInBounds_self_of_lt (by omega)]
  refine h _ ⟨⟨fun b o hb hx => keep b o (fun q => by rw [q, F.de] at hx; cases hx) (F₁.up.keep b o hb hx), fun b o hb hx => ?_⟩, F.de, F.dt, keep _ _ hte F₁.tup, ⟨_, _, he₃, (Obj.cls_mapFields _ _).trans h2, hd₃, hv6, hv0, h₁.objs.size, to, _, hv1, hTe, ?_, hT₃, by rw [← hto], ?_⟩, fun b hb => ?_⟩
  · obtain ⟨sl, hq⟩ := F₁.up.slot b o hb hx
    exact ⟨sl, keep b _ (hne b hb) hq⟩
  · cases q : h₀.get? h₁.objs.size with
    | none => rfl
    | some o =>
      by_cases hm : h₁.objs.size ∈ ls
      · obtain ⟨sl, hq⟩ := F₁.up.slot _ o hm q
        exact absurd (Heap.lt_size hq) (Nat.lt_irrefl _)
      · exact absurd (Heap.lt_size (F₁.up.keep _ o hm q)) (Nat.lt_irrefl _)
  · simp
  · obtain ⟨o, es, n, ho, hd⟩ := F₁.lsL b hb
    exact ⟨o, es, n, keep b o (hne b hb) ho, hd⟩

theorem Fly.note_new {Q : Unit → Shared → Prop} (F : Fly ls h₀ e t cls args cx none s.heap) (hfr : A.frames = some (env :: outer)) (Fr : Frames ls (env :: outer)) (hf : env.frame = some L)
    (h : ∀ h', Fly ls h₀ e t cls args cx (some (rawInt L)) h' → Q () { s with heap := h' }) : wpAny M A (noteFrame (.ref e) env) Q E s := by
  obtain ⟨oe, vs, h1, h2, h3, h4, h5, h6⟩ := F.exc
  unfold noteFrame
  simp only [hf]
  refine wpAny_bind (wpAny_field h1 h3 h6 ?_)
  rw [if_neg (by decide)]
  exact F.entry hfr Fr hf h

theorem Fly.updT {f g : Value} {h : Heap} {oe : Obj} {vs : Array Value} {T : Addr} (F : Fly ls h₀ e t cls args cx (some f) h) (he : h.get? e = some oe) (hd : oe.data = .fields vs) (hT : vs[1]? = some (.ref T)) : Fly ls h₀ e t cls args cx (some g) (h.update T (Obj.mapFields (·.setIfInBounds 3 g))) := by
  obtain ⟨oe', vs', h1, h2, h3, h4, h5, T', oT, ts, q1, q2, q3, q4, q5, q6⟩ := F.exc
  rw [he] at h1; cases h1; rw [hd] at h3; cases h3; rw [hT] at q1; cases q1
  have hlt : 3 < ts.size := (Array.getElem?_eq_some_iff.mp q6).1
  have other : ∀ b, b ≠ T → (h.update T (Obj.mapFields (·.setIfInBounds 3 g))).get? b = h.get? b := fun b hb => Heap.get?_update_other _ _ (Ne.symm hb)
  have hd₃ := Obj.data_mapFields q5 (·.setIfInBounds 3 g)
  have hne : ∀ b ∈ ls, b ≠ T := fun b hb q => by
    obtain ⟨o, es, n, ho, hd⟩ := F.lsL b hb
    rw [q, q4] at ho; cases ho; rw [q5] at hd; cases hd
  have htT : t ≠ T := fun q => by
    have := F.tup
    rw [q, q4] at this; cases this; cases q5
  refine ⟨⟨fun b o hb hx => (other b fun q => by rw [q, q3] at hx; cases hx).trans (F.up.keep b o hb hx), fun b o hb hx => ?_⟩, F.de, F.dt, (other t htT).trans F.tup, ⟨oe, vs, (other e (Ne.symm q2)).trans he, h2, hd, h4, h5, T, _, _, hT, q2, q3, Heap.get?_update_self _ q4 (Obj.isFreed_of_fields hd₃), hd₃, ?_⟩, fun b hb => ?_⟩
  · obtain ⟨sl, hq⟩ := F.up.slot b o hb hx
    exact ⟨sl, (other b (hne b hb)).trans hq⟩
  · rw [Array.getElem?_setIfInBounds_self_of_lt hlt]
  · obtain ⟨o, es, n, ho, hd⟩ := F.lsL b hb
    exact ⟨o, es, n, (other b (hne b hb)).trans ho, hd⟩

theorem Fly.set {f : Value} {fr : Option Addr} {Q : Unit → Shared → Prop} (F : Fly ls h₀ e t cls args cx (some f) s.heap) (h : ∀ h', Fly ls h₀ e t cls args cx (some (fr.elim .none fun f => rawInt f)) h' → Q () { s with heap := h' }) : wpAny M A (setFlight (.ref e) fr) Q E s := by
  obtain ⟨oe, vs, h1, h2, h3, h4, h5, T, oT, ts, q1, q2, q3, q4, q5, q6⟩ := F.exc
  unfold setFlight
  refine wpAny_bind (wpAny_field h1 h3 q1 ?_)
  rw [if_pos (show (Value.ref T != Value.none) = true from by simp)]
  exact wpAny_setField q4 q5 (Array.getElem?_eq_some_iff.mp q6).1 (h _ (F.updT h1 h3 q1))

theorem Fly.note_same {Q : Unit → Shared → Prop} (F : Fly ls h₀ e t cls args cx (some (rawInt L)) s.heap) (hf : env.frame = some L) (h : Q () s) : wpAny M A (noteFrame (.ref e) env) Q E s := by
  obtain ⟨oe, vs, h1, h2, h3, h4, h5, T, oT, ts, q1, q2, q3, q4, q5, q6⟩ := F.exc
  unfold noteFrame
  simp only [hf]
  refine wpAny_bind (wpAny_field h1 h3 q1 ?_)
  rw [if_pos (show (Value.ref T != Value.none) = true from by simp)]
  refine wpAny_bind (wpAny_field q4 q5 q6 ?_)
  rw [if_pos (show (rawInt L == rawInt L) = true from by first | (simp; done) | exact beq_self_eq_true _)]
  exact wpAny_pure h

theorem Fly.note_next {Q : Unit → Shared → Prop} (F : Fly ls h₀ e t cls args cx (some .none) s.heap) (hfr : A.frames = some (env :: outer)) (Fr : Frames ls (env :: outer)) (hf : env.frame = some L)
    (h : ∀ h', Fly ls h₀ e t cls args cx (some (rawInt L)) h' → Q () { s with heap := h' }) : wpAny M A (noteFrame (.ref e) env) Q E s := by
  obtain ⟨oe, vs, h1, h2, h3, h4, h5, T, oT, ts, q1, q2, q3, q4, q5, q6⟩ := F.exc
  unfold noteFrame
  simp only [hf]
  refine wpAny_bind (wpAny_field h1 h3 q1 ?_)
  rw [if_pos (show (Value.ref T != Value.none) = true from by simp)]
  refine wpAny_bind (wpAny_field q4 q5 q6 ?_)
  rw [if_neg (show ¬ ((Value.none == rawInt L) = true) from by simp [rawInt])]
  refine wpAny_bind (wpAny_setField q4 q5 (Array.getElem?_eq_some_iff.mp q6).1 ?_)
  exact Fly.entry (s := { s with heap := _ }) (F.updT h1 h3 q1) hfr Fr hf h
end
end Mine

open PySem PySem.W PyProof.Rows
set_option Elab.async false
set_option maxRecDepth 100000
set_option autoImplicit false
set_option linter.unusedVariables false
set_option linter.unusedSimpArgs false
namespace Mine

theorem Cm.isNN {C : Cx} {k : Nat} : Cm C k .Is .none .none true := fun A s v u Q E R h1 h2 h => by
  obtain rfl := h1
  obtain rfl := h2
  exact is_none h

/-- the end of a generator that has raised -/
def RX (ls : List Addr) (Lg : Addr) (cls : Value) (msg : List Nat) : GenEnd := fun n s₀ r s₁ => ∃ e t h₀ tk, r = .error (.ref e) ∧ GExt s₀ s₁ ∧ Fly ls h₀ e t cls [.str (mkS msg) tk] .none (some .none) s₁.heap ∧
  (∀ b o, b ≠ Lg → s₀.heap.get? b = some o → h₀.get? b = some o)
abbrev YX : Protocol := fun _ _ _ _ _ => False

section
variable {C : Cx} {k : Nat} {sc : Scope} {A : Around} {env : Env} {pr : Addr → Obj → Prop} {I ra : Addr} {row : List Int} {vs : List Value} {nn : Nat} {grp last x : Str}

theorem seg_giRaise {t1 t2 t3 : Expr} {w4 : Stmt} {r0 : Stmt} {rr rest2 : List Stmt} {p1 p2 p3 px a1 a3 a4 a5 a6 : Pos} {a2 : Nat} {ls : List Addr} {outer : List Env} {n : Nat} {msg : List Nat}
    (O : EnvOK env sc) (hgrp : sc.names.lookup grp = some .local) (hlast : sc.names.lookup last = some .local) (hx : sc.names.lookup x = some .local)
    (hdg : (grp == ("__debug__" : Str)) = false)
    (hxl : x ≠ last) (hxg : x ≠ grp) (hlg : last ≠ grp)
    (ht1 : Ts C k sc [(x, .int 0)] t1 false) (ht2 : Ts C k sc [(x, .int 0)] t2 true) (ht3 : Ts C k sc [(last, .none)] t3 true)
    (hrs : ∀ (A : Around) (s : Shared) (Q : Flow → Shared → Prop) (E : Value → Shared → Prop), Room k A → Wd C s.heap → (∀ s' h' e tk, Ext s s' → Heap.MadeExc s'.heap h' e "ValueError" [.str (mkS msg) tk] → E (.ref e) { s' with heap := h' }) → wpAny C.M A (exec r0 env) Q E s)
    (hR : Room (k + 8) A) (hfA : A.frames = some outer) (hff : env.frame = some env.locals) (Fr : Frames ls (env :: outer)) (hlsL : env.locals ∈ ls)
    (hsw' : swapsWith (.Constant .none a2 a3) (some (.Name last a1)) a4.line env = pure false)
    (hfo : ∀ v, foldedSetIterable (.Name grp a5) env v = pure v) (hv : All2 isInt vs (0 :: row))
    (s : Shared) (hw : ∃ h₀ : Heap, Wd C h₀ ∧ ∀ b o, h₀.get? b = some o → s.heap.get? b = some o ∧ b ≠ env.locals) (hla : IsL s.heap ra vs.toArray nn) (hns : ∃ m, s.heap.Ns env.locals m ∧ m grp = some (.ref ra)) (hlive : ∀ b ∈ ls, ∃ o es n, s.heap.get? b = some o ∧ o.data = .dict es n) :
    Seg C.M A (RX ls env.locals (.type "ValueError") msg) YX n s (.func [.Assign [.Name last a1] (.Constant .none a2 a3) a4, .For (.Name x px) (.Name grp a5) (.If t1 rr [] p1 :: .If t2 [.If t3 [r0] [] p2, w4] [] p3 :: rest2) [] a6] env)
      (C.M.den (.func [.Assign [.Name last a1] (.Constant .none a2 a3) a4, .For (.Name x px) (.Name grp a5) (.If t1 rr [] p1 :: .If t2 [.If t3 [r0] [] p2, w4] [] p3 :: rest2) [] a6] env)) [] s := by
  obtain ⟨m, hns, hmg⟩ := hns
  obtain ⟨h₀, W₀, hw⟩ := hw
  have wdOf : ∀ h' : Heap, (∀ b o, b ≠ env.locals → s.heap.get? b = some o → h'.get? b = some o) → Wd C h' := fun h' hk => W₀.keeps fun b o e => hk b o (hw b o e).2 (hw b o e).1
  refine seg_func (seg_execs_cons (seg_plain ?_))
  refine wpAny_Assign_Name (wpAny_Constant_none (wpAny_storeName_local ((O.kindOf _).trans hlast) hns (fun h₁ hn₁ hs₁ => ?_) (by rw [O.k]; rfl))) hsw'
  have hk₁ : ∀ b o, b ≠ env.locals → s.heap.get? b = some o → h₁.get? b = some o := fun b o hb e => (hs₁.2 b hb).trans e
  have hraL : ra ≠ env.locals := fun q => ns_not_list hns (q ▸ hla)
  have hla₁ : IsL h₁ ra vs.toArray nn := hk₁ _ _ hraL hla
  refine ⟨rfl, ?_⟩
  dsimp only
  refine seg_execs_cons (seg_For ?_ hfo)
  refine wpAny_Name (wpAny_loadName_local O.k ((O.kindOf _).trans hgrp) hn₁ (by rw [if_neg (Ne.symm hlg)]; exact hmg) ?_) hdg
  refine wpAny_pyIter_list hla₁.isList ?_
  dsimp only
  generalize hI : h₁.objs.size = I
  have hraI : ra ≠ I := hI ▸ Nat.ne_of_lt (Heap.lt_size hla₁)
  have hLI : env.locals ≠ I := by
    obtain ⟨o, es, ep, ho, _⟩ := hn₁
    exact hI ▸ Nat.ne_of_lt (Heap.lt_size ho)
  generalize hh₂ : h₁.push { cls := .type "list_iterator", data := .fields #[.ref ra, .int 0 0] } = h₂
  have hk₂ : ∀ b o, h₁.get? b = some o → h₂.get? b = some o := fun b o e => by rw [← hh₂]; exact Heap.get?_push_of_some _ e
  have hit₂ : h₂.IsListIter I ra 0 := by rw [← hh₂, ← hI]; exact ⟨_, Heap.get?_push_size _ rfl, rfl, rfl⟩
  have hI₁ : ∀ b o, s.heap.get? b = some o → b ≠ I := fun b o e => by
    rw [← hI, hs₁.1]; exact Nat.ne_of_lt (Heap.lt_size e)
  intro p
  generalize hfs : Frame.ret _ none _ _ (Code.func _ env) p [] = fr0
  have hR1 : Room k (A.over (.forLoop (.Name x px) (.ref I) (.If t1 rr [] p1 :: .If t2 [.If t3 [r0] [] p2, w4] [] p3 :: rest2) [] env) [fr0]) := by
    rw [← hfs]
    exact ⟨hR.handled, by have := hR.depth; show A.depth + 1 + 0 + k < _; omega, by have := hR.units; show A.units + 3 + 0 + 20 * k + 100 < _; omega⟩
  have hfr1 : (A.over (.forLoop (.Name x px) (.ref I) (.If t1 rr [] p1 :: .If t2 [.If t3 [r0] [] p2, w4] [] p3 :: rest2) [] env) [fr0]).frames = some (env :: outer) := by
    rw [← hfs]
    have hfo : ∀ c fs, (A.over c fs).frames = pushEnvs c.envs (pushEnvs (envsOf (fs.map Frame.where_)) A.frames) := fun _ _ => rfl
    rw [hfo, hfA]
    rfl
  refine seg_forLoop ?_
  have Wk := Walks.list (prog := C.prog) (w := C.w) hR1.handled I ra hraI vs.toArray
  obtain ⟨v0, vs', rfl, hv0, hv'⟩ : ∃ v0 vs', vs = v0 :: vs' ∧ isInt v0 0 ∧ All2 isInt vs' row := by
    cases hv with
    | cons h1 h2 => exact ⟨_, _, rfl, h1, h2⟩
  have hla₂ : IsL h₂ ra (v0 :: vs').toArray nn := hk₂ _ _ hla₁
  refine Wk.item 0 _ _ _ (by simp) ⟨hit₂, hla₂.isList⟩ fun v h₃ tk pv st' hk₃ => ?_
  obtain rfl : v0 = v := by simpa using pv
  dsimp only
  have hn₃ : h₃.Ns env.locals (fun y => if y = last then some .none else m y) := by
    obtain ⟨o, es, ep, ho, r⟩ := hn₁
    exact ⟨o, es, ep, hk₃ _ o (by simpa using hLI) (hk₂ _ o ho), r⟩
  refine wpAny_assign_Name (wpAny_storeName_local ((O.kindOf _).trans hx) hn₃ (fun h₄ hn₄ hs₄ => ?_) (by rw [O.k]; rfl))
  have hk₄ : ∀ b o, b ≠ env.locals → s.heap.get? b = some o → h₄.get? b = some o := fun b o hb e => (hs₄.2 b hb).trans (hk₃ b o (by simpa using hI₁ b o e) (hk₂ b o (hk₁ b o hb e)))
  have g₄ : GExt s ({ s with heap := h₄, toks := tk + 1 } : Shared) := ⟨fun _ _ e => e, id, rfl⟩
  have W₄ : Wd C h₄ := wdOf h₄ hk₄
  have hseeX : Sees ({ s with heap := h₄, toks := tk + 1 } : Shared) env [(x, .int 0)] := fun y mm hy => by
    rw [List.lookup_cons] at hy
    split at hy
    · rename_i q; cases hy; rw [beq_iff_eq.mp q]
      exact ⟨v0, .inl ⟨(O.kindOf _).trans hx, _, hn₄, by simp⟩, hv0⟩
    · simp at hy
  have hseeL : Sees ({ s with heap := h₄, toks := tk + 1 } : Shared) env [(last, .none)] := fun y mm hy => by
    rw [List.lookup_cons] at hy
    split at hy
    · rename_i q; cases hy; rw [beq_iff_eq.mp q]
      exact ⟨.none, .inl ⟨(O.kindOf _).trans hlast, _, hn₄, by rw [if_neg (Ne.symm hxl), if_pos rfl]⟩, rfl⟩
    · simp at hy
  refine seg_execs_cons (seg_If (b := false) ?_)
  refine wpAny_mono (ht1 _ env _ hR1 W₄ O hseeX) (fun b s₅ ⟨e₅, hb⟩ => ⟨hb, ?_⟩) fun _ _ q => q.elim
  rw [if_neg Bool.false_ne_true]
  refine seg_execs_nil ?_
  dsimp only
  refine seg_execs_cons (seg_If (b := true) ?_)
  refine wpAny_mono (ht2 _ env _ hR1 (W₄.keeps e₅.heap) O (hseeX.ext e₅)) (fun b s₆ ⟨e₆, hb⟩ => ⟨hb, ?_⟩) fun _ _ q => q.elim
  rw [if_pos rfl]
  refine seg_execs_cons (seg_If (b := true) ?_)
  have e₆' := e₅.trans e₆
  refine wpAny_mono (ht3 _ env _ hR1 (W₄.keeps e₆'.heap) O (hseeL.ext e₆')) (fun b s₇ ⟨e₇, hb⟩ => ⟨hb, ?_⟩) fun _ _ q => q.elim
  rw [if_pos rfl]
  have e₇' := e₆'.trans e₇
  refine seg_execs_cons (seg_wrap (hrs _ _ _ _ hR1 (W₄.keeps e₇'.heap) fun s₈ h₉ e tk' e₈ made => ?_))
  have e₈' := e₇'.trans e₈
  obtain ⟨t, he, hdt, htup⟩ := made.there
  have hls : ∀ b ∈ ls, ∃ o es n, s₈.heap.get? b = some o ∧ o.data = .dict es n := fun b hb => by
    by_cases hbL : b = env.locals
    · obtain ⟨o, es, ep, ho, hd, _⟩ := hn₄
      exact ⟨o, es, ep, hbL ▸ e₈'.heap _ o ho, hd⟩
    · obtain ⟨o, es, n, ho, hd⟩ := hlive b hb
      exact ⟨o, es, n, e₈'.heap b o (hk₄ b o hbL ho), hd⟩
  have Fl : Fly ls s₈.heap e t (.type "ValueError") [.str (mkS msg) tk'] .none none h₉ := ⟨.of_all made.keeps, made.new, hdt, htup, ⟨_, _, he, rfl, rfl, rfl, ⟨rfl, rfl⟩, rfl⟩, fun b hb => let ⟨o, es, n, ho, hd⟩ := hls b hb; ⟨o, es, n, made.keeps b o ho, hd⟩⟩
  have hkeep : ∀ b o, b ≠ env.locals → s.heap.get? b = some o → s₈.heap.get? b = some o := fun b o hb ho => e₈'.heap b o (hk₄ b o hb ho)
  show Seg _ _ _ _ _ _ _ ((do noteFrame (.ref e) env; theTreesLotGoes (.ref e) : Sem Unit).wrap (fun _ => .raise (.ref e)) .raise id id) _ _
  refine seg_wrap (wpAny_bind (Fly.note_new (s := { s₈ with heap := h₉ }) Fl hfr1 Fr hff fun h₁₀ Fl => wpAny_theTreesLotGoes ?_))
  subst hfs
  refine seg_leaf (.error (.ref e)) ?_
  show Seg _ _ _ _ _ _ _ (Sem.wrap _ _ _ _ (Sem.bind _ fun _ => .raise (.ref e))) _ _
  rw [Sem.bind_eq_wrap, Sem.wrap_wrap]
  have hA0 : (A.over (.func [.Assign [.Name last a1] (.Constant .none a2 a3) a4, .For (.Name x px) (.Name grp a5) (.If t1 rr [] p1 :: .If t2 [.If t3 [r0] [] p2, w4] [] p3 :: rest2) [] a6] env) []).frames = some (env :: outer) := by
    have hfo : ∀ c fs, (A.over c fs).frames = pushEnvs c.envs (pushEnvs (envsOf (fs.map Frame.where_)) A.frames) := fun _ _ => rfl
    rw [hfo, hfA]
    rfl
  refine seg_wrap ?_
  have hfield : ∀ {M : Model} {A : Around} {E : Value → Shared → Prop} {Q : Value → Shared → Prop} {fl : Value} {s : Shared}, Fly ls s₈.heap e t (.type "ValueError") [.str (mkS msg) tk'] .none (some fl) s.heap → (∀ T, Q (.ref T) s) → wpAny M A (field (.ref e) 1) Q E s := fun {M A E Q fl s} F h => by
    obtain ⟨oe, vs, h1, h2, h3, h4, h5, T, oT, ts, q1, _⟩ := F.exc
    exact wpAny_field h1 h3 q1 (h T)
  refine wpAny_bind (hfield (s := { s₈ with heap := h₁₀ }) Fl fun T => ?_)
  rw [if_neg (show ¬ ((Value.ref T == Value.none) = true) from by simp)]
  refine Fly.set (s := { s₈ with heap := h₁₀ }) Fl fun h₁₁ Fl => ?_
  rw [hff] at Fl
  show Seg _ _ _ _ _ _ _ ((leaving env (.ref e)).wrap (fun _ => .raise (.ref e)) .raise id id) _ _
  refine seg_wrap (wpAny_bind (Fly.note_same (s := { s₈ with heap := h₁₁ }) Fl hff (Fly.set (s := { s₈ with heap := h₁₁ }) (fr := none) Fl fun h₁₂ Fl => ?_)))
  exact seg_end (.error (.ref e)) ⟨e, t, s₈.heap, tk', rfl, g₄.trans ⟨e₈'.gens, e₈'.bare, e₈'.os⟩, Fl, hkeep⟩
end
end Mine

open PySem PySem.W PyProof.Rows
set_option Elab.async false
set_option maxRecDepth 100000
set_option autoImplicit false
set_option linter.unusedVariables false
set_option linter.unusedSimpArgs false
namespace Mine
theorem sub_VE_stop : isSubtype (.type "ValueError") (.type "StopIteration") = pure false := by rfl

section
variable {prog : Program} {w : World} {A : Around} {E : Value → Shared → Prop} {s : Shared}
theorem pyNext_raise {a : Addr} {g n : Nat} {gs : GenState} {P : Addr → Shared → Shared → Prop} {Q : Option Value → Shared → Prop}
    (hl : s.heap.NoLimit) (hroom : A.depth < recursionLimit) (hg : s.heap.IsGen a g) (hgs : s.gens[g]? = some gs)
    (hgo : gs.Goes (model prog w) A.in1 (fun n s₀ r s₁ => ∃ e, r = .error (.ref e) ∧ P e s₀ s₁) YX n (.send .none) (s.setGen g .running))
    (hP : ∀ e s₁, P e (s.setGen g .running) s₁ → s₁.TypeIs (.ref e) "ValueError" ∧ s₁.heap.IsGen a g ∧ E (.ref e) (s₁.setGen g .finished)) :
    wpAny (model prog w) A (pyNext (.ref a)) Q E s := by
  unfold pyNext
  refine wpAny_bind (wpAny_attempt (wpAny_callSpecial?_slot (name := Str.ofString "__next__") hg.typeIs slot_gen_next
    (wpAny_call_entry slot_gen_next hg.typeIs entry_gen_next ?_ (args_gen_next _))))
  show wpAny _ A.in1 (Builtin.Generator.genWake (.ref a) (.send .none)) _ _ s
  unfold Builtin.Generator.genWake
  refine wpAny_bind (wpAny_holding (wpAny_genNumber hg (wpAny_bind (wpAny_genState hgs ?_))))
  cases gs with
  | running => exact hgo.elim
  | finished => exact hgo.elim
  | _ =>
    refine wpAny_bind (wpAny_roomToWake hl hroom ?_)
    show wpAny _ A.in1 (.resume g (.send .none) [] _) _ _ s
    refine wpAny_resumeQ hgs hgo (fun x s₁ hx => ?_) (fun v s₁ gs' hb hv => hv.elim)
    obtain ⟨e, rfl, hp⟩ := hx
    obtain ⟨ht, hg₁, hE⟩ := hP e s₁ hp
    show wpAny _ A.in1 (Builtin.Generator.genLeft (.ref a) (.ref e)) _ _ _
    unfold Builtin.Generator.genLeft Builtin.Generator.madeByALambda
    obtain ⟨o, nm, qn, ho, hc, hd, hsl⟩ := hg₁
    refine wpAny_bind (wpAny_bind (wpAny_load ho (wpAny_pure ?_)))
    rw [hd]
    have e0 : (o.cls == Value.type "generator" && ((#[Value.int g 0, nm, qn] : Array Value)[3]? == some (Value.bool true))) = false := by simp
    simp only [e0, Bool.false_eq_true, if_false]
    refine wpAny_bind (wpAny_isInstance (T := "ValueError") (b := false) ht sub_VE_stop ?_)
    rw [if_neg (by simp)]
    unfold Builtin.Generator.genEscaped
    refine wpAny_bind (wpAny_isInstance (T := "ValueError") (b := false) ht sub_VE_stop ?_)
    rw [if_pos (by rfl)]
    refine wpAny_bind (wpAny_throw ?_)
    refine wpAny_bind (wpAny_isInstance (T := "ValueError") (b := false) ht sub_VE_stop ?_)
    rw [if_neg (by decide)]
    exact wpAny_throw hE
end
end Mine

open PySem PySem.W PyProof.Rows
set_option Elab.async false
set_option maxRecDepth 100000
set_option autoImplicit false
set_option linter.unusedVariables false
set_option linter.unusedSimpArgs false
namespace Mine
section
variable {C : Cx} {k : Nat} {row : List Int} {msg : List Nat}

/-- a call of the generator's def whose first step raises -/
def GenSpecX (C : Cx) (k : Nat) (f : Addr) (row : List Int) (msg : List Nat) : Prop :=
  ∀ (A : Around) (s : Shared) (ra : Addr) (vs : List Value) (nn : Nat), Room k A → Wd C s.heap → IsL s.heap ra vs.toArray nn → All2 isInt vs (0 :: row) →
    wpAny C.M A (call (.ref f) [.ref ra]) (fun v s' => Ext s s' ∧ ∃ a Lg cd, v = .ref a ∧ s.heap.get? a = none ∧ s.heap.get? Lg = none ∧ a ≠ Lg ∧ s'.heap.IsGen a s.gens.size ∧ s'.gens[s.gens.size]? = some (.fresh cd) ∧ (∃ m, s'.heap.Ns Lg m) ∧
      ∀ (ls : List Addr) (outer : List Env) (A' : Around) (s'' : Shared) (n : Nat), (∃ h₀ : Heap, Wd C h₀ ∧ ∀ b o, h₀.get? b = some o → s''.heap.get? b = some o ∧ b ≠ Lg) → IsL s''.heap ra vs.toArray nn → Room k A' → A'.frames = some outer → Frames ls outer → Lg ∈ ls →
        (∀ o, s'.heap.get? Lg = some o → s''.heap.get? Lg = some o) → (∀ b ∈ ls, ∃ o es n, s''.heap.get? b = some o ∧ o.data = .dict es n) → Seg C.M A' (RX ls Lg (.type "ValueError") msg) YX n s'' cd (C.M.den cd) [] s'') (fun _ _ => False) s

theorem GenSpecX.of {f : Addr} {fd : FuncData} {grp : Str} {body : List Stmt} (D : DefOK C f fd [grp] body) (hgen : fd.scope.isGenerator = true) (hgrp : fd.scope.names.lookup grp = some .local)
    (h : ∀ (A : Around) (env : Env) (ra : Addr) (vs : List Value) (nn : Nat) (s : Shared) (ls : List Addr) (outer : List Env) (n : Nat), Room k A → EnvOK env fd.scope → env.frame = some env.locals → (∃ h₀ : Heap, Wd C h₀ ∧ ∀ b o, h₀.get? b = some o → s.heap.get? b = some o ∧ b ≠ env.locals) → IsL s.heap ra vs.toArray nn → All2 isInt vs (0 :: row) →
      A.frames = some outer → Frames ls (env :: outer) → env.locals ∈ ls → (∃ m, s.heap.Ns env.locals m ∧ m grp = some (.ref ra)) → (∀ b ∈ ls, ∃ o es n, s.heap.get? b = some o ∧ o.data = .dict es n) →
        Seg C.M A (RX ls env.locals (.type "ValueError") msg) YX n s (.func body env) (C.M.den (.func body env)) [] s) : GenSpecX C k f row msg := fun A s ra vs nn R W hl hv => by
  obtain ⟨oc, od, osl, ho⟩ := D.obj
  obtain ⟨p, l, mean, mg, mb, T⟩ := W.top
  refine wpAny_call (codeAny_call_generator (by have := R.depth; omega) (W.k _ _ ho) rfl D.co hgen D.body (codeRec_of W.k D.code) ?_)
  rw [D.bind [.ref ra] rfl, D.closure]
  refine wpAny_pure (wpAny_newFunctionEnv_cells D.kind (fun x hx => ?_) fun env he s₁ x => ?_)
  · simp only [List.zip_cons_cons, List.zip_nil_right, List.mem_cons, List.not_mem_nil, or_false] at hx
    subst hx
    exact .inl hgrp
  · have O : EnvOK env fd.scope := by
      rw [he]
      exact ⟨rfl, D.kind, D.globals, D.builtins, fun n hn => Option.isSome_iff_exists.mp (cellsFrom_some _ _ _ (.inl hn))⟩
    have hL : env.locals = s.heap.objs.size := by rw [he]; rfl
    have hff : env.frame = some env.locals := by
      rw [he]
      simp [newEnv, D.kind]
    obtain ⟨h₁, tk₁, rfl⟩ := x.toInCall.same
    have hkeep := x.toInCall.keep
    have hns := x.toInCall.ns
    have hlt : env.locals < h₁.objs.size := by
      obtain ⟨o, es, ep, ho, _⟩ := hns
      exact Heap.lt_size ho
    have dead : ∀ b, s.heap.objs.size ≤ b → s.heap.get? b = none := fun b hb => by
      cases e : s.heap.get? b with
      | none => rfl
      | some o => exact absurd (Heap.lt_size e) (Nat.not_lt.mpr hb)
    refine ⟨T.nolimit.keeps hkeep, ⟨⟨fun g st e => ?_, fun hb => hb.push rfl, rfl⟩, fun b o e => Heap.get?_push_of_some _ (hkeep b o e)⟩, h₁.objs.size, env.locals, .func body env, rfl, dead _ (Nat.le_of_lt (hL ▸ hlt)), dead _ (Nat.le_of_eq hL.symm), Nat.ne_of_gt hlt, ⟨_, _, _, Heap.get?_push_size _ rfl, rfl, rfl, rfl⟩, Array.getElem?_push_size .., ⟨_, hns.push _⟩, fun ls outer A' s'' n hw hla R' hfr Fr hLs hLg hls => ?_⟩
    · have hlt : g < s.gens.size := (Array.getElem?_eq_some_iff.mp e).1
      exact (Array.getElem?_push_lt hlt).trans ((Array.getElem?_eq_getElem hlt).symm.trans e)
    · refine h A' env ra vs nn s'' ls outer n R' O hff hw hla hv hfr (fun e he => ?_) hLs ⟨_, ?_, bindL_at env.kindOf grp ((O.kindOf _).trans hgrp) [(grp, .ref ra)] (fun _ => none) (.ref ra) (by simp) (by simp)⟩ hls
      · rcases List.mem_cons.mp he with rfl | he
        · exact ⟨by rw [O.k]; decide, _, hff, hLs⟩
        · exact Fr e he
      · obtain ⟨o, es, ep, ho, r⟩ := hns.push { cls := .type "generator", data := .fields #[.int s.gens.size 0, .str fd.name tk₁, .str fd.qualname (tk₁ + 1)] }
        exact ⟨o, es, ep, hLg o ho, r⟩
end
end Mine

open PySem PySem.W PyProof.Rows
set_option Elab.async false
set_option maxRecDepth 100000
set_option autoImplicit false
set_option linter.unusedVariables false
set_option linter.unusedSimpArgs false
namespace Mine
section
variable {C : Cx} {k : Nat} {sc : Scope} {row : List Int} {msg : List Nat}

/-- try: for x in gen(row), the generator raising at once, up to the handler's suite -/
theorem try_gen {A : Around} {env : Env} {outer : List Env} {ls : List Addr} {x gn r ve rf : Str} {px np rp cp vp fp hp pos : Pos} {body suite : List Stmt} {b₀ : Stmt} {f : Addr} {oc : Value} {od : Option Addr} {fd : FuncData} {osl : Array (Option Value)} {Q : Flow → Shared → Prop} {s : Shared} {ra : Addr} {vs : List Value} {nn : Nat} {m : Str → Option Value}
    (O : EnvOK env sc) (R : Room (k + 1) A) (hfA : A.frames = some (env :: outer)) (hff : env.frame = some env.locals) (Fr : Frames ls outer)
    (g : Gl C sc gn (.ref f)) (ho : C.K.lookup f = some ⟨oc, od, .func fd, osl⟩) (G : GenSpecX C k f row msg) (gv : Gl C sc ve (.type "ValueError"))
    (hns : s.heap.Ns env.locals m) (hr : m r = some (.ref ra)) (hkr : sc.names.lookup r = some .local) (hkf : sc.names.lookup rf = some .local) (hdr : (r == ("__debug__" : Str)) = false)
    (hs : ∀ v, foldedSetIterable (.Call (.Name gn np) [.Name r rp] [] cp) env v = pure v)
    (hw : ∃ h₀ : Heap, Wd C h₀ ∧ ∀ b o, h₀.get? b = some o → s.heap.get? b = some o ∧ b ≠ env.locals ∧ b ∉ ls) (hla : IsL s.heap ra vs.toArray nn) (hv : All2 isInt vs (0 :: row)) (hls : ∀ b ∈ ls, ∃ o es n, s.heap.get? b = some o ∧ o.data = .dict es n)
    (hsuite : ∀ (e t : Addr) (tk : Tok) (s' : Shared), GExt s s' → (∀ b o, b ≠ env.locals → b ∉ ls → s.heap.get? b = some o → s'.heap.get? b = some o) → (∀ b o, b ≠ env.locals → b ∈ ls → s.heap.get? b = some o → ∃ sl, s'.heap.get? b = some { o with slots := sl }) →
      s'.heap.Ns env.locals (fun y => if y = rf then some (.ref e) else m y) → s.heap.get? e = none → (∃ oe vs, s'.heap.get? e = some oe ∧ oe.cls = .type "ValueError" ∧ oe.data = .fields vs ∧ vs.size = 6 ∧ (vs[0]? = some (.ref t) ∧ vs[2]? = some .none)) →
      s'.heap.get? t = some { cls := .type "tuple", data := .seq #[.str (mkS msg) tk] } →
      wpAny C.M (A.mark (some (.ref e))) (execs (b₀ :: suite) env) (fun f s₄ => wpAny C.M A (do bindName env rf .none; unbindBehindTheSuite env rf hp) (fun _ s₅ => Q f s₅) (fun _ _ => False) s₄) (fun _ _ => False) s') :
    wpAny C.M A (exec (.Try [.For (.Name x px) (.Call (.Name gn np) [.Name r rp] [] cp) body [] fp] [.ExceptHandler (some (.Name ve vp)) (some rf) (b₀ :: suite) hp] [] [] pos) env) Q (fun _ _ => False) s := by
  obtain ⟨h₀, W₀, hw⟩ := hw
  have W : Wd C s.heap := W₀.keeps fun b o e => (hw b o e).1
  refine wpAny_Try_except (wpAny_execs_cons (wpAny_For (Call_Name rfl (g A env s np _ _ W O ?_)) hs))
  rw [show backTo cp (starEach [.Name r rp] env) = [(false, eval (.Name r rp) env)] from rfl]
  refine Calls.callWith_function (o := ⟨oc, od, .func fd, osl⟩) (fd := fd) (Calls.evalArgs_plain (Calls.spliced_cons ?_))
  refine wpAny_Name (wpAny_loadName_local O.k ((O.kindOf _).trans hkr) hns hr (Calls.spliced_nil ⟨⟨W.k _ _ ho, rfl⟩, ?_⟩)) hdr
  refine wpAny_mono (G A s ra vs nn (R.le (by omega)) W hla hv) (fun v s₂ h₂ => ?_) fun _ _ q => q.elim
  obtain ⟨e₂, a, Lg, cd, rfl, hda, hdL, haL, hgen, hgs, hnsG, hgo⟩ := h₂
  refine wpAny_pyIter_gen hgen ?_
  have T : s₂.heap.NoLimit := let ⟨p, l, mean, mg, mb, T⟩ := (W.keeps e₂.heap).top; T.nolimit
  -- the first turn raises
  refine codeAny_forLoop (fun n t => t = s₂) (fun n t hI => ?_) 0 rfl
  subst hI
  have hLgo : Lg ≠ env.locals := by
    rintro rfl
    obtain ⟨o, es, ep, ho, _⟩ := hns
    rw [hdL] at ho; cases ho
  have hlsA : ∀ b ∈ Lg :: env.locals :: ls, ∃ o es n, t.heap.get? b = some o ∧ o.data = .dict es n := fun b hb => by
    rcases List.mem_cons.mp hb with rfl | hb
    · obtain ⟨m, o, es, ep, ho, hd, _⟩ := hnsG
      exact ⟨o, es, ep, ho, hd⟩
    · rcases List.mem_cons.mp hb with rfl | hb
      · obtain ⟨o, es, ep, ho, hd, _⟩ := hns
        exact ⟨o, es, ep, e₂.heap _ o ho, hd⟩
      · obtain ⟨o, es, n, ho, hd⟩ := hls b hb
        exact ⟨o, es, n, e₂.heap b o ho, hd⟩
  have FrA : Frames (Lg :: env.locals :: ls) (env :: outer) := fun e he => by
    rcases List.mem_cons.mp he with rfl | he
    · exact ⟨by rw [O.k]; decide, _, hff, .tail _ (.head _)⟩
    · obtain ⟨h1, L, h2, h3⟩ := Fr e he
      exact ⟨h1, L, h2, .tail _ (.tail _ h3)⟩
  refine pyNext_raise (n := 1) (gs := .fresh cd) (P := fun e s₀ s₁ => ∃ t h₀ tk, GExt s₀ s₁ ∧ Fly (Lg :: env.locals :: ls) h₀ e t (.type "ValueError") [.str (mkS msg) tk] .none (some .none) s₁.heap ∧ (∀ b o, b ≠ Lg → s₀.heap.get? b = some o → h₀.get? b = some o)) T (by have := R.depth; omega) hgen hgs ⟨rfl, ?_⟩ ?_
  · have hRX : (fun (n : Nat) (s₀ : Shared) (r : Result) (s₁ : Shared) => ∃ e, r = .error (.ref e) ∧ ∃ t h₀ tk, GExt s₀ s₁ ∧ Fly (Lg :: env.locals :: ls) h₀ e t (.type "ValueError") [.str (mkS msg) tk] .none (some .none) s₁.heap ∧ (∀ b o, b ≠ Lg → s₀.heap.get? b = some o → h₀.get? b = some o)) = RX (Lg :: env.locals :: ls) Lg (.type "ValueError") msg := by
      funext n s₀ r s₁
      refine propext ⟨fun ⟨e, h1, t, h₀, tk, h2⟩ => ⟨e, t, h₀, tk, h1, h2⟩, fun ⟨e, t, h₀, tk, h1, h2⟩ => ⟨e, h1, t, h₀, tk, h2⟩⟩
    rw [hRX]
    refine hgo (Lg :: env.locals :: ls) (env :: outer) A.in1 (t.setGen s.gens.size .running) 1 ⟨h₀, W₀, fun b o e => ⟨e₂.heap b o (hw b o e).1, ?_⟩⟩ (e₂.heap _ _ hla) R.in1 hfA FrA (.head _) (fun o ho => ho) hlsA
    rintro rfl
    rw [(hw _ o e).1] at hdL; cases hdL
  · rintro e s₁ ⟨te, g₀, tk, hg, Fl, hkeep⟩
    have hgen₁ : s₁.heap.IsGen a s.gens.size := by
      obtain ⟨o, nm, qn, ho, hc, hd, r⟩ := hgen
      have hna : a ∉ Lg :: env.locals :: ls := fun hm => by
        obtain ⟨o', es, n, ho', hd'⟩ := hlsA a hm
        rw [ho] at ho'; cases ho'; rw [hd] at hd'; cases hd'
      exact ⟨o, nm, qn, Fl.up.keep a o hna (hkeep a o haL ho), hc, hd, r⟩
    obtain ⟨oe, ves, he1, he2, he3, he4, he5, hrest⟩ := Fl.exc
    refine ⟨⟨oe, he1, he2⟩, hgen₁, ?_⟩
    have gg : GExt s (s₁.setGen s.gens.size .finished) := GExt.step rfl e₂.toGExt hg rfl
    generalize hsF : s₁.setGen s.gens.size .finished = sF at gg ⊢
    have Fl : Fly (Lg :: env.locals :: ls) g₀ e te (.type "ValueError") [.str (mkS msg) tk] .none (some .none) sF.heap := by rw [← hsF]; exact Fl
    have hfield : ∀ {M : Model} {A : Around} {E : Value → Shared → Prop} {Q : Value → Shared → Prop} {fl : Value} {s : Shared}, Fly (Lg :: env.locals :: ls) g₀ e te (.type "ValueError") [.str (mkS msg) tk] .none (some fl) s.heap → (∀ T, Q (.ref T) s) → wpAny M A (field (.ref e) 1) Q E s := fun {M A E Q fl s} F h => by
      obtain ⟨oe, vs, h1, h2, h3, h4, h5, T, oT, ts, q1, _⟩ := F.exc
      exact wpAny_field h1 h3 q1 (h T)
    refine Fly.note_next (s := sF) Fl hfA FrA hff fun h₁ Fl => ?_
    refine wpAny_bind (hfield (s := { sF with heap := h₁ }) Fl fun T => ?_)
    rw [if_neg (show ¬ ((Value.ref T == Value.none) = true) from by simp)]
    refine Fly.set (s := { sF with heap := h₁ }) Fl fun h₂ Fl => ?_
    rw [hff] at Fl
    refine Fly.note_same (s := { sF with heap := h₂ }) Fl hff ?_
    refine Fly.set (s := { sF with heap := h₂ }) (fr := none) Fl fun h₃ Fl => ?_
    have W₃ : Wd C h₃ := W₀.keeps fun b o e => by
      obtain ⟨q1, q2, q3⟩ := hw b o e
      have hnb : b ∉ Lg :: env.locals :: ls := fun hm => by
        rcases List.mem_cons.mp hm with rfl | hm
        · rw [q1] at hdL; cases hdL
        · rcases List.mem_cons.mp hm with rfl | hm
          · exact q2 rfl
          · exact q3 hm
      exact Fl.up.keep b o hnb (hkeep b o (fun q => hnb (q ▸ .head _)) (e₂.heap b o q1))
    refine wpAny_handleBy_builtin_as (X := "ValueError") (T := "ValueError") (b := true) PySem.F.isExc_ValueError rfl PySem.F.self_ValueError (gv _ env { sF with heap := h₃ } vp _ _ W₃ O ⟨rfl, ?_, ?_⟩)
    · obtain ⟨oe, vs, h1, h2, _⟩ := Fl.exc
      exact ⟨oe, h1, h2⟩
    · rw [if_pos rfl]
      refine Fly.set (s := { sF with heap := h₃ }) (fr := none) Fl fun h₄ Fl => ?_
      have hns₄ : h₄.Ns env.locals m := by
        obtain ⟨o, es, ep, ho, hd, r⟩ := hns
        obtain ⟨sl, hsl⟩ := Fl.up.slot env.locals o (.tail _ (.head _)) (hkeep _ o (Ne.symm hLgo) (e₂.heap _ o ho))
        exact ⟨_, es, ep, hsl, hd, r⟩
      refine wpAny_storeName_local ((O.kindOf _).trans hkf) hns₄ (fun h₅ hn₅ hs₅ => ?_) (by rw [O.k]; rfl)
      have hk₅ : ∀ b o, b ≠ env.locals → h₄.get? b = some o → h₅.get? b = some o := fun b o hb e => (hs₅.2 b hb).trans e
      have hnL : ∀ b o, s.heap.get? b = some o → b ≠ Lg := fun b o e q => by rw [q, hdL] at e; cases e
      refine wpAny_mono (hsuite e te tk _ (gg.trans ⟨fun _ _ e => e, id, rfl⟩) (fun b o hb hbl hx => hk₅ b o hb (Fl.up.keep b o (fun hm => ?_) (hkeep b o (hnL b o hx) (e₂.heap b o hx)))) (fun b o hb hbl hx => ?_) hn₅ ?_ ?_ ?_) (fun f s₄ h => h) fun _ _ q => q.elim
      · rcases List.mem_cons.mp hm with q | hm
        · exact hnL b o hx q
        · rcases List.mem_cons.mp hm with q | hm
          · exact hb q
          · exact hbl hm
      · obtain ⟨sl, hsl⟩ := Fl.up.slot b o (.tail _ (.tail _ hbl)) (hkeep b o (hnL b o hx) (e₂.heap b o hx))
        exact ⟨sl, hk₅ b _ hb hsl⟩
      · cases q : s.heap.get? e with
        | none => rfl
        | some o =>
          have := hkeep e o (hnL e o q) (e₂.heap e o q)
          rw [Fl.de] at this; cases this
      · obtain ⟨oe, vs, h1, h2, h3, h4, h5, _⟩ := Fl.exc
        refine ⟨oe, vs, hk₅ e oe ?_ h1, h2, h3, h4, h5⟩
        rintro rfl
        obtain ⟨o, es, ep, ho, hd, _⟩ := hns₄
        rw [h1] at ho; cases ho; rw [h3] at hd; cases hd
      · refine hk₅ te _ ?_ Fl.tup
        rintro rfl
        obtain ⟨o, es, ep, ho, hd, _⟩ := hns₄
        rw [Fl.tup] at ho; cases ho; cases hd
end
end Mine

open PySem PySem.W PyProof.Rows
set_option Elab.async false
set_option maxRecDepth 100000
set_option autoImplicit false
set_option linter.unusedVariables false
set_option linter.unusedSimpArgs false
namespace Mine
theorem entry_unchain : entryFor table "proto.unchain" = some Builtin.«proto.unchain» := entryFor_of_tree (by kernel_rfl)

section
variable {prog : Program} {w : World} {A : Around} {E : Value → Shared → Prop} {s : Shared}
/-- a raise while another exception is handled: the other becomes its context -/
theorem raiseNew_in {α : Type} {e e2 : Addr} {oe o2 : Obj} {vs ws : Array Value} {Q : α → Shared → Prop} (hh : A.handled = some (.ref e)) (hne : e ≠ e2) (he : s.heap.get? e = some oe) (hd : oe.data = .fields vs) (h2 : vs[2]? = some .none)
    (he2 : s.heap.get? e2 = some o2) (hd2 : o2.data = .fields ws) (hz : 2 < ws.size) (h : E (.ref e2) { s with heap := s.heap.update e2 (Obj.mapFields (·.setIfInBounds 2 (.ref e))) }) : wpAny (model prog w) A (raiseNew (.ref e2) : Sem α) Q E s := by
  unfold raiseNew
  refine wpAny_bind (wpAny_handled ?_)
  rw [hh]
  dsimp only
  rw [if_pos (show (Value.ref e != Value.ref e2) = true from by simp [hne])]
  refine wpAny_bind (wpAny_holding (wpAny_runValue (codeAny_builtin entry_unchain ?_)))
  show wpAny _ _ (field (.ref e) 2 >>= _) _ _ s
  refine wpAny_bind (wpAny_field he hd h2 ?_)
  rw [if_pos (by rfl)]
  refine wpAny_bind (wpAny_pure (wpAny_pure ?_))
  dsimp only
  unfold updateField
  refine wpAny_bind (wpAny_bind (wpAny_load he2 ?_))
  rw [hd2]
  dsimp only
  rw [if_pos hz]
  exact wpAny_update he2 (wpAny_throw h)
end

section
variable {prog : Program} {w : World} {A : Around} {E : Value → Shared → Prop} {s : Shared} {env : Env}
variable {nm q : Str} {C N : Addr} {bs bm bmB : List Value} {hdct : Bool} {sn : List Str} {sub : List Value} {ab : Bool} {col : Option Bool} {dd : Option Addr} {k0 k1 k2 k3 k5 : Option Value} {B newId initId : String} {ex : Addr}

theorem raiseStmt_in {s : Shared} {x : Sem Value} {Q : Flow → Shared → Prop} (hbase : bm.contains (.type "BaseException") = true) (hh : A.handled = some (.ref ex))
    (h : wpAny (model prog w) A x (fun v s₁ => ∃ e t, v = .ref e ∧ s₁.heap.get? C = some (excClassObj nm q C N bs bm hdct sn sub ab col dd k0 k1 k2 k3 k5 newId) ∧
      s₁.heap.get? e = some { cls := .ref C, data := .fields #[.ref t, .none, .none, .none, .bool false, .none] } ∧ ex ≠ e ∧ (∃ oe vs, s₁.heap.get? ex = some oe ∧ oe.data = .fields vs ∧ vs[2]? = some .none) ∧
      E (.ref e) { s₁ with heap := s₁.heap.update e (Obj.mapFields (·.setIfInBounds 2 (.ref ex))) }) E s) :
    wpAny (model prog w) A (raiseStmt env (some x) none) Q E s := by
  have hcB : (Value.ref C :: bm).contains (.type "BaseException") = true := by rw [List.contains_cons, hbase, Bool.or_true]
  unfold raiseStmt
  refine wpAny_bind (wpAny_mono h (fun v s₁ h₁ => ?_) fun _ _ x => x)
  obtain ⟨e, t, rfl, hC, he, hne, ⟨oe, vs, h1, h2, h3⟩, hE⟩ := h₁
  obtain ⟨hp, g, d, tk, os⟩ := s₁
  repeat (first | with_reducible refine wpAny_loadPart_at he ?_ | with_reducible refine wpAny_loadPart_at hC ?_ | (with_reducible refine wpAny_isSubtype_exc hC ?_; rw [hcB]) | wp_step)
  exact raiseNew_in hh hne h1 h2 h3 he rfl (by simp) hE

/-- raise C(arg), C a class of the program's own, while ex is handled -/
theorem Raise_in (F : ExcBaseFacts B newId initId bmB) {mN : Str → Option Value} {x : Str} {np cpos pos : Pos} {args : List Expr} {Q : Flow → Shared → Prop}
    (hbase : bm.contains (.type "BaseException") = true) (hh : A.handled = some (.ref ex)) (hplain : (backTo cpos (starEach args env)).any (·.1) = false) (hni : mN "__init__" = none)
    (h : wpAny (model prog w) A (eval (.Name x np) env) (fun f s₁ => f = .ref C ∧ wpAny (model prog w) A (evalArgs (.ref C) true (backTo cpos (starEach args env)) [])
      (fun a s₂ => a.kw = [] ∧ a.pos.length ≤ sizeLine ∧ s₂.heap.get? C = some (excClassObj nm q C N bs bm hdct sn sub ab col dd k0 k1 k2 k3 k5 newId) ∧ s₂.heap.Ns N mN ∧ OwnTail s₂.heap bmB bm ∧
        (∃ oe vs, s₂.heap.get? ex = some oe ∧ oe.data = .fields vs ∧ vs[2]? = some .none) ∧
        ∀ h' e, Heap.MadeExcOf s₂.heap h' e (.ref C) a.pos → E (.ref e) { s₂ with heap := h'.update e (Obj.mapFields (·.setIfInBounds 2 (.ref ex))) }) E s₁) E s) :
    wpAny (model prog w) A (exec (.Raise (some (.Call (.Name x np) args [] cpos)) none pos) env) Q E s := by
  rw [arm_exec_Raise]
  refine wpAny_bind (wpAny_standAt (raiseStmt_in (C := C) (nm := nm) (q := q) (N := N) (bs := bs) (bm := bm) (hdct := hdct) (sn := sn) (sub := sub) (ab := ab) (col := col) (dd := dd) (k0 := k0) (k1 := k1) (k2 := k2) (k3 := k3) (k5 := k5) (newId := newId) (ex := ex) hbase hh ?_))
  refine wpAny_bind (wpAny_mono (wpAny_Call_ofName (wpAny_mono h (fun f s₁ h₁ => ?_) fun _ _ x => x)) (fun v s₃ h₃ => wpAny_bind (wpAny_standAt (wpAny_pure h₃))) fun _ _ x => x)
  obtain ⟨rfl, h₁⟩ := h₁
  unfold callWith
  refine wpAny_bind (wpAny_holding (wpAny_mono h₁ (fun a s₂ h₂ => wpAny_bind (wpAny_standAt ?_)) fun _ _ x => x))
  obtain ⟨apos, akw⟩ := a
  obtain ⟨hkw, hlen, hC, hn, T, ⟨oe, vs, hx1, hx2, hx3⟩, h₂⟩ := h₂
  obtain rfl : akw = [] := hkw
  obtain ⟨hp, g, d, tk, os⟩ := s₂
  simp only [hplain]
  refine wpAny_bind (wpAny_keeperOf_exc hC ?_)
  refine wpAny_bind (wpAny_call_exc_subT (hrest := hlen) F T hC hn hni fun h' e hm => wpAny_bind (wpAny_holding (wpAny_point (wpAny_pure ?_))))
  obtain ⟨t, ht, _, _⟩ := hm.there
  refine ⟨e, t, rfl, hm.keeps _ _ hC, ht, ?_, ⟨oe, vs, hm.keeps _ _ hx1, hx2, hx3⟩, h₂ h' e hm⟩
  rintro rfl
  have := hm.new
  rw [hx1] at this; cases this
end
end Mine

open PySem PySem.W PyProof.Rows
set_option Elab.async false
set_option maxRecDepth 100000
set_option autoImplicit false
set_option linter.unusedVariables false
set_option linter.unusedSimpArgs false
namespace Mine
section
variable {prog : Program} {w : World} {A : Around} {E : Value → Shared → Prop} {s : Shared} {env : Env} {sc : Scope}

/-- x[:3] != '..', whatever is handled -/
theorem ts_front {m : Str → Option Value} {x : Str} {l : List Nat} {t : Tok} {y : Str} {p1 p2 p3 p4 p5 p6 : Pos} {c1 c2 : Nat} {whole : Sem Value} {Q : Bool → Shared → Prop} (O : EnvOK env sc) (hns : s.heap.Ns env.locals m) (hk : sc.names.lookup x = some .local) (hx : m x = some (.str (mkS l) t)) (hd : (x == ("__debug__" : Str)) = false) (hz : l.length ≤ 16777216)
    (h : ∀ s', Ext s s' → Q (!decide (l.take 3 = y.cps.toList)) s') :
    wpAny (model prog w) A (isTrue (.Compare (.Subscript (.Name x p1) (.Slice none (some (.Constant (.int 3) c1 p2)) none p3) p4) [.NotEq] [.Constant (.str y) c2 p5] p6) env whole) Q E s := by
  refine wpAny_isTrue_Compare1 (Subscript_ (wpAny_Name (wpAny_loadName_local O.k ((O.kindOf _).trans hk) hns hx (wpAny_Slice ?_)) hd)) rfl
  rw [evalPart_none]
  refine wpAny_pure ?_
  rw [evalPart_some]
  refine wpAny_Constant_int ?_
  refine wpAny_pure ?_
  generalize hs3 : ({ s with toks := s.toks + 1 } : Shared) = s₃
  have e₃ : Ext s s₃ := by rw [← hs3]; exact Ext.toks
  refine tail_any (T := "str") (ops := [.ref s₃.heap.objs.size, .str (mkS l) t]) (typeIs_str _ _ _) F.slot_str_getitem.lookup
    (wpAny_getItem_str_slice (l := none) (u := some ((3 : Int), s.toks)) (st := .none) ⟨_, Heap.get?_push_size _ rfl, rfl, rfl⟩ rfl ?_) rfl
  have hp : slicePicked (mkS l) none (some ((3 : Int), s.toks)) .none = sliceRange (sliceBounds none (some 3) .none l.length).1 (sliceBounds none (some 3) .none l.length).2.1 (sliceBounds none (some 3) .none l.length).2.2 := by
    unfold slicePicked Builtin.Str.strSliceIndices sliceBounds
    rw [mkS_length]
    rfl
  have fin : ∀ (s₅ : Shared) (t' : Tok), Ext s s₅ → wpAny (model prog w) A (eval (.Constant (.str y) c2 p5) env) (fun b s₂ => wpAny (model prog w) A (compareOp .NotEq (.str (mkS (pick none (some 3) .none l)) t') b) (fun c s₃ => wpAny (model prog w) A (truthy c) Q E s₃) E s₂) E s₅ := fun s₅ t' e₅ => by
    show wpAny _ A (mkText y) _ E s₅
    refine wpAny_mkText ?_
    refine PySem.P.ne_str ?_
    refine wpAny_truthy_bool ?_
    have : ((mkS (pick none (some 3) .none l)).cps.toList != y.cps.toList) = !decide (l.take 3 = y.cps.toList) := by
      rw [pick_upto _ (by decide)]
      show (!(l.take 3 == y.cps.toList)) = _
      rw [Bool.beq_eq_decide_eq]
    rw [this]
    exact h _ (e₅.trans Ext.toks)
  unfold sliceMade
  rw [hp]
  have hle : (sliceRange (sliceBounds none (some 3) .none l.length).1 (sliceBounds none (some 3) .none l.length).2.1 (sliceBounds none (some 3) .none l.length).2.2).length ≤ l.length := by
    rw [← hp]
    have := indices_len_le none (some 3) (mkS l).length
    rw [mkS_length] at this
    unfold slicePicked
    rw [mkS_length]; exact this
  split
  · rename_i hc
    rw [Bool.and_eq_true, beq_iff_eq, mkS_length] at hc
    have hc' := beq_iff_eq.mp hc.2
    have fin' : ∀ s₅, Ext s s₅ → _ := fun s₅ e => fin s₅ t e
    rw [pick_whole l hc'] at fin'
    exact fin' _ (e₃.trans Ext.push)
  · have hl : (pick none (some 3) .none l).length ≤ 16777216 := by
      unfold pick
      exact Nat.le_trans (List.length_filterMap_le _ _) (Nat.le_trans hle hz)
    have hs : (Str.mk ((sliceRange (sliceBounds none (some 3) .none l.length).1 (sliceBounds none (some 3) .none l.length).2.1 (sliceBounds none (some 3) .none l.length).2.2).filterMap ((mkS l).cps[·]?)).toArray) = mkS (pick none (some 3) .none l) := by
      simp [pick]
    rw [hs]
    exact ⟨by rw [mkS_length]; exact hl, fin _ _ (e₃.trans Ext.push)⟩
end
end Mine

open PySem PySem.W PyProof.Rows
set_option Elab.async false
set_option maxRecDepth 100000
set_option autoImplicit false
set_option linter.unusedVariables false
set_option linter.unusedSimpArgs false
namespace Mine
section
variable {C : Cx} {bmB : List Value} {B newId initId : String}

/-- a def whose front test holds raises an exception of the program's own, while ex is handled -/
theorem call_raises {f Ce : Addr} {fd : FuncData} {prm er : Str} {rest : List Stmt} {y : Str} {p1 p2 p3 p4 p5 p6 np np2 cp rp ip : Pos} {c1 c2 : Nat} {A : Around} {s : Shared} {outer : List Env} {ls : List Addr} {ex : Addr} {l : List Nat} {tk : Tok}
    (D : DefOK C f fd [prm] (.If (.Compare (.Subscript (.Name prm p1) (.Slice none (some (.Constant (.int 3) c1 p2)) none p3) p4) [.NotEq] [.Constant (.str y) c2 p5] p6) [.Raise (some (.Call (.Name er np) [.Name prm np2] [] cp)) none rp] [] ip :: rest))
    (hgen : fd.scope.isGenerator = false) (hprm : fd.scope.names.lookup prm = some .local) (hdp : (prm == ("__debug__" : Str)) = false) (F : ExcBaseFacts B newId initId bmB) (hbase : bmB.contains (.type "BaseException") = true)
    (ge : Gl C fd.scope er (.ref Ce)) (hin : nsIn C.K mainGlobals er = some (some (.ref Ce))) (hex : excIn C.K Ce bmB newId = true)
    (hdep : A.depth < recursionLimit) (hh : A.handled = some (.ref ex)) (hfA : A.frames = some outer) (Fr : Frames ls outer) (hls : ∀ b ∈ ls, ∃ o es n, s.heap.get? b = some o ∧ o.data = .dict es n) (W : Wd C s.heap)
    (hx : ∃ oe vs, s.heap.get? ex = some oe ∧ oe.data = .fields vs ∧ vs[2]? = some .none) (hz : l.length ≤ 16777216) (hl : l.take 3 ≠ y.cps.toList)
    {E : Value → Shared → Prop} (hE : ∀ e2 t2 g₀ LP s', GExt s s' → Fly (LP :: ls) g₀ e2 t2 (.ref Ce) [.str (mkS l) tk] (.ref ex) (some .none) s'.heap → (∀ b o, s.heap.get? b = some o → g₀.get? b = some o) → s.heap.get? LP = none → E (.ref e2) s') :
    wpAny C.M A (call (.ref f) [.str (mkS l) tk]) (fun _ _ => False) E s := by
  obtain ⟨oc, od, osl, ho⟩ := D.obj
  obtain ⟨p, lo, mean, mg, mb, T⟩ := W.top
  refine wpAny_call (codeAny_call_cells hdep (W.k _ _ ho) rfl T.nolimit (codeRec_of W.k D.code) D.body (D.bind [.str (mkS l) tk] rfl) D.closure (fun x hx => ?_) (fun s₁ x => ?_) D.co hgen D.kind)
  · simp only [List.zip_cons_cons, List.zip_nil_right, List.mem_cons, List.not_mem_nil, or_false] at hx
    subst hx
    exact .inl hprm
  · have O : EnvOK (callEnvC fd s.heap.objs.size f) fd.scope := ⟨rfl, D.kind, D.globals, D.builtins, fun n hn => Option.isSome_iff_exists.mp (cellsFrom_some _ _ _ (.inl hn))⟩
    have hff : (callEnvC fd s.heap.objs.size f).frame = some (callEnvC fd s.heap.objs.size f).locals := by simp [callEnvC, newEnv, D.kind]
    have hLd : s.heap.get? (callEnvC fd s.heap.objs.size f).locals = none := by
      cases e : s.heap.get? (callEnvC fd s.heap.objs.size f).locals with
      | none => rfl
      | some o => exact absurd (Heap.lt_size e) (Nat.lt_irrefl _)
    generalize callEnvC fd s.heap.objs.size f = env at x O hff hLd
    obtain ⟨h₁, tk₁, rfl⟩ := x.toInCall.same
    have hkeep := x.toInCall.keep
    have hns := x.toInCall.ns
    have hv := bindL_at env.kindOf prm ((O.kindOf _).trans hprm) [(prm, .str (mkS l) tk)] (fun _ => none) (.str (mkS l) tk) (by simp) (by simp)
    refine wpAny_execs_cons (wpAny_If (ts_front O hns hprm hv hdp hz fun s₂ e₂ => ?_))
    rw [show (!decide (l.take 3 = y.cps.toList)) = true by simp [hl], if_pos rfl]
    have e₂' : ∀ b o, s.heap.get? b = some o → s₂.heap.get? b = some o := fun b o e => e₂.heap b o (hkeep b o e)
    have W₂ : Wd C s₂.heap := W.keeps e₂'
    have OC := (own_of_in (p := p) (loose := lo) W.k (topRead_of T) hin hex).keeps e₂'
    obtain ⟨bm, N, nm, q, bs, hdct, sn, sub, ab, col, dd, k0, k1, k2, k3, k5, mN, hC, hN, hni, OT⟩ := OC.obj
    refine wpAny_execs_cons (Raise_in (C := Ce) (nm := nm) (q := q) (N := N) (bs := bs) (bm := bm) (hdct := hdct) (sn := sn) (sub := sub) (ab := ab) (col := col) (dd := dd) (k0 := k0) (k1 := k1) (k2 := k2) (k3 := k3) (k5 := k5) (ex := ex) F (OT.hasType hbase) hh rfl hni (ge _ env s₂ np _ _ W₂ O ⟨rfl, ?_⟩))
    refine Calls.evalArgs_plain (Calls.spliced_cons (wpAny_Name (wpAny_loadName_local O.k ((O.kindOf _).trans hprm) (hns.keeps e₂.heap) hv (Calls.spliced_nil ⟨rfl, by show 1 ≤ sizeLine; decide, hC, hN, OT, ?_, fun h' e2 made => ?_⟩)) hdp))
    · obtain ⟨oe, vs, h1, h2, h3⟩ := hx
      exact ⟨oe, vs, e₂' _ _ h1, h2, h3⟩
    · obtain ⟨t2, he, hdt, htup⟩ := made.there
      have hd3 := Obj.data_mapFields (o := { cls := .ref Ce, data := .fields #[.ref t2, .none, .none, .none, .bool false, .none] }) rfl (·.setIfInBounds 2 (Value.ref ex))
      have keep : ∀ b o, b ≠ e2 → h'.get? b = some o → (h'.update e2 (Obj.mapFields (·.setIfInBounds 2 (.ref ex)))).get? b = some o := fun b o hb e => by
        rw [Heap.get?_update_other _ _ (Ne.symm hb)]; exact e
      have hls₂ : ∀ b ∈ env.locals :: ls, ∃ o es n, s₂.heap.get? b = some o ∧ o.data = .dict es n := fun b hb => by
        rcases List.mem_cons.mp hb with rfl | hb
        · obtain ⟨o, es, ep, ho, hd, _⟩ := hns
          exact ⟨o, es, ep, e₂.heap _ o ho, hd⟩
        · obtain ⟨o, es, n, ho, hd⟩ := hls b hb
          exact ⟨o, es, n, e₂' b o ho, hd⟩
      have live : ∀ b o, s₂.heap.get? b = some o → b ≠ e2 := fun b o e q => by
        have := made.new
        rw [← q, e] at this; cases this
      have Fl : Fly (env.locals :: ls) s₂.heap e2 t2 (.ref Ce) [.str (mkS l) tk] (.ref ex) none (h'.update e2 (Obj.mapFields (·.setIfInBounds 2 (.ref ex)))) := by
        refine ⟨.of_all fun b o e => keep b o (live b o e) (made.keeps b o e), made.new, hdt, keep _ _ ?_ htup, ⟨_, _, Heap.get?_update_self _ he (Obj.isFreed_of_fields hd3), Obj.cls_mapFields _ _, hd3, rfl, ⟨rfl, rfl⟩, rfl⟩, fun b hb => ?_⟩
        · rintro rfl
          rw [he] at htup; cases htup
        · obtain ⟨o, es, n, ho, hd⟩ := hls₂ b hb
          exact ⟨o, es, n, keep b o (live b o ho) (made.keeps b o ho), hd⟩
      have FrA : Frames (env.locals :: ls) (env :: outer) := fun e he => by
        rcases List.mem_cons.mp he with rfl | he
        · exact ⟨by rw [O.k]; decide, _, hff, .head _⟩
        · obtain ⟨h1, L, h2, h3⟩ := Fr e he
          exact ⟨h1, L, h2, .tail _ h3⟩
      refine wpAny_bind (Fly.note_new (s := { s₂ with heap := _ }) Fl (Around.frames_deeper hfA) FrA hff fun h₃ Fl => Fly.set (s := { s₂ with heap := h₃ }) (fr := none) Fl fun h₄ Fl => ?_)
      exact hE e2 t2 s₂.heap env.locals _ ⟨e₂.gens, e₂.bare, e₂.os⟩ Fl e₂' hLd
end
end Mine

open PySem PySem.W PyProof.Rows
set_option Elab.async false
set_option maxRecDepth 100000
set_option autoImplicit false
set_option linter.unusedVariables false
set_option linter.unusedSimpArgs false
namespace Mine
section
variable {prog : Program} {w : World} {A : Around} {E : Value → Shared → Prop} {s : Shared} {K : Frag} {Ce e t0 : Addr} {x : Str} {bmB : List Value} {newId : String} {mg : Str → Option Value} {oe : Obj} {vs : Array Value} {m : Str} {tk : Tok}

theorem check_str_own {M : Model} {Q : Unit → Shared → Prop} (OC : OwnCls x Ce bmB newId mg s.heap) (hbase : bmB.contains (.type "BaseException") = true) (he : s.heap.get? e = some oe) (hc : oe.cls = .ref Ce) (hq : Q () s) :
    wpAny M A (checkBuiltinCall "BaseException.__str__" ⟨[.ref e], []⟩) Q E s := by
  have hk : builtinKind "BaseException.__str__" = some .slot := by decide +kernel
  have hsplit : splitId "BaseException.__str__" = some ("BaseException", "__str__") := by decide +kernel
  obtain ⟨bm, N, nm, q, bs, hdct, sn, sub, ab, col, dd, k0, k1, k2, k3, k5, mN, hC, hN, hni, OT⟩ := OC.obj
  have hcB : (Value.ref Ce :: bm).contains (.type "BaseException") = true := by rw [List.contains_cons, OT.hasType hbase]; simp
  have ha := F.args_bexc_str (.ref e)
  obtain ⟨h, g, d, t, os⟩ := s
  simp only [checkBuiltinCall, hk, hsplit]
  refine wpAny_bind ?_
  · unfold isInstance
    repeat (first | (with_reducible refine wpAny_loadPart_at he ?_; rw [hc]) | (with_reducible refine wpAny_isSubtype_exc hC ?_; rw [hcB]) | wp_step)
    exact hq

theorem args_own {M : Model} {items : List Value} {Q : Value × List Value → Shared → Prop} (he : s.heap.get? e = some oe) (hd : oe.data = .fields vs) (h0 : vs[0]? = some (.ref t0)) (ht : s.heap.TupAt t0 items) (hq : Q (.ref t0, items) s) :
    wpAny M A (Builtin.BaseException.bexcArgs (.ref e)) Q E s := by
  obtain ⟨ot, k, hto, _, htd⟩ := ht
  unfold Builtin.BaseException.bexcArgs
  refine wpAny_bind (wpAny_field he hd h0 (wpAny_bind (wpAny_seqItems hto htd ?_)))
  have : items.toArray.toList = items := by simp
  show wpAny M A (pure (Value.ref t0, items.toArray.toList)) Q E s
  rw [this]; exact wpAny_pure hq
theorem strEntry_own {Q : Fin → Shared → Prop} (he : s.heap.get? e = some oe) (hd : oe.data = .fields vs) (h0 : vs[0]? = some (.ref t0)) (ht : s.heap.TupAt t0 [.str m tk]) (hq : Q (.done (.ret (.str m tk))) s) :
    wpAny (model prog w) A (Builtin.«BaseException.__str__» ⟨[.ref e], []⟩) Q E s := by
  unfold Builtin.«BaseException.__str__»
  repeat (first | with_reducible refine args_own he hd h0 ht ?_ | wp_step)
  exact hq

theorem strOf_own {Q : Value → Shared → Prop} (hu : A.units < cLine) (X : K.In s.heap) (hs : findIn K (.ref Ce) "__str__" = some (some (.builtin "BaseException.__str__"))) (OC : OwnCls x Ce bmB newId mg s.heap) (hbase : bmB.contains (.type "BaseException") = true)
    (he : s.heap.get? e = some oe) (hc : oe.cls = .ref Ce) (hd : oe.data = .fields vs) (h0 : vs[0]? = some (.ref t0)) (ht : s.heap.TupAt t0 [.str m tk]) (h : Q (.str m tk) s) :
    wpAny (model prog w) A (Builtin.Str.strOf (.ref e)) Q E s := by
  unfold Builtin.Str.strOf
  rw [show Builtin.Str.isExactStr (.ref e) = false from rfl]
  refine wpAny_bind (m := cRoomFor _ _) (wpAny_cRoomFor hu ?_)
  have ty : wpAny (model prog w) A (typeOf (.ref e)) (fun v s' => v = .ref Ce ∧ s' = s) E s := by
    unfold typeOf
    repeat (first | (with_reducible refine wpAny_loadPart_at he ?_; rw [hc]) | wp_step)
    exact ⟨rfl, rfl⟩
  refine wpAny_bind (m := callSpecial? (.ref e) (Str.ofString "__str__")) ?_
  unfold callSpecial? specialOf
  refine wpAny_bind (wpAny_bind (wpAny_mono ty (fun v s' hv => ?_) fun _ _ z => z))
  obtain ⟨rfl, rfl⟩ := hv
  refine (looks_findIn X hs).here ?_
  refine wpAny_holding ?_
  rw [F.excStr_Exception.str.bind (.ref e)]
  refine wpAny_bind (wpAny_pure ?_)
  refine wpAny_bind ?_
  refine wpAny_call (codeAny_call_builtin F.excStr_Exception.str.plain F.entry_bexc_str (check_str_own OC hbase he hc ?_))
  exact strEntry_own he hd h0 ht (wpAny_pure (wpAny_pure h))

theorem str_own {Q : Value → Shared → Prop} (hu : A.units + 2 < cLine) (X : K.In s.heap) (hs : findIn K (.ref Ce) "__str__" = some (some (.builtin "BaseException.__str__"))) (OC : OwnCls x Ce bmB newId mg s.heap) (hbase : bmB.contains (.type "BaseException") = true)
    (he : s.heap.get? e = some oe) (hc : oe.cls = .ref Ce) (hd : oe.data = .fields vs) (h0 : vs[0]? = some (.ref t0)) (ht : s.heap.TupAt t0 [.str m tk]) (h : Q (.str m tk) s) :
    wpAny (model prog w) A (call (.type "str") [.ref e]) Q E s := by
  refine callType_codes (T := "str") (Bi := Builtin.«object.__init__») (Q₁ := fun r s₁ => ∃ y u, r = .str y u ∧ Q r s₁) PySem.F.called_str (PySem.F.typeCall_str_1 _) PySem.F.entry_object_init ?_ ?_
  · refine codeAny_of_tree ?_
    show wpAny _ A.in1.in1 (do checkBuiltinCall "str.__new__" ⟨[.type "str", .ref e], []⟩; again (.builtin "str.__new__" ⟨[.type "str", .ref e], []⟩)) _ _ s
    refine wpAny_bind (wpAny_of_eq (PySem.F.newCall_str_1 _) (wpAny_pure ⟨plainId_quiet (by decide +kernel) _, codeAny_builtin PySem.F.entry_str_new ?_⟩))
    rw [Around.under_plainId (by decide +kernel) _]
    rw [str_new_tree]
    refine wpAny_bind (wpAny_pure ?_)
    refine wpAny_bind (wpAny_of_eq isSubtype_str_str ?_)
    refine wpAny_bind (strOf_own (A := A.in1.in1) hu X hs OC hbase he hc hd h0 ht (wpAny_pure ⟨_, _, rfl, h⟩))
  · rintro obj s₁ ⟨y, u, rfl, hq⟩
    exact ⟨typeIs_str _ _ _, PySem.F.args_object_init_2 _ _, object_init_meets PySem.F.called_str.init.lookup PySem.F.called_str.made (by decide) prog w A.in1 _ s₁ ⟨typeIs_str _ _ _, rfl, hq⟩⟩
end
end Mine

open PySem PySem.W PyProof.Rows
set_option Elab.async false
set_option maxRecDepth 100000
set_option autoImplicit false
set_option linter.unusedVariables false
set_option linter.unusedSimpArgs false
namespace Mine

/-- all is kept but what stands at L, and the slots at ls -/
structure Kx (L : Addr) (ls : List Addr) (h h' : Heap) : Prop where
  keep : ∀ b o, b ≠ L → b ∉ ls → h.get? b = some o → h'.get? b = some o
  slot : ∀ b o, b ≠ L → b ∈ ls → h.get? b = some o → ∃ sl, h'.get? b = some { o with slots := sl }
theorem Kx.refl (L : Addr) (ls : List Addr) (h : Heap) : Kx L ls h h := ⟨fun _ _ _ _ e => e, fun _ o _ _ e => ⟨o.slots, e⟩⟩
theorem Kx.trans {L : Addr} {ls : List Addr} {h h' h'' : Heap} (x : Kx L ls h h') (y : Kx L ls h' h'') : Kx L ls h h'' :=
  ⟨fun b o h1 h2 e => y.keep b o h1 h2 (x.keep b o h1 h2 e), fun b o h1 h2 e => let ⟨_, e₁⟩ := x.slot b o h1 h2 e; let ⟨sl, e₂⟩ := y.slot b _ h1 h2 e₁; ⟨sl, e₂⟩⟩
theorem Kx.of_but {L : Addr} {ls : List Addr} {h h' : Heap} (k : ∀ b o, b ≠ L → h.get? b = some o → h'.get? b = some o) : Kx L ls h h' := ⟨fun b o h1 _ e => k b o h1 e, fun b o h1 _ e => ⟨o.slots, k b o h1 e⟩⟩
theorem Kx.of_all {L : Addr} {ls : List Addr} {h h' : Heap} (k : ∀ b o, h.get? b = some o → h'.get? b = some o) : Kx L ls h h' := .of_but fun b o _ e => k b o e

section
variable {prog : Program} {w : World} {A : Around} {E : Value → Shared → Prop} {s : Shared} {env : Env}
theorem handleBy_own_as' {e C : Addr} {x : Str} {bmB : List Value} {newId : String} {mg : Str → Option Value} {t : Expr} {n : Str} {b₀ : Stmt} {suite : List Stmt} {pos : Pos} {rest : List ExceptHandler} {Q : Flow → Shared → Prop}
    (hbase : bmB.contains (.type "BaseException") = true)
    (h : wpAny (model prog w) (A.mark (some (.ref e))) (eval t env) (fun c s₁ => c = .ref C ∧ OwnCls x C bmB newId mg s₁.heap ∧ (∃ oe, s₁.heap.get? e = some oe ∧ oe.cls = .ref C) ∧
      wpAny (model prog w) (A.mark (some (.ref e))) (setFlight (.ref e) none) (fun _ s₂ =>
          wpAny (model prog w) (A.mark (some (.ref e))) (storeName env n (.ref e)) (fun _ s₃ =>
            wpAny (model prog w) (A.mark (some (.ref e))) (execs (b₀ :: suite) env)
              (fun f s₄ => wpAny (model prog w) A (do bindName env n .none; unbindBehindTheSuite env n pos) (fun _ s₅ => Q f s₅) E s₄)
              (AsSuiteRaised (model prog w) (A.mark (some (.ref e))) env n pos (notedBy (model prog w) (A.mark (some (.ref e))) env (cameBackBy (model prog w) A env E))) s₃) (notedBy (model prog w) (A.mark (some (.ref e))) env (cameBackBy (model prog w) A env E)) s₂) (notedBy (model prog w) (A.mark (some (.ref e))) env (cameBackBy (model prog w) A env E)) s₁) (notedBy (model prog w) (A.mark (some (.ref e))) env (cameBackBy (model prog w) A env E)) s) :
    wpAny (model prog w) A (handleBy (.ref e) env (.ExceptHandler (some t) (some n) (b₀ :: suite) pos :: rest)) Q E s := by
  refine wpAny_handleBy_cons (codeAny_handlers_test (wpAny_mono h (fun c s₁ h₁ => ?_) fun _ _ y => y)) (by intro q; cases q)
  obtain ⟨rfl, O, ⟨oe, he, hcls⟩, hk⟩ := h₁
  obtain ⟨bm, N, nm, q, bs, hdct, sn, sub, ab, col, dd, k0, k1, k2, k3, k5, mN, hC, hN, hq, T⟩ := O.obj
  obtain ⟨hh, g, d, tk, os⟩ := s₁
  exact wpAny_excMatches_sub_self hC he hcls (T.hasType hbase) (codeAny_handlers_suite_as hk)
end

section
variable {C : Cx} {sc : Scope} {bmB : List Value} {B newId initId : String}

theorem suite_reply {A : Around} {env : Env} {outer : List Env} {ls : List Addr} {e t : Addr} {s : Shared} {m : Str → Option Value} {msg : List Nat} {tk : Tok}
    {pre y ex : Str} {strN rf rp pn er an : Str} {a1 p1 p2 p3 n1 n2 n3 n4 p4 p5 n5 n6 n7 b2 p6 p7 p8 hp tp b1 : Pos} {c1 c2 : Nat}
    {f Ce : Addr} {fd : FuncData} {prm : Str} {rest : List Stmt} {q1 q2 q3 q4 q5 q6 nq nq2 cq rq iq : Pos} {d1 d2 : Nat}
    (D : DefOK C f fd [prm] (.If (.Compare (.Subscript (.Name prm q1) (.Slice none (some (.Constant (.int 3) d1 q2)) none q3) q4) [.NotEq] [.Constant (.str y) d2 q5] q6) [.Raise (some (.Call (.Name er nq) [.Name prm nq2] [] cq)) none rq] [] iq :: rest))
    (hgen : fd.scope.isGenerator = false) (hprm : fd.scope.names.lookup prm = some .local) (hdp : (prm == ("__debug__" : Str)) = false) (F : ExcBaseFacts B newId initId bmB) (hbase : bmB.contains (.type "BaseException") = true)
    (gd : Gl C fd.scope er (.ref Ce)) (hin : nsIn C.K mainGlobals er = some (some (.ref Ce))) (hex : excIn C.K Ce bmB newId = true) (hstr : findIn C.K (.ref Ce) "__str__" = some (some (.builtin "BaseException.__str__")))
    (O : EnvOK env sc) (hdep : A.depth + 5 < recursionLimit) (hun : A.units + 100 < cLine) (hh : A.handled = some (.ref e)) (hfA : A.frames = some (env :: outer)) (hff : env.frame = some env.locals) (Fr : Frames ls outer)
    (gs : Gl C sc strN (.type "str")) (gp : Gl C sc pn (.ref f)) (ge : Gl C sc er (.ref Ce))
    (hrf : sc.names.lookup rf = some .local) (hrp : sc.names.lookup rp = some .local) (han : sc.names.lookup an = some .local) (hdf : (rf == ("__debug__" : Str)) = false) (hdr : (rp == ("__debug__" : Str)) = false) (hda : (an == ("__debug__" : Str)) = false)
    (hw : ∃ h₀ : Heap, Wd C h₀ ∧ ∀ b o, h₀.get? b = some o → s.heap.get? b = some o ∧ b ≠ env.locals ∧ b ∉ ls) (hns : s.heap.Ns env.locals m) (hme : m rf = some (.ref e)) (hls : ∀ b ∈ ls, ∃ o es n, s.heap.get? b = some o ∧ o.data = .dict es n)
    (he : ∃ oe vs, s.heap.get? e = some oe ∧ oe.cls = .type "ValueError" ∧ oe.data = .fields vs ∧ vs.size = 6 ∧ (vs[0]? = some (.ref t) ∧ vs[2]? = some .none)) (ht : s.heap.get? t = some { cls := .type "tuple", data := .seq #[.str (mkS msg) tk] })
    (hz : pre.length + msg.length ≤ 1000) (hl : (pre.cps.toList ++ msg).take 3 ≠ y.cps.toList) (heq : pre.cps.toList ++ msg = ex.cps.toList) :
    wpAny C.M A (execs [.Assign [.Name rp a1] (.BinOp (.Constant (.str pre) c1 b1) .Add (.Call (.Name strN n1) [.Name rf n2] [] p1) p2) p3,
        .Try [.Expr (.Call (.Name pn n3) [.Name rp n4] [] p4) p5] [.ExceptHandler (some (.Name er n5)) (some an) [.Return (some (.Compare (.Call (.Name strN n6) [.Name an n7] [] p6) [.Eq] [.Constant (.str ex) c2 b2] p7)) p8] hp] [] [] tp] env)
      (fun fl s' => fl = .ret (.bool true) ∧ GExt s s' ∧ Kx env.locals ls s.heap s'.heap ∧ ∃ m', s'.heap.Ns env.locals m') (fun _ _ => False) s := by
  obtain ⟨h₀, W₀, hw⟩ := hw
  have wdK : ∀ h' : Heap, Kx env.locals ls s.heap h' → Wd C h' := fun h' k => W₀.keeps fun b o q => k.keep b o (hw b o q).2.1 (hw b o q).2.2 (hw b o q).1
  have neL : ∀ b o, s.heap.get? b = some o → (∀ es n, o.data ≠ .dict es n) → b ≠ env.locals ∧ b ∉ ls := fun b o hb hd => by
    refine ⟨?_, fun hm => ?_⟩
    · rintro rfl
      obtain ⟨o', es, ep, ho, hd', _⟩ := hns
      rw [hb] at ho; cases ho; exact hd _ _ hd'
    · obtain ⟨o', es, n, ho, hd'⟩ := hls b hm
      rw [hb] at ho; cases ho; exact hd _ _ hd'
  obtain ⟨oe, vs, he1, he2, he3, he4, he5, he6⟩ := he
  have heL := neL e oe he1 fun es n q => by rw [he3] at q; cases q
  have htL := neL t _ ht fun es n q => by cases q
  have hprelen : pre.cps.toList.length = pre.length := by simp [Str.length]
  refine wpAny_execs_cons (wpAny_Assign_Name (wpAny_BinOp ?_) rfl)
  show wpAny C.M A (mkText pre) _ _ s
  refine wpAny_mkText ?_
  refine Call_Name rfl (gs A env _ n1 _ _ (wdK _ (.refl ..)) O ?_)
  rw [show backTo p1 (starEach [.Name rf n2] env) = [(false, eval (.Name rf n2) env)] from rfl]
  refine PySem.callWith_type (by rfl) (Calls.evalArgs_plain (Calls.spliced_cons (wpAny_Name (wpAny_loadName_local O.k ((O.kindOf _).trans hrf) hns hme (Calls.spliced_nil ?_)) hdf)))
  refine P.str_of_exc_one PySem.F.excStr_ValueError (by omega) (t0 := t) (m := mkS msg) (tk := tk) ⟨oe, vs, he1, he2, he3, he5⟩ ⟨_, _, ht, rfl, rfl⟩ ?_
  refine PyProof.Rows.add_str (fun t' tk' => ?_) (by show pre.cps.toList.length + (mkS msg).length ≤ 16777216; rw [mkS_length, hprelen]; omega)
  refine wpAny_storeName_local ((O.kindOf _).trans hrp) hns (fun h₁ hn₁ hs₁ => ?_) (by rw [O.k]; rfl)
  have k₁ : Kx env.locals ls s.heap h₁ := .of_but fun b o hb q => (hs₁.2 b hb).trans q
  have hpm : pre ++ mkS msg = mkS (pre.cps.toList ++ msg) := by rw [← mkS_append, mkS_toList]
  rw [hpm] at hn₁
  refine wpAny_execs_cons (wpAny_Try_except (wpAny_execs_cons (wpAny_Expr ?_ (hi := by unfold interactive; rw [O.k]; rfl))))
  refine Call_Name rfl (gp A env _ n3 _ _ (wdK _ k₁) O ?_)
  rw [show backTo p4 (starEach [.Name rp n4] env) = [(false, eval (.Name rp n4) env)] from rfl]
  obtain ⟨oc, od, osl, ho⟩ := D.obj
  refine Calls.callWith_function (o := ⟨oc, od, .func fd, osl⟩) (fd := fd) (Calls.evalArgs_plain (Calls.spliced_cons (wpAny_Name (wpAny_loadName_local O.k ((O.kindOf _).trans hrp) hn₁ (by simp; rfl) (Calls.spliced_nil ⟨⟨(wdK _ k₁).k _ _ ho, rfl⟩, ?_⟩)) hdr)))
  have hls₁ : ∀ b ∈ env.locals :: ls, ∃ o es n, h₁.get? b = some o ∧ o.data = .dict es n := fun b hb => by
    by_cases hbL : b = env.locals
    · obtain ⟨o, es, ep, ho, hd, _⟩ := hn₁
      exact ⟨o, es, ep, hbL ▸ ho, hd⟩
    · rcases List.mem_cons.mp hb with q | hb
      · exact absurd q hbL
      · obtain ⟨o, es, n, ho, hd⟩ := hls b hb
        obtain ⟨sl, q⟩ := k₁.slot b o hbL hb ho
        exact ⟨_, es, n, q, hd⟩
  have FrA : Frames (env.locals :: ls) (env :: outer) := fun x hx => by
    rcases List.mem_cons.mp hx with rfl | hx
    · exact ⟨by rw [O.k]; decide, _, hff, .head _⟩
    · obtain ⟨h1, L, h2, h3⟩ := Fr x hx
      exact ⟨h1, L, h2, .tail _ h3⟩
  refine wpAny_mono (call_raises (C := C) (l := pre.cps.toList ++ msg) D hgen hprm hdp F hbase gd hin hex (by omega) hh hfA FrA hls₁ (wdK _ k₁) ⟨oe, vs, k₁.keep _ _ heL.1 heL.2 he1, he3, he6⟩ ?_ hl (fun e2 t2 g₀ LP s₂ g₂ Fl hg₀ hLP => ?_)) (fun _ _ q => q.elim) fun _ _ q => q
  · have : pre.cps.toList.length = pre.length := by simp [Str.length]
    rw [List.length_append, this]; omega
  · have FrB : Frames (LP :: env.locals :: ls) (env :: outer) := fun x hx => by
      obtain ⟨h1, L, h2, h3⟩ := FrA x hx
      exact ⟨h1, L, h2, .tail _ h3⟩
    refine Fly.note_next Fl hfA FrB hff fun h₃ Fl => Fly.set (s := { s₂ with heap := h₃ }) (fr := none) Fl fun h₄ Fl => ?_
    have kOf : ∀ {fl : Option Value} {h' : Heap}, Fly (LP :: env.locals :: ls) g₀ e2 t2 (.ref Ce) [.str (mkS (pre.cps.toList ++ msg)) t'] (.ref e) fl h' → Kx env.locals ls s.heap h' := fun {fl h'} Fl => k₁.trans ⟨fun b o hb hbl q => Fl.up.keep b o (fun hm => by
        rcases List.mem_cons.mp hm with r | hm
        · rw [r, hLP] at q; cases q
        · rcases List.mem_cons.mp hm with r | hm
          · exact hb r
          · exact hbl hm) (hg₀ b o q), fun b o hb hbl q => Fl.up.slot b o (.tail _ (.tail _ hbl)) (hg₀ b o q)⟩
    have nsOf : ∀ {fl : Option Value} {h' : Heap}, Fly (LP :: env.locals :: ls) g₀ e2 t2 (.ref Ce) [.str (mkS (pre.cps.toList ++ msg)) t'] (.ref e) fl h' → ∃ m', h'.Ns env.locals m' := fun {fl h'} Fl => by
      obtain ⟨o, es, ep, ho, hd, r⟩ := hn₁
      obtain ⟨sl, hsl⟩ := Fl.up.slot env.locals o (.tail _ (.head _)) (hg₀ _ _ ho)
      exact ⟨_, _, es, ep, hsl, hd, r⟩
    have ownOf : ∀ h' : Heap, Wd C h' → ∃ mg, OwnCls er Ce bmB newId mg h' := fun h' W' => by
      obtain ⟨p, lo, mean, mg, mb, T⟩ := W'.top
      exact ⟨_, own_of_in (p := p) (loose := lo) W'.k (topRead_of T) hin hex⟩
    obtain ⟨mg, OC⟩ := ownOf h₄ (wdK _ (kOf Fl))
    refine handleBy_own_as' (C := Ce) (x := er) (bmB := bmB) (newId := newId) (mg := mg) hbase (ge _ env _ n5 _ _ (wdK _ (kOf Fl)) O ⟨rfl, OC, ?_, ?_⟩)
    · obtain ⟨oe, vs, h1, h2, _⟩ := Fl.exc
      exact ⟨oe, h1, h2⟩
    · refine Fly.set (s := { s₂ with heap := h₄ }) (fr := none) Fl fun h₅ Fl => ?_
      obtain ⟨m₅, hn₅⟩ := nsOf Fl
      refine wpAny_storeName_local ((O.kindOf _).trans han) hn₅ (fun h₆ hn₆ hs₆ => ?_) (by rw [O.k]; rfl)
      have k₆ : Kx env.locals ls s.heap h₆ := (kOf Fl).trans (.of_but fun b o hb q => (hs₆.2 b hb).trans q)
      refine wpAny_execs_cons (wpAny_Return_some (wpAny_Compare1 ?_ rfl))
      refine Call_Name rfl (gs _ env _ n6 _ _ (wdK _ k₆) O ?_)
      rw [show backTo p6 (starEach [.Name an n7] env) = [(false, eval (.Name an n7) env)] from rfl]
      refine PySem.callWith_type (by rfl) (Calls.evalArgs_plain (Calls.spliced_cons (wpAny_Name (wpAny_loadName_local O.k ((O.kindOf _).trans han) hn₆ (by simp; rfl) (Calls.spliced_nil ?_)) hda)))
      obtain ⟨oe2, vs2, x1, x2, x3, x4, x5, _⟩ := Fl.exc
      obtain ⟨oL, esL, epL, hoL, hdL, _⟩ := hn₅
      have e2L : e2 ≠ env.locals := by
        rintro rfl
        rw [x1] at hoL; cases hoL; rw [x3] at hdL; cases hdL
      have t2L : t2 ≠ env.locals := by
        rintro rfl
        rw [Fl.tup] at hoL; cases hoL; cases hdL
      obtain ⟨mg', OC'⟩ := ownOf h₆ (wdK _ k₆)
      refine str_own (t0 := t2) (m := mkS (pre.cps.toList ++ msg)) (tk := t') ?_ (wdK _ k₆).k hstr OC' hbase ((hs₆.2 e2 e2L).trans x1) x2 x3 x5.1 ⟨_, _, (hs₆.2 t2 t2L).trans Fl.tup, rfl, rfl⟩ ?_
      · show A.units + 2 < cLine; omega
      · show wpAny C.M _ (mkText ex) _ _ _
        refine wpAny_mkText ?_
        refine P.eq_str ?_
        rw [show ((mkS (pre.cps.toList ++ msg)).cps.toList == ex.cps.toList) = true by rw [heq, mkS_toList]; simp]
        refine wpAny_nameGoes ((O.kindOf _).trans han) hn₆ (by rw [O.k]; rfl) fun h₇ m₇ hn₇ hs₇ => ?_
        refine ⟨rfl, ⟨fun g st q => g₂.gens g st q, fun q => g₂.bare q, g₂.os⟩, k₆.trans (.of_but fun b o hb q => (hs₇.2 b hb).trans q), m₇, hn₇⟩
end
end Mine

open PySem PySem.W PyProof.Rows
set_option Elab.async false
set_option maxRecDepth 100000
set_option autoImplicit false
set_option linter.unusedVariables false
set_option linter.unusedSimpArgs false
namespace Mine
variable {C : Cx} {k : Nat} {sc : Scope} {ρ : Vars} {own : List Str}

/-! ### the law's own call -/
theorem startFrame' {f : Addr} {fd : FuncData} {names : List Str} (hkind : fd.scope.kind = .function) (hgl : fd.globals = mainGlobals) (hbi : fd.builtins = builtinsNs) (hkinds : ∀ x ∈ names, fd.scope.names.lookup x = some .local ∨ fd.scope.names.lookup x = some .cell) (hnd : names.Nodup) {s s₁ : Shared} {vs : List Value} {ms : List MV} (W : Wd C s.heap) (hv : All2 (Rep s.heap noMu) vs ms) (hlen : ms.length = names.length)
    (x : InCallC s (callEnvC fd s.heap.objs.size f).locals (bindL (callEnvC fd s.heap.objs.size f).kindOf (names.zip vs) fun _ => none) (callEnvC fd s.heap.objs.size f).cells (bindC (callEnvC fd s.heap.objs.size f).kindOf (names.zip vs) fun _ => none) s₁) :
    FrameOK C fd.scope (callEnvC fd s.heap.objs.size f) (fun a => ∃ o, s.heap.get? a = some o) (fun a o => s.heap.get? a = some o) [] (fun _ => 0) (names.zip ms) s₁ := by
  have hvl : vs.length = names.length := hv.length.trans hlen
  have hbn : ((names.zip vs).map (·.1)).Nodup := by rw [zip_names hvl]; exact hnd
  have O : EnvOK (callEnvC fd s.heap.objs.size f) fd.scope := ⟨rfl, hkind, hgl, hbi, fun n hn => Option.isSome_iff_exists.mp (cellsFrom_some _ _ _ (.inl hn))⟩
  have hkeep := x.toInCall.keep
  refine ⟨⟨s.heap, W, fun _ _ e => e⟩, O, ⟨_, x.toInCall.ns⟩, fun y c hy => ⟨_, x.cell y c hy⟩, fun y z c hy hz => name_of_addr x.apart (mem_of_lookup hy) (mem_of_lookup hz), fun a o ho => ⟨hkeep a o ho, ?_, fun y hy => ?_, fun y hy => (nomatch hy)⟩, fun a h => h, fun y hy => (nomatch hy), fun y hy => (nomatch hy), fun y m hy => ?_⟩
  · exact Nat.ne_of_lt (Heap.lt_size ho)
  · have := x.above y a (mem_of_lookup hy)
    have h2 := Heap.lt_size ho
    have h3 : (callEnvC fd s.heap.objs.size f).locals = s.heap.objs.size := rfl
    rw [h3] at this
    exact absurd (Nat.lt_trans this h2) (Nat.lt_irrefl _)
  · obtain ⟨v, hm, hr⟩ := zip_look hv hy
    have hyn : y ∈ names := by
      have := List.mem_map_of_mem (f := (·.1)) hm
      rw [zip_names hvl] at this; exact this
    refine ⟨v, ?_, hr.keep (Keep.of_all hkeep) (fun a o _ q => by rcases q with ⟨z, hz, _⟩ | ⟨hz, _⟩ <;> exact (nomatch hz)), fun hz => (nomatch hz)⟩
    rcases hkinds y hyn with hk | hk
    · exact .inl ⟨(O.kindOf y).trans hk, _, x.toInCall.ns, bindL_at _ y ((O.kindOf y).trans hk) _ _ v hbn hm⟩
    · obtain ⟨c, hc⟩ := O.cells y hk
      refine .inr ⟨(O.kindOf y).trans hk, c, hc, ?_⟩
      have := x.cell y c hc
      rw [bindC_at _ y ((O.kindOf y).trans hk) _ _ v hbn hm] at this
      exact this

theorem law_call {m : MV} {A : Around} {f : Addr} {o : Obj} {fd : FuncData} {names : List Str} {body : List Stmt} {ms : List MV} {vs : List Value} {s : Shared} {R : Result → Shared → Prop} (hroom : A.depth < recursionLimit) (ho : s.heap.get? f = some o) (hd : o.data = .func fd) (hcd : s.heap.CodeRec fd.code fd.qualname)
    (hbody : fd.body = .stmts body) (hclo : fd.closure = []) (hbind : bindArgs fd ⟨vs, []⟩ = pure (names.zip vs)) (hco : fd.scope.isCoroutine = false) (hgen : fd.scope.isGenerator = false)
    (hkind : fd.scope.kind = .function) (hgl : fd.globals = mainGlobals) (hbi : fd.builtins = builtinsNs) (hkinds : ∀ x ∈ names, fd.scope.names.lookup x = some .local ∨ fd.scope.names.lookup x = some .cell) (hnd : names.Nodup) (W : Wd C s.heap) (hv : All2 (Rep s.heap noMu) vs ms) (hlen : ms.length = names.length)
    (hR : ∀ v s', GExt s s' → (∀ a o, s.heap.get? a = some o → s'.heap.get? a = some o) → Rep s'.heap noMu v m → R (.ok (.ret v)) s')
    (h : ∀ env s₁, env.frame = some env.locals → FrameOK C fd.scope env (fun a => ∃ o, s.heap.get? a = some o) (fun a o => s.heap.get? a = some o) [] (fun _ => 0) (names.zip ms) s₁ →
      wpAny C.M (A.deeper env) (execs body env) (Ends C fd.scope env (fun a => ∃ o, s.heap.get? a = some o) (fun a o => s.heap.get? a = some o) s₁ (fun mf _ _ => mf = .ret m)) (fun _ _ => False) s₁) :
    codeAny C.M A (.call (.ref f) ⟨vs, []⟩) R s := by
  have hvl : vs.length = names.length := hv.length.trans hlen
  obtain ⟨p, l, mean, mg, mb, T⟩ := W.top
  refine codeAny_call_cells hroom ho hd T.nolimit hcd hbody hbind hclo (fun x hx => ?_) (fun s₁ x => ?_) hco hgen hkind
  · have hxn : x.1 ∈ names := by
      have := List.mem_map_of_mem (f := (·.1)) hx
      rw [zip_names hvl] at this; exact this
    rcases hkinds x.1 hxn with hk | hk
    · exact .inl hk
    · exact .inr ⟨hk, cellsFrom_some _ _ _ (.inl hk)⟩
  · have F := startFrame' hkind hgl hbi hkinds hnd W hv hlen x
    obtain ⟨h₁, tk₁, e₁⟩ := x.toInCall.same
    have g₁ : GExt s s₁ := by rw [e₁]; exact ⟨fun _ _ e => e, id, rfl⟩
    refine wpAny_mono (h _ s₁ (by simp [callEnvC, newEnv, hkind]) F) (fun fl s' he => ?_) fun _ _ x => x.elim
    obtain ⟨mf, ρ', own', ad', F', g, hp, hf⟩ := he
    subst hp
    obtain ⟨v, rfl, hr⟩ := hf
    exact hR v s' (g₁.trans g) (fun a o e => (F'.prot a o e).1) hr.weak

theorem FrameOK.slots {env : Env} {B : Addr → Prop} {pr : Addr → Obj → Prop} {ad : Str → Addr} {s s' : Shared} (F : FrameOK C sc env B pr own ad ρ s) (u : Up [env.locals] s.heap s'.heap) : FrameOK C sc env B pr own ad ρ s' := by
  have keep : ∀ b o, b ≠ env.locals → s.heap.get? b = some o → s'.heap.get? b = some o := fun b o hb e => u.keep b o (by rw [List.mem_singleton]; exact hb) e
  have hns : ∀ {m : Str → Option Value}, s.heap.Ns env.locals m → s'.heap.Ns env.locals m := fun {m} ⟨o, es, ep, ho, hd, r⟩ => by
    obtain ⟨sl, hsl⟩ := u.slot _ o (.head _) ho
    exact ⟨_, es, ep, hsl, hd, r⟩
  obtain ⟨m₀, hm₀⟩ := F.ns
  have hce : ∀ {c : Addr} {v : Option Value}, s.heap.IsCell c v → s'.heap.IsCell c v := fun {c v} N => by
    have hne := cell_not_ns N hm₀
    obtain ⟨o, ho, hd⟩ := N
    exact ⟨o, keep _ o hne ho, hd⟩
  refine ⟨F.wds, F.envOk, ⟨_, hns hm₀⟩, fun y c hy => let ⟨v, h⟩ := F.cells y c hy; ⟨v, hce h⟩, F.apart, fun a o h => let ⟨h1, h2, r⟩ := F.prot a o h; ⟨keep a o h2 h1, h2, r⟩, F.base, fun y hy => ?_, F.inj, fun y my hy => ?_⟩
  · obtain ⟨h1, vs, n, h2⟩ := F.owns y hy
    exact ⟨h1, vs, n, keep _ _ (fun e => ns_not_list hm₀ (e ▸ h2)) h2⟩
  · obtain ⟨v, h1, h2, h3⟩ := F.vars y my hy
    refine ⟨v, ?_, h2.off (W := fun b => b = env.locals) (fun b hb o vs n ho hd => ?_) keep, h3⟩
    · rcases h1 with ⟨h1, m1, h2, h3⟩ | ⟨h1, c, h2, h3⟩
      · exact .inl ⟨h1, m1, hns h2, h3⟩
      · exact .inr ⟨h1, c, h2, hce h3⟩
    · obtain ⟨o', es, ep, ho', hd', _⟩ := hm₀
      rw [hb, ho'] at ho; cases ho; rw [hd'] at hd; cases hd

theorem Ex.run {ss : List Stmt} {P : MF → Vars → List Str → Prop} (h : Ex C k sc ρ own ss P) {A : Around} {env : Env} {s : Shared} {B : Addr → Prop} {pr : Addr → Obj → Prop} {ad : Str → Addr} (R : Room k A) (F : FrameOK C sc env B pr own ad ρ s) :
    wpAny C.M A (execs ss env) (Ends C sc env B pr s P) (fun _ _ => False) s := h A env s B pr ad R F

theorem As.run {st : Stmt} {rest : List Stmt} {x : Str} {fr : Bool} {m : MV} {P : MF → Vars → List Str → Prop} (h : As C k sc ρ st x fr m) (hfr : fr = true ∨ m.scalar = true) {A : Around} {env : Env} {s : Shared} {B : Addr → Prop} {pr : Addr → Obj → Prop} {ad : Str → Addr} (R : Room k A) (F : FrameOK C sc env B pr [] ad ρ s)
    (c : ∀ s', FrameOK C sc env B pr [] ad ((x, m) :: ρ) s' → wpAny C.M A (execs rest env) (Ends C sc env B pr s' P) (fun _ _ => False) s') : wpAny C.M A (execs (st :: rest) env) (Ends C sc env B pr s P) (fun _ _ => False) s :=
  wpAny_execs_cons (wpAny_mono (h A env s R F.wd F.envOk F.sees F.ns F.cells) (fun f s' ⟨hf, hp⟩ => by
    subst hf
    exact wpAny_mono (c s' (F.put hp hfr)) (fun f s'' he => he.after hp.g) fun _ _ x => x) fun _ _ x => x)

/-- a call that raises and catches: it turns the slots of the law's locals alone -/
def Yes (C : Cx) (k : Nat) (f : Addr) (row : List Int) : Prop :=
  ∀ (A : Around) (s : Shared) (ra : Addr) (vs : List Value) (nn : Nat) (envL : Env), Room k A → A.frames = some [envL] → envL.scope.kind = .function → envL.frame = some envL.locals → (∃ m, s.heap.Ns envL.locals m) →
    (∃ h₀ : Heap, Wd C h₀ ∧ ∀ b o, h₀.get? b = some o → s.heap.get? b = some o ∧ b ≠ envL.locals) → IsL s.heap ra vs.toArray nn → All2 isInt vs row →
    wpAny C.M A (call (.ref f) [.ref ra]) (fun v s' => v = .bool true ∧ GExt s s' ∧ Up [envL.locals] s.heap s'.heap) (fun _ _ => False) s

/-- if refused(row) != (row[0] == 0): .. -/
theorem law_if {A : Around} {env : Env} {s : Shared} {B : Addr → Prop} {pr : Addr → Obj → Prop} {ad : Str → Addr} {P : MF → Vars → List Str → Prop} {fn sn : Str} {np np2 cp p3 p4 p5 p6 p7 p8 ip : Pos} {c1 c2 : Nat} {body rest : List Stmt} {row : List Int} {c : Int}
    {f : Addr} {oc : Value} {od : Option Addr} {fd : FuncData} {osl : Array (Option Value)} (hrest : Ex C k sc ρ [] rest P) (R : Room k A) (hfA : A.frames = some [env]) (hff : env.frame = some env.locals) (F : FrameOK C sc env B pr [] ad ρ s)
    (g : Gl C sc fn (.ref f)) (ho : C.K.lookup f = some ⟨oc, od, .func fd, osl⟩) (hr : ρ.lookup sn = some (.il row)) (hd : (sn == ("__debug__" : Str)) = false) (hc : row[0]? = some c) (hno : c ≠ 0 → Fn C k f [.il row] (.bool false)) (hyes : c = 0 → Yes C k f row) :
    wpAny C.M A (execs (.If (.Compare (.Call (.Name fn np) [.Name sn np2] [] cp) [.NotEq] [.Compare (.Subscript (.Name sn p3) (.Constant (.int 0) c1 p4) p5) [.Eq] [.Constant (.int 0) c2 p6] p7] p8) body [] ip :: rest) env) (Ends C sc env B pr s P) (fun _ _ => False) s := by
  have hcmp : Ev C k true sc ρ (.Compare (.Subscript (.Name sn p3) (.Constant (.int 0) c1 p4) p5) [.Eq] [.Constant (.int 0) c2 p6] p7) (.bool (decide (c = 0))) :=
    Ev.cmp (Ev.item lkI (Ev.name hr hd) Ev.int (by decide) (by decide) hc fun _ _ => rfl) Ev.int Cm.eqI rfl
  by_cases h0 : c = 0
  · refine wpAny_execs_cons (wpAny_If (wpAny_isTrue_Compare1 (Call_Name rfl (g A env s np _ _ F.wd F.envOk ?_)) rfl))
    rw [show backTo cp (starEach [.Name sn np2] env) = [(false, eval (.Name sn np2) env)] from rfl]
    obtain ⟨v, hv1, hv2, _⟩ := F.vars sn _ hr
    obtain ⟨ra, vs, nn, rfl, _, hla, hva⟩ := hv2
    refine Calls.callWith_function (o := ⟨oc, od, .func fd, osl⟩) (fd := fd) (Calls.evalArgs_plain (Calls.spliced_cons (wpAny_Name (hv1.load F.envOk (Calls.spliced_nil ⟨⟨F.wd.k _ _ ho, rfl⟩, ?_⟩)) hd)))
    obtain ⟨h₀, W₀, hw⟩ := F.wds
    refine wpAny_mono (hyes h0 A s ra vs nn env R hfA F.envOk.k hff F.ns ⟨h₀, W₀, fun b o q => ⟨(F.prot b o (hw b o q)).1, (F.prot b o (hw b o q)).2.1⟩⟩ hla hva) (fun v s₁ hq => ?_) fun _ _ q => q.elim
    obtain ⟨rfl, g₁, u₁⟩ := hq
    have F₁ := F.slots u₁
    refine hcmp.go R F₁.wd F₁.envOk F₁.sees fun u s₂ e₂ r₂ W₂ S₂ => ?_
    refine Cm.neB (C := C) (k := k) (a := true) (b := decide (c = 0)) A s₂ _ u _ _ R rfl r₂.weak (wpAny_truthy_bool ?_)
    rw [show (true != decide (c = 0)) = false by simp [h0], if_neg (by decide)]
    refine wpAny_execs_nil ?_
    exact wpAny_mono (hrest.run R (F₁.ext e₂)) (fun f s'' he => he.after (g₁.trans e₂.toGExt)) fun _ _ x => x
  · refine wpAny_execs_cons (wpAny_If ((Ts.cmp (Ev.call g ho (Evs.cons (Ev.name hr hd) Evs.nil fun _ _ => rfl) (hno h0) fun _ _ => rfl) hcmp Cm.neB rfl).go R F.wd F.envOk F.sees fun s₁ e₁ W₁ S₁ => ?_))
    rw [show (false != decide (c = 0)) = false by simp [h0], if_neg (by decide)]
    refine wpAny_execs_nil ?_
    exact wpAny_mono (hrest.run R (F.ext e₁)) (fun f s'' he => he.after e₁.toGExt) fun _ _ x => x

/-! ### small rules -/
def joinL (sep : List Nat) : List (List Nat) → List Nat
  | [] => []
  | [x] => x
  | x :: y :: r => x ++ sep ++ joinL sep (y :: r)
theorem join_eq (sep : List Nat) : ∀ l : List (List Nat), Txt.join (mkS sep) (l.map mkS) = mkS (joinL sep l) := by
  have key : ∀ l : List (List Nat), Str.join (mkS sep) (l.map mkS) = mkS (joinL sep l) := by
    intro l
    induction l with
    | nil => rfl
    | cons x r ih =>
      cases r with
      | nil => rfl
      | cons y r =>
        show mkS x ++ mkS sep ++ Str.join (mkS sep) (List.map mkS (y :: r)) = _
        rw [ih, mkS_append, mkS_append]
        rfl
  intro l
  rw [← key]
  exact StrLaws.glued_eq_join _ _
theorem joinL_nil : ∀ l : List (List Nat), joinL [] l = l.flatten
  | [] => rfl
  | [x] => by simp [joinL]
  | x :: y :: r => by rw [joinL, joinL_nil (y :: r)]; simp
end Mine

open PySem PySem.W PyProof.Rows
set_option Elab.async false
set_option maxRecDepth 100000
set_option autoImplicit false
set_option linter.unusedVariables false
set_option linter.unusedSimpArgs false
namespace Mine
variable {C : Cx} {k : Nat} {sc : Scope} {ρ : Vars} {own : List Str} {rest : List Stmt} {P : MF → Vars → List Str → Prop}

/-! ### bools in lists -/
theorem eqAt_bool (A : Around) (s : Shared) (a b : Bool) : PySem.SeqAt.EqAt A s (.bool a) (.bool b) (a == b) := by
  by_cases h : a = b
  · subst h
    rw [show (a == a) = true by simp]
    exact PySem.SeqAt.EqAt.same _
  · rw [show (a == b) = false by simp [h]]
    intro prog w E Q hq
    unfold eqBool
    refine wpAny_holding ?_
    refine wpAny_ite_split (fun hab => absurd (by have := eq_of_beq hab; injection this) h) (fun _ => ?_)
    refine wpAny_bind ?_
    show wpAny (model prog w) A (compareOp .Eq (.bool a) (.bool b)) _ _ s
    refine eq_bool ?_
    rw [show (a == b) = false by simp [h]]
    exact wpAny_truthy_bool hq
theorem Cm.ninB {a : Bool} {b : List Bool} : Cm C k .NotIn (.bool a) (.bl b) (!b.any (· == a)) := fun A s v u Q E R hv hu h => by
  obtain rfl := hv
  obtain ⟨y, us, n', rfl, _, hy, hu⟩ := hu
  refine PySem.SeqAt.notIn_listAt (fun v => match v with | .bool b => b == a | _ => false) hy.isList (fun y hy => ?_) ?_
  · obtain ⟨i, hi, rfl⟩ := List.getElem_of_mem (by simpa using hy)
    obtain ⟨b, _, hb⟩ := hu.getL (List.getElem?_eq_getElem hi)
    rw [show us[i] = .bool b from hb]
    exact eqAt_bool _ _ _ _
  · have e : ∀ {us : List Value} {b : List Bool}, All2 isBool us b → (us.toArray.any fun v => match v with | .bool b => b == a | _ => false) = b.any (· == a) := fun {us b} h => by
      rw [List.any_toArray]
      induction h with
      | nil => rfl
      | cons x _ ih => rw [List.any_cons, List.any_cons, ih, show _ = _ from x]
    rw [e hu]; exact h
theorem Cm.eqBN {b : List Bool} : Cm C k .Eq (.bl b) (.bl []) (decide (b = [])) := fun A s v u Q E R hv hu h => by
  obtain ⟨x, vs, n, rfl, _, hx, hv⟩ := hv
  obtain ⟨y, us, n', rfl, _, hy, hu⟩ := hu
  have hus : us = [] := List.length_eq_zero_iff.mp hu.length
  subst hus
  have hun : A.units < cLine := by have := R.units; omega
  cases b with
  | nil =>
    have hvs : vs = [] := List.length_eq_zero_iff.mp hv.length
    subst hvs
    exact PySem.SeqAt.eq_listAt (e := fun _ => true) hx.isList hy.isList rfl hun (fun j h1 _ => absurd h1 (by simp)) (by simpa using h)
  | cons b r =>
    have hvs : vs.length = r.length + 1 := hv.length
    exact PySem.SeqAt.eq_list_lengthsAt hx.isList hy.isList (by simp [hvs]) hun (by simpa using h)

theorem Ev.itemTB {v i : Expr} {p : Pos} {f1 f2 : Bool} {l : List (List Bool)} {j : Int} {a : List Bool} (hv : Ev C k f1 sc ρ v (.tb l)) (hi : Ev C k f2 sc ρ i (.int j)) (h0 : 0 ≤ j) (hz : j < 2 ^ 63) (ha : l[j.toNat]? = some a)
    (hs : ∀ o i', subscripted i false o i' = operate [o, i'] (getItem o i')) : Ev C k false sc ρ (.Subscript v i p) (.bl a) := fun A env s R W O S =>
  Subscript_ (hv.go R W O S fun o s₁ e₁ r₁ W₁ S₁ => hi.go R W₁ O S₁ fun u s₂ e₂ r₂ W₂ S₂ => by
    obtain ⟨t, rfl⟩ := r₂
    obtain ⟨x, vs, n, rfl, _, hx, hv⟩ := r₁.ext e₂
    obtain ⟨y, hy, hr⟩ := hv.get ha
    exact tail_any hx.isList.typeIs slot_list_getitem.lookup (wpAny_getItem_list hx.isList h0 hz (by simpa using hy) ⟨e₁.trans e₂, RepL.keep hr (Keep.of_all fun _ _ e => e) (fun _ _ _ q => by cases q.1) fun _ _ q => q⟩) (hs _ _))

theorem Ev.and {x y : Expr} {p : Pos} {f1 f2 : Bool} {a b : Bool} (hx : Ev C k f1 sc ρ x (.bool a)) (hy : a = true → Ev C k f2 sc ρ y (.bool b)) : Ev C k true sc ρ (.BoolOp .And [x, y] p) (.bool (a && b)) := fun A env s R W O S =>
  wpAny_And2 (hx.go R W O S fun v s₁ e₁ r₁ W₁ S₁ => by
    obtain rfl : v = .bool a := r₁
    refine wpAny_truthy_bool ?_
    cases a with
    | false => exact ⟨e₁, rfl⟩
    | true => exact (hy rfl).go R W₁ O S₁ fun u s₂ e₂ r₂ W₂ S₂ => ⟨e₁.trans e₂, r₂⟩)

/-! ### x[i] += e, x a list of its own -/
theorem All2.set' {α β : Type} {R : α → β → Prop} {as : List α} {bs : List β} (h : All2 R as bs) {a : α} {b : β} (r : R a b) : ∀ n, All2 R (as.set n a) (bs.set n b) := by
  induction h with
  | nil => intro n; exact .nil
  | cons x y ih =>
    intro n
    cases n with
    | zero => exact .cons r y
    | succ n => exact .cons x (ih n)
theorem All2.monoMem {α β : Type} {R S : α → β → Prop} {as : List α} {bs : List β} (h : All2 R as bs) (f : ∀ a b, a ∈ as → R a b → S a b) : All2 S as bs := by
  induction h with
  | nil => exact .nil
  | cons x _ ih => exact .cons (f _ _ (.head _) x) (ih fun a b hm => f a b (.tail _ hm))
theorem Ex.augItem {x y : Str} {np ip sp pos : Pos} {e : Expr} {f : Bool} {l : List Int} {j a b : Int} (hx : x ∈ own) (hl : ρ.lookup x = some (.il l)) (hj : ρ.lookup y = some (.int j)) (he : Ev C k f sc ρ e (.int b)) (hd : (x == ("__debug__" : Str)) = false) (hdy : (y == ("__debug__" : Str)) = false)
    (h0 : 0 ≤ j) (hz : j < 2 ^ 63) (ha : l[j.toNat]? = some a)
    (h : Ex C k sc ((x, .il (l.set j.toNat (a + b))) :: ρ) own rest P) :
    Ex C k sc ρ own (.AugAssign (.Subscript (.Name x np) (.Name y ip) sp) .Add e pos :: rest) P := Ex.step fun A env s B pr ad R F => by
  obtain ⟨v, h1, h2, h3⟩ := F.vars x _ hl
  obtain rfl := h3 hx
  obtain ⟨vj, hj1, ⟨tj, rfl⟩, _⟩ := F.vars y _ hj
  obtain ⟨a', vs, n, ha', hnm, hla, hv⟩ := h2
  cases ha'
  obtain ⟨w, hw, ⟨tw, rfl⟩⟩ := hv.get ha
  have hlt : j.toNat < vs.length := (List.getElem?_eq_some_iff.mp hw).1
  refine wpAny_AugAssign_Subscript (wpAny_Name (h1.load F.envOk (wpAny_Name (hj1.load F.envOk (wpAny_getItem_list hla.isList h0 hz (by simpa using hw) (he.go R F.wd F.envOk F.sees fun u s₁ e₁ r₁ W₁ S₁ => ?_))) hdy)) hd)
  obtain ⟨tu, rfl⟩ := r₁
  have F₁ := F.ext e₁
  have hla₁ : s₁.heap.get? (ad x) = some { cls := .type "list", dict := none, data := .seq vs.toArray n, slots := #[] } := e₁.heap _ _ hla
  refine PyProof.Rows.iadd_int (ki_setAt (n := n) hla₁ h0 hz (by rw [List.size_toArray]; omega) ?_)
  have up : IsL (s₁.heap.update (ad x) (Obj.mapSeq (·.setIfInBounds j.toNat (.int (a + b) s₁.toks)))) (ad x) (vs.set j.toNat (.int (a + b) s₁.toks)).toArray n := by
    have := IsL.update hla₁ (·.setIfInBounds j.toNat (.int (a + b) s₁.toks))
    simpa using this
  refine ⟨rfl, ⟨e₁.gens, e₁.bare, e₁.os⟩, _, _, _, F₁.mut (m' := .il (l.set j.toNat (a + b))) hx (h1.keeps e₁.heap) (Heap.SameBut.update ..) ⟨_, _, up⟩ ?_, h⟩
  exact ⟨_, _, n, rfl, hnm, up, hv.set' ⟨_, rfl⟩ _⟩

/-! ### x.append(y), both lists of their own: y goes into x -/
theorem Ex.appendOwn {x y : Str} {np np2 apos cpos pos : Pos} {l : List (List Bool)} {r : List Bool} {ρ' : Vars} (hx : x ∈ own) (hy : y ∈ own) (hxy : x ≠ y) (hl : ρ.lookup x = some (.tb l)) (hr : ρ.lookup y = some (.bl r)) (hρ : ∀ z m, ρ'.lookup z = some m → z ≠ y ∧ ρ.lookup z = some m)
    (hd : (x == ("__debug__" : Str)) = false) (hdy : (y == ("__debug__" : Str)) = false)
    (hbase : ∀ env, attributeBase (.Name x np) ("append" : Str) env (eval (.Name x np) env) = eval (.Name x np) env) (hline : (apos.endLine == cpos.line) = true) (hz : l.length ≤ 16777216)
    (h : Ex C k sc ((x, .tb (l ++ [r])) :: ρ') (own.filter (· != y)) rest P) :
    Ex C k sc ρ own (.Expr (.Call (.Attribute (.Name x np) ("append" : Str) apos) [.Name y np2] [] cpos) pos :: rest) P := Ex.step fun A env s B pr ad R F => by
  have hint : interactive env = false := by
    unfold interactive
    rw [F.envOk.k]; rfl
  refine wpAny_Expr (Call_method1 (hbase env) rfl hline ?_) hint
  obtain ⟨v, h1, h2, h3⟩ := F.vars x _ hl
  obtain rfl := h3 hx
  obtain ⟨u, q1, q2, q3⟩ := F.vars y _ hr
  obtain rfl := q3 hy
  obtain ⟨a', vs, n, ha', hnm, hla, hv⟩ := h2
  cases ha'
  refine wpAny_Name (h1.load F.envOk ⟨"list", "list.append", PySem.F.plainAttrs_list, PySem.F.slot_list_append, PySem.F.type_list_append, hla.isList.typeIs, fun r e => by cases e; exact ⟨_, hla, rfl⟩, ?_⟩) hd
  refine Calls.callWith_builtin rfl (Calls.evalArgs_plain (Calls.spliced_cons (wpAny_Name (q1.load F.envOk (Calls.spliced_nil ?_)) hdy)))
  refine wpAny_list_append_plain ⟨n, hla⟩ (fun h' hp hs => ?_) (by rw [List.size_toArray, hv.length]; exact hz)
  obtain ⟨n', hp⟩ := hp
  have e' : vs.toArray.push (Value.ref (ad y)) = (vs ++ [Value.ref (ad y)]).toArray := by simp
  rw [e'] at hp
  have hxf : x ∈ own.filter (· != y) := List.mem_filter.mpr ⟨hx, by simpa using hxy⟩
  have F' := F.weak (own' := own.filter (· != y)) (ρ' := ρ') (fun z hz => (List.mem_filter.mp hz).1) fun z m hz => (hρ z m hz).2
  have hMu : ∀ a, ((∃ z ∈ own.filter (· != y), z ≠ x ∧ ad z = a) ∨ (x ∈ own.filter (· != y) ∧ B a)) → (∃ z ∈ own, z ≠ x ∧ ad z = a) ∨ (x ∈ own ∧ B a) := fun a q => by
    rcases q with ⟨z, hz, hn, e⟩ | ⟨_, hb⟩
    · exact .inl ⟨z, (List.mem_filter.mp hz).1, hn, e⟩
    · exact .inr ⟨hx, hb⟩
  have hne : ad y ≠ ad x := fun e => hxy (F.inj x hx y hy e.symm)
  have keepL : ∀ {Mu Mu' : Addr → Prop} {v : Value} {r : List Bool}, RepL s.heap Mu isBool v r → (∀ a, v = .ref a → a ≠ ad x) → (∀ a, v = .ref a → ¬ Mu a → ¬ Mu' a) → RepL h' Mu' isBool v r := fun {Mu Mu' v r} ⟨b, ws, m, e1, e2, e3, e4⟩ hb hm => ⟨b, ws, m, e1, hm b e1 e2, (hs.2 b (hb b e1)).trans e3, e4⟩
  refine ⟨rfl, ⟨fun _ _ e => e, id, rfl⟩, _, _, _, F'.mut (m' := .tb (l ++ [r])) hxf h1 hs ⟨_, _, hp⟩ ?_, h⟩
  refine ⟨_, _, n', rfl, fun q => hnm (hMu _ q), hp, (hv.monoMem fun v r hm q => keepL q (fun b e hb => ?_) fun b _ nb q => nb (hMu b q)).append (.cons (keepL q2 (fun b e => by cases e; exact hne) fun b e nb q => ?_) .nil)⟩
  · subst e hb
    obtain ⟨b', ws, m, e1, _, e3, e4⟩ := q
    cases e1
    have e3' : s.heap.get? (ad x) = some { cls := .type "list", dict := none, data := .seq ws.toArray m, slots := #[] } := e3
    rw [show s.heap.get? (ad x) = _ from hla] at e3'
    have hvw : vs = ws := by simpa using (show vs.toArray = ws.toArray ∧ n = m by simpa using e3').1
    subst hvw
    obtain ⟨i, hi, hi2⟩ := List.getElem_of_mem hm
    obtain ⟨c, _, hc⟩ := e4.getL (List.getElem?_eq_getElem hi)
    rw [hi2] at hc
    cases hc
  · cases e
    rcases q with ⟨z, hz, _, e⟩ | ⟨_, hb⟩
    · obtain ⟨z1, z2⟩ := List.mem_filter.mp hz
      have := F.inj z z1 y hy e
      subst this
      simp at z2
    · exact (F.owns y hy).1 hb

/-! ### return (e, x), x a list of its own -/
theorem Ex.retPair {e : Expr} {x : Str} {np tp p : Pos} {kd : Nat} {f : Bool} {a : List Nat} {l : List Int} (he : Ev C k f sc ρ e (.str a)) (hx : x ∈ own) (hl : ρ.lookup x = some (.il l)) (hn : NS e) (hd : (x == ("__debug__" : Str)) = false) (hp : P (.ret (.pr a l)) ρ own) :
    Ex C k sc ρ own (.Return (some (.Tuple [e, .Name x np] kd tp)) p :: rest) P := fun A env s B pr ad R F => by
  refine wpAny_execs_cons (wpAny_Return_some (Tuple_ ?_))
  rw [hn]
  show wpAny C.M A (spliced ((false, eval e env) :: backTo tp (starEach [.Name x np] env))) _ _ s
  refine Calls.spliced_cons (he.go R F.wd F.envOk F.sees fun v s₁ e₁ r₁ W₁ S₁ => ?_)
  have F₁ := F.ext e₁
  obtain ⟨u, h1, h2, h3⟩ := F₁.vars x _ hl
  obtain rfl := h3 hx
  refine Calls.spliced_cons (wpAny_Name (h1.load F₁.envOk (Calls.spliced_nil ?_)) hd)
  have hnB : ¬ B s₁.heap.objs.size := fun hb => by
    obtain ⟨o, ho⟩ := F₁.base _ hb
    exact absurd (Heap.lt_size (F₁.prot _ o ho).1) (Nat.lt_irrefl _)
  obtain ⟨a', vs, n, ha', hnm, hla, hv⟩ := h2
  cases ha'
  refine wpAny_newObj_type ⟨.ret (.pr a l), ρ, own, ad, F₁.ext Ext.push, (e₁.trans Ext.push).toGExt, hp, _, rfl, _, v, .ref (ad x), rfl, hnB, ⟨_, Heap.get?_push_size _ rfl, rfl, _, rfl⟩, r₁, ad x, vs, n, rfl, (F₁.owns x hx).1, Heap.get?_push_of_some _ hla, hv⟩ (by show 2 ≤ sizeLine; decide)

/-! ### a, b = e -/
theorem FrameOK.put0 {env : Env} {B : Addr → Prop} {pr : Addr → Obj → Prop} {ad : Str → Addr} {s s' : Shared} {x : Str} {fr : Bool} {m : MV} (F : FrameOK C sc env B pr [] ad ρ s) (P : Put env x fr m s s') : FrameOK C sc env B pr [] ad ((x, m) :: ρ) s' := by
  obtain ⟨v, Z, hr, hZ, hk, hns, hce, hhas, hoth, hzp⟩ := F.facts P
  refine ⟨F.wds, F.envOk, hns, hce, F.apart, fun a o hp => ?_, F.base, (fun y hy => nomatch hy), (fun y hy => nomatch hy), fun y my hy => ?_⟩
  · obtain ⟨h1, h2, h3, h4⟩ := F.prot a o hp
    exact ⟨hk a o (hzp a o hp) h1, h2, h3, h4⟩
  · rw [List.lookup_cons] at hy
    split at hy
    · rename_i q
      cases hy
      rw [beq_iff_eq.mp q] at *
      refine ⟨v, hhas, hr.weak.keep (Keep.of_all fun _ _ e => e) fun a o _ z => ?_, (fun hx => nomatch hx)⟩
      rcases z with ⟨y, hy, _⟩ | ⟨hx, _⟩
      · exact nomatch hy
      · exact nomatch hx
    · rename_i q
      obtain ⟨u, h1, h2, h3⟩ := F.vars y my hy
      have hyx : y ≠ x := by intro e; subst e; simp at q
      exact ⟨u, hoth y u hyx h1, h2.but hZ hk, (fun hx => nomatch hx)⟩
theorem Ex.unpack {value : Expr} {a b : Str} {pa pb tp pos : Pos} {kk : Nat} {f : Bool} {t : List Nat} {l : List Int} (h : Ev C k f sc ρ value (.pr t l)) (ha : sc.names.lookup a = some .local) (hb : sc.names.lookup b = some .local)
    (hs : ∀ env, EnvOK env sc → swapsWithSole [.Tuple [.Name a pa, .Name b pb] kk tp] value pos.line env = pure false) (hw : ∀ env, EnvOK env sc → swappedStores [.Tuple [.Name a pa, .Name b pb] kk tp] value env = pure none)
    (hx : Ex C k sc ((b, .il l) :: (a, .str t) :: ρ) [] rest P) : Ex C k sc ρ [] (.Assign [.Tuple [.Name a pa, .Name b pb] kk tp] value pos :: rest) P := Ex.step fun A env s B pr ad R F => by
  refine Assign_Tuple (h.go R F.wd F.envOk F.sees fun v s₁ e₁ r₁ W₁ S₁ => ?_) (hs env F.envOk) (hw env F.envOk)
  obtain ⟨T, v1, v2, rfl, _, hT, h1, h2⟩ := r₁
  have F₁ := F.ext e₁
  refine wpAny_assign_Tuple R.handled hT rfl rfl fun h₁ he₁ => ?_
  have e₂ : Ext s₁ { s₁ with heap := h₁ } := ⟨⟨fun _ _ e => e, id, rfl⟩, fun c o e => he₁ c o (Nat.ne_of_lt (Heap.lt_size e)) e⟩
  have F₂ := F₁.ext e₂
  show wpAny _ _ (assignInOrder [PySem.assign (.Name a pa) env, PySem.assign (.Name b pb) env] [v1, v2]) _ _ _
  refine assignInOrder_cons (wpAny_assign_Name (wpAny_mono (store_put (C := C) (fr := false) (m := .str t) (Ext.refl _) h1 F₂.envOk F₂.ns F₂.cells (.inl ha)) (fun _ s₃ hp₃ => ?_) fun _ _ x => x))
  have F₃ := F₂.put0 hp₃
  have h2' : Rep s₃.heap (mu false s₃) v2 (.il l) := by
    obtain ⟨v, Z, hr, hZ, hk, _⟩ := F₂.facts hp₃
    have := (RepL.keep h2 (Keep.of_all e₂.heap) (fun _ _ _ q => q) fun _ _ q => q : RepL h₁ (mu f s) isInt v2 l)
    exact (Rep.but (m := .il l) this hZ hk).weak.keep (Keep.of_all fun _ _ e => e) fun _ _ _ y => by cases y.1
  refine assignInOrder_cons (wpAny_assign_Name (wpAny_mono (store_put (C := C) (fr := false) (m := .il l) (Ext.refl _) h2' F₃.envOk F₃.ns F₃.cells (.inl hb)) (fun _ s₄ hp₄ => ?_) fun _ _ x => x))
  exact assignInOrder_nil ⟨rfl, ((e₁.trans e₂).toGExt.trans hp₃.g).trans hp₄.g, _, _, _, F₃.put0 hp₄, hx⟩

/-! ### [a] * n -/
theorem mul_one (x : Value) : ∀ (n : Nat) (acc : Array Value), List.foldl (fun x1 x2 => x1 ++ x2) acc (List.replicate n #[x]) = acc ++ (List.replicate n x).toArray
  | 0, acc => by simp
  | n + 1, acc => by
    rw [List.replicate_succ, List.foldl_cons, mul_one x n, List.replicate_succ]
    apply Array.toList_inj.mp
    simp
theorem All2.rep {α β : Type} {R : α → β → Prop} {a : α} {b : β} (r : R a b) : ∀ n, All2 R (List.replicate n a) (List.replicate n b)
  | 0 => .nil
  | n + 1 => .cons r (All2.rep r n)
theorem Bin.mulL1 {a n : Int} (h0 : 0 ≤ n) (h1 : n ≤ 1000) : Bin C k .Mult (.il [a]) (.int n) (.il (List.replicate n.toNat a)) := fun A s v u _ hv hu => by
  obtain ⟨l, vs, kx, rfl, _, hl, hva⟩ := hv
  obtain ⟨t, rfl⟩ := hu
  cases hva with
  | cons hx hnil =>
    cases hnil
    rename_i x
    have hl' : s.heap.get? l = some { cls := .type "list", dict := none, data := .seq #[x] kx, slots := #[] } := hl
    refine wpAny_binaryOp_repeat_ref (T := "list") (U := "int") (by decide) ⟨_, hl', rfl⟩ (fun s' => typeIs_int s' n t) noFill_list_mul F.fills_int_mul F.slot_int_rmul repeat_list F.slot_int_index.lookup
      (call_meets F.slot_int_rmul (typeIs_int s n t) F.entry_int_rmul (F.args_int_rmul_2 _ _) (int___rmul___int_list n t l #[x] kx)
        ⟨hl', rfl, ⟨_, hl', rfl⟩, call_meets F.slot_list_mul ⟨_, hl', rfl⟩ F.entry_list_mul (F.args_list_mul_2 _ _)
          (AutoListH.list___mul___list_int_3 l #[x] kx n t (by simp [Builtin.List.listFitsIndex]; omega) (by simp only [List.size_toArray, List.length_cons, List.length_nil]; omega) (by simp [Builtin.List.listTooLong, sizeLine]; omega))
          ⟨hl', ?_⟩⟩)
    have e : (List.foldl (fun x1 x2 => x1 ++ x2) #[] (List.replicate (if (#[x] : Array Value).isEmpty = true then 0 else n.toNat) #[x])) = (List.replicate n.toNat x).toArray := by
      rw [if_neg (by simp), mul_one]; simp
    rw [e]
    exact pushedL lkI (Ext.refl s) (All2.rep hx n.toNat) s.toks
end Mine

open PySem PySem.W PyProof.Rows
set_option Elab.async false
set_option maxRecDepth 100000
set_option maxHeartbeats 8000000
namespace Mine
open_top hd2 for PySem.Challenge.rw_pk0021_02
end Mine

open PySem PySem.W PyProof.Rows
set_option Elab.async false
set_option maxRecDepth 100000
set_option autoImplicit false
set_option linter.unusedVariables false
namespace Mine
noncomputable abbrev C2 (w : World) : Cx := ⟨PySem.Challenge.rw_pk0021_02.row.prog, w, hd2.heap_39 w.params⟩


theorem q34 : (Str.ofString "\"").cps.toList = [34] := by decide +kernel
/-- what parse257 reads behind the opening mark -/
def prs : List Nat → List Nat
  | [] => []
  | [c] => if c = 34 then [] else [c]
  | c :: d :: r => if c = 34 then (if d = 34 then 34 :: prs r else []) else c :: prs (d :: r)

theorem parse_fn (w : World) {k : Nat} (t : List Nat) (ht : t.length ≤ 1000000) : Fn (C2 w) (k + 1) 53 [.str ([50, 53, 55, 32, 34] ++ t)] (.str (prs t)) := by
  refine Fn.of (names := [Str.ofString "resp"]) ⟨⟨_, _, _, rfl⟩, rfl, rfl, rfl, rfl, rfl, rfl, rfl, ?_, ?_⟩ rfl (by decide) rfl ?_
  · exact bind1 fun v => rfl
  · intro x hx
    simp only [List.mem_cons, List.not_mem_nil, or_false] at hx
    subst hx
    exact .inl rfl
  · dsimp only [List.zip_cons_cons, List.zip_nil_right]
    have hlen : ([50, 53, 55, 32, 34] ++ t).length ≤ 1000005 := by simp; omega
    generalize hresp : [50, 53, 55, 32, 34] ++ t = resp at hlen
    have hq : ∀ j : Nat, resp[((5 : Int) + (j : Int)).toNat]? = t[j]? := fun j => by
      rw [← hresp, show ((5 : Int) + (j : Int)).toNat = j + 5 by omega]; rfl
    have hn : resp.length = 5 + t.length := by rw [← hresp]; simp; omega
    refine Ex.ite (Ts.cmp (Ev.sliceS (Ev.name rfl (by decide)) Part.no (Part.so Ev.int) (by omega)) Ev.str Cm.neS rfl) ?_ ?_
    · intro h
      exfalso
      rw [pick_upto _ (by omega), ← hresp] at h
      exact absurd (show (!decide (([50, 53, 55] : List Nat) = (Str.ofString "257").cps.toList)) = true from h) (by decide +kernel)
    · intro _
      refine Ex.ite (Ts.cmp (Ev.sliceS (Ev.name rfl (by decide)) (Part.so Ev.int) (Part.so Ev.int) (by omega)) Ev.str Cm.neS rfl) ?_ ?_
      · intro h
        exfalso
        rw [pick_mid _ (by omega) (by omega), ← hresp] at h
        exact absurd (show (!decide (([32, 34] : List Nat) = (Str.ofString " \"").cps.toList)) = true from h) (by decide +kernel)
      · intro _
        simp only [List.nil_append]
        refine Ex.set (As.ev Ev.str (.inl rfl) (fun _ => rfl)) (.inl rfl) (List.not_mem_nil) ?_
        refine Ex.set (As.ev Ev.int (.inl rfl) (fun _ => rfl)) (.inl rfl) (List.not_mem_nil) ?_
        refine Ex.set (As.ev (Ev.bcall (Gl.built rfl PyProof.Rows.Boot.«len» (by decide) rfl (by decide)) (Evs.cons (Ev.name rfl (by decide)) Evs.nil fun _ _ => rfl) (Bf.lenS (by omega)) (fun x hx => by simp only [List.mem_cons, List.not_mem_nil, or_false] at hx; rcases hx with rfl; exact fun _ _ => rfl)) (.inl rfl) (fun _ => rfl)) (.inl rfl) (List.not_mem_nil) ?_
        refine Ex.while (σ := Nat × List Nat) (fun st => [(Str.ofString "resp", .str resp), (Str.ofString "dirname", .str st.2), (Str.ofString "i", .int (5 + (st.1 : Int))), (Str.ofString "n", .int resp.length)]) (fun st => t.length - st.1)
          (fun st => st.1 ≤ t.length ∧ st.2 ++ prs (t.drop st.1) = prs t ∧ st.2.length ≤ st.1) (fun st => decide (5 + (st.1 : Int) < (resp.length : Int))) (0, []) ⟨by omega, by simp, by simp⟩ ?_ ?_ ?_ ?_
        · (repeat' first | exact sub_nil | exact rfl | refine sub_cons ?_ ?_ | ((refine (rfl : _ = some (MV.int _)).trans (congrArg (fun z => some (MV.int z)) ?_)); first | omega | (simp; omega)) | ((refine (rfl : _ = some (MV.str _)).trans (congrArg (fun z => some (MV.str z)) ?_)); first | assumption | (simp; done)))
        · rintro ⟨j, d⟩ _
          exact Ts.cmp (Ev.name rfl (by decide)) (Ev.name rfl (by decide)) Cm.ltI rfl
        · rintro ⟨j, d⟩ ⟨h1, h2, h3⟩ hlt
          simp only [decide_eq_true_eq] at hlt h1 h2 h3
          have hj : j < t.length := by omega
          have hc : resp[((5 : Int) + (j : Int)).toNat]? = some t[j] := by rw [hq, List.getElem?_eq_getElem hj]
          have hdrop : t.drop j = t[j] :: t.drop (j + 1) := (List.drop_eq_getElem_cons hj)
          dsimp only
          refine Ex.set (As.ev (Ev.itemS (Ev.name rfl (by decide)) (Ev.name rfl (by decide)) (by omega) (by omega) hc fun _ _ => rfl) (.inl rfl) (fun _ => rfl)) (.inl rfl) (List.not_mem_nil) ?_
          refine Ex.set (As.ev (Ev.bin (Ev.name rfl (by decide)) Ev.int Bin.addI) (.inl rfl) (fun _ => rfl)) (.inl rfl) (List.not_mem_nil) ?_
          refine Ex.ite (Ts.cmp (Ev.name rfl (by decide)) Ev.str Cm.eqS rfl) ?_ ?_
          · intro hc34
            have hc34 : t[j] = 34 := by rw [q34] at hc34; simpa using hc34
            simp only [List.cons_append, List.nil_append]
            by_cases hj1 : j + 1 < t.length
            · have hc1 : resp[((5 : Int) + (j : Int) + 1).toNat]? = some t[j + 1] := by
                rw [show (5 : Int) + (j : Int) + 1 = 5 + ((j + 1 : Nat) : Int) by omega, hq, List.getElem?_eq_getElem hj1]
              have hdrop1 : t.drop (j + 1) = t[j + 1] :: t.drop (j + 2) := (List.drop_eq_getElem_cons hj1)
              refine Ex.ite (Ts.or (Ts.cmp (Ev.name rfl (by decide)) (Ev.name rfl (by decide)) Cm.geI rfl) fun _ => Ts.cmp (Ev.itemS (Ev.name rfl (by decide)) (Ev.name rfl (by decide)) (by omega) (by omega) hc1 fun _ _ => rfl) Ev.str Cm.neS rfl) ?_ ?_
              · intro hb
                rw [q34] at hb
                have hne : t[j + 1] ≠ 34 := by
                  intro e
                  rw [e] at hb
                  simp at hb
                  omega
                have he : prs (t.drop j) = [] := by rw [hdrop, hdrop1, hc34]; simp [prs, hne]
                rw [he, List.append_nil] at h2
                refine Ex.brk ⟨fun _ h => h, ?_⟩
                refine Ex.ret (Ev.up (Ev.name rfl (by decide)) rfl) ?_
                rw [h2]
              · intro hb
                rw [q34] at hb
                have heq : t[j + 1] = 34 := by simp at hb; exact hb.2
                refine Ex.set (As.ev (Ev.bin (Ev.name rfl (by decide)) Ev.int Bin.addI) (.inl rfl) (fun _ => rfl)) (.inl rfl) (List.not_mem_nil) ?_
                refine Ex.set (As.ev (Ev.bin (Ev.name rfl (by decide)) (Ev.name rfl (by decide)) (Bin.addS (by simp; omega))) (.inl rfl) (fun _ => rfl)) (.inl rfl) (List.not_mem_nil) ?_
                refine Ex.nil ⟨fun _ h => h, (j + 2, d ++ [t[j]]), ⟨by omega, ?_, by simp; omega⟩, by simp only; omega, ?_⟩
                · rw [← h2, hdrop, hdrop1, hc34, heq]; simp [prs]
                · (repeat' first | exact sub_nil | exact rfl | refine sub_cons ?_ ?_ | ((refine (rfl : _ = some (MV.int _)).trans (congrArg (fun z => some (MV.int z)) ?_)); first | omega | (simp; omega)) | ((refine (rfl : _ = some (MV.str _)).trans (congrArg (fun z => some (MV.str z)) ?_)); first | assumption | (simp; done)))
            · refine' Ex.ite (b := true) ?t ?_ ?_
              case t =>
                refine' Ts.eq (Ts.or (a := true) (b := true) ?a ?b) rfl
                case a => refine' Ts.eq ?c ?d; (case c => exact Ts.cmp (Ev.name rfl (by decide)) (Ev.name rfl (by decide)) Cm.geI rfl); (case d => simp; omega)
                case b => exact fun q => absurd q (by decide)
              · intro _
                have hnil : t.drop (j + 1) = [] := List.drop_eq_nil_of_le (by omega)
                have he : prs (t.drop j) = [] := by rw [hdrop, hnil, hc34]; simp [prs]
                rw [he, List.append_nil] at h2
                refine Ex.brk ⟨fun _ h => h, ?_⟩
                refine Ex.ret (Ev.up (Ev.name rfl (by decide)) rfl) ?_
                rw [h2]
              · intro q; cases q
          · intro hc34
            rw [q34] at hc34
            have hc34 : t[j] ≠ 34 := by simpa using hc34
            refine Ex.set (As.ev (Ev.bin (Ev.name rfl (by decide)) (Ev.name rfl (by decide)) (Bin.addS (by simp; omega))) (.inl rfl) (fun _ => rfl)) (.inl rfl) (List.not_mem_nil) ?_
            refine Ex.nil ⟨fun _ h => h, (j + 1, d ++ [t[j]]), ⟨by omega, ?_, by simp; omega⟩, by simp only; omega, ?_⟩
            · rw [← h2, hdrop]
              cases hd : t.drop (j + 1) with
              | nil => simp [prs, hc34]
              | cons c r => simp [prs, hc34]
            · (repeat' first | exact sub_nil | exact rfl | refine sub_cons ?_ ?_ | ((refine (rfl : _ = some (MV.int _)).trans (congrArg (fun z => some (MV.int z)) ?_)); first | omega | (simp; omega)) | ((refine (rfl : _ = some (MV.str _)).trans (congrArg (fun z => some (MV.str z)) ?_)); first | assumption | (simp; done)))
        · rintro ⟨j, d⟩ ⟨h1, h2, h3⟩ hlt
          simp only [decide_eq_false_iff_not] at hlt h1 h2 h3
          have hj : j = t.length := by omega
          rw [hj, List.drop_length, show prs [] = [] from rfl, List.append_nil] at h2
          refine Ex.ret (Ev.up (Ev.name rfl (by decide)) rfl) ?_
          rw [h2]
end Mine

open PySem PySem.W PyProof.Rows
set_option Elab.async false
set_option maxRecDepth 100000
set_option autoImplicit false
set_option linter.unusedVariables false
set_option linter.unusedSimpArgs false
namespace Mine
theorem Cm.isNI {C : Cx} {k : Nat} {a : Int} : Cm C k .Is (.int a) .none false := fun A s v u Q E R h1 h2 h => by
  obtain ⟨t, rfl⟩ := h1
  obtain rfl := h2
  exact is_int_none h
theorem gen_spec (w : World) {k : Nat} (row : List Int) (N : Nat) (hok : row.head? ≠ some 0) (hN : 1 ≤ N) : GenSpec (C2 w) (k + 8) 21 row N (gi N none row) := by
  refine GenSpec.of (grp := Str.ofString "grouping") ⟨⟨_, _, _, rfl⟩, rfl, rfl, rfl, rfl, rfl, rfl, rfl, ?_, ?_⟩ rfl rfl ?_
  · exact bind1 fun v => rfl
  · intro x hx
    simp only [List.mem_cons, List.not_mem_nil, or_false] at hx
    subst hx
    exact .inl rfl
  · intro A env pr ra vs nn s R O hw hpL hra hrow hv hpr hns
    refine seg_giFunc (k := k) hw O rfl rfl rfl (by decide) (by decide) (by decide) (by decide) (by decide) (by decide) rfl ?_ ?_ ?_ ?_ R hpL hra hrow hv (fun _ => rfl) rfl (fun _ => rfl) hok hN rfl s rfl hpr hns
    · exact fun i => Ts.cmp (Ev.name rfl (by decide)) (Ev.glob (Gl.own rfl rfl (by decide))) Cm.eqI rfl
    · exact fun i => Ts.cmp (Ev.name rfl (by decide)) Ev.int Cm.eqI rfl
    · exact fun i => Ts.cmp (Ev.name rfl (by decide)) Ev.non Cm.isNI rfl
    · exact Ts.val Ev.bool fun _ _ => rfl

theorem gi_pos : ∀ (N : Nat) (last : Option Int) (row : List Int), (∀ l, last = some l → 1 ≤ l) → (last = none → row.head? ≠ some 0) → (∀ x ∈ row, 0 ≤ x) → ∀ x ∈ gi N last row, 1 ≤ x
  | 0, _, _, _, _, _, x, hx => by simp [gi] at hx
  | _ + 1, _, [], _, _, _, x, hx => by simp [gi] at hx
  | n + 1, last, y :: r, hl, hn, hr, x, hx => by
    unfold gi at hx
    split at hx
    · simp at hx
    · split at hx
      · rename_i h0
        cases last with
        | none => exact absurd (by rw [h0]; rfl) (hn rfl)
        | some l =>
          rw [List.mem_replicate] at hx
          rw [hx.2]; exact hl l rfl
      · have hy := hr y (.head _)
        rcases List.mem_cons.mp hx with rfl | hx
        · omega
        · exact gi_pos n (some y) r (fun l e => by cases e; omega) (fun e => by cases e) (fun z hz => hr z (.tail _ hz)) x hx
theorem gi_len : ∀ (N : Nat) (last : Option Int) (row : List Int), (gi N last row).length ≤ N
  | 0, _, _ => by simp [gi]
  | _ + 1, _, [] => by simp [gi]
  | n + 1, last, y :: r => by
    unfold gi
    split
    · simp
    · split
      · simp
      · have := gi_len n (some y) r
        simp only [List.length_cons]; omega

/-- the marks of a ruler laid from a place -/
def laidL : Int → List Int → List Int
  | _, [] => []
  | a, x :: r => min (a + x) 20 :: (if a + x > 19 then [] else laidL (a + x) r)

theorem laid_fn (w : World) {k : Nat} (row : List Int) (start : Int) (hok : row.head? ≠ some 0) (hpos : ∀ x ∈ row, 0 ≤ x) (h0 : 0 ≤ start) (h20 : start ≤ 20) : Fn (C2 w) (k + 10) 67 [.il row, .int start] (.il (laidL start (gi 21 none row))) := by
  refine Fn.of (names := [Str.ofString "row", Str.ofString "start"]) ⟨⟨_, _, _, rfl⟩, rfl, rfl, rfl, rfl, rfl, rfl, rfl, ?_, ?_⟩ rfl (by decide) rfl ?_
  · exact bind2 fun v u => rfl
  · intro x hx
    simp only [List.mem_cons, List.not_mem_nil, or_false] at hx
    rcases hx with rfl | rfl <;> exact .inl rfl
  · dsimp only [List.zip_cons_cons, List.zip_nil_right]
    have hxp := gi_pos 21 none row (fun l e => by cases e) (fun _ => hok) hpos
    generalize hxs : gi 21 none row = xs at hxp
    refine Ex.setOwn (As.ev (Ev.disp lkI [] Evs.nil (by decide)) (.inl rfl) (fun _ => rfl)) rfl (List.not_mem_nil) ?_
    refine Ex.set (As.ev (Ev.name rfl (by decide)) (.inl rfl) (fun _ => rfl)) (.inr rfl) (by decide) ?_
    refine Ex.forGen (σ := Int × List Int) (fun st => [(Str.ofString "places", .il st.2), (Str.ofString "at", .int st.1)]) (fun i st => st.2 ++ laidL st.1 (xs.drop i) = laidL start xs ∧ (i : Int) ≤ st.1 ∧ st.1 ≤ 20 ∧ (i ≠ 0 → st.1 ≤ 19) ∧ st.2.length ≤ i)
      (Gl.own rfl rfl (by decide)) rfl (hxs ▸ gen_spec w (k := k) row 21 hok (by decide)) rfl (by decide) (by decide) (by decide) (.inl rfl) (fun _ _ => rfl) (start, []) ⟨by simp, by simpa using h0, h20, fun q => absurd rfl q, by simp⟩ (by decide) (hxs ▸ gi_len 21 none row) ?_ ?_ ?_
    · (repeat' first | exact sub_nil | exact rfl | refine sub_cons ?_ ?_ | ((refine (rfl : _ = some (MV.int _)).trans (congrArg (fun z => some (MV.int z)) ?_)); first | omega | (simp; omega)) | ((refine (rfl : _ = some (MV.str _)).trans (congrArg (fun z => some (MV.str z)) ?_)); first | assumption | (simp; done)))
    · rintro i a ⟨t, pl⟩ ha hi ⟨h1, h2, h3, h4, h5⟩
      dsimp only at h1 h2 h3 h4 h5 ⊢
      have hlt : i < xs.length := (List.getElem?_eq_some_iff.mp ha).1
      have ha' : xs[i] = a := (List.getElem?_eq_some_iff.mp ha).2
      have hap : 1 ≤ a := hxp a (ha' ▸ List.getElem_mem hlt)
      have hdrop : xs.drop i = a :: xs.drop (i + 1) := by rw [List.drop_eq_getElem_cons hlt, ha']
      rw [hdrop] at h1
      refine Ex.set (As.augI rfl (Ev.name rfl (by decide)) (.inl rfl)) (.inl rfl) (by decide) ?_
      refine Ex.append lkI (a := min (t + a) 20) (by decide) rfl (Ev.bcall (Gl.built rfl PyProof.Rows.Boot.«min» (by decide) rfl (by decide)) (Evs.cons (Ev.name rfl (by decide)) (Evs.cons Ev.int Evs.nil (fun _ _ => rfl)) (fun _ _ => rfl)) Bf.min ?_) (fun _ _ => rfl) (by decide) (fun _ => rfl) rfl (by omega) ?_
      · intro x hx; simp only [List.mem_cons, List.not_mem_nil, or_false] at hx; rcases hx with rfl | rfl <;> exact fun _ _ => rfl
      · refine Ex.ite (Ts.cmp (Ev.name rfl (by decide)) Ev.int Cm.gtI rfl) ?_ ?_
        · intro hb
          have hb : t + a > 19 := by simpa using hb
          have e : pl ++ [min (t + a) 20] = laidL start xs := by rw [← h1]; simp only [laidL]; rw [if_pos hb]
          refine Ex.brk ⟨fun _ h => h, ?_⟩
          refine Ex.retOwn (by decide) rfl (by decide) ?_
          show MF.ret (MV.il _) = MF.ret (MV.il _)
          rw [e]
        · intro hb
          have hb : ¬ t + a > 19 := by simpa using hb
          refine Ex.nil ⟨fun _ h => h, by omega, (t + a, pl ++ [min (t + a) 20]), ⟨?_, by simp only; omega, by simp only; omega, fun _ => by simp only; omega, by simp; omega⟩, ?_⟩
          · rw [← h1]; simp only [laidL]; rw [if_neg hb]; simp
          · (repeat' first | exact sub_nil | exact rfl | refine sub_cons ?_ ?_ | ((refine (rfl : _ = some (MV.int _)).trans (congrArg (fun z => some (MV.int z)) ?_)); first | omega | (simp; omega)) | ((refine (rfl : _ = some (MV.str _)).trans (congrArg (fun z => some (MV.str z)) ?_)); first | assumption | (simp; done)))
    · rintro ⟨t, pl⟩ hlt ⟨h1, h2, h3, h4, h5⟩
      have e : pl = laidL start xs := by rw [← h1]; simp [laidL]
      refine Ex.retOwn (by decide) rfl (by decide) ?_
      show MF.ret (MV.il _) = MF.ret (MV.il _)
      rw [e]
end Mine

open PySem PySem.W PyProof.Rows
set_option Elab.async false
set_option maxRecDepth 100000
set_option autoImplicit false
set_option linter.unusedVariables false
set_option linter.unusedSimpArgs false
namespace Mine
section
variable {C : Cx} {k : Nat} {sc : Scope} {ρ : Vars} {own : List Str} {rest : List Stmt} {P : MF → Vars → List Str → Prop}
/-- try, the body of which does not raise -/
theorem Ex.tryOk {body : List Stmt} {h₀ : ExceptHandler} {hs : List ExceptHandler} {pos : Pos} (h : Ex C k sc ρ own body (fun mf ρ' own' => match mf with | .next => Ex C k sc ρ' own' rest P | mf => P mf ρ' own')) : Ex C k sc ρ own (.Try body (h₀ :: hs) [] [] pos :: rest) P := fun A env s B pr ad R F => by
  refine wpAny_execs_cons (wpAny_Try_except (wpAny_mono (h A env s B pr ad R F) (fun f s' ⟨mf, ρ', own', ad', F', g, hp, hf⟩ => ?_) fun _ _ x => x.elim))
  cases mf with
  | next =>
    obtain rfl := hf
    refine wpAny_execs_nil ?_
    exact wpAny_mono (hp A env s' B pr ad' R F') (fun f s'' he => he.after g) fun _ _ x => x
  | brk =>
    obtain rfl := hf
    exact ⟨.brk, ρ', own', ad', F', g, hp, rfl⟩
  | cont =>
    obtain rfl := hf
    exact ⟨.cont, ρ', own', ad', F', g, hp, rfl⟩
  | ret m =>
    obtain ⟨v, rfl, hr⟩ := hf
    exact ⟨.ret m, ρ', own', ad', F', g, hp, v, rfl, hr⟩
end

theorem parse_none (w : World) {k : Nat} (r : List Nat) (h3 : r.take 3 = [50, 53, 55]) (h5 : (r.take 5).drop 3 ≠ [32, 34]) (hz : r.length ≤ 1000000) : Fn (C2 w) (k + 1) 53 [.str r] (.str []) := by
  refine Fn.of (names := [Str.ofString "resp"]) ⟨⟨_, _, _, rfl⟩, rfl, rfl, rfl, rfl, rfl, rfl, rfl, ?_, ?_⟩ rfl (by decide) rfl ?_
  · exact bind1 fun v => rfl
  · intro x hx
    simp only [List.mem_cons, List.not_mem_nil, or_false] at hx
    subst hx
    exact .inl rfl
  · dsimp only [List.zip_cons_cons, List.zip_nil_right]
    refine Ex.ite (Ts.cmp (Ev.sliceS (Ev.name rfl (by decide)) Part.no (Part.so Ev.int) (by omega)) Ev.str Cm.neS rfl) ?_ ?_
    · intro h
      exfalso
      rw [pick_upto _ (by omega), show (3 : Int).toNat = 3 from rfl, h3] at h
      exact absurd (show (!decide (([50, 53, 55] : List Nat) = (Str.ofString "257").cps.toList)) = true from h) (by decide +kernel)
    · intro _
      refine Ex.ite (Ts.cmp (Ev.sliceS (Ev.name rfl (by decide)) (Part.so Ev.int) (Part.so Ev.int) (by omega)) Ev.str Cm.neS rfl) ?_ ?_
      · intro _
        refine Ex.ret Ev.str ?_
        rfl
      · intro h
        exfalso
        rw [pick_mid _ (by omega) (by omega), show (3 : Int).toNat = 3 from rfl, show (5 : Int).toNat = 5 from rfl] at h
        have e : (Str.ofString " \"").cps.toList = [32, 34] := by decide +kernel
        rw [e] at h
        simp only [Bool.not_eq_eq_eq_not, Bool.not_false, decide_eq_true_eq] at h
        exact h5 h

/-- a row that is not refused -/
theorem refused_no (w : World) {k : Nat} (row : List Int) (hok : row.head? ≠ some 0) : Fn (C2 w) (k + 10) 60 [.il row] (.bool false) := by
  refine Fn.of (names := [Str.ofString "row"]) ⟨⟨_, _, _, rfl⟩, rfl, rfl, rfl, rfl, rfl, rfl, rfl, ?_, ?_⟩ rfl (by decide) rfl ?_
  · exact bind1 fun v => rfl
  · intro x hx
    simp only [List.mem_cons, List.not_mem_nil, or_false] at hx
    rcases hx with rfl; exact .inl rfl
  · dsimp only [List.zip_cons_cons, List.zip_nil_right]
    refine Ex.tryOk ?_
    refine Ex.forGen (σ := Unit) (fun _ => []) (fun _ _ => True) (Gl.own rfl rfl (by decide)) rfl (gen_spec w (k := k) row 1 hok (by decide)) rfl (by decide) (by decide) (by decide) (.inl rfl) (fun _ _ => rfl) () trivial (by decide) (gi_len 1 none row) sub_nil ?_ ?_
    · intro i a st ha hi _
      exact Ex.ret Ev.bool ⟨fun _ h => h, rfl⟩
    · intro st _ _
      refine Ex.nil ?_
      exact Ex.ret Ev.bool rfl
end Mine

open PySem PySem.W PyProof.Rows
set_option Elab.async false
set_option maxRecDepth 100000
set_option autoImplicit false
set_option linter.unusedVariables false
set_option linter.unusedSimpArgs false
namespace Mine
abbrev igMsg : List Nat := (Str.ofString "invalid grouping").cps.toList
theorem gen_specX (w : World) {k : Nat} (row : List Int) : GenSpecX (C2 w) (k + 8) 21 row igMsg := by
  refine GenSpecX.of (grp := Str.ofString "grouping") ⟨⟨_, _, _, rfl⟩, rfl, rfl, rfl, rfl, rfl, rfl, rfl, ?_, ?_⟩ rfl rfl ?_
  · exact bind1 fun v => rfl
  · intro x hx
    simp only [List.mem_cons, List.not_mem_nil, or_false] at hx
    subst hx
    exact .inl rfl
  · intro A env ra vs nn s ls outer n R O hff hw hla hv hfr Fr hLs hns hls
    refine seg_giRaise (k := k) (row := row) (vs := vs) (nn := nn) (ra := ra) O rfl rfl rfl (by decide) (by decide) (by decide) (by decide) ?_ ?_ ?_ ?_ R hfr hff Fr hLs rfl (fun _ => rfl) hv s hw hla hns hls
    · exact Ts.eq (Ts.cmp (Ev.name rfl (by decide)) (Ev.glob (Gl.own rfl rfl (by decide))) Cm.eqI rfl) (by decide)
    · exact Ts.cmp (Ev.name rfl (by decide)) Ev.int Cm.eqI rfl
    · exact Ts.cmp (Ev.name rfl (by decide)) Ev.non Cm.isNN rfl
    · intro A s Q E R W h
      refine Raise_madeB PySem.F.excCall_ValueError PySem.F.excRaise_ValueError R.handled (Gl.built (C := C2 w) rfl PyProof.Rows.Boot.«ValueError» (by decide) rfl (by decide) A env s _ _ _ W O ⟨rfl, ?_⟩)
      refine Calls.spliced_cons ?_
      refine Ev.go (C := C2 w) (k := k) (ρ := []) (fr := true) (m := .str igMsg) ?hev R W O ?hs ?hc
      case hev => exact Ev.str
      case hs => exact fun x m hx => by simp at hx
      case hc =>
        intro v s' e₁ r₁ W₁ S₁
        obtain ⟨t, rfl⟩ := r₁
        exact Calls.spliced_nil ⟨by show 1 ≤ sizeLine; decide, fun h' e made => h s' h' e t e₁ made⟩
end Mine

open PySem PySem.W PyProof.Rows
set_option Elab.async false
set_option maxRecDepth 100000
set_option autoImplicit false
set_option linter.unusedVariables false
set_option linter.unusedSimpArgs false
namespace Mine
theorem er_exc (w : World) : excIn (C2 w).K 44 [Value.type "Exception", Value.type "BaseException", Value.type "object"] "Exception.__new__" = true := by kernel_rfl
theorem er_str (w : World) : findIn (C2 w).K (Value.ref 44) (Str.ofString "__str__") = some (some (Value.builtin "BaseException.__str__")) := by kernel_rfl
theorem refused_yes (w : World) {k : Nat} (row : List Int) (A : Around) (s : Shared) (ra : Addr) (vs : List Value) (nn : Nat) (envL : Env) (R : Room (k + 30) A) (hfA : A.frames = some [envL]) (hkL : envL.scope.kind = .function) (hfL : envL.frame = some envL.locals)
    (hnsL : ∃ m, s.heap.Ns envL.locals m) (hw : ∃ h₀ : Heap, Wd (C2 w) h₀ ∧ ∀ b o, h₀.get? b = some o → s.heap.get? b = some o ∧ b ≠ envL.locals) (hla : IsL s.heap ra vs.toArray nn) (hv : All2 isInt vs (0 :: row)) :
    wpAny (C2 w).M A (call (.ref 60) [.ref ra]) (fun v s' => v = .bool true ∧ GExt s s' ∧ Up [envL.locals] s.heap s'.heap) (fun _ _ => False) s := by
  have W : Wd (C2 w) s.heap := let ⟨h₀, h1, h2⟩ := hw; h1.keeps fun b o e => (h2 b o e).1
  obtain ⟨p, l, mean, mg, mb, T⟩ := W.top
  refine wpAny_call (codeAny_call_cells (binds := [(Str.ofString "row", .ref ra)]) (by have := R.depth; omega) (W.k 60 _ rfl) rfl T.nolimit (codeRec_of W.k rfl) rfl rfl rfl (fun x hx => ?_) (fun s₁ x => ?_) rfl rfl rfl)
  · simp only [List.mem_cons, List.not_mem_nil, or_false] at hx
    subst hx
    exact .inl rfl
  · generalize henv : callEnvC _ s.heap.objs.size 60 = env at x ⊢
    have hsc := congrArg Env.scope henv
    dsimp only [callEnvC, newEnv] at hsc
    have O := EnvOK.mk (env := env) hsc.symm rfl (by rw [← henv]; rfl) (by rw [← henv]; rfl) (fun n hn => by rw [← henv]; exact Option.isSome_iff_exists.mp (cellsFrom_some _ _ _ (.inl hn)))
    have hL : env.locals = s.heap.objs.size := by rw [← henv]; rfl
    have hff : env.frame = some env.locals := by rw [← henv]; rfl
    obtain ⟨h₁, tk₁, rfl⟩ := x.toInCall.same
    have hkeep := x.toInCall.keep
    have hns := x.toInCall.ns
    have hLd : s.heap.get? env.locals = none := by
      rw [hL]; exact not_live _
    obtain ⟨mL, hnsL⟩ := hnsL
    have hdL : ∀ b ∈ [envL.locals], ∃ o es n, s.heap.get? b = some o ∧ o.data = .dict es n := fun b hb => by
      rw [List.mem_singleton] at hb
      subst hb
      obtain ⟨o, es, ep, ho, hd, _⟩ := hnsL
      exact ⟨o, es, ep, ho, hd⟩
    have hrow := bindL_at env.kindOf (Str.ofString "row") ((O.kindOf _).trans rfl) [(Str.ofString "row", .ref ra)] (fun _ => none) (.ref ra) (by simp) (by simp)
    obtain ⟨h₀, W₀, hw⟩ := hw
    have hnl : ∀ b o, s.heap.get? b = some o → b ≠ env.locals := fun b o q r => by rw [r, hLd] at q; cases q
    refine wpAny_execs_cons ?_
    refine' wpAny_mono (try_gen (f := 21) (Q := fun fl s' => fl = .ret (.bool true) ∧ GExt s s' ∧ Up [envL.locals] s.heap s'.heap) (C := C2 w) (A := A.deeper env) (k := k + 20) (row := row) (msg := igMsg) (ls := [envL.locals]) (outer := [envL]) (vs := vs) (nn := nn) (ra := ra) (s := { s with heap := h₁, toks := tk₁ }) O ?R ?hfA hff ?Fr ?gg ?ho ?G ?gv hns ?hr ?hkr ?hkf ?hdr ?hs ?hw ?hla hv ?hls ?hsuite) (fun fl s' hq => ?fin) (fun _ _ q => q.elim)
    case R => exact ⟨R.handled, by have := R.depth; show A.depth + 1 + _ < _; omega, by have := R.units; show A.units + 3 + _ + _ < _; omega⟩
    case hfA => exact Around.frames_deeper hfA
    case ho => exact rfl
    case G => exact gen_specX w (k := k + 12) row
    case hr => exact hrow
    case hkr => exact rfl
    case hkf => exact rfl
    case hs => exact fun _ => rfl
    case hw => exact ⟨h₀, W₀, fun b o q => ⟨hkeep b o (hw b o q).1, hnl b o (hw b o q).1, by rw [List.mem_singleton]; exact (hw b o q).2⟩⟩
    case hla => exact hkeep _ _ hla
    case hls => exact fun b hb => let ⟨o, es, n, ho, hd⟩ := hdL b hb; ⟨o, es, n, hkeep b o ho, hd⟩
    case fin => obtain ⟨rfl, h1, h2⟩ := hq; exact ⟨rfl, h1, h2⟩
    case gg => exact Gl.own rfl rfl (by decide)
    case gv => exact Gl.built rfl PyProof.Rows.Boot.«ValueError» (by decide) rfl (by decide)
    case hdr => decide
    case Fr =>
      intro x hx
      rw [List.mem_singleton] at hx
      subst hx
      exact ⟨by rw [hkL]; decide, _, hfL, .head _⟩
    case hsuite =>
      intro e t tk s' g keep slot hns' hed hexc htup
      refine wpAny_mono (suite_reply (C := C2 w) (f := 53) (Ce := 44) (prm := Str.ofString "resp") (outer := [envL]) (ls := [envL.locals]) ⟨⟨_, _, _, rfl⟩, rfl, rfl, rfl, rfl, rfl, rfl, rfl, ?bind, ?kinds⟩ rfl rfl (by decide) PySem.F.excBase_Exception (by decide +kernel) (Gl.own rfl rfl (by decide)) rfl (er_exc w) (er_str w) O ?_ ?_ rfl (Around.frames_deeper hfA) hff ?Fr2 (Gl.built rfl PyProof.Rows.Boot.«str» (by decide) rfl (by decide)) (Gl.own rfl rfl (by decide)) (Gl.own rfl rfl (by decide)) rfl rfl rfl (by decide) (by decide) (by decide) ?hw2 hns' ?hme ?hls2 hexc htup ?hz ?hl ?heq) (fun fl s₄ hq => ?_) (fun _ _ q => q.elim)
      case bind =>
        exact bind1 fun v => rfl
      case kinds =>
        intro x hx
        simp only [List.mem_cons, List.not_mem_nil, or_false] at hx
        subst hx
        exact .inl rfl
      case Fr2 =>
        intro x hx
        rw [List.mem_singleton] at hx
        subst hx
        exact ⟨by rw [hkL]; decide, _, hfL, .head _⟩
      case hw2 =>
        refine ⟨h₀, W₀, fun b o q => ?_⟩
        obtain ⟨q1, q2⟩ := hw b o q
        have q3 : b ∉ [envL.locals] := by rw [List.mem_singleton]; exact q2
        exact ⟨keep b o (hnl b o q1) q3 (hkeep b o q1), hnl b o q1, q3⟩
      case hme => simp
      case hls2 =>
        intro b hb
        obtain ⟨o, es, n, ho, hd⟩ := hdL b hb
        obtain ⟨sl, hsl⟩ := slot b o (hnl b o ho) hb (hkeep b o ho)
        exact ⟨_, es, n, hsl, hd⟩
      case hz => decide +kernel
      case hl => decide +kernel
      case heq => decide +kernel
      · have := R.depth; show A.depth + 1 + 5 < _; omega
      · have := R.units; show A.units + 3 + 100 < _; omega
      · obtain ⟨rfl, g₄, k₄, m₄, hn₄⟩ := hq
        refine wpAny_nameGoes ((O.kindOf _).trans rfl) hn₄ (by rw [O.k]; rfl) fun h₇ m₇ hn₇ hs₇ => ?_
        have g0 : GExt s { s with heap := h₁, toks := tk₁ } := ⟨fun _ _ e => e, id, rfl⟩
        refine ⟨rfl, (g0.trans (g.trans g₄)).trans ⟨fun _ _ e => e, id, rfl⟩, ⟨fun b o hb q => ?_, fun b o hb q => ?_⟩⟩
        · exact (hs₇.2 b (hnl b o q)).trans (k₄.keep b o (hnl b o q) hb (keep b o (hnl b o q) hb (hkeep b o q)))
        · obtain ⟨sl, q2⟩ := slot b o (hnl b o q) hb (hkeep b o q)
          obtain ⟨sl', q3⟩ := k₄.slot b _ (hnl b o q) hb q2
          exact ⟨sl', (hs₇.2 b (hnl b o q)).trans q3⟩
end Mine

open PySem PySem.W PyProof.Rows
set_option Elab.async false
set_option maxRecDepth 100000
set_option autoImplicit false
set_option linter.unusedVariables false
set_option linter.unusedSimpArgs false
namespace Mine
/-- a row up to where it stops -/
def goesOn (x : Int) : Bool := decide (x ≠ 0) && decide (x ≠ 127)
def headOf (row : List Int) : List Int := row.takeWhile goesOn
def stopsOf (row : List Int) : List Int := (upto 0 row.length).filter fun k => decide (row.getD k.toNat 0 = 0) || decide (row.getD k.toNat 0 = 127)
def stepOf (row : List Int) : Int := if row[(headOf row).length]? = some 0 then (headOf row).getLastD 20 else 20
def sumsOf (h : List Int) : List Int := (upto 0 h.length).map fun k => (h.take (k + 1).toNat).sum
def marksOf (row : List Int) : List Int :=
  (upto 1 20).filter (fun x => (sumsOf (headOf row)).any (· == x) || (decide ((headOf row).sum < x) && decide ((x - (headOf row).sum) % stepOf row = 0))) ++ if decide (stepOf row < 20) || decide (19 < (headOf row).sum) then [20] else []

theorem takeWhile_le (row : List Int) : (headOf row).length ≤ row.length := (List.takeWhile_sublist _).length_le
theorem head_take (row : List Int) : headOf row = row.take (headOf row).length := by
  have : headOf row <+: row := List.takeWhile_prefix _
  exact (List.prefix_iff_eq_take.mp this)
theorem head_before (row : List Int) {i : Nat} (h : i < (headOf row).length) : goesOn (row.getD i 0) = true := by
  have h2 : (headOf row)[i]? = row[i]? := by
    rw [head_take row, List.getElem?_take, if_pos h]
  rw [List.getElem?_eq_getElem h] at h2
  rw [List.getD_eq_getElem?_getD, ← h2]
  exact List.all_eq_true.mp (List.all_takeWhile (p := goesOn) (l := row)) _ (List.getElem_mem h)
theorem head_at (row : List Int) (h : (headOf row).length < row.length) : goesOn (row.getD (headOf row).length 0) = false := by
  induction row with
  | nil => simp at h
  | cons x r ih =>
    unfold headOf at *
    rw [List.takeWhile_cons] at *
    split
    · rename_i hx
      rw [if_pos hx] at h
      simp only [List.length_cons, List.getD_cons_succ] at *
      exact ih (by omega)
    · rename_i hx
      simpa using hx
theorem stops_eq (row : List Int) : stopsOf row = ((List.range row.length).filter fun k => !goesOn (row.getD k 0)).map fun (k : Nat) => (k : Int) := by
  unfold stopsOf upto
  rw [show ((row.length : Int) - 0).toNat = row.length by omega, List.filter_map]
  have e : (fun (i : Nat) => (0 : Int) + (i : Int)) = fun (k : Nat) => (k : Int) := by funext i; omega
  rw [e]
  congr 1
  refine List.filter_congr fun i _ => ?_
  simp only [Function.comp, Int.toNat_natCast, goesOn]
  by_cases h1 : row.getD i 0 = 0 <;> by_cases h2 : row.getD i 0 = 127 <;> simp [h1, h2]
theorem stops_split (row : List Int) : (List.range row.length).filter (fun k => !goesOn (row.getD k 0)) = (List.range' (headOf row).length (row.length - (headOf row).length)).filter fun k => !goesOn (row.getD k 0) := by
  have hle := takeWhile_le row
  have e : List.range row.length = List.range (headOf row).length ++ List.range' (headOf row).length (row.length - (headOf row).length) := by
    have := List.range'_append_1 (s := 0) (m := (headOf row).length) (n := row.length - (headOf row).length)
    rw [Nat.zero_add, show (headOf row).length + (row.length - (headOf row).length) = row.length by omega] at this
    rw [List.range_eq_range', List.range_eq_range', this]
  rw [e, List.filter_append]
  have : (List.range (headOf row).length).filter (fun k => !goesOn (row.getD k 0)) = [] := by
    rw [List.filter_eq_nil_iff]
    intro i hi
    rw [head_before row (List.mem_range.mp hi)]; decide
  rw [this, List.nil_append]
theorem stops_nil (row : List Int) (h : (headOf row).length = row.length) : stopsOf row = [] := by
  rw [stops_eq, stops_split, h, Nat.sub_self]; rfl
theorem stops_cons (row : List Int) (h : (headOf row).length < row.length) : ∃ l, stopsOf row = ((headOf row).length : Int) :: l := by
  rw [stops_eq, stops_split]
  obtain ⟨n, hn⟩ : ∃ n, row.length - (headOf row).length = n + 1 := ⟨row.length - (headOf row).length - 1, by omega⟩
  rw [hn, List.range'_succ, List.filter_cons_of_pos (by rw [head_at row h]; rfl)]
  exact ⟨_, rfl⟩
theorem stops_first (row : List Int) : (stopsOf row ++ [(row.length : Int)])[(0 : Int).toNat]? = some ((headOf row).length : Int) := by
  by_cases h : (headOf row).length < row.length
  · obtain ⟨l, e⟩ := stops_cons row h
    rw [e]; rfl
  · have := takeWhile_le row
    have h : (headOf row).length = row.length := by omega
    rw [stops_nil row h, h]; rfl
theorem marks_fn (w : World) {k : Nat} (row : List Int) (hz : row.length ≤ 100) (hok : row.head? ≠ some 0) (hpos : ∀ x ∈ row, 0 ≤ x) : Fn (C2 w) (k + 1) 77 [.il row] (.il (marksOf row)) := by
  refine Fn.of (names := [Str.ofString "row"]) ⟨⟨_, _, _, rfl⟩, rfl, rfl, rfl, rfl, rfl, rfl, rfl, ?_, ?_⟩ rfl (by decide) rfl ?_
  · exact bind1 fun v => rfl
  · intro x hx
    simp only [List.mem_cons, List.not_mem_nil, or_false] at hx
    rcases hx with rfl; exact .inr rfl
  · dsimp only [List.zip_cons_cons, List.zip_nil_right]
    have hgetD : ∀ j : Int, j ∈ upto 0 (row.length : Int) → 0 ≤ j ∧ j < 2 ^ 63 ∧ row[j.toNat]? = some (row.getD j.toNat 0) := fun j hj => by
      rw [mem_upto] at hj
      have hlt : j.toNat < row.length := by omega
      refine ⟨hj.1, by omega, ?_⟩
      rw [List.getElem?_eq_getElem hlt, List.getD_eq_getElem?_getD, List.getElem?_eq_getElem hlt]; rfl
    have hhl := takeWhile_le row
    have hsl : (stopsOf row).length ≤ 100 := by
      have := List.length_filter_le (fun k : Int => decide (row.getD k.toNat 0 = 0) || decide (row.getD k.toNat 0 = 127)) (upto 0 row.length)
      rw [upto_length] at this
      unfold stopsOf; omega
    refine Ex.set ((As.comp lkI lkI (xs := upto 0 row.length) (p := fun k => decide (row.getD k.toNat 0 = 0) || decide (row.getD k.toNat 0 = 127)) (f := fun k => k) [(Str.ofString "row", .il row)] ?src ?sco ?cap (.inl rfl) ⟨?tests, ?elt⟩ ?hz (fun _ _ => rfl) rfl ?sw).eq (m' := .il (stopsOf row)) ?eq) (.inl rfl) (List.not_mem_nil) ?_
    case src => exact Src.range1 (Gl.built rfl PyProof.Rows.Boot.«range» (by decide) rfl (by decide)) (Ev.bcall (Gl.built rfl PyProof.Rows.Boot.«len» (by decide) rfl (by decide)) (Evs.cons (Ev.name rfl (by decide)) Evs.nil fun _ _ => rfl) (Bf.lenL lkI (by omega)) (fun x hx => by simp only [List.mem_cons, List.not_mem_nil, or_false] at hx; rcases hx with rfl; exact fun _ _ => rfl)) (fun _ _ => rfl) (by omega) (by omega)
    case sco => exact CScope.of' rfl (by kernel_rfl)
    case cap => (repeat' first | exact caps_nil | exact rfl | refine caps_cons ?_ ?_ ?_)
    case hz => rw [upto_length]; omega
    case sw => exact fun env O => swaps_local O rfl rfl (by kernel_rfl)
    case tests =>
      refine .inr ⟨_, rfl, fun a ha => ?_⟩
      obtain ⟨h1, h2, h3⟩ := hgetD a ha
      refine Ts.or (Ts.cmp (Ev.item lkI (Ev.name rfl (by decide)) (Ev.name rfl (by decide)) h1 h2 h3 fun _ _ => rfl) Ev.int Cm.eqI rfl) fun _ => (Ts.cmp (Ev.item lkI (Ev.name rfl (by decide)) (Ev.name rfl (by decide)) h1 h2 h3 fun _ _ => rfl) Ev.int Cm.eqI rfl)
    case elt => exact fun a ha _ => Ev.name rfl (by decide)
    case eq => exact congrArg MV.il (by simp [stopsOf])
    refine Ex.set ((As.ev (Ev.sliceL lkI (a := none) (b := some ((headOf row).length : Int)) (c := none) (Ev.name rfl (by decide)) Part.no (Part.so (Ev.item lkI (Ev.bin (Ev.name rfl (by decide)) (Ev.disp lkI [(row.length : Int)] (Evs.cons (f := true) ?len Evs.nil fun _ _ => rfl) (by simp)) (Bin.addL lkI ?sz)) Ev.int (by decide) (by decide) (stops_first row) fun _ _ => rfl)) Part.no (by decide) ?sz2) (.inr rfl) (fun _ => rfl)).eq (m' := .il (headOf row)) ?eq) (.inl rfl) (List.not_mem_nil) ?_
    case len => exact (Ev.bcall (Gl.built rfl PyProof.Rows.Boot.«len» (by decide) rfl (by decide)) (Evs.cons (Ev.name rfl (by decide)) Evs.nil fun _ _ => rfl) (Bf.lenL lkI (by omega)) (fun x hx => by simp only [List.mem_cons, List.not_mem_nil, or_false] at hx; rcases hx with rfl; exact fun _ _ => rfl))
    case sz => simp; omega
    case sz2 => omega
    case eq =>
      refine congrArg MV.il ?_
      rw [pick_upto _ (by omega), Int.toNat_natCast, ← head_take]
    refine Ex.set (As.ev Ev.int (.inr rfl) (fun _ => rfl)) (.inl rfl) (List.not_mem_nil) ?_
    refine Ex.iteJ [(Str.ofString "head", .il (headOf row)), (Str.ofString "step", .int (stepOf row))] (b := decide ((headOf row).length < row.length) && decide (row.getD (headOf row).length 0 = 0)) ?_ ?_ ?_ ?_
    · refine Ts.and (Ts.eq (Ts.cmp (Ev.name rfl (by decide)) (Ev.disp lkI [] Evs.nil (by decide)) Cm.neL rfl) ?_) fun h => ?_
      · by_cases h : (headOf row).length < row.length
        · obtain ⟨l, e⟩ := stops_cons row h
          rw [e]; simp [h]
        · rw [stops_nil row (by omega)]; simp [h]
      · have h : (headOf row).length < row.length := by simpa using h
        obtain ⟨l, e⟩ := stops_cons row h
        obtain ⟨h1, h2, h3⟩ := hgetD ((headOf row).length : Int) (by rw [mem_upto]; omega)
        exact Ts.cmp (Ev.item lkI (Ev.name rfl (by decide)) (Ev.item lkI (Ev.name rfl (by decide)) Ev.int (by decide) (by decide) (a := ((headOf row).length : Int)) (by rw [e]; rfl) fun _ _ => rfl) h1 h2 h3 fun _ _ => rfl) Ev.int Cm.eqI rfl
    · intro h
      simp only [Bool.and_eq_true, decide_eq_true_eq] at h
      have hr : row[(headOf row).length]? = some 0 := by
        have := (hgetD ((headOf row).length : Int) (by rw [mem_upto]; omega)).2.2
        rw [Int.toNat_natCast, h.2] at this; exact this
      have hne : headOf row ≠ [] := fun e => by
        rw [e] at hr
        exact hok (by rw [← hr]; cases row <;> rfl)
      have hl : (headOf row).getLast? = some (stepOf row) := by
        rw [stepOf, if_pos hr]
        cases hq : headOf row with
        | nil => exact absurd hq hne
        | cons a l => simp [List.getLast?_cons]
      refine Ex.set (As.ev (Ev.last lkI (Ev.name rfl (by decide)) (Ev.neg Ev.int) hl fun _ _ => rfl) (.inr rfl) (fun _ => rfl)) (.inr rfl) (List.not_mem_nil) ?_
      exact Ex.nil ⟨rfl, fun _ h => h, by (repeat' first | exact sub_nil | exact rfl | refine sub_cons ?_ ?_ | ((refine (rfl : _ = some (MV.int _)).trans (congrArg (fun z => some (MV.int z)) ?_)); first | omega | (simp; omega)) | ((refine (rfl : _ = some (MV.str _)).trans (congrArg (fun z => some (MV.str z)) ?_)); first | assumption | (simp; done)))⟩
    · intro h
      have hs : stepOf row = 20 := by
        rw [stepOf, if_neg]
        intro hr
        have hlt : (headOf row).length < row.length := (List.getElem?_eq_some_iff.mp hr).1
        simp only [Bool.and_eq_false_iff, decide_eq_false_iff_not] at h
        rcases h with h | h
        · exact h hlt
        · exact h (by rw [List.getD_eq_getElem?_getD, hr]; rfl)
      rw [hs]
      exact Ex.nil ⟨rfl, fun _ h => h, by (repeat' first | exact sub_nil | exact rfl | refine sub_cons ?_ ?_ | ((refine (rfl : _ = some (MV.int _)).trans (congrArg (fun z => some (MV.int z)) ?_)); first | omega | (simp; omega)) | ((refine (rfl : _ = some (MV.str _)).trans (congrArg (fun z => some (MV.str z)) ?_)); first | assumption | (simp; done)))⟩
    generalize hst : stepOf row = st
    have hst0 : 0 < st := by
      rw [← hst, stepOf]
      split
      · cases hq : headOf row with
        | nil => decide
        | cons a l =>
          have hm : (headOf row).getLastD 20 ∈ headOf row := by rw [hq, List.getLastD_eq_getLast?, List.getLast?_eq_some_getLast (by simp)]; exact List.getLast_mem _
          have h1 := List.all_eq_true.mp (List.all_takeWhile (p := goesOn) (l := row)) _ hm
          have h2 := hpos _ (List.mem_of_mem_take (by rw [← head_take]; exact hm) : (headOf row).getLastD 20 ∈ row)
          rw [hq] at h1 h2
          simp only [goesOn, Bool.and_eq_true, decide_eq_true_eq] at h1
          omega
      · decide
    generalize hh : headOf row = h at hhl
    refine Ex.set ((As.ev' (Ev.comp lkI lkI (xs := upto 0 (h.length : Int)) (p := fun _ => true) (f := fun k => (h.take (k + 1).toNat).sum) [(Str.ofString "head", .il h)] ?src ?sco ?cap (.inl rfl) ⟨?tests, ?elt⟩ ?hz (fun _ _ => rfl)) (.inr rfl) fun env O => swaps_cell O rfl).eq (m' := .il (sumsOf h)) ?eq) (.inl rfl) (List.not_mem_nil) ?_
    case src => exact Src.range1 (Gl.built rfl PyProof.Rows.Boot.«range» (by decide) rfl (by decide)) (Ev.bcall (Gl.built rfl PyProof.Rows.Boot.«len» (by decide) rfl (by decide)) (Evs.cons (Ev.name rfl (by decide)) Evs.nil fun _ _ => rfl) (Bf.lenL lkI (by omega)) (fun x hx => by simp only [List.mem_cons, List.not_mem_nil, or_false] at hx; rcases hx with rfl; exact fun _ _ => rfl)) (fun _ _ => rfl) (by omega) (by omega)
    case sco => exact CScope.of' rfl (by kernel_rfl)
    case cap => (repeat' first | exact caps_nil | exact rfl | refine caps_cons ?_ ?_ ?_)
    case hz => rw [upto_length]; omega
    case tests => exact .inl ⟨rfl, fun _ => rfl⟩
    case elt =>
      intro a ha _
      rw [mem_upto] at ha
      refine (Ev.bcall (Gl.built rfl PyProof.Rows.Boot.«sum» (by decide) rfl (by decide)) (Evs.cons (Ev.sliceL lkI (a := none) (b := some (a + 1)) (c := none) (Ev.name rfl (by decide)) Part.no (Part.so (Ev.bin (Ev.name rfl (by decide)) Ev.int Bin.addI)) Part.no (by decide) (by omega)) Evs.nil fun _ _ => rfl) Bf.sum ?_ |>.eq ?_).up rfl
      · intro x hx; simp only [List.mem_cons, List.not_mem_nil, or_false] at hx; rcases hx with rfl; exact fun _ _ => rfl
      · rw [pick_upto _ (by omega)]
    case eq => exact congrArg MV.il (by rw [List.filter_eq_self.mpr (by simp)]; rfl)
    refine Ex.set (As.ev (Ev.bcall (Gl.built rfl PyProof.Rows.Boot.«sum» (by decide) rfl (by decide)) (Evs.cons (Ev.name rfl (by decide)) Evs.nil fun _ _ => rfl) Bf.sum (fun x hx => by simp only [List.mem_cons, List.not_mem_nil, or_false] at hx; rcases hx with rfl; exact fun _ _ => rfl)) (by first | exact .inl rfl | exact .inr rfl) (fun _ => rfl)) (.inl rfl) (List.not_mem_nil) ?_
    refine Ex.set ((As.comp lkI lkI (xs := upto 1 20) (p := fun x => (sumsOf h).any (· == x) || (decide (h.sum < x) && decide ((x - h.sum) % st = 0))) (f := fun k => k) [(Str.ofString "sums", .il (sumsOf h)), (Str.ofString "behind", .int h.sum), (Str.ofString "step", .int st)] ?src ?sco ?cap (.inl rfl) ⟨?tests, ?elt⟩ ?hz (fun _ _ => rfl) rfl ?sw).eq (m' := .il ((upto 1 20).filter fun x => (sumsOf h).any (· == x) || (decide (h.sum < x) && decide ((x - h.sum) % st = 0)))) ?eq) (.inl rfl) (List.not_mem_nil) ?_
    case src => exact Src.range2 (Gl.built rfl PyProof.Rows.Boot.«range» (by decide) rfl (by decide)) Ev.int Ev.int (fun _ _ => rfl) (fun _ _ => rfl) (by decide) (by decide) (by decide) (by decide)
    case sco => exact CScope.of' rfl (by kernel_rfl)
    case cap => (repeat' first | exact caps_nil | exact rfl | refine caps_cons ?_ ?_ ?_)
    case hz => decide
    case sw => exact fun env O => swaps_local O rfl rfl (by kernel_rfl)
    case tests =>
      refine .inr ⟨_, rfl, fun a ha => ?_⟩
      exact Ts.or (Ts.cmp (Ev.name rfl (by decide)) (Ev.name rfl (by decide)) Cm.inL rfl) fun _ => Ts.and (Ts.cmp (Ev.name rfl (by decide)) (Ev.name rfl (by decide)) Cm.gtI rfl) fun _ =>
        Ts.cmp (Ev.bin (Ev.bin (Ev.name rfl (by decide)) (Ev.name rfl (by decide)) Bin.subI) (Ev.name rfl (by decide)) (Bin.modI hst0)) Ev.int Cm.eqI rfl
    case elt => exact fun a ha _ => Ev.name rfl (by decide)
    case eq => exact congrArg MV.il (by simp)
    refine Ex.ret (Ev.bin (Ev.name rfl (by decide)) (Ev.ite (fr := true) (m := .il (if decide (st < 20) || decide (19 < h.sum) then [20] else [])) (Ts.or (Ts.cmp (Ev.name rfl (by decide)) Ev.int Cm.ltI rfl) fun _ => Ts.cmp (Ev.name rfl (by decide)) Ev.int Cm.gtI rfl) (fun e => ?_) fun e => ?_) (Bin.addL lkI ?_)) ?_
    · rw [e, if_pos rfl]; exact Ev.disp lkI [20] (Evs.cons Ev.int Evs.nil fun _ _ => rfl) (by decide)
    · rw [e]; exact Ev.disp lkI [] Evs.nil (by decide)
    · have h1 := List.length_filter_le (fun x => (sumsOf h).any (· == x) || (decide (h.sum < x) && decide ((x - h.sum) % st = 0))) (upto 1 20)
      have h2 : (upto 1 20).length = 19 := by decide
      have h3 : (if (decide (st < 20) || decide (19 < h.sum)) = true then [(20 : Int)] else []).length ≤ 1 := by split <;> simp
      omega
    · show MF.ret (.il _) = MF.ret (.il _)
      rw [marksOf, hst, hh]
end Mine

open PySem PySem.W PyProof.Rows
set_option Elab.async false
set_option maxRecDepth 100000
set_option autoImplicit false
set_option linter.unusedVariables false
set_option linter.unusedSimpArgs false
namespace Mine
theorem cnt_eq (c : Nat) (l : List Nat) : (Txt.count (mkS l) (mkS [c]) : Int) = (l.count c : Nat) := by
  rw [show mkS [c] = ⟨#[c]⟩ from rfl, count_cnt]
  show PyProof.Rows.cnt c l = _
  induction l with
  | nil => rfl
  | cons a r ih =>
    rw [PyProof.Rows.cnt_cons, ih, List.count_cons]
    by_cases h : a = c <;> simp [h]; omega
/-- the names that parse257 reads, one behind the other -/
theorem q3434 : (Str.ofString "\"\"").cps.toList = [34, 34] := by decide +kernel
theorem q124 : (Str.ofString "|").cps.toList = [124] := by decide +kernel
theorem qnil : (Str.ofString "").cps.toList = [] := by decide +kernel
theorem q257q : (Str.ofString "257 \"").cps.toList = [50, 53, 55, 32, 34] := by decide +kernel
theorem sum_le (l : List (List Nat)) (M : Nat) (h : ∀ x ∈ l, x.length ≤ M) : (l.map (·.length)).sum ≤ l.length * M := by
  induction l with
  | nil => simp
  | cons x r ih =>
    have h1 := h x (.head _)
    have h2 := ih fun y hy => h y (.tail _ hy)
    simp only [List.map_cons, List.sum_cons, List.length_cons, Nat.add_mul, Nat.one_mul]; omega
theorem rep2_len (n : Nat) (x : List Nat) : (List.replicate n x).flatten.length = n * x.length := by simp
theorem prs_len : ∀ t : List Nat, (prs t).length ≤ t.length
  | [] => by simp [prs]
  | [c] => by unfold prs; split <;> simp
  | c :: d :: r => by
    unfold prs
    have h1 := prs_len r
    have h2 := prs_len (d :: r)
    split
    · split
      · simp only [List.length_cons] at *; omega
      · simp
    · simp only [List.length_cons] at *; omega
theorem laidL_len : ∀ (s : Int) (E : List Int), (laidL s E).length ≤ E.length
  | _, [] => by simp [laidL]
  | s, x :: r => by
    unfold laidL
    split
    · simp
    · have := laidL_len (s + x) r
      simp only [List.length_cons]; omega
theorem laidL_in : ∀ (s : Int) (E : List Int), 0 ≤ s → (∀ x ∈ E, 0 ≤ x) → ∀ y ∈ laidL s E, 0 ≤ y ∧ y ≤ 20
  | _, [], _, _, y, h => by simp [laidL] at h
  | s, x :: r, h0, hE, y, h => by
    unfold laidL at h
    have hx := hE x (.head _)
    rcases List.mem_cons.mp h with rfl | h
    · omega
    · split at h
      · simp at h
      · exact laidL_in (s + x) r (by omega) (fun z hz => hE z (.tail _ hz)) y h

/-! ### a play -/
def pieceW (n : Int) (way : Int) : List Nat := if 0 < way then [(97 + n).toNat] ++ (List.replicate way.toNat [34, 34]).flatten else [34] ++ [(97 + n).toNat]
def textW (ways : List Int) (at_ : Int) (close : List Nat) : List Nat := ((upto at_ 20).map fun n => pieceW n (ways.getD n.toNat 0)).flatten ++ close
def bump : List Int → List Int → List Int
  | ways, [] => ways
  | ways, m :: r => bump (ways.set m.toNat (ways.getD m.toNat 0 + 1)) r
def letters (n : List Nat) : Int := (n.length : Int) - (n.count 34 : Nat)
def nmW (ways : List Int) (a : Int) (close : List Nat) : List Nat := prs (textW ways a close)
def nxA (ways : List Int) (a : Int) (close : List Nat) : Int := a + letters (nmW ways a close)
def nxW (E ways : List Int) (a : Int) (close : List Nat) : List Int := if nxA ways a close < 20 then bump ways (laidL (nxA ways a close) E) else ways
def playF (E : List Int) (close : List Nat) : Nat → Int → List Int → List (List Nat) × List Int
  | 0, _, _ => ([], [])
  | f + 1, a, ways => if a ≤ 20 then
      (nmW ways a close :: (playF E close f (nxA ways a close + 1) (nxW E ways a close)).1,
        (if nxA ways a close < 20 then [nxA ways a close] else []) ++ (playF E close f (nxA ways a close + 1) (nxW E ways a close)).2)
    else ([], [])
theorem playF_end (E : List Int) (close : List Nat) (f : Nat) (a : Int) (ways : List Int) (h : 20 < a) : playF E close f a ways = ([], []) := by
  cases f with
  | zero => rfl
  | succ f => rw [playF, if_neg (by omega)]
theorem bump_len : ∀ (ways l : List Int), (bump ways l).length = ways.length
  | _, [] => rfl
  | ways, m :: r => by rw [bump, bump_len]; simp
theorem bump_in : ∀ (l ways : List Int) (M : Int), (∀ x ∈ ways, 0 ≤ x ∧ x ≤ M) → 0 ≤ M → ∀ x ∈ bump ways l, 0 ≤ x ∧ x ≤ M + l.length
  | [], ways, M, h, h0, x, hx => by have := h x hx; simp only [List.length_nil]; omega
  | m :: r, ways, M, h, h0, x, hx => by
    have := bump_in r (ways.set m.toNat (ways.getD m.toNat 0 + 1)) (M + 1) (fun y hy => by
      rcases List.mem_or_eq_of_mem_set hy with hy | rfl
      · have := h y hy; omega
      · rw [List.getD_eq_getElem?_getD]
        cases q : ways[m.toNat]? with
        | none => simp; omega
        | some z => have := h z (List.mem_of_getElem? q); simp; omega) (by omega) x hx
    simp only [List.length_cons]; omega
theorem letters_nonneg (n : List Nat) : 0 ≤ letters n := by
  have := List.count_le_length (a := 34) (l := n)
  unfold letters; omega
theorem pieceW_len (n way : Int) (h : way ≤ 500) : (pieceW n way).length ≤ 1002 := by
  unfold pieceW
  split
  · rw [List.length_append, rep2_len]; simp only [List.length_cons, List.length_nil]; omega
  · simp
theorem textW_len (ways : List Int) (a : Int) (close : List Nat) (ha : 0 ≤ a) (hw : ∀ x ∈ ways, x ≤ 500) (hc : close.length ≤ 1) : (((upto a 20).map fun n => pieceW n (ways.getD n.toNat 0)).map (·.length)).sum ≤ 20040 ∧ (textW ways a close).length ≤ 20041 := by
  have h1 := sum_le ((upto a 20).map fun n => pieceW n (ways.getD n.toNat 0)) 1002 (fun x hx => by
    obtain ⟨n, _, rfl⟩ := List.mem_map.mp hx
    refine pieceW_len _ _ ?_
    rw [List.getD_eq_getElem?_getD]
    cases q : ways[n.toNat]? with
    | none => simp
    | some z => have := hw z (List.mem_of_getElem? q); simpa using this)
  rw [List.length_map, upto_length] at h1
  have h2 : (20 - a).toNat * 1002 ≤ 20040 := by omega
  refine ⟨by omega, ?_⟩
  unfold textW
  rw [List.length_append, List.length_flatten]
  rw [show (List.map List.length ((upto a 20).map fun n => pieceW n (ways.getD n.toNat 0))) = ((upto a 20).map fun n => pieceW n (ways.getD n.toNat 0)).map (·.length) from rfl]
  omega

def played (E won : List Int) (close : List Nat) : List (List Nat) × List Int := playF E close 25 0 won
set_option maxHeartbeats 4000000 in
theorem played_fn (w : World) {k : Nat} (row won : List Int) (close : List Nat) (hok : row.head? ≠ some 0) (hpos : ∀ x ∈ row, 0 ≤ x) (hwl : won.length = 21) (hw : ∀ x ∈ won, 0 ≤ x ∧ x ≤ 1) (hc : close.length ≤ 1) :
    Fn (C2 w) (k + 12) 72 [.il row, .il won, .str close] (.pr (joinL [124] (played (gi 21 none row) won close).1) (played (gi 21 none row) won close).2) := by
  refine Fn.of (names := [Str.ofString "row", Str.ofString "won", Str.ofString "close"]) ⟨⟨_, _, _, rfl⟩, rfl, rfl, rfl, rfl, rfl, rfl, rfl, ?_, ?_⟩ rfl (by decide) rfl ?_
  · exact bind3 fun v u x => rfl
  · intro x hx
    simp only [List.mem_cons, List.not_mem_nil, or_false] at hx
    rcases hx with rfl | rfl | rfl <;> first | exact .inl rfl | exact .inr rfl
  · dsimp only [List.zip_cons_cons, List.zip_nil_right]
    have hEl := gi_len 21 none row
    have hEp := gi_pos 21 none row (fun l e => by cases e) (fun _ => hok) hpos
    have fl : ∀ s, 0 ≤ s → s ≤ 20 → Fn (C2 w) (k + 11) 67 [.il row, .int s] (.il (laidL s (gi 21 none row))) := fun s h0 h20 => laid_fn w (k := k + 1) row s hok hpos h0 h20
    generalize gi 21 none row = E at hEl hEp fl ⊢
    refine Ex.setOwn ((As.ev' (Ev.comp lkI lkI (xs := won) (p := fun _ => true) (f := fun x => x) [] (Src.list (Ev.name rfl (by decide))) ?sco caps_nil (.inl rfl) ⟨.inl ⟨rfl, fun _ => rfl⟩, fun a ha _ => Ev.name rfl (by decide)⟩ ?hz (fun _ _ => rfl)) (.inr rfl) fun env O => swaps_cell O rfl).eq (m' := .il won) ?eq) rfl (List.not_mem_nil) ?_
    case sco => exact CScope.of' rfl (by kernel_rfl)
    case hz => omega
    case eq => exact congrArg MV.il (by simp)
    refine Ex.setOwn (As.ev (Ev.disp lkS [] Evs.nil (by decide)) (.inl rfl) (fun _ => rfl)) rfl (by decide) ?_
    refine Ex.setOwn (As.ev (Ev.disp lkI [] Evs.nil (by decide)) (.inl rfl) (fun _ => rfl)) rfl (by decide) ?_
    refine Ex.set (As.ev Ev.int (.inl rfl) (fun _ => rfl)) (.inl rfl) (by decide) ?_
    refine Ex.while (σ := Int × List Int × List (List Nat) × List Int) (fun st => [(Str.ofString "ways", .il st.2.1), (Str.ofString "names", .sl st.2.2.1), (Str.ofString "lost", .il st.2.2.2), (Str.ofString "at", .int st.1), (Str.ofString "row", .il row), (Str.ofString "close", .str close)]) (fun st => (21 - st.1).toNat)
      (fun st => 0 ≤ st.1 ∧ st.2.1.length = 21 ∧ (∀ x ∈ st.2.1, 0 ≤ x ∧ x ≤ 1 + 21 * st.1) ∧ ((st.2.2.1.length : Int) ≤ st.1 ∧ st.2.2.1.length ≤ 21) ∧ ((st.2.2.2.length : Int) ≤ st.1 ∧ st.2.2.2.length ≤ 21) ∧ (∀ x ∈ st.2.2.1, x.length ≤ 20041) ∧
        ∃ f : Nat, 22 ≤ f + st.1 ∧ st.2.2.1 ++ (playF E close f st.1 st.2.1).1 = (played E won close).1 ∧ st.2.2.2 ++ (playF E close f st.1 st.2.1).2 = (played E won close).2)
      (fun st => decide (st.1 ≤ 20)) (0, won, [], []) ⟨Int.le_refl 0, hwl, fun x hx => by have := hw x hx; simp only; omega, ⟨by simp, by simp⟩, ⟨by simp, by simp⟩, by simp, 25, by simp, rfl, rfl⟩ ?_ ?_ ?_ ?_
    · (repeat' first | exact sub_nil | exact rfl | refine sub_cons ?_ ?_ | ((refine (rfl : _ = some (MV.int _)).trans (congrArg (fun z => some (MV.int z)) ?_)); first | omega | (simp; omega)) | ((refine (rfl : _ = some (MV.str _)).trans (congrArg (fun z => some (MV.str z)) ?_)); first | assumption | (simp; done)))
    · rintro ⟨a, ws, ns, lo⟩ _
      exact Ts.cmp (Ev.name rfl (by decide)) Ev.int Cm.leI rfl
    · rintro ⟨a, ws, ns, lo⟩ ⟨h0, hwl, hw, ⟨hn1, hn2⟩, ⟨hl1, hl2⟩, hnl, f, hf, hr1, hr2⟩ hlt
      dsimp only at h0 hwl hw hn1 hn2 hl1 hl2 hnl hf hr1 hr2 hlt ⊢
      have hlt : a ≤ 20 := by simpa using hlt
      have hw5 : ∀ x ∈ ws, x ≤ 500 := fun x hx => by have := hw x hx; omega
      obtain ⟨ht1, ht2⟩ := textW_len ws a close h0 hw5 hc
      obtain ⟨f, rfl⟩ : ∃ g, f = g + 1 := ⟨f - 1, by omega⟩
      rw [playF, if_pos hlt] at hr1 hr2
      dsimp only at hr1 hr2
      refine Ex.set ((As.comp lkI lkS (xs := upto a 20) (p := fun _ => true) (f := fun n => pieceW n (ws.getD n.toNat 0)) [(Str.ofString "ways", .il ws)] ?src ?sco ?cap (.inl rfl) ⟨.inl ⟨rfl, fun _ => rfl⟩, ?elt⟩ ?hz (fun _ _ => rfl) rfl ?sw).eq (m' := .sl ((upto a 20).map fun n => pieceW n (ws.getD n.toNat 0))) ?eq) (.inl rfl) (by decide) ?_
      case src => exact Src.range2 (Gl.built rfl PyProof.Rows.Boot.«range» (by decide) rfl (by decide)) (Ev.name rfl (by decide)) Ev.int (fun _ _ => rfl) (fun _ _ => rfl) (by omega) (by omega) (by decide) (by decide)
      case sco => exact CScope.of' rfl (by kernel_rfl)
      case cap => (repeat' first | exact caps_nil | exact rfl | refine caps_cons ?_ ?_ ?_)
      case hz => rw [upto_length]; omega
      case sw => exact fun env O => swaps_local O rfl rfl (by kernel_rfl)
      case eq => exact congrArg MV.sl (by rw [List.filter_eq_self.mpr (by simp)])
      case elt =>
        intro n hn _
        rw [mem_upto] at hn
        have hget : ws[n.toNat]? = some (ws.getD n.toNat 0) := by
          rw [List.getD_eq_getElem?_getD, List.getElem?_eq_getElem (show n.toNat < ws.length by omega)]; rfl
        have hway := hw5 _ (List.mem_of_getElem? hget)
        have hway0 := (hw _ (List.mem_of_getElem? hget)).1
        refine Ev.ite (b := decide (0 < ws.getD n.toNat 0)) (Ts.cmp (Ev.item lkI (Ev.name rfl (by decide)) (Ev.name rfl (by decide)) (by omega) (by omega) hget fun _ _ => rfl) Ev.int Cm.gtI rfl) (fun h => ?yes) (fun h => ?nay)
        case yes =>
          have h : 0 < ws.getD n.toNat 0 := by simpa using h
          refine ((Ev.bin (Ev.bcall (Gl.built rfl PyProof.Rows.Boot.«chr» (by decide) rfl (by decide)) (Evs.cons (Ev.bin Ev.int (Ev.name rfl (by decide)) Bin.addI) Evs.nil fun _ _ => rfl) (Bf.chr ?c0 ?c1) (fun x hx => by simp only [List.mem_cons, List.not_mem_nil, or_false] at hx; rcases hx with rfl; exact fun _ _ => rfl)) (Ev.bin Ev.str (Ev.item lkI (Ev.name rfl (by decide)) (Ev.name rfl (by decide)) (by omega) (by omega) hget fun _ _ => rfl) (Bin.mulS ?m0 ?m1 ?m2)) (Bin.addS ?u1)).eq (m' := .str (pieceW n (ws.getD n.toNat 0))) ?eq).up rfl
          case c0 => omega
          case c1 => omega
          case m0 => omega
          case m1 => omega
          case m2 => decide +kernel
          case u1 => rw [q3434, rep2_len]; simp only [List.length_cons, List.length_nil]; omega
          case eq => rw [q3434, pieceW, if_pos h]
        case nay =>
          have h : ¬ 0 < ws.getD n.toNat 0 := by simpa using h
          refine ((Ev.bin Ev.str (Ev.bcall (Gl.built rfl PyProof.Rows.Boot.«chr» (by decide) rfl (by decide)) (Evs.cons (Ev.bin Ev.int (Ev.name rfl (by decide)) Bin.addI) Evs.nil fun _ _ => rfl) (Bf.chr ?d0 ?d1) (fun x hx => by simp only [List.mem_cons, List.not_mem_nil, or_false] at hx; rcases hx with rfl; exact fun _ _ => rfl)) (Bin.addS ?v1)).eq (m' := .str (pieceW n (ws.getD n.toNat 0))) ?eq2).up rfl
          case d0 => omega
          case d1 => omega
          case v1 => rw [q34]; simp only [List.length_cons, List.length_nil]; omega
          case eq2 => rw [q34, pieceW, if_neg h]
      have hpl : ((upto a 20).map fun n => pieceW n (ws.getD n.toNat 0)).length ≤ 20 := by rw [List.length_map, upto_length]; omega
      have hjl : ((upto a 20).map fun n => pieceW n (ws.getD n.toNat 0)).flatten.length ≤ 20041 := by
        unfold textW at ht2
        rw [List.length_append] at ht2; omega
      refine Ex.set (As.ev (Ev.call (m := .str (nmW ws a close)) (Gl.own rfl rfl (by decide)) rfl (Evs.cons ((Ev.bin (Ev.bin Ev.str (Ev.meth1 Ev.str (Ev.name rfl (by decide)) (fun _ _ => rfl) (fun _ => rfl) rfl PySem.F.plainAttrs_str PySem.F.slot_str_join PySem.F.type_str_join (typeS _) (Bf.join (r := ((upto a 20).map fun n => pieceW n (ws.getD n.toNat 0)).flatten) ?j1 ?j2 ?j3)) (Bin.addS ?s1)) (Ev.name rfl (by decide)) (Bin.addS ?s2)).eq (m' := .str ([50, 53, 55, 32, 34] ++ textW ws a close)) ?eq) Evs.nil fun _ _ => rfl) (parse_fn w (k := k + 10) _ (by omega)) fun _ _ => rfl) (.inl rfl) (fun _ => rfl)) (.inl rfl) (by decide) ?_
      case j1 => rw [qnil]; decide
      case j2 => omega
      case j3 => rw [qnil, join_eq, joinL_nil]
      case s1 => rw [q257q]; simp only [List.length_cons, List.length_nil]; omega
      case s2 => rw [q257q]; simp only [List.length_cons, List.length_nil, List.length_append]; omega
      case eq => rw [q257q, List.append_assoc]; rfl
      have hnml : (nmW ws a close).length ≤ 20041 := Nat.le_trans (prs_len _) ht2
      have hlet := letters_nonneg (nmW ws a close)
      refine Ex.append lkS (a := nmW ws a close) (by decide) rfl (Ev.name rfl (by decide)) (fun _ _ => rfl) (by decide) (fun _ => rfl) rfl (by omega) ?_
      refine Ex.set ((As.augI rfl (Ev.bin (Ev.bcall (Gl.built rfl PyProof.Rows.Boot.«len» (by decide) rfl (by decide)) (Evs.cons (Ev.name rfl (by decide)) Evs.nil fun _ _ => rfl) (Bf.lenS ?z1) (fun x hx => by simp only [List.mem_cons, List.not_mem_nil, or_false] at hx; rcases hx with rfl; exact fun _ _ => rfl))
          (Ev.meth1 (Ev.name rfl (by decide)) Ev.str (fun _ _ => rfl) (fun _ => rfl) rfl PySem.F.plainAttrs_str PySem.F.slot_str_count PySem.F.type_str_count (typeS _) (Bf.countS (n := ((nmW ws a close).count 34 : Nat)) ?cn)) Bin.subI) (.inl rfl)).eq (m' := .int (nxA ws a close)) rfl) (.inl rfl) (by decide) ?_
      case z1 => omega
      case cn => rw [q34]; exact cnt_eq 34 _
      have hA : a ≤ nxA ws a close := by unfold nxA; omega
      have hnx : nxW E ws a close = if nxA ws a close < 20 then bump ws (laidL (nxA ws a close) E) else ws := rfl
      generalize nxA ws a close = a' at hA hnx hr1 hr2 ⊢
      generalize nxW E ws a close = ws' at hnx hr1 hr2 ⊢
      generalize nmW ws a close = nam at hnml hr1 ⊢
      clear ht1 ht2 hpl hjl hlet
      refine Ex.iteJ [(Str.ofString "ways", .il ws'), (Str.ofString "names", .sl (ns ++ [nam])), (Str.ofString "lost", .il (lo ++ if a' < 20 then [a'] else [])), (Str.ofString "at", .int a'), (Str.ofString "row", .il row), (Str.ofString "close", .str close)] (b := decide (a' < 20)) (Ts.cmp (Ev.name rfl (by decide)) Ev.int Cm.ltI rfl) ?_ ?_ ?_
      · intro h
        have h : a' < 20 := by simpa using h
        rw [if_pos h] at hnx ⊢
        refine Ex.append lkI (a := a') (by decide) rfl (Ev.name rfl (by decide)) (fun _ _ => rfl) (by decide) (fun _ => rfl) rfl (by omega) ?_
        have hin := laidL_in a' E (by omega) (fun x hx => by have := hEp x hx; omega)
        refine Ex.for (σ := List Int) lkI (fun st => [(Str.ofString "ways", .il st), (Str.ofString "names", .sl (ns ++ [nam])), (Str.ofString "lost", .il (lo ++ [a'])), (Str.ofString "at", .int a'), (Str.ofString "row", .il row), (Str.ofString "close", .str close)]) (fun i st => bump st ((laidL a' E).drop i) = ws' ∧ st.length = 21) (xs := laidL a' E)
          (SrcF.fresh (Ev.call (m := .il (laidL a' E)) (Gl.own rfl rfl (by decide)) rfl (Evs.cons (Ev.name rfl (by decide)) (Evs.cons (Ev.name rfl (by decide)) Evs.nil fun _ _ => rfl) fun _ _ => rfl) (fl a' (by omega) (by omega)) fun _ _ => rfl)) (by decide) (.inl rfl) (fun _ _ => rfl) ws ⟨by rw [hnx]; rfl, hwl⟩ ?_ ?_ ?_
        · (repeat' first | exact sub_nil | exact rfl | refine sub_cons ?_ ?_ | ((refine (rfl : _ = some (MV.int _)).trans (congrArg (fun z => some (MV.int z)) ?_)); first | omega | (simp; omega)) | ((refine (rfl : _ = some (MV.str _)).trans (congrArg (fun z => some (MV.str z)) ?_)); first | assumption | (simp; done)))
        · rintro i m st hm ⟨hst, hsl⟩
          have hi : i < (laidL a' E).length := (List.getElem?_eq_some_iff.mp hm).1
          have hm' : (laidL a' E)[i] = m := (List.getElem?_eq_some_iff.mp hm).2
          have hmi := hin m (List.mem_of_getElem? hm)
          rw [List.drop_eq_getElem_cons hi, hm', bump] at hst
          have hget : st[m.toNat]? = some (st.getD m.toNat 0) := by
            rw [List.getD_eq_getElem?_getD, List.getElem?_eq_getElem (show m.toNat < st.length by omega)]; rfl
          refine Ex.augItem (j := m) (a := st.getD m.toNat 0) (b := 1) (by decide) rfl rfl Ev.int (by decide) (by decide) hmi.1 (by omega) hget ?_
          refine Ex.nil ⟨fun _ h => h, _, ⟨hst, by simpa using hsl⟩, ?_⟩
          (repeat' first | exact sub_nil | exact rfl | refine sub_cons ?_ ?_ | ((refine (rfl : _ = some (MV.int _)).trans (congrArg (fun z => some (MV.int z)) ?_)); first | omega | (simp; omega)) | ((refine (rfl : _ = some (MV.str _)).trans (congrArg (fun z => some (MV.str z)) ?_)); first | assumption | (simp; done)))
        · rintro st ⟨hst, hsl⟩
          rw [List.drop_length, bump] at hst
          subst hst
          refine Ex.nil ⟨rfl, fun _ h => h, ?_⟩
          (repeat' first | exact sub_nil | exact rfl | refine sub_cons ?_ ?_ | ((refine (rfl : _ = some (MV.int _)).trans (congrArg (fun z => some (MV.int z)) ?_)); first | omega | (simp; omega)) | ((refine (rfl : _ = some (MV.str _)).trans (congrArg (fun z => some (MV.str z)) ?_)); first | assumption | (simp; done)))
      · intro h
        have h : ¬ a' < 20 := by simpa using h
        rw [if_neg h] at hnx ⊢
        subst hnx
        rw [List.append_nil]
        refine Ex.nil ⟨rfl, fun _ h => h, ?_⟩
        (repeat' first | exact sub_nil | exact rfl | refine sub_cons ?_ ?_ | ((refine (rfl : _ = some (MV.int _)).trans (congrArg (fun z => some (MV.int z)) ?_)); first | omega | (simp; omega)) | ((refine (rfl : _ = some (MV.str _)).trans (congrArg (fun z => some (MV.str z)) ?_)); first | assumption | (simp; done)))
      refine Ex.set (As.augI rfl Ev.int (.inl rfl)) (.inl rfl) (by decide) ?_
      have hbl := laidL_len a' E
      refine Ex.nil ⟨fun _ h => h, (a' + 1, ws', ns ++ [nam], lo ++ if a' < 20 then [a'] else []), ⟨?i1, ?i2, ?i3, ⟨?i4, ?i5⟩, ⟨?i6, ?i7⟩, ?i8, f, ?i9, ?i10, ?i11⟩, ?m1, ?m2⟩
      case i1 => dsimp only; omega
      case i2 => dsimp only; rw [hnx]; split; rw [bump_len]; exact hwl; exact hwl
      case i3 =>
        dsimp only
        rw [hnx]
        intro x hx
        split at hx
        · have := bump_in (laidL a' E) ws (1 + 21 * a) hw (by omega) x hx
          omega
        · have := hw x hx; omega
      case i4 => simp only [List.length_append, List.length_cons, List.length_nil]; omega
      case i5 => simp only [List.length_append, List.length_cons, List.length_nil]; omega
      case i6 => split <;> simp only [List.length_append, List.length_cons, List.length_nil] <;> omega
      case i7 => split <;> simp only [List.length_append, List.length_cons, List.length_nil] <;> omega
      case i8 =>
        dsimp only
        intro x hx
        rcases List.mem_append.mp hx with hx | hx
        · exact hnl x hx
        · rw [List.mem_singleton] at hx; rw [hx]; exact hnml
      case i9 => dsimp only; omega
      case i10 => dsimp only; rw [← hr1, List.append_assoc]; rfl
      case i11 => dsimp only; rw [← hr2, List.append_assoc]
      case m1 => dsimp only; omega
      case m2 => (repeat' first | exact sub_nil | exact rfl | refine sub_cons ?_ ?_ | ((refine (rfl : _ = some (MV.int _)).trans (congrArg (fun z => some (MV.int z)) ?_)); first | omega | (simp; omega)) | ((refine (rfl : _ = some (MV.str _)).trans (congrArg (fun z => some (MV.str z)) ?_)); first | assumption | (simp; done)))
    · rintro ⟨a, ws, ns, lo⟩ ⟨h0, hwl, hw, ⟨hn1, hn2⟩, ⟨hl1, hl2⟩, hnl, f, hf, hr1, hr2⟩ hlt
      dsimp only at h0 hwl hw hn1 hn2 hl1 hl2 hnl hf hr1 hr2 hlt ⊢
      have hlt : 20 < a := by simpa using hlt
      rw [playF_end _ _ _ _ _ hlt, List.append_nil] at hr1 hr2
      have hns := sum_le ns 20041 hnl
      have hns2 := Nat.mul_le_mul_right 20041 hn2
      refine Ex.retPair (Ev.meth1 Ev.str (Ev.name rfl (by decide)) (fun _ _ => rfl) (fun _ => rfl) rfl PySem.F.plainAttrs_str PySem.F.slot_str_join PySem.F.type_str_join (typeS _) (Bf.join (r := joinL [124] ns) ?j1 ?j2 ?j3)) (by decide) rfl (fun _ _ => rfl) (by decide) ?_
      case j1 => rw [q124]; decide
      case j2 => omega
      case j3 => rw [q124, join_eq]
      show MF.ret (.pr _ _) = MF.ret (.pr _ _)
      rw [hr1, hr2]
end Mine

open PySem PySem.W PyProof.Rows
set_option Elab.async false
set_option maxRecDepth 100000
set_option autoImplicit false
set_option linter.unusedVariables false
set_option linter.unusedSimpArgs false
namespace Mine
/-! ### values -/
def nearL (marks vs : List Int) (n : Int) : List Int := (marks.filter fun m => decide (m ≤ n)).map fun m => vs.getD (n - m).toNat 0
def mexC (near : List Int) : List Int := (upto 0 ((near.length : Int) + 1)).filter fun v => !near.any (· == v)
def mex (near : List Int) : Int := (mexC near).headD 0
def valsF (marks : List Int) : Nat → List Int
  | 0 => []
  | n + 1 => valsF marks n ++ [mex (nearL marks (valsF marks n) n)]
theorem valsF_len (marks : List Int) : ∀ n, (valsF marks n).length = n
  | 0 => rfl
  | n + 1 => by rw [valsF, List.length_append, valsF_len marks n]; rfl
theorem inj_len {α β : Type} [DecidableEq β] (f : α → β) : ∀ (l : List α) (m : List β), l.Nodup → (∀ x ∈ l, f x ∈ m) → (∀ x ∈ l, ∀ y ∈ l, f x = f y → x = y) → l.length ≤ m.length
  | [], m, _, _, _ => Nat.zero_le _
  | x :: l, m, hn, hm, hi => by
    obtain ⟨h1, h2⟩ := List.nodup_cons.mp hn
    have hx := hm x (.head _)
    have := inj_len f l (m.erase (f x)) h2 (fun y hy => by
      refine (List.mem_erase_of_ne fun e => ?_).mpr (hm y (.tail _ hy))
      have := hi y (.tail _ hy) x (.head _) e
      subst this
      exact h1 hy) fun y hy z hz e => hi y (.tail _ hy) z (.tail _ hz) e
    rw [List.length_erase_of_mem hx] at this
    have : 0 < m.length := List.length_pos_of_mem hx
    simp only [List.length_cons]; omega
theorem upto_nodup (a b : Int) : (upto a b).Nodup := by
  unfold upto List.Nodup
  rw [List.pairwise_map]
  exact (List.pairwise_lt_range).imp fun h e => by omega
theorem mexC_ne (near : List Int) : ∃ v r, mexC near = v :: r := by
  cases h : mexC near with
  | cons v r => exact ⟨v, r, rfl⟩
  | nil =>
    exfalso
    unfold mexC at h
    rw [List.filter_eq_nil_iff] at h
    have := inj_len id (upto 0 ((near.length : Int) + 1)) near (upto_nodup ..) (fun x hx => by
      have := h x hx
      simpa using this) fun x _ y _ e => e
    rw [upto_length] at this
    omega
theorem near_len (marks vs : List Int) (n : Int) : (nearL marks vs n).length ≤ marks.length := by
  unfold nearL; rw [List.length_map]; exact List.length_filter_le _ _
set_option maxHeartbeats 4000000 in
theorem values_fn (w : World) {k : Nat} (marks : List Int) (hm : ∀ m ∈ marks, 1 ≤ m) (hl : marks.length ≤ 40) : Fn (C2 w) (k + 1) 82 [.il marks] (.il (valsF marks 20)) := by
  refine Fn.of (names := [Str.ofString "marks"]) ⟨⟨_, _, _, rfl⟩, rfl, rfl, rfl, rfl, rfl, rfl, rfl, ?_, ?_⟩ rfl (by decide) rfl ?_
  · exact bind1 fun v => rfl
  · intro x hx
    simp only [List.mem_cons, List.not_mem_nil, or_false] at hx
    rcases hx with rfl <;> first | exact .inl rfl | exact .inr rfl
  · dsimp only [List.zip_cons_cons, List.zip_nil_right]
    refine Ex.setOwn (As.ev (Ev.disp lkI [] Evs.nil (by decide)) (by first | exact .inl rfl | exact .inr rfl) (fun _ => rfl)) rfl (List.not_mem_nil) ?_
    refine Ex.for (σ := Nat) lkI (fun i => [(Str.ofString "values", .il (valsF marks i)), (Str.ofString "marks", .il marks)]) (fun i st => st = i) (xs := upto 0 20) (SrcF.range1 (Gl.built rfl PyProof.Rows.Boot.«range» (by decide) rfl (by decide)) Ev.int (fun _ _ => rfl) (by decide) (by decide)) (by decide) (by first | exact .inl rfl | exact .inr rfl) (fun _ _ => rfl) 0 rfl ?_ ?_ ?_
    · (repeat' first | exact sub_nil | exact rfl | refine sub_cons ?_ ?_ | ((refine (rfl : _ = some (MV.int _)).trans (congrArg (fun z => some (MV.int z)) ?_)); first | omega | (simp; omega)) | ((refine (rfl : _ = some (MV.str _)).trans (congrArg (fun z => some (MV.str z)) ?_)); first | assumption | (simp; done)))
    · rintro i n st hn rfl
      have hi : st < 20 := by have := (List.getElem?_eq_some_iff.mp hn).1; rw [upto_length] at this; omega
      have hne : n = (st : Int) := by
        have h1 : (upto 0 20)[st]? = some (0 + (st : Int)) := upto_get (by omega)
        rw [hn] at h1; cases h1; omega
      subst hne
      have hvl := valsF_len marks st
      have hnl := near_len marks (valsF marks st) st
      refine Ex.set ((As.ev' (Ev.comp lkI lkI (xs := marks) (p := fun m => decide (m ≤ (st : Int))) (f := fun m => (valsF marks st).getD ((st : Int) - m).toNat 0) [(Str.ofString "n", .int st), (Str.ofString "values", .il (valsF marks st))] (Src.list (Ev.name rfl (by decide))) ?sco ?cap (.inl rfl) ⟨?tests, ?elt⟩ ?hz (fun _ _ => rfl)) (by first | exact .inl rfl | exact .inr rfl) fun env O => swaps_cell O rfl).eq (m' := .il (nearL marks (valsF marks st) st)) rfl) (.inl rfl) (by decide) ?_
      case sco => exact CScope.of' rfl (by kernel_rfl)
      case cap => (repeat' first | exact caps_nil | exact rfl | refine caps_cons ?_ ?_ ?_)
      case tests => exact .inr ⟨_, rfl, fun a ha => Ts.cmp (Ev.name rfl (by decide)) (Ev.name rfl (by decide)) Cm.leI rfl⟩
      case elt =>
        intro m hmm hp
        have h1 := hm m hmm
        have hp : m ≤ (st : Int) := by simpa using hp
        refine Ev.item lkI (Ev.name rfl (by decide)) (Ev.bin (Ev.name rfl (by decide)) (Ev.name rfl (by decide)) Bin.subI) (by omega) (by omega) ?_ fun _ _ => rfl
        rw [List.getD_eq_getElem?_getD, List.getElem?_eq_getElem (show ((st : Int) - m).toNat < (valsF marks st).length by omega)]; rfl
      case hz => omega
      obtain ⟨v, r, hvr⟩ := mexC_ne (nearL marks (valsF marks st) st)
      have hmx : mex (nearL marks (valsF marks st) st) = v := by rw [mex, hvr]; rfl
      generalize hnear : nearL marks (valsF marks st) st = near at hnl hvr hmx ⊢
      refine Ex.append lkI (a := v) (by decide) rfl (Ev.item lkI ((Ev.comp lkI lkI (xs := upto 0 ((near.length : Int) + 1)) (p := fun v => !near.any (· == v)) (f := fun v => v) [(Str.ofString "near", .il near)] ?src ?sco ?cap (.inl rfl) ⟨?tests, ?elt⟩ ?hz (fun _ _ => rfl)).eq (m' := .il (mexC near)) ?eq) Ev.int (by decide) (by decide) (by rw [hvr]; rfl) fun _ _ => rfl) (fun _ _ => rfl) (by decide) (fun _ => rfl) rfl (by omega) ?_
      case src => exact Src.range1 (Gl.built rfl PyProof.Rows.Boot.«range» (by decide) rfl (by decide)) (Ev.bin (Ev.bcall (Gl.built rfl PyProof.Rows.Boot.«len» (by decide) rfl (by decide)) (Evs.cons (Ev.name rfl (by decide)) Evs.nil fun _ _ => rfl) (Bf.lenL lkI (by omega)) (fun x hx => by simp only [List.mem_cons, List.not_mem_nil, or_false] at hx; rcases hx with rfl; exact fun _ _ => rfl)) Ev.int Bin.addI) (fun _ _ => rfl) (by omega) (by omega)
      case sco => exact CScope.of' rfl (by kernel_rfl)
      case cap => (repeat' first | exact caps_nil | exact rfl | refine caps_cons ?_ ?_ ?_)
      case tests => exact .inr ⟨_, rfl, fun a ha => Ts.cmp (Ev.name rfl (by decide)) (Ev.name rfl (by decide)) Cm.ninL rfl⟩
      case elt => exact fun a ha _ => (Ev.name rfl (by decide))
      case hz => rw [upto_length]; omega
      case eq => exact congrArg MV.il (by simp [mexC])
      refine Ex.nil ⟨fun _ h => h, st + 1, rfl, ?_⟩
      have e : valsF marks (st + 1) = valsF marks st ++ [v] := by rw [valsF, hnear, hmx]
      rw [e]
      (repeat' first | exact sub_nil | exact rfl | refine sub_cons ?_ ?_ | ((refine (rfl : _ = some (MV.int _)).trans (congrArg (fun z => some (MV.int z)) ?_)); first | omega | (simp; omega)) | ((refine (rfl : _ = some (MV.str _)).trans (congrArg (fun z => some (MV.str z)) ?_)); first | assumption | (simp; done)))
    · rintro st rfl
      refine Ex.retOwn (by decide) rfl (by decide) ?_
      rfl
end Mine

open PySem PySem.W PyProof.Rows
set_option Elab.async false
set_option maxRecDepth 100000
set_option autoImplicit false
set_option linter.unusedVariables false
set_option linter.unusedSimpArgs false
namespace Mine
theorem getD_at {α : Type} (l : List α) (d : α) {j : Nat} (h : j < l.length) : l[j]? = some (l.getD j d) := by
  rw [List.getD_eq_getElem?_getD, List.getElem?_eq_getElem h]; rfl
/-! ### what is due -/
def dueN (marks vs : List Int) (value : Int) (n : Int) : List Nat :=
  if vs.getD n.toNat 0 = value then [124] else if nearL marks vs n = [] then [(97 + n).toNat] ++ [34] else [(97 + n).toNat] ++ (List.replicate ((nearL marks vs n).count value) [34]).flatten
def dueL (marks vs : List Int) (value : Int) : List (List Nat) := (List.range 20).map fun (n : Nat) => dueN marks vs value n
theorem dueN_len (marks vs : List Int) (value n : Int) (hl : marks.length ≤ 40) : (dueN marks vs value n).length ≤ 41 := by
  have h1 := near_len marks vs n
  have h2 := List.count_le_length (a := value) (l := nearL marks vs n)
  unfold dueN
  split
  · simp
  · split
    · simp
    · rw [List.length_append, rep2_len]; simp only [List.length_cons, List.length_nil]; omega
set_option maxHeartbeats 4000000 in
theorem due_fn (w : World) {k : Nat} (marks vs : List Int) (value : Int) (hm : ∀ m ∈ marks, 1 ≤ m) (hl : marks.length ≤ 40) (hvl : vs.length = 20) : Fn (C2 w) (k + 1) 87 [.il marks, .il vs, .int value] (.str (dueL marks vs value).flatten) := by
  refine Fn.of (names := [Str.ofString "marks", Str.ofString "values", Str.ofString "value"]) ⟨⟨_, _, _, rfl⟩, rfl, rfl, rfl, rfl, rfl, rfl, rfl, ?_, ?_⟩ rfl (by decide) rfl ?_
  · exact bind3 fun v u x => rfl
  · intro x hx
    simp only [List.mem_cons, List.not_mem_nil, or_false] at hx
    rcases hx with rfl | rfl | rfl <;> first | exact .inl rfl | exact .inr rfl
  · dsimp only [List.zip_cons_cons, List.zip_nil_right]
    refine Ex.setOwn (As.ev (Ev.disp lkS [] Evs.nil (by decide)) (by first | exact .inl rfl | exact .inr rfl) (fun _ => rfl)) rfl (List.not_mem_nil) ?_
    refine Ex.for (σ := Nat) lkI (fun i => [(Str.ofString "due", .sl ((List.range i).map fun (n : Nat) => dueN marks vs value n)), (Str.ofString "marks", .il marks), (Str.ofString "values", .il vs), (Str.ofString "value", .int value)]) (fun i st => st = i) (xs := upto 0 20) (SrcF.range1 (Gl.built rfl PyProof.Rows.Boot.«range» (by decide) rfl (by decide)) Ev.int (fun _ _ => rfl) (by decide) (by decide)) (by decide) (by first | exact .inl rfl | exact .inr rfl) (fun _ _ => rfl) 0 rfl ?_ ?_ ?_
    · (repeat' first | exact sub_nil | exact rfl | refine sub_cons ?_ ?_ | ((refine (rfl : _ = some (MV.int _)).trans (congrArg (fun z => some (MV.int z)) ?_)); first | omega | (simp; omega)) | ((refine (rfl : _ = some (MV.str _)).trans (congrArg (fun z => some (MV.str z)) ?_)); first | assumption | (simp; done)))
    · rintro i n st hn rfl
      have hi : st < 20 := by have := (List.getElem?_eq_some_iff.mp hn).1; rw [upto_length] at this; omega
      have hne : n = (st : Int) := by
        have h1 : (upto 0 20)[st]? = some (0 + (st : Int)) := upto_get (by omega)
        rw [hn] at h1; cases h1; omega
      subst hne
      have hnl := near_len marks vs st
      have hget : ∀ j : Int, 0 ≤ j → j < 20 → vs[j.toNat]? = some (vs.getD j.toNat 0) := fun j h0 h1 => by
        rw [List.getD_eq_getElem?_getD, List.getElem?_eq_getElem (show j.toNat < vs.length by omega)]; rfl
      refine Ex.set ((As.comp lkI lkI (xs := marks) (p := fun m => decide (m ≤ (st : Int))) (f := fun m => vs.getD ((st : Int) - m).toNat 0) [(Str.ofString "n", .int st), (Str.ofString "values", .il vs)] (Src.list (Ev.name rfl (by decide))) ?sco ?cap (.inl rfl) ⟨?tests, ?elt⟩ ?hz (fun _ _ => rfl) rfl ?sw).eq (m' := .il (nearL marks vs st)) rfl) (.inl rfl) (by decide) ?_
      case sco => exact CScope.of' rfl (by kernel_rfl)
      case cap => (repeat' first | exact caps_nil | exact rfl | refine caps_cons ?_ ?_ ?_)
      case tests => exact .inr ⟨_, rfl, fun a ha => Ts.cmp (Ev.name rfl (by decide)) (Ev.name rfl (by decide)) Cm.leI rfl⟩
      case elt =>
        intro m hmm hp
        have h1 := hm m hmm
        have hp : m ≤ (st : Int) := by simpa using hp
        exact Ev.item lkI (Ev.name rfl (by decide)) (Ev.bin (Ev.name rfl (by decide)) (Ev.name rfl (by decide)) Bin.subI) (by omega) (by omega) (hget _ (by omega) (by omega)) fun _ _ => rfl
      case hz => omega
      case sw => exact fun env O => swaps_local O rfl rfl (by kernel_rfl)
      have hlen : ((List.range st).map fun (n : Nat) => dueN marks vs value n).length ≤ 16777216 := by rw [List.length_map, List.length_range]; omega
      have hdue : ∀ x, x = dueN marks vs value st → ((List.range st).map fun (n : Nat) => dueN marks vs value n) ++ [x] = (List.range (st + 1)).map fun (n : Nat) => dueN marks vs value n := fun x e => by
        rw [e, List.range_succ, List.map_append]; rfl
      have hcnt := List.count_le_length (a := value) (l := nearL marks vs st)
      refine Ex.ite (b := decide (vs.getD st 0 = value)) (Ts.cmp (Ev.item lkI (a := vs.getD st 0) (Ev.name rfl (by decide)) (Ev.name rfl (by decide)) (by omega) (by omega) (hget st (by omega) (by omega)) fun _ _ => rfl) (Ev.name rfl (by decide)) Cm.eqI rfl) (fun h => ?_) (fun h => ?_)
      · have h : vs.getD st 0 = value := by simpa using h
        refine Ex.append lkS (a := [124]) (by decide) rfl (Ev.str.eq (by rw [q124])) (fun _ _ => rfl) (by decide) (fun _ => rfl) rfl hlen ?_
        rw [hdue [124] (by rw [dueN, if_pos (by simpa using h)])]
        refine Ex.nil ⟨fun _ h => h, st + 1, rfl, ?_⟩
        (repeat' first | exact sub_nil | exact rfl | refine sub_cons ?_ ?_ | ((refine (rfl : _ = some (MV.int _)).trans (congrArg (fun z => some (MV.int z)) ?_)); first | omega | (simp; omega)) | ((refine (rfl : _ = some (MV.str _)).trans (congrArg (fun z => some (MV.str z)) ?_)); first | assumption | (simp; done)))
      · have h : ¬ vs.getD st 0 = value := by simpa using h
        simp only [List.append_nil]
        refine Ex.ite (b := decide (nearL marks vs st = [])) (Ts.cmp (Ev.name rfl (by decide)) (Ev.disp lkI [] Evs.nil (by decide)) Cm.eqL rfl) (fun h2 => ?_) (fun h2 => ?_)
        · have h2 : nearL marks vs st = [] := by simpa using h2
          refine Ex.append lkS (a := [((97 : Int) + (st : Int)).toNat] ++ [34]) (by decide) rfl ((Ev.bin (Ev.bcall (Gl.built rfl PyProof.Rows.Boot.«chr» (by decide) rfl (by decide)) (Evs.cons (Ev.bin Ev.int (Ev.name rfl (by decide)) Bin.addI) Evs.nil fun _ _ => rfl) (Bf.chr ?c0 ?c1) (fun x hx => by simp only [List.mem_cons, List.not_mem_nil, or_false] at hx; rcases hx with rfl; exact fun _ _ => rfl)) Ev.str (Bin.addS ?s1)).eq (by rw [q34])) (fun _ _ => rfl) (by decide) (fun _ => rfl) rfl hlen ?_
          case c0 => omega
          case c1 => omega
          case s1 => rw [q34]; simp
          rw [hdue _ (by rw [dueN, if_neg (by simpa using h), if_pos h2])]
          refine Ex.nil ⟨fun _ h => h, st + 1, rfl, ?_⟩
          (repeat' first | exact sub_nil | exact rfl | refine sub_cons ?_ ?_ | ((refine (rfl : _ = some (MV.int _)).trans (congrArg (fun z => some (MV.int z)) ?_)); first | omega | (simp; omega)) | ((refine (rfl : _ = some (MV.str _)).trans (congrArg (fun z => some (MV.str z)) ?_)); first | assumption | (simp; done)))
        · have h2 : ¬ nearL marks vs st = [] := by simpa using h2
          simp only [List.append_nil]
          refine Ex.append lkS (a := [((97 : Int) + (st : Int)).toNat] ++ (List.replicate ((nearL marks vs st).count value) [34]).flatten) (by decide) rfl ((Ev.bin (Ev.bcall (Gl.built rfl PyProof.Rows.Boot.«chr» (by decide) rfl (by decide)) (Evs.cons (Ev.bin Ev.int (Ev.name rfl (by decide)) Bin.addI) Evs.nil fun _ _ => rfl) (Bf.chr ?c0 ?c1) (fun x hx => by simp only [List.mem_cons, List.not_mem_nil, or_false] at hx; rcases hx with rfl; exact fun _ _ => rfl)) (Ev.bin Ev.str (Ev.meth1 (Ev.name rfl (by decide)) (Ev.name rfl (by decide)) (fun _ _ => rfl) (fun _ => rfl) rfl PySem.F.plainAttrs_list PySem.F.slot_list_count PySem.F.type_list_count (typeL lkI _) Bf.countL) (Bin.mulS ?m0 ?m1 ?m2)) (Bin.addS ?s1)).eq (by rw [q34]; rfl)) (fun _ _ => rfl) (by decide) (fun _ => rfl) rfl hlen ?_
          case c0 => omega
          case c1 => omega
          case m0 => omega
          case m1 => omega
          case m2 => rw [q34]; decide
          case s1 => rw [q34, rep2_len]; simp only [List.length_cons, List.length_nil]; omega
          rw [hdue _ (by rw [dueN, if_neg (by simpa using h), if_neg h2])]
          refine Ex.nil ⟨fun _ h => h, st + 1, rfl, ?_⟩
          (repeat' first | exact sub_nil | exact rfl | refine sub_cons ?_ ?_ | ((refine (rfl : _ = some (MV.int _)).trans (congrArg (fun z => some (MV.int z)) ?_)); first | omega | (simp; omega)) | ((refine (rfl : _ = some (MV.str _)).trans (congrArg (fun z => some (MV.str z)) ?_)); first | assumption | (simp; done)))
    · rintro st rfl
      have hs := sum_le (dueL marks vs value) 41 (fun x hx => by
        obtain ⟨n, _, rfl⟩ := List.mem_map.mp hx
        exact dueN_len marks vs value n hl)
      have hdl : (dueL marks vs value).length = 20 := by simp [dueL]
      refine Ex.ret (Ev.meth1 Ev.str (Ev.name rfl (by decide)) (fun _ _ => rfl) (fun _ => rfl) rfl PySem.F.plainAttrs_str PySem.F.slot_str_join PySem.F.type_str_join (typeS _) (Bf.join (l := dueL marks vs value) (r := (dueL marks vs value).flatten) ?j1 ?j2 ?j3)) rfl
      case j1 => rw [qnil]; decide
      case j2 => omega
      case j3 => rw [qnil, join_eq, joinL_nil]

/-! ### pairs of heaps -/
def nearP (table : List (List Bool)) (line : List Bool) (marks : List Int) (i k : Int) : List Bool :=
  ((marks.filter fun m => decide (m ≤ i)).map fun m => (table.getD (i - m).toNat []).getD k.toNat false) ++ (marks.filter fun m => decide (m ≤ k)).map fun m => line.getD (k - m).toNat false
def cellP (table : List (List Bool)) (line : List Bool) (marks : List Int) (stuck : Bool) (i k : Int) : Bool := if nearP table line marks i k = [] then stuck else !(nearP table line marks i k).any (· == true)
def lineP (table : List (List Bool)) (marks : List Int) (stuck : Bool) (i : Int) : Nat → List Bool
  | 0 => []
  | k + 1 => lineP table marks stuck i k ++ [cellP table (lineP table marks stuck i k) marks stuck i k]
def tabP (marks : List Int) (stuck : Bool) : Nat → List (List Bool)
  | 0 => []
  | i + 1 => tabP marks stuck i ++ [lineP (tabP marks stuck i) marks stuck i 6]
theorem lineP_len (table : List (List Bool)) (marks : List Int) (stuck : Bool) (i : Int) : ∀ k, (lineP table marks stuck i k).length = k
  | 0 => rfl
  | k + 1 => by rw [lineP, List.length_append, lineP_len]; rfl
theorem tabP_len (marks : List Int) (stuck : Bool) : ∀ i, (tabP marks stuck i).length = i
  | 0 => rfl
  | i + 1 => by rw [tabP, List.length_append, tabP_len]; rfl
theorem tabP_row (marks : List Int) (stuck : Bool) : ∀ i, ∀ r ∈ tabP marks stuck i, r.length = 6
  | 0, r, h => by simp [tabP] at h
  | i + 1, r, h => by
    rw [tabP] at h
    rcases List.mem_append.mp h with h | h
    · exact tabP_row marks stuck i r h
    · rw [List.mem_singleton] at h; rw [h, lineP_len]
set_option maxHeartbeats 4000000 in
theorem pairs_fn (w : World) {k : Nat} (marks : List Int) (stuck : Bool) (hm : ∀ m ∈ marks, 1 ≤ m) (hl : marks.length ≤ 40) : Fn (C2 w) (k + 1) 92 [.il marks, .bool stuck] (.tb (tabP marks stuck 6)) := by
  refine Fn.of (names := [Str.ofString "marks", Str.ofString "stuck"]) ⟨⟨_, _, _, rfl⟩, rfl, rfl, rfl, rfl, rfl, rfl, rfl, ?_, ?_⟩ rfl (by decide) rfl ?_
  · exact bind2 fun v u => rfl
  · intro x hx
    simp only [List.mem_cons, List.not_mem_nil, or_false] at hx
    rcases hx with rfl | rfl <;> first | exact .inl rfl | exact .inr rfl
  · dsimp only [List.zip_cons_cons, List.zip_nil_right]
    refine Ex.setOwn (m := .tb []) (As.ev (fun A env s R W O S => wpAny_mono (Ev.disp lkI [] Evs.nil (by decide) A env s R W O S) (fun v s' ⟨h1, a, vs, n, h2, h3, h4, h5⟩ => ⟨h1, a, vs, n, h2, h3, h4, by cases h5; exact .nil⟩) fun _ _ x => x) (by first | exact .inl rfl | exact .inr rfl) (fun _ => rfl)) rfl (List.not_mem_nil) ?_
    refine Ex.for (σ := Nat) lkI (fun i => [(Str.ofString "table", .tb (tabP marks stuck i)), (Str.ofString "marks", .il marks), (Str.ofString "stuck", .bool stuck)]) (fun i st => st = i) (xs := upto 0 6) (SrcF.range1 (Gl.built rfl PyProof.Rows.Boot.«range» (by decide) rfl (by decide)) Ev.int (fun _ _ => rfl) (by decide) (by decide)) (by decide) (by first | exact .inl rfl | exact .inr rfl) (fun _ _ => rfl) 0 rfl ?_ ?_ ?_
    · (repeat' first | exact sub_nil | exact rfl | refine sub_cons ?_ ?_ | ((refine (rfl : _ = some (MV.int _)).trans (congrArg (fun z => some (MV.int z)) ?_)); first | omega | (simp; omega)) | ((refine (rfl : _ = some (MV.str _)).trans (congrArg (fun z => some (MV.str z)) ?_)); first | assumption | (simp; done)))
    · rintro ii n i hn rfl
      have hi : i < 6 := by have := (List.getElem?_eq_some_iff.mp hn).1; rw [upto_length] at this; omega
      have hne : n = (i : Int) := by
        have h1 : (upto 0 6)[i]? = some (0 + (i : Int)) := upto_get (by omega)
        rw [hn] at h1; cases h1; omega
      subst hne
      have htl := tabP_len marks stuck i
      have htr := tabP_row marks stuck i
      have htab : tabP marks stuck (i + 1) = tabP marks stuck i ++ [lineP (tabP marks stuck i) marks stuck i 6] := rfl
      generalize tabP marks stuck i = table at htl htr htab ⊢
      refine Ex.setOwn (As.ev (Ev.disp lkB [] Evs.nil (by decide)) (by first | exact .inl rfl | exact .inr rfl) (fun _ => rfl)) rfl (by decide) ?_
      refine Ex.for (σ := Nat) lkI (fun j => [(Str.ofString "line", .bl (lineP table marks stuck i j)), (Str.ofString "table", .tb table), (Str.ofString "marks", .il marks), (Str.ofString "stuck", .bool stuck), (Str.ofString "i", .int i)]) (fun j st => st = j) (xs := upto 0 6) (SrcF.range1 (Gl.built rfl PyProof.Rows.Boot.«range» (by decide) rfl (by decide)) Ev.int (fun _ _ => rfl) (by decide) (by decide)) (by decide) (by first | exact .inl rfl | exact .inr rfl) (fun _ _ => rfl) 0 rfl ?_ ?_ ?_
      · (repeat' first | exact sub_nil | exact rfl | refine sub_cons ?_ ?_ | ((refine (rfl : _ = some (MV.int _)).trans (congrArg (fun z => some (MV.int z)) ?_)); first | omega | (simp; omega)) | ((refine (rfl : _ = some (MV.str _)).trans (congrArg (fun z => some (MV.str z)) ?_)); first | assumption | (simp; done)))
      · rintro jj n j hn rfl
        have hj : j < 6 := by have := (List.getElem?_eq_some_iff.mp hn).1; rw [upto_length] at this; omega
        have hne : n = (j : Int) := by
          have h1 : (upto 0 6)[j]? = some (0 + (j : Int)) := upto_get (by omega)
          rw [hn] at h1; cases h1; omega
        subst hne
        have hll := lineP_len table marks stuck i j
        have hlin : lineP table marks stuck i (j + 1) = lineP table marks stuck i j ++ [cellP table (lineP table marks stuck i j) marks stuck i j] := rfl
        generalize lineP table marks stuck i j = line at hll hlin ⊢
        have hf1 := List.length_filter_le (fun m => decide (m ≤ (i : Int))) marks
        have hf2 := List.length_filter_le (fun m => decide (m ≤ (j : Int))) marks
        refine Ex.set ((As.ev (Ev.bin
          (Ev.comp lkI lkB (xs := marks) (p := fun m => decide (m ≤ (i : Int))) (f := fun m => (table.getD ((i : Int) - m).toNat []).getD j false) [(Str.ofString "i", .int i), (Str.ofString "k", .int j), (Str.ofString "table", .tb table)] (Src.list (Ev.name rfl (by decide))) ?sco ?cap (.inl rfl) ⟨?tests, ?elt⟩ ?hz (fun _ _ => rfl))
          (Ev.comp lkI lkB (xs := marks) (p := fun m => decide (m ≤ (j : Int))) (f := fun m => line.getD ((j : Int) - m).toNat false) [(Str.ofString "k", .int j), (Str.ofString "line", .bl line)] (Src.list (Ev.name rfl (by decide))) ?sco2 ?cap2 (.inl rfl) ⟨?tests2, ?elt2⟩ ?hz2 (fun _ _ => rfl)) (Bin.addL lkB ?zz)) (by first | exact .inl rfl | exact .inr rfl) (fun _ => rfl)).eq (m' := .bl (nearP table line marks i j)) rfl) (.inl rfl) (by decide) ?_
        case sco => exact CScope.of' rfl (by kernel_rfl)
        case sco2 => exact CScope.of' rfl (by kernel_rfl)
        case cap => (repeat' first | exact caps_nil | exact rfl | refine caps_cons ?_ ?_ ?_)
        case cap2 => (repeat' first | exact caps_nil | exact rfl | refine caps_cons ?_ ?_ ?_)
        case tests => exact .inr ⟨_, rfl, fun a ha => Ts.cmp (Ev.name rfl (by decide)) (Ev.name rfl (by decide)) Cm.leI rfl⟩
        case tests2 => exact .inr ⟨_, rfl, fun a ha => Ts.cmp (Ev.name rfl (by decide)) (Ev.name rfl (by decide)) Cm.leI rfl⟩
        case hz => omega
        case hz2 => omega
        case zz => rw [List.length_map, List.length_map]; omega
        case elt =>
          intro m hmm hp
          have h1 := hm m hmm
          have hp : m ≤ (i : Int) := by simpa using hp
          have hg1 : table[((i : Int) - m).toNat]? = some (table.getD ((i : Int) - m).toNat []) := by
            rw [List.getD_eq_getElem?_getD, List.getElem?_eq_getElem (show ((i : Int) - m).toNat < table.length by omega)]; rfl
          have hrl := htr _ (List.mem_of_getElem? hg1)
          refine Ev.item lkB (Ev.itemTB (Ev.name rfl (by decide)) (Ev.bin (Ev.name rfl (by decide)) (Ev.name rfl (by decide)) Bin.subI) (by omega) (by omega) hg1 fun _ _ => rfl) (Ev.name rfl (by decide)) (by omega) (by omega) ?_ fun _ _ => rfl
          exact getD_at _ false (by rw [hrl, Int.toNat_natCast]; exact hj)
        case elt2 =>
          intro m hmm hp
          have h1 := hm m hmm
          have hp : m ≤ (j : Int) := by simpa using hp
          refine Ev.item lkB (Ev.name rfl (by decide)) (Ev.bin (Ev.name rfl (by decide)) (Ev.name rfl (by decide)) Bin.subI) (by omega) (by omega) ?_ fun _ _ => rfl
          rw [List.getD_eq_getElem?_getD, List.getElem?_eq_getElem (show ((j : Int) - m).toNat < line.length by omega)]; rfl
        have hcell : cellP table line marks stuck i j = if nearP table line marks i j = [] then stuck else !(nearP table line marks i j).any (· == true) := rfl
        generalize nearP table line marks i j = near at hcell ⊢
        refine Ex.append lkB (a := cellP table line marks stuck i j) (by decide) rfl ((Ev.ite (b := decide (near = [])) (m := .bool (cellP table line marks stuck i j)) (fr := false) (Ts.cmp (Ev.name rfl (by decide)) (Ev.disp lkB [] Evs.nil (by decide)) Cm.eqBN rfl) (fun h => ?yes) (fun h => ?nay))) (fun _ _ => rfl) (by decide) (fun _ => rfl) rfl (by omega) ?_
        case yes =>
          have h : near = [] := by simpa using h
          rw [hcell, if_pos h]
          exact (Ev.name rfl (by decide))
        case nay =>
          have h : ¬ near = [] := by simpa using h
          rw [hcell, if_neg h]
          exact (Ev.cmp Ev.bool (Ev.name rfl (by decide)) Cm.ninB rfl).weak
        refine Ex.nil ⟨fun _ h => h, j + 1, rfl, ?_⟩
        rw [hlin]
        (repeat' first | exact sub_nil | exact rfl | refine sub_cons ?_ ?_ | ((refine (rfl : _ = some (MV.int _)).trans (congrArg (fun z => some (MV.int z)) ?_)); first | omega | (simp; omega)) | ((refine (rfl : _ = some (MV.str _)).trans (congrArg (fun z => some (MV.str z)) ?_)); first | assumption | (simp; done)))
      · rintro st rfl
        refine Ex.appendOwn (ρ' := [(Str.ofString "marks", .il marks), (Str.ofString "stuck", .bool stuck)]) (by decide) (by decide) (by decide) rfl rfl (fun z m hz => ?_) (by decide) (by decide) (fun _ => rfl) rfl (by omega) ?_
        · rw [List.lookup_cons] at hz
          split at hz
          · rename_i q; cases hz; rw [beq_iff_eq.mp q]; exact ⟨by decide, rfl⟩
          · rw [List.lookup_cons] at hz
            split at hz
            · rename_i q; cases hz; rw [beq_iff_eq.mp q]; exact ⟨by decide, rfl⟩
            · simp at hz
        · refine Ex.nil ⟨by decide, i + 1, rfl, ?_⟩
          rw [htab]
          (repeat' first | exact sub_nil | exact rfl | refine sub_cons ?_ ?_ | ((refine (rfl : _ = some (MV.int _)).trans (congrArg (fun z => some (MV.int z)) ?_)); first | omega | (simp; omega)) | ((refine (rfl : _ = some (MV.str _)).trans (congrArg (fun z => some (MV.str z)) ?_)); first | assumption | (simp; done)))
    · rintro st rfl
      refine Ex.retOwn (by decide) rfl (by decide) ?_
      rfl
end Mine

open PySem PySem.W PyProof.Rows
set_option Elab.async false
set_option maxRecDepth 100000
set_option autoImplicit false
set_option linter.unusedVariables false
set_option linter.unusedSimpArgs false
namespace Mine
def menu8 : List Int := [2, 1, 3, 0, 5, 127, 4, 7]
def row0 (ns : List Int) : List Int := (ns.take 8).map (fun x => menu8.getD (x % 8).toNat 0) ++ [2, 1, 4, 0]
def rowOf (ns : List Int) : List Int := if (row0 ns)[0]? = some 0 then [] else row0 ns
def leastOf (l : List Int) : Int := (l ++ [20]).headD 20
def won0 : List Int := List.replicate 21 0
def won1 (least : Int) : List Int := (upto 0 21).map fun n => if n < least then 1 else 0
def cellT (t : List (List Bool)) (i k : Int) : Bool := (t.getD i.toNat []).getD k.toNat false

/-- what the law asks, in plain words; E is what the generator tells -/
structure Asks2 (marks E : List Int) : Prop where
  m : laidL 0 E = marks
  front : ∀ t, joinL [124] (played E won0 [34]).1 ≠ 34 :: t
  gone : (played E (won1 (leastOf marks)) []).2 = ((played E won0 [34]).2.filter fun n => decide (n + leastOf marks < 20)).map fun n => n + leastOf marks
  small : ∀ i ∈ (played E won0 [34]).2 ++ (played E (won1 (leastOf marks)) []).2, 0 ≤ i
  pairs : ∀ i ∈ (played E won0 [34]).2 ++ (played E (won1 (leastOf marks)) []).2, i < 6 → ∀ k ∈ (played E won0 [34]).2 ++ (played E (won1 (leastOf marks)) []).2, k < 6 →
    cellT (tabP (marks.filter fun m => decide (m < 6)) true 6) i k = ((played E won0 [34]).2.any (· == i) == (played E won0 [34]).2.any (· == k)) ∧
    cellT (tabP (marks.filter fun m => decide (m < 6)) false 6) i k ≠ ((played E won0 [34]).2.any (· == i) == (played E won0 [34]).2.any (· == k))
  told : joinL [124] (played E won0 [34]).1 = (dueL marks (valsF marks 20) 0).flatten
  other : joinL [124] (played E (won1 (leastOf marks)) []).1 = (dueL marks (valsF marks 20) 1).flatten

theorem q257s : (Str.ofString "257 ").cps.toList = [50, 53, 55, 32] := by decide +kernel
theorem q257h : (Str.ofString "257-\"").cps.toList = [50, 53, 55, 45, 34] := by decide +kernel
theorem row0_len (ns : List Int) : (row0 ns).length ≤ 12 := by
  unfold row0
  have : (ns.take 8).length ≤ 8 := List.length_take_le _ _
  rw [List.length_append, List.length_map]; simp only [List.length_cons, List.length_nil]; omega
theorem row0_ne (ns : List Int) : ∃ c r, row0 ns = c :: r := by
  unfold row0
  cases (ns.take 8).map (fun x => menu8.getD (x % 8).toNat 0) with
  | nil => exact ⟨_, _, rfl⟩
  | cons c r => exact ⟨_, _, rfl⟩
theorem playF_len (E : List Int) (close : List Nat) : ∀ (f : Nat) (a : Int) (ways : List Int), (playF E close f a ways).2.length ≤ f
  | 0, _, _ => by simp [playF]
  | f + 1, a, ways => by
    unfold playF
    split
    · have := playF_len E close f (nxA ways a close + 1) (nxW E ways a close)
      rw [List.length_append]
      split <;> simp only [List.length_cons, List.length_nil] <;> omega
    · simp
theorem marksOf_len (row : List Int) : (marksOf row).length ≤ 20 := by
  unfold marksOf
  rw [List.length_append]
  have h1 := List.length_filter_le (fun x => (sumsOf (headOf row)).any (· == x) || (decide ((headOf row).sum < x) && decide ((x - (headOf row).sum) % stepOf row = 0))) (upto 1 20)
  have h2 : (upto 1 20).length = 19 := by decide
  split <;> simp only [List.length_cons, List.length_nil] <;> omega
theorem marksOf_in (row : List Int) : ∀ m ∈ marksOf row, 1 ≤ m ∧ m ≤ 20 := fun m hm => by
  unfold marksOf at hm
  rcases List.mem_append.mp hm with h | h
  · have := mem_upto.mp (List.mem_filter.mp h).1; omega
  · split at h
    · simp only [List.mem_cons, List.not_mem_nil, or_false] at h; omega
    · simp at h
theorem refused_Yes (w : World) {k : Nat} (row : List Int) : Yes (C2 w) (k + 30) 60 (0 :: row) := fun A s ra vs nn envL R h1 h2 h3 h4 h5 h6 h7 => refused_yes w row A s ra vs nn envL R h1 h2 h3 h4 h5 h6 h7
theorem row_ok (ns : List Int) : (rowOf ns).head? ≠ some 0 ∧ (∀ x ∈ rowOf ns, 0 ≤ x ∧ (x ≤ 19 ∨ x = 127)) ∧ (rowOf ns).length ≤ 12 := by
  have h0 : ∀ x ∈ row0 ns, 0 ≤ x ∧ (x ≤ 19 ∨ x = 127) := fun x hx => by
    unfold row0 at hx
    simp only [List.mem_append, List.mem_cons, List.not_mem_nil, or_false] at hx
    rcases hx with hx | rfl | rfl | rfl | rfl
    · obtain ⟨y, _, rfl⟩ := List.mem_map.mp hx
      have h8 : (y % 8).toNat < 8 := by omega
      generalize (y % 8).toNat = i at h8
      have : ∀ i, i < 8 → 0 ≤ menu8.getD i 0 ∧ (menu8.getD i 0 ≤ 19 ∨ menu8.getD i 0 = 127) := by decide
      exact this i h8
    · omega
    · omega
    · omega
    · omega
  unfold rowOf
  split
  · exact ⟨by simp, by simp, by simp⟩
  · rename_i h
    refine ⟨fun e => h ?_, h0, row0_len ns⟩
    rw [← e]
    cases row0 ns <;> rfl
end Mine

open PySem PySem.W PyProof.Rows
set_option Elab.async false
set_option maxRecDepth 100000
set_option autoImplicit false
set_option linter.unusedVariables false
set_option linter.unusedSimpArgs false
namespace Mine

/-- sums from a place -/
def ps : Int → List Int → List Int
  | _, [] => []
  | a, x :: r => (a + x) :: ps (a + x) r

theorem ps_append : ∀ (a : Int) (l m : List Int), ps a (l ++ m) = ps a l ++ ps (a + l.sum) m
  | a, [], m => by simp [ps]
  | a, x :: r, m => by
    simp only [List.cons_append, ps, List.sum_cons]
    rw [ps_append (a + x) r m, Int.add_assoc]
theorem ps_gt : ∀ (a : Int) (E : List Int), (∀ x ∈ E, 1 ≤ x) → ∀ y ∈ ps a E, a < y
  | _, [], _, y, h => by simp [ps] at h
  | a, x :: r, hE, y, h => by
    have hx := hE x (.head _)
    rcases List.mem_cons.mp h with rfl | h
    · omega
    · have := ps_gt (a + x) r (fun z hz => hE z (.tail _ hz)) y h
      omega
theorem laid_mem : ∀ (a : Int) (E : List Int), (∀ x ∈ E, 1 ≤ x) → ∀ y, y ∈ laidL a E ↔ (y ∈ ps a E ∧ y ≤ 19) ∨ (y = 20 ∧ ∃ p ∈ ps a E, 20 ≤ p)
  | _, [], _, y => by simp [laidL, ps]
  | a, x :: r, hE, y => by
    have hx := hE x (.head _)
    have hr := fun z hz => hE z (List.mem_cons_of_mem x hz)
    have ih := laid_mem (a + x) r hr y
    have hg := ps_gt (a + x) r hr
    unfold laidL
    by_cases h : a + x > 19
    · rw [if_pos h]
      simp only [List.mem_cons, List.not_mem_nil, or_false, ps]
      constructor
      · intro e
        exact .inr ⟨by omega, a + x, .inl rfl, by omega⟩
      · rintro (⟨e | e, h19⟩ | ⟨e, _⟩)
        · omega
        · have := hg y e; omega
        · omega
    · rw [if_neg h]
      simp only [List.mem_cons, ps]
      rw [ih]
      constructor
      · rintro (e | ⟨e, h19⟩ | ⟨e, p, hp, h20⟩)
        · exact .inl ⟨.inl (by omega), by omega⟩
        · exact .inl ⟨.inr e, h19⟩
        · exact .inr ⟨e, p, .inr hp, h20⟩
      · rintro (⟨e | e, h19⟩ | ⟨e, p, hp | hp, h20⟩)
        · exact .inl (by omega)
        · exact .inr (.inl ⟨e, h19⟩)
        · omega
        · exact .inr (.inr ⟨e, p, hp, h20⟩)
theorem laid_sorted : ∀ (a : Int) (E : List Int), (∀ x ∈ E, 1 ≤ x) → a ≤ 19 → (laidL a E).Pairwise (· < ·) ∧ ∀ y ∈ laidL a E, a < y
  | _, [], _, _ => by simp [laidL]
  | a, x :: r, hE, ha => by
    have hx := hE x (.head _)
    unfold laidL
    by_cases h : a + x > 19
    · rw [if_pos h]
      refine ⟨List.pairwise_singleton _ _, fun y hy => ?_⟩
      simp only [List.mem_cons, List.not_mem_nil, or_false] at hy
      omega
    · rw [if_neg h]
      obtain ⟨h1, h2⟩ := laid_sorted (a + x) r (fun z hz => hE z (.tail _ hz)) (by omega)
      refine ⟨List.pairwise_cons.mpr ⟨fun y hy => ?_, h1⟩, fun y hy => ?_⟩
      · have := h2 y hy; omega
      · rcases List.mem_cons.mp hy with e | hy
        · omega
        · have := h2 y hy; omega

theorem sorted_ext : ∀ {l m : List Int}, l.Pairwise (· < ·) → m.Pairwise (· < ·) → (∀ x, x ∈ l ↔ x ∈ m) → l = m
  | [], [], _, _, _ => rfl
  | [], y :: m, _, _, h => absurd ((h y).mpr (.head _)) (by simp)
  | x :: l, [], _, _, h => absurd ((h x).mp (.head _)) (by simp)
  | x :: l, y :: m, h1, h2, h => by
    obtain ⟨a1, a2⟩ := List.pairwise_cons.mp h1
    obtain ⟨b1, b2⟩ := List.pairwise_cons.mp h2
    have hxy : x = y := by
      have q1 := (h x).mp (.head _)
      have q2 := (h y).mpr (.head _)
      rcases List.mem_cons.mp q1 with e | q1
      · exact e
      · rcases List.mem_cons.mp q2 with e | q2
        · exact e.symm
        · have := b1 x q1; have := a1 y q2; omega
    subst hxy
    congr 1
    refine sorted_ext a2 b2 fun z => ⟨fun hz => ?_, fun hz => ?_⟩
    · rcases List.mem_cons.mp ((h z).mp (.tail _ hz)) with e | q
      · have := a1 z hz; omega
      · exact q
    · rcases List.mem_cons.mp ((h z).mpr (.tail _ hz)) with e | q
      · have := b1 z hz; omega
      · exact q

theorem gi_eq : ∀ (N : Nat) (last : Option Int) (row : List Int), (headOf row).length ≤ N →
    gi N last row = headOf row ++ if row[(headOf row).length]? = some 0 then List.replicate (N - (headOf row).length) ((headOf row).getLastD (last.getD 0)) else []
  | 0, last, [], _ => by simp [gi, headOf]
  | N + 1, last, [], _ => by simp [gi, headOf]
  | 0, last, x :: r, h => by
    have e : headOf (x :: r) = [] := List.length_eq_zero_iff.mp (by omega)
    rw [e]; simp [gi]
  | n + 1, last, x :: r, h => by
    unfold gi
    by_cases h1 : x = 127
    · have e : headOf (x :: r) = [] := by subst h1; simp [headOf, goesOn]
      rw [if_pos h1, e]; simp [h1]
    · rw [if_neg h1]
      by_cases h0 : x = 0
      · have e : headOf (x :: r) = [] := by subst h0; simp [headOf, goesOn]
        rw [if_pos h0, e]; simp [h0]
      · have e : headOf (x :: r) = x :: headOf r := by simp [headOf, goesOn, h0, h1]
        rw [if_neg h0, e]
        rw [e] at h
        simp only [List.length_cons] at h
        rw [gi_eq n (some x) r (by omega)]
        simp only [List.cons_append, List.length_cons, List.getElem?_cons_succ, Nat.add_sub_add_right]
        congr 1
        congr 1
        split
        · congr 1
          cases hq : headOf r with
          | nil => simp
          | cons a l => simp [List.getLastD]
        · rfl

theorem sum_ge_len : ∀ (h : List Int), (∀ x ∈ h, 1 ≤ x) → (h.length : Int) ≤ h.sum
  | [], _ => by simp
  | x :: r, hE => by
    have hx := hE x (.head _)
    have := sum_ge_len r fun z hz => hE z (.tail _ hz)
    simp only [List.length_cons, List.sum_cons]; omega
theorem mem_sums : ∀ (a : Int) (h : List Int) (y : Int), (∃ k : Nat, k ≤ h.length ∧ y = a + (h.take k).sum) ↔ y = a ∨ y ∈ ps a h
  | a, [], y => by
    simp only [List.length_nil, ps, List.not_mem_nil, or_false]
    exact ⟨fun ⟨k, hk, e⟩ => by simpa using e, fun e => ⟨0, by omega, by simpa using e⟩⟩
  | a, x :: r, y => by
    simp only [ps, List.mem_cons]
    rw [← mem_sums (a + x) r y]
    constructor
    · rintro ⟨k, hk, e⟩
      cases k with
      | zero => exact .inl (by simpa using e)
      | succ k => exact .inr ⟨k, by simpa using hk, by simp only [List.take_succ_cons, List.sum_cons] at e; omega⟩
    · rintro (e | ⟨k, hk, e⟩)
      · exact ⟨0, by omega, by simpa using e⟩
      · exact ⟨k + 1, by simpa using hk, by simp only [List.take_succ_cons, List.sum_cons]; omega⟩
theorem mem_sumsOf (h : List Int) (y : Int) (hh : ∀ x ∈ h, 1 ≤ x) : y ∈ sumsOf h ↔ y ∈ ps 0 h := by
  have h1 := mem_sums 0 h y
  have hg := ps_gt 0 h hh
  unfold sumsOf
  rw [List.mem_map]
  constructor
  · rintro ⟨k, hk, e⟩
    rw [mem_upto] at hk
    rcases h1.mp ⟨(k + 1).toNat, by omega, by omega⟩ with q | q
    · exfalso
      have hne : h.take (k + 1).toNat ≠ [] := by
        intro e
        have := congrArg List.length e
        rw [List.length_take, List.length_nil] at this; omega
      have := sum_ge_len (h.take (k + 1).toNat) fun x hx => hh x (List.mem_of_mem_take hx)
      have : 0 < (h.take (k + 1).toNat).length := List.length_pos_iff.mpr hne
      omega
    · exact q
  · intro q
    have := hg y q
    obtain ⟨k, hk, e⟩ := h1.mpr (.inr q)
    have hk0 : k ≠ 0 := fun e0 => by subst e0; simp at e; omega
    exact ⟨(k : Int) - 1, by rw [mem_upto]; omega, by rw [show ((k : Int) - 1 + 1).toNat = k by omega]; omega⟩
theorem mem_ps_rep : ∀ (a l : Int) (m : Nat) (y : Int), y ∈ ps a (List.replicate m l) ↔ ∃ j : Nat, 1 ≤ j ∧ j ≤ m ∧ y = a + j * l
  | a, l, 0, y => by simp [ps]; omega
  | a, l, m + 1, y => by
    rw [List.replicate_succ, ps, List.mem_cons, mem_ps_rep (a + l) l m y]
    constructor
    · rintro (e | ⟨j, h1, h2, e⟩)
      · exact ⟨1, by omega, by omega, by simpa using e⟩
      · refine ⟨j + 1, by omega, by omega, ?_⟩
        rw [e, Int.natCast_add, Int.add_mul]; simp; omega
    · rintro ⟨j, h1, h2, e⟩
      by_cases hj : j = 1
      · exact .inl (by rw [e, hj]; simp)
      · refine .inr ⟨j - 1, by omega, by omega, ?_⟩
        have : (j : Int) = ((j - 1 : Nat) : Int) + 1 := by omega
        rw [e, this, Int.add_mul]; simp; omega
theorem ps_sum_le : ∀ (a : Int) (h : List Int), (∀ x ∈ h, 1 ≤ x) → ∀ y ∈ ps a h, y ≤ a + h.sum
  | _, [], _, y, hy => by simp [ps] at hy
  | a, x :: r, hE, y, hy => by
    have hx := hE x (.head _)
    have hr := fun z hz => hE z (List.mem_cons_of_mem x hz)
    rw [List.sum_cons]
    rcases List.mem_cons.mp hy with rfl | hy
    · have : 0 ≤ r.sum := by
        clear hy
        induction r with
        | nil => simp
        | cons z r ih =>
          have := hr z (.head _)
          have := ih (fun w hw => hE w (by rcases List.mem_cons.mp hw with e | hw; exact e ▸ .head _; exact .tail _ (.tail _ hw))) (fun w hw => hr w (.tail _ hw))
          rw [List.sum_cons]; omega
      omega
    · have := ps_sum_le (a + x) r hr y hy
      omega
theorem sum_mem_ps : ∀ (a : Int) (h : List Int), h ≠ [] → a + h.sum ∈ ps a h
  | _, [], q => absurd rfl q
  | a, [x], _ => by simp [ps]
  | a, x :: y :: r, _ => by
    rw [List.sum_cons, ← Int.add_assoc]
    exact .tail _ (sum_mem_ps (a + x) (y :: r) (by simp))

theorem head_pos (row : List Int) (hpos : ∀ x ∈ row, 0 ≤ x) : ∀ x ∈ headOf row, 1 ≤ x := fun x hx => by
  have h1 := List.all_eq_true.mp (List.all_takeWhile (p := goesOn) (l := row)) _ hx
  have h2 := hpos x ((List.takeWhile_sublist _).subset hx)
  simp only [goesOn, Bool.and_eq_true, decide_eq_true_eq] at h1
  omega

/-- a ruler's marks, told and reckoned -/
theorem marks_eq (row : List Int) (hok : row.head? ≠ some 0) (hpos : ∀ x ∈ row, 0 ≤ x) (hsm : ∀ x ∈ headOf row, x ≤ 19) (hlen : row.length ≤ 20) : laidL 0 (gi 21 none row) = marksOf row := by
  have hle := takeWhile_le row
  have hhp := head_pos row hpos
  have hge := sum_ge_len _ hhp
  have hE := gi_eq 21 none row (by omega)
  have hEp := gi_pos 21 none row (fun l e => by cases e) (fun _ => hok) hpos
  have hst : (row[(headOf row).length]? = some 0 ∧ stepOf row = (headOf row).getLastD 0 ∧ 1 ≤ stepOf row ∧ stepOf row ≤ 19 ∧ gi 21 none row = headOf row ++ List.replicate (21 - (headOf row).length) (stepOf row)) ∨ (stepOf row = 20 ∧ gi 21 none row = headOf row) := by
    by_cases h : row[(headOf row).length]? = some 0
    · left
      rw [if_pos h] at hE
      have hne : headOf row ≠ [] := fun e => by
        rw [e] at h
        exact hok (by rw [← h]; cases row <;> rfl)
      have hs : stepOf row = (headOf row).getLastD 0 := by
        rw [stepOf, if_pos h]
        cases hq : headOf row with
        | nil => exact absurd hq hne
        | cons a l => simp [List.getLastD]
      have hm : stepOf row ∈ headOf row := by
        rw [hs]
        cases hq : headOf row with
        | nil => exact absurd hq hne
        | cons a l => rw [List.getLastD_eq_getLast?, List.getLast?_eq_some_getLast (by simp)]; exact List.getLast_mem _
      exact ⟨h, hs, hhp _ hm, hsm _ hm, by rw [hE, hs]; rfl⟩
    · right
      rw [if_neg h, List.append_nil] at hE
      exact ⟨by rw [stepOf, if_neg h], hE⟩
  refine sorted_ext ?_ ?_ fun y => ?_
  · exact (laid_sorted 0 _ hEp (by decide)).1
  · unfold marksOf
    refine List.pairwise_append.mpr ⟨?_, ?_, ?_⟩
    · refine List.Pairwise.filter _ ?_
      unfold upto
      rw [List.pairwise_map]
      exact List.Pairwise.imp (fun h => by omega) (List.pairwise_lt_range)
    · split
      · exact List.pairwise_singleton _ _
      · exact List.Pairwise.nil
    · intro a ha b hb
      have h1 := (mem_upto.mp (List.mem_filter.mp ha).1).2
      split at hb
      · simp only [List.mem_cons, List.not_mem_nil, or_false] at hb; omega
      · simp at hb
  · rw [laid_mem 0 _ hEp]
    unfold marksOf
    rw [List.mem_append, List.mem_filter, mem_upto]
    have h20 : y ∈ (if (decide (stepOf row < 20) || decide (19 < (headOf row).sum)) = true then [(20 : Int)] else []) ↔ y = 20 ∧ (stepOf row < 20 ∨ 19 < (headOf row).sum) := by
      split
      · rename_i h; simp at h; simp [h]
      · rename_i h; simp at h; simp; omega
    rw [h20]
    have hany : ((sumsOf (headOf row)).any fun x => x == y) = true ↔ y ∈ sumsOf (headOf row) := by
      rw [List.any_eq_true]
      exact ⟨fun ⟨x, hx, e⟩ => beq_iff_eq.mp e ▸ hx, fun h => ⟨y, h, by simp⟩⟩
    simp only [Bool.or_eq_true, Bool.and_eq_true, decide_eq_true_eq]
    rw [hany, mem_sumsOf _ _ hhp]
    generalize headOf row = h at *
    generalize stepOf row = st at *
    have hps0 := ps_gt 0 h hhp
    rcases hst with ⟨_, _, h1, h19, e⟩ | ⟨h20', e⟩
    · rw [e, ps_append]
      simp only [List.mem_append, Int.zero_add]
      have hrep : ∀ z, z ∈ ps h.sum (List.replicate (21 - h.length) st) ↔ ∃ j : Nat, 1 ≤ j ∧ j ≤ 21 - h.length ∧ z = h.sum + j * st := mem_ps_rep _ _ _
      have hj : ∀ z : Int, 0 ≤ z → z ≤ 19 → (z ∈ ps h.sum (List.replicate (21 - h.length) st) ↔ h.sum < z ∧ (z - h.sum) % st = 0) := by
        intro z h0 hz
        rw [hrep]
        constructor
        · rintro ⟨j, j1, j2, rfl⟩
          have : (1 : Int) * 1 ≤ j * st := Int.mul_le_mul (by omega) h1 (by decide) (by omega)
          refine ⟨by omega, ?_⟩
          rw [show h.sum + (j : Int) * st - h.sum = j * st by omega]
          exact Int.mul_emod_left _ _
        · rintro ⟨h2, h3⟩
          obtain ⟨j, hj⟩ := Int.dvd_of_emod_eq_zero h3
          have hj1 : 1 ≤ j := by
            rcases Int.lt_or_le 0 j with q | q
            · omega
            · have := Int.mul_le_mul_of_nonneg_left q (show (0 : Int) ≤ st by omega)
              rw [Int.mul_zero] at this; omega
          have hj2 : j ≤ st * j := by
            have := Int.mul_le_mul_of_nonneg_right h1 (show 0 ≤ j by omega)
            rw [Int.one_mul] at this; exact this
          refine ⟨j.toNat, by omega, by omega, ?_⟩
          rw [Int.toNat_of_nonneg (by omega), Int.mul_comm]; omega
      have hbig : ∃ p, (p ∈ ps 0 h ∨ p ∈ ps h.sum (List.replicate (21 - h.length) st)) ∧ 20 ≤ p := by
        refine ⟨h.sum + ((21 - h.length : Nat) : Int) * st, .inr ((hrep _).mpr ⟨21 - h.length, by omega, by omega, rfl⟩), ?_⟩
        have : ((21 - h.length : Nat) : Int) * 1 ≤ ((21 - h.length : Nat) : Int) * st := Int.mul_le_mul_of_nonneg_left h1 (by omega)
        omega
      constructor
      · rintro (⟨q | q, hy⟩ | ⟨rfl, _⟩)
        · have := hps0 y q
          exact .inl ⟨by omega, .inl q⟩
        · have h0 := ps_gt _ _ (fun x hx => by rw [(List.mem_replicate.mp hx).2]; exact h1) y q
          exact .inl ⟨by omega, .inr ((hj y (by omega) hy).mp q)⟩
        · exact .inr ⟨rfl, .inl (by omega)⟩
      · rintro (⟨⟨h0, hy⟩, q | q⟩ | ⟨rfl, _⟩)
        · exact .inl ⟨.inl q, by omega⟩
        · exact .inl ⟨.inr ((hj y (by omega) (by omega)).mpr q), by omega⟩
        · exact .inr ⟨rfl, hbig⟩
    · rw [e]
      have hle' := ps_sum_le 0 h hhp
      constructor
      · rintro (⟨q, hy⟩ | ⟨rfl, p, hp, h17⟩)
        · have := hps0 y q
          exact .inl ⟨by omega, .inl q⟩
        · have := hle' p hp
          exact .inr ⟨rfl, .inr (by omega)⟩
      · rintro (⟨⟨h0, hy⟩, q | ⟨q1, q2⟩⟩ | ⟨rfl, q⟩)
        · exact .inl ⟨q, by omega⟩
        · rw [h20'] at q2; omega
        · have hne : h ≠ [] := fun e => by subst e; simp at q; omega
          exact .inr ⟨rfl, _, sum_mem_ps 0 h hne, by omega⟩
end Mine

open PySem PySem.W PyProof.Rows
set_option Elab.async false
set_option maxRecDepth 100000
set_option autoImplicit false
set_option linter.unusedVariables false
set_option linter.unusedSimpArgs false
namespace Mine

/-! ### reading a play -/
def consH (p : List Nat) : List (List Nat) → List (List Nat)
  | [] => [p]
  | n :: ns => (p ++ n) :: ns
theorem join_consH (sep p : List Nat) {l : List (List Nat)} (h : l ≠ []) : joinL sep (consH p l) = p ++ joinL sep l := by
  match l, h with
  | [x], _ => simp [consH, joinL]
  | x :: y :: r, _ => simp [consH, joinL]
theorem join_nilc (sep : List Nat) {l : List (List Nat)} (h : l ≠ []) : joinL sep ([] :: l) = sep ++ joinL sep l := by
  match l, h with
  | x :: r, _ => simp [joinL]
theorem prs_letter {c : Nat} (hc : c ≠ 34) (t : List Nat) : prs (c :: t) = c :: prs t := by
  cases t with
  | nil => simp [prs, hc]
  | cons d r => simp [prs, hc]
theorem prs_pairs (n : Nat) (t : List Nat) : prs ((List.replicate n [34, 34]).flatten ++ t) = List.replicate n 34 ++ prs t := by
  induction n with
  | zero => simp
  | succ n ih =>
    rw [List.replicate_succ, List.flatten_cons, List.append_assoc]
    show prs (34 :: 34 :: ((List.replicate n [34, 34]).flatten ++ t)) = _
    rw [show prs (34 :: 34 :: ((List.replicate n [34, 34]).flatten ++ t)) = 34 :: prs ((List.replicate n [34, 34]).flatten ++ t) by simp [prs], ih, List.replicate_succ]
    rfl
theorem upto_cons {a b : Int} (h : a < b) : upto a b = a :: upto (a + 1) b := by
  unfold upto
  obtain ⟨n, hn⟩ : ∃ n : Nat, (b - a).toNat = n + 1 := ⟨(b - a).toNat - 1, by omega⟩
  rw [hn, show (b - (a + 1)).toNat = n by omega, List.range_succ_eq_map, List.map_cons, List.map_map]
  congr 1
  · simp
  · refine List.map_congr_left fun i _ => ?_
    simp only [Function.comp]; omega
theorem upto_nil {a b : Int} (h : b ≤ a) : upto a b = [] := by
  unfold upto
  rw [show (b - a).toNat = 0 by omega]; rfl
theorem textW_cons (ways : List Int) (a : Int) (close : List Nat) (h : a < 20) : textW ways a close = pieceW a (ways.getD a.toNat 0) ++ textW ways (a + 1) close := by
  unfold textW
  rw [upto_cons h, List.map_cons, List.flatten_cons, List.append_assoc]
def Close (close : List Nat) : Prop := close = [] ∨ close = [34]
theorem nm_end (ways : List Int) (close : List Nat) (hc : Close close) : nmW ways 20 close = [] := by
  unfold nmW textW
  rw [upto_nil (by decide)]
  rcases hc with rfl | rfl <;> rfl
theorem nm_stop (ways : List Int) (a : Int) (close : List Nat) (h0 : 0 ≤ a) (h : a < 20) (hw : ¬ 0 < ways.getD a.toNat 0) : nmW ways a close = [] := by
  unfold nmW
  rw [textW_cons _ _ _ h, pieceW, if_neg hw]
  show prs (34 :: (97 + a).toNat :: textW ways (a + 1) close) = []
  have : (97 + a).toNat ≠ 34 := by omega
  simp [prs, this]
theorem nm_go (ways : List Int) (a : Int) (close : List Nat) (h0 : 0 ≤ a) (h : a < 20) (hw : 0 < ways.getD a.toNat 0) : nmW ways a close = ([(97 + a).toNat] ++ List.replicate (ways.getD a.toNat 0).toNat 34) ++ nmW ways (a + 1) close := by
  unfold nmW
  rw [textW_cons _ _ _ h, pieceW, if_pos hw]
  show prs ((97 + a).toNat :: ((List.replicate (ways.getD a.toNat 0).toNat [34, 34]).flatten ++ textW ways (a + 1) close)) = _
  rw [prs_letter (by omega), prs_pairs]; simp
theorem letters_go (c n : Nat) (t : List Nat) (hc : c ≠ 34) : letters (([c] ++ List.replicate n 34) ++ t) = 1 + letters t := by
  unfold letters
  simp only [List.length_append, List.count_append, List.length_replicate, List.count_replicate, List.length_cons, List.length_nil]
  have : List.count 34 [c] = 0 := by rw [List.count_eq_zero]; simpa using Ne.symm hc
  rw [this]
  simp; omega

theorem playF_succ (E ways : List Int) (close : List Nat) (f : Nat) (a : Int) (h : a ≤ 20) : playF E close (f + 1) a ways = (nmW ways a close :: (playF E close f (nxA ways a close + 1) (nxW E ways a close)).1,
    (if nxA ways a close < 20 then [nxA ways a close] else []) ++ (playF E close f (nxA ways a close + 1) (nxW E ways a close)).2) := by
  rw [playF, if_pos h]
theorem play_go (E ways : List Int) (close : List Nat) (f : Nat) (a : Int) (h0 : 0 ≤ a) (h : a < 20) (hw : 0 < ways.getD a.toNat 0) :
    (playF E close (f + 1) a ways).1 = consH ([(97 + a).toNat] ++ List.replicate (ways.getD a.toNat 0).toNat 34) (playF E close (f + 1) (a + 1) ways).1 ∧ (playF E close (f + 1) a ways).2 = (playF E close (f + 1) (a + 1) ways).2 := by
  have hA : nxA ways a close = nxA ways (a + 1) close := by
    unfold nxA
    rw [nm_go ways a close h0 h hw, letters_go _ _ _ (by omega)]; omega
  have hW : nxW E ways a close = nxW E ways (a + 1) close := by unfold nxW; rw [hA]
  rw [playF_succ E ways close f a (by omega), playF_succ E ways close f (a + 1) (by omega), hA, hW, nm_go ways a close h0 h hw]
  exact ⟨rfl, rfl⟩
theorem play_stop (E ways : List Int) (close : List Nat) (f : Nat) (a : Int) (h0 : 0 ≤ a) (h : a < 20) (hw : ¬ 0 < ways.getD a.toNat 0) :
    (playF E close (f + 1) a ways).1 = [] :: (playF E close f (a + 1) (bump ways (laidL a E))).1 ∧ (playF E close (f + 1) a ways).2 = a :: (playF E close f (a + 1) (bump ways (laidL a E))).2 := by
  have hN := nm_stop ways a close h0 h hw
  have hA : nxA ways a close = a := by
    unfold nxA
    rw [hN]; simp [letters]
  have hW : nxW E ways a close = bump ways (laidL a E) := by unfold nxW; rw [hA, if_pos h]
  rw [playF, if_pos (by omega), hA, hW, hN, if_pos h]
  exact ⟨rfl, rfl⟩
theorem play_end (E ways : List Int) (close : List Nat) (f : Nat) (hc : Close close) : playF E close (f + 1) 20 ways = ([[]], []) := by
  have hN := nm_end ways close hc
  have hA : nxA ways 20 close = 20 := by
    unfold nxA
    rw [hN]; simp [letters]
  rw [playF, if_pos (by decide), hA, hN, playF_end _ _ _ _ _ (by decide), if_neg (by decide)]
  rfl
theorem play_ne (E ways : List Int) (close : List Nat) (f : Nat) (a : Int) (h : a ≤ 20) : (playF E close (f + 1) a ways).1 ≠ [] := by
  rw [playF, if_pos h]; simp

/-! ### what stands in the rows -/
theorem bump_get : ∀ (l ways : List Int) (n : Nat), (∀ m ∈ l, 0 ≤ m ∧ m < ways.length) → (bump ways l).getD n 0 = ways.getD n 0 + (l.count (n : Int) : Nat)
  | [], ways, n, _ => by simp [bump]
  | m :: r, ways, n, h => by
    have hm := h m (.head _)
    have ih := bump_get r (ways.set m.toNat (ways.getD m.toNat 0 + 1)) n fun x hx => by rw [List.length_set]; exact h x (.tail _ hx)
    rw [bump, ih, List.count_cons]
    by_cases hmn : m = (n : Int)
    · have hn : m.toNat = n := by omega
      rw [hn]
      have hlt : n < ways.length := by omega
      rw [List.getD_eq_getElem?_getD (l := ways.set n _), List.getElem?_set_self hlt]
      simp [hmn]; omega
    · have hn : m.toNat ≠ n := by omega
      rw [List.getD_eq_getElem?_getD (l := ways.set m.toNat _), List.getElem?_set_ne hn, ← List.getD_eq_getElem?_getD]
      have : (m == (n : Int)) = false := by simpa using hmn
      rw [this]; simp
theorem ps_shift : ∀ (a b : Int) (E : List Int), ps (a + b) E = (ps b E).map (a + ·)
  | _, _, [] => rfl
  | a, b, x :: r => by
    rw [ps, ps, List.map_cons, Int.add_assoc, ps_shift a (b + x) r]
theorem laid_count (E : List Int) (hE : ∀ x ∈ E, 1 ≤ x) (a n : Int) (h0 : 0 ≤ a) (h19 : a ≤ 19) (hn : n ≤ 19) : (laidL a E).count n = if n - a ∈ laidL 0 E then 1 else 0 := by
  have hmem : n ∈ laidL a E ↔ n - a ∈ laidL 0 E := by
    rw [laid_mem a E hE, laid_mem 0 E hE, show ps a E = ps (a + 0) E by simp, ps_shift]
    constructor
    · rintro (⟨q, _⟩ | ⟨q, _⟩)
      · obtain ⟨y, hy, e⟩ := List.mem_map.mp q
        exact .inl ⟨by rw [← e, show a + y - a = y by omega]; exact hy, by omega⟩
      · omega
    · rintro (⟨q, _⟩ | ⟨q, _⟩)
      · exact .inl ⟨List.mem_map.mpr ⟨n - a, q, by omega⟩, hn⟩
      · omega
  have hnd : (laidL a E).Nodup := (laid_sorted a E hE h19).1.imp fun h e => by omega
  split
  · rename_i h
    have h1 := List.nodup_iff_count.mp hnd n
    have h2 := List.count_pos_iff.mpr (hmem.mpr h)
    omega
  · rename_i h
    exact List.count_eq_zero.mpr fun q => h (hmem.mp q)
theorem filter_one {α : Type} [DecidableEq α] (p : α → Bool) (x : α) (hp : p x = false) : ∀ l : List α, l.Nodup → (l.filter fun y => p y || decide (y = x)).length = (l.filter p).length + if x ∈ l then 1 else 0
  | [], _ => by simp
  | y :: l, h => by
    obtain ⟨h1, h2⟩ := List.nodup_cons.mp h
    have ih := filter_one p x hp l h2
    by_cases hyx : y = x
    · subst hyx
      rw [List.filter_cons_of_pos (by simp), List.filter_cons_of_neg (by simp [hp]), List.length_cons, ih]
      simp [h1]
    · have hxl : (x ∈ y :: l) ↔ x ∈ l := by simp [Ne.symm hyx]
      cases hq : p y with
      | true =>
        rw [List.filter_cons_of_pos (by simp [hq]), List.filter_cons_of_pos hq, List.length_cons, List.length_cons, ih]
        simp only [hxl]; omega
      | false =>
        rw [List.filter_cons_of_neg (by simp [hq, hyx]), List.filter_cons_of_neg (by simp [hq]), ih]
        simp only [hxl]

/-- how many moves lead from n to a lost heap ahead of a -/
def cntA (marks : List Int) (ℓ : Int → Bool) (a n : Int) : Nat := (marks.filter fun m => decide (m ≤ n) && (decide (n - m < a) && ℓ (n - m))).length
theorem cntA_step (marks : List Int) (hnd : marks.Nodup) (ℓ : Int → Bool) (a n : Int) (h0 : 0 ≤ a) (h : a < n) : cntA marks ℓ (a + 1) n = cntA marks ℓ a n + if ℓ a = true ∧ n - a ∈ marks then 1 else 0 := by
  unfold cntA
  by_cases hl : ℓ a = true
  · have := filter_one (fun m => decide (m ≤ n) && (decide (n - m < a) && ℓ (n - m))) (n - a) (by simp; omega) marks hnd
    rw [show (if ℓ a = true ∧ n - a ∈ marks then 1 else 0) = if n - a ∈ marks then 1 else 0 by simp [hl], ← this]
    congr 1
    refine List.filter_congr fun m _ => ?_
    rw [Bool.eq_iff_iff]
    simp only [Bool.and_eq_true, Bool.or_eq_true, decide_eq_true_eq]
    constructor
    · rintro ⟨h1, h2, h3⟩
      by_cases e : m = n - a
      · exact .inr e
      · exact .inl ⟨h1, by omega, h3⟩
    · rintro (⟨h1, h2, h3⟩ | e)
      · exact ⟨h1, by omega, h3⟩
      · exact ⟨by omega, by omega, by rw [e, show n - (n - a) = a by omega]; exact hl⟩
  · rw [show (if ℓ a = true ∧ n - a ∈ marks then 1 else 0) = 0 by simp [hl], Nat.add_zero]
    congr 1
    refine List.filter_congr fun m _ => ?_
    rw [Bool.eq_iff_iff]
    simp only [Bool.and_eq_true, decide_eq_true_eq]
    constructor
    · rintro ⟨h1, h2, h3⟩
      refine ⟨h1, ?_, h3⟩
      rcases Int.lt_or_le (n - m) a with q | q
      · exact q
      · exact absurd (show ℓ a = true by rw [show a = n - m by omega]; exact h3) hl
    · rintro ⟨h1, h2, h3⟩
      exact ⟨h1, by omega, h3⟩

def outN (marks : List Int) (w0 : List Int) (ℓ : Int → Bool) (n : Int) : List Nat := if ℓ n = true then [124] else [(97 + n).toNat] ++ List.replicate (w0.getD n.toNat 0 + (cntA marks ℓ n n : Nat)).toNat 34

theorem play_spec (E marks : List Int) (hE : ∀ x ∈ E, 1 ≤ x) (hm : laidL 0 E = marks) (close : List Nat) (hc : Close close) (w0 : List Int) (ℓ : Int → Bool)
    (hℓ : ∀ n, 0 ≤ n → n < 20 → (ℓ n = true ↔ ¬ 0 < w0.getD n.toNat 0 + (cntA marks ℓ n n : Nat))) :
    ∀ (d f : Nat) (a : Int) (ways : List Int), a = 20 - (d : Int) → d ≤ 20 → d ≤ f → ways.length = 21 → (∀ n, a ≤ n → n < 20 → ways.getD n.toNat 0 = w0.getD n.toNat 0 + (cntA marks ℓ a n : Nat)) →
      joinL [124] (playF E close (f + 1) a ways).1 = ((upto a 20).map (outN marks w0 ℓ)).flatten ∧ (playF E close (f + 1) a ways).2 = (upto a 20).filter ℓ := by
  have hnd : marks.Nodup := by rw [← hm]; exact (laid_sorted 0 E hE (by decide)).1.imp fun h e => by omega
  intro d
  induction d with
  | zero =>
    intro f a ways ha _ _ _ _
    have : a = 20 := by omega
    subst this
    rw [play_end _ _ _ _ hc, upto_nil (by decide)]
    exact ⟨rfl, rfl⟩
  | succ d ih =>
    intro f a ways ha hd hf hwl hw
    have h0 : 0 ≤ a := by omega
    have h20 : a < 20 := by omega
    have hwa := hw a (Int.le_refl _) h20
    rw [upto_cons h20, List.map_cons, List.flatten_cons, List.filter_cons]
    by_cases hla : ℓ a = true
    · have hz : ¬ 0 < ways.getD a.toNat 0 := by rw [hwa]; exact (hℓ a h0 h20).mp hla
      obtain ⟨f, rfl⟩ : ∃ g, f = g + 1 := ⟨f - 1, by omega⟩
      obtain ⟨p1, p2⟩ := play_stop E ways close (f + 1) a h0 h20 hz
      have hin := laidL_in a E h0 (fun x hx => by have := hE x hx; omega)
      obtain ⟨i1, i2⟩ := ih f (a + 1) (bump ways (laidL a E)) (by omega) (by omega) (by omega) (by rw [bump_len]; exact hwl) (fun n h1 h2 => by
        have hg := bump_get (laidL a E) ways n.toNat (fun m hm => by have := hin m hm; omega)
        rw [Int.toNat_of_nonneg (by omega), laid_count E hE a n h0 (by omega) (by omega), hm] at hg
        rw [hg, hw n (by omega) h2, cntA_step marks hnd ℓ a n h0 (by omega)]
        simp only [hla, true_and]
        split <;> omega)
      rw [p1, p2, join_nilc _ (play_ne _ _ _ _ _ (by omega)), i1, i2, if_pos hla]
      refine ⟨?_, rfl⟩
      rw [outN, if_pos hla]
    · have hp : 0 < ways.getD a.toNat 0 := by
        rw [hwa]
        rcases Int.lt_or_le 0 (w0.getD a.toNat 0 + (cntA marks ℓ a a : Nat)) with q | q
        · exact q
        · exact absurd ((hℓ a h0 h20).mpr (by omega)) hla
      obtain ⟨p1, p2⟩ := play_go E ways close f a h0 h20 hp
      obtain ⟨i1, i2⟩ := ih f (a + 1) ways (by omega) (by omega) (by omega) hwl (fun n h1 h2 => by
        rw [hw n (by omega) h2, cntA_step marks hnd ℓ a n h0 (by omega)]
        simp [hla])
      rw [p1, p2, join_consH _ _ (play_ne _ _ _ _ _ (by omega)), i1, i2, if_neg hla, hwa]
      refine ⟨?_, rfl⟩
      rw [outN, if_neg hla]
theorem played_spec (E marks : List Int) (hE : ∀ x ∈ E, 1 ≤ x) (hm : laidL 0 E = marks) (close : List Nat) (hc : Close close) (w0 : List Int) (ℓ : Int → Bool) (hwl : w0.length = 21)
    (hℓ : ∀ n, 0 ≤ n → n < 20 → (ℓ n = true ↔ ¬ 0 < w0.getD n.toNat 0 + (cntA marks ℓ n n : Nat))) :
    joinL [124] (played E w0 close).1 = ((upto 0 20).map (outN marks w0 ℓ)).flatten ∧ (played E w0 close).2 = (upto 0 20).filter ℓ := by
  have hpos : ∀ m ∈ marks, 1 ≤ m := fun m hx => by
    rw [← hm] at hx
    have := (laid_sorted 0 E hE (by decide)).2 m hx
    omega
  refine play_spec E marks hE hm close hc w0 ℓ hℓ 20 24 0 w0 (by decide) (by decide) (by decide) hwl fun n h1 h2 => ?_
  have : cntA marks ℓ 0 n = 0 := by
    unfold cntA
    rw [List.length_eq_zero_iff, List.filter_eq_nil_iff]
    intro m hm
    simp; omega
  rw [this]; simp
end Mine

open PySem PySem.W PyProof.Rows
set_option Elab.async false
set_option maxRecDepth 100000
set_option autoImplicit false
set_option linter.unusedVariables false
set_option linter.unusedSimpArgs false
namespace Mine

theorem upto_sorted (a b : Int) : (upto a b).Pairwise (· < ·) := by
  unfold upto
  rw [List.pairwise_map]
  exact (List.pairwise_lt_range).imp fun h => by omega
theorem mex_spec (l : List Int) : 0 ≤ mex l ∧ mex l ∉ l ∧ ∀ y, 0 ≤ y → y < mex l → y ∈ l := by
  obtain ⟨x, r, h⟩ := mexC_ne l
  have hx : mex l = x := by rw [mex, h]; rfl
  have hm : ∀ y, y ∈ mexC l ↔ (0 ≤ y ∧ y < (l.length : Int) + 1) ∧ y ∉ l := fun y => by
    unfold mexC
    rw [List.mem_filter, mem_upto]
    refine and_congr_right fun _ => ⟨fun h hy => ?_, fun h => ?_⟩
    · simp at h
      exact h y hy rfl
    · simp
      exact fun z hz e => h (e ▸ hz)
  have hs : (mexC l).Pairwise (· < ·) := (upto_sorted _ _).filter _
  rw [h] at hs hm
  obtain ⟨h1, h2⟩ := (hm x).mp (.head _)
  rw [hx]
  refine ⟨h1.1, h2, fun y h0 hy => ?_⟩
  by_cases hl : y ∈ l
  · exact hl
  · have := (hm y).mpr ⟨⟨h0, by omega⟩, hl⟩
    rcases List.mem_cons.mp this with e | q
    · omega
    · have := (List.pairwise_cons.mp hs).1 y q; omega

def vN (marks : List Int) (n : Nat) : Int := mex (nearL marks (valsF marks n) n)
def gv (marks : List Int) (n : Int) : Int := vN marks n.toNat
theorem valsF_eq (marks : List Int) : ∀ N, valsF marks N = (List.range N).map (vN marks)
  | 0 => rfl
  | N + 1 => by
    have := valsF_eq marks N
    rw [List.range_succ, List.map_append, ← this]; rfl
theorem valsF_get (marks : List Int) (N : Nat) (n : Int) (h0 : 0 ≤ n) (h : n < N) : (valsF marks N).getD n.toNat 0 = gv marks n := by
  rw [valsF_eq, List.getD_eq_getElem?_getD, List.getElem?_map, List.getElem?_range (by omega)]; rfl
theorem near_eq (marks : List Int) (hm : ∀ m ∈ marks, 1 ≤ m) (N : Nat) (n : Int) (h0 : 0 ≤ n) (h : n ≤ N) : nearL marks (valsF marks N) n = (marks.filter fun m => decide (m ≤ n)).map fun m => gv marks (n - m) := by
  unfold nearL
  refine List.map_congr_left fun m hmm => ?_
  obtain ⟨h1, h2⟩ := List.mem_filter.mp hmm
  have h2 : m ≤ n := by simpa using h2
  have := hm m h1
  exact valsF_get marks N (n - m) (by omega) (by omega)
theorem gv_eq (marks : List Int) (hm : ∀ m ∈ marks, 1 ≤ m) (n : Int) (h0 : 0 ≤ n) : gv marks n = mex ((marks.filter fun m => decide (m ≤ n)).map fun m => gv marks (n - m)) := by
  unfold gv vN
  have := near_eq marks hm n.toNat n h0 (by omega)
  rw [Int.toNat_of_nonneg h0, this]; rfl

section
variable {marks : List Int} (hm : ∀ m ∈ marks, 1 ≤ m)
include hm
theorem gv_move {n m : Int} (h0 : 0 ≤ n) (h1 : m ∈ marks) (h2 : m ≤ n) : gv marks (n - m) ≠ gv marks n := fun e => by
  have := (mex_spec ((marks.filter fun m => decide (m ≤ n)).map fun m => gv marks (n - m))).2.1
  rw [← gv_eq marks hm n h0] at this
  exact this (List.mem_map.mpr ⟨m, List.mem_filter.mpr ⟨h1, by simpa using h2⟩, e⟩)
theorem gv_nonneg {n : Int} (h0 : 0 ≤ n) : 0 ≤ gv marks n := by
  rw [gv_eq marks hm n h0]; exact (mex_spec _).1
theorem gv_below {n y : Int} (h0 : 0 ≤ n) (hy : 0 ≤ y) (h : y < gv marks n) : ∃ m ∈ marks, m ≤ n ∧ gv marks (n - m) = y := by
  rw [gv_eq marks hm n h0] at h
  obtain ⟨m, h1, h2⟩ := List.mem_map.mp ((mex_spec _).2.2 y hy h)
  obtain ⟨h3, h4⟩ := List.mem_filter.mp h1
  exact ⟨m, h3, by simpa using h4, h2⟩
theorem gv_low {n : Int} (h0 : 0 ≤ n) (h : ∀ m ∈ marks, n < m) : gv marks n = 0 := by
  have := gv_nonneg hm h0
  rcases Int.lt_or_le 0 (gv marks n) with q | q
  · obtain ⟨m, h1, h2, _⟩ := gv_below hm h0 (Int.le_refl 0) q
    have := h m h1; omega
  · omega
variable {k : Int} (hk : k ∈ marks) (hmin : ∀ m ∈ marks, k ≤ m)
include hk hmin
/-- Ferguson -/
theorem ferguson : ∀ (d : Nat) (n : Int), n.toNat = d → k ≤ n → (gv marks n = 1 ↔ gv marks (n - k) = 0) := by
  have hk1 := hm k hk
  intro d
  induction d using Nat.strongRecOn with
  | _ d ih =>
    intro n hd hkn
    have ih' : ∀ j, 0 ≤ j → j < n → k ≤ j → (gv marks j = 1 ↔ gv marks (j - k) = 0) := fun j h1 h2 h3 => ih j.toNat (by omega) j rfl h3
    constructor
    · intro h1
      rcases Int.lt_or_le 0 (gv marks (n - k)) with q | q
      · exfalso
        obtain ⟨m, a, b, c⟩ := gv_below hm (by omega) (Int.le_refl 0) q
        have := hm m a
        have e := (ih' (n - m) (by omega) (by omega) (by omega)).mpr (by rw [show n - m - k = n - k - m by omega]; exact c)
        exact gv_move hm (show 0 ≤ n by omega) a (by omega) (e.trans h1.symm)
      · have := gv_nonneg hm (show 0 ≤ n - k by omega); omega
    · intro h0
      have hn0 := gv_move hm (show 0 ≤ n by omega) hk hkn
      have hnn := gv_nonneg hm (show 0 ≤ n by omega)
      rcases Int.lt_or_le 1 (gv marks n) with q | q
      · exfalso
        obtain ⟨m, a, b, c⟩ := gv_below hm (by omega) (show (0 : Int) ≤ 1 by decide) q
        have hm1 := hm m a
        have hkm : k ≤ n - m := by
          rcases Int.lt_or_le (n - m) k with z | z
          · have := gv_low hm (show 0 ≤ n - m by omega) (fun x hx => by have := hmin x hx; omega)
            omega
          · exact z
        have e := (ih' (n - m) (by omega) (by omega) hkm).mp c
        exact gv_move hm (show 0 ≤ n - k by omega) a (by omega) (by rw [show n - k - m = n - m - k by omega, e, h0])
      · omega
theorem gv_zero {n : Int} (hkn : k ≤ n) (h : gv marks n = 0) : ∃ m ∈ marks, m ≤ n ∧ gv marks (n - m) = 1 := by
  have hk1 := hm k hk
  have h1 := gv_move hm (show 0 ≤ n by omega) hk hkn
  have h2 := gv_nonneg hm (show 0 ≤ n - k by omega)
  obtain ⟨m, a, b, c⟩ := gv_below hm (show 0 ≤ n - k by omega) (Int.le_refl 0) (by omega)
  have := hm m a
  exact ⟨m, a, by omega, (ferguson hm hk hmin (n - m).toNat (n - m) rfl (by omega)).mpr (by rw [show n - m - k = n - k - m by omega]; exact c)⟩
end

/-! ### the two plays -/
theorem near_count (marks : List Int) (hm : ∀ m ∈ marks, 1 ≤ m) (y n : Int) (h0 : 0 ≤ n) (h20 : n < 20) : (nearL marks (valsF marks 20) n).count y = cntA marks (fun n => decide (gv marks n = y)) n n := by
  rw [near_eq marks hm 20 n h0 (by omega), List.count_eq_length_filter, List.filter_map, List.length_map, List.filter_filter]
  unfold cntA
  congr 1
  refine List.filter_congr fun m hmm => ?_
  have := hm m hmm
  rw [Bool.eq_iff_iff]
  simp only [Function.comp, Bool.and_eq_true, decide_eq_true_eq, beq_iff_eq]
  constructor
  · rintro ⟨h1, h2⟩; exact ⟨h2, by omega, h1⟩
  · rintro ⟨h1, _, h2⟩; exact ⟨h2, h1⟩
theorem cntA_pos (marks : List Int) (hm : ∀ m ∈ marks, 1 ≤ m) (y n : Int) : 0 < cntA marks (fun n => decide (gv marks n = y)) n n ↔ ∃ m ∈ marks, m ≤ n ∧ gv marks (n - m) = y := by
  unfold cntA
  constructor
  · intro h
    obtain ⟨m, hmm⟩ := List.exists_mem_of_length_pos h
    obtain ⟨h1, h2⟩ := List.mem_filter.mp hmm
    simp only [Bool.and_eq_true, decide_eq_true_eq] at h2
    exact ⟨m, h1, h2.1, h2.2.2⟩
  · rintro ⟨m, h1, h2, h3⟩
    have := hm m h1
    exact List.length_pos_of_mem (List.mem_filter.mpr ⟨h1, by simp only [Bool.and_eq_true, decide_eq_true_eq]; exact ⟨h2, by omega, h3⟩⟩)
theorem won0_get (n : Int) : won0.getD n.toNat 0 = 0 := by
  unfold won0
  rw [List.getD_eq_getElem?_getD, List.getElem?_replicate]
  split <;> rfl
theorem won1_get (k n : Int) (h0 : 0 ≤ n) (h : n < 20) : (won1 k).getD n.toNat 0 = if n < k then 1 else 0 := by
  unfold won1
  rw [List.getD_eq_getElem?_getD, List.getElem?_map, upto_get (by omega)]
  show (if (0 : Int) + (n.toNat : Int) < k then (1 : Int) else 0) = _
  rw [show (0 : Int) + (n.toNat : Int) = n by omega]
theorem flat34 (n : Nat) : (List.replicate n [34]).flatten = List.replicate n 34 := by
  induction n with
  | zero => rfl
  | succ n ih => rw [List.replicate_succ, List.flatten_cons, ih, List.replicate_succ]; rfl
theorem due_upto (marks vs : List Int) (y : Int) : dueL marks vs y = (upto 0 20).map (dueN marks vs y) := by
  unfold dueL upto
  rw [List.map_map]
  refine List.map_congr_left fun i _ => ?_
  simp only [Function.comp]
  congr 1; omega

structure Ruler (marks : List Int) (k : Int) : Prop where
  pos : ∀ m ∈ marks, 1 ≤ m
  low : ∀ m ∈ marks, k ≤ m
  mem : k < 20 → k ∈ marks
  k0 : 1 ≤ k

section
variable {marks : List Int} {k : Int} (r : Ruler marks k)
include r
theorem first_ok : ∀ n, 0 ≤ n → n < 20 → (decide (gv marks n = 0) = true ↔ ¬ 0 < won0.getD n.toNat 0 + (cntA marks (fun n => decide (gv marks n = 0)) n n : Nat)) := fun n h0 h20 => by
  rw [won0_get, decide_eq_true_eq]
  have hc := cntA_pos marks r.pos 0 n
  constructor
  · intro h q
    obtain ⟨m, a, b, c⟩ := hc.mp (by omega)
    exact gv_move r.pos h0 a b (c.trans h.symm)
  · intro h
    have := gv_nonneg r.pos h0
    rcases Int.lt_or_le 0 (gv marks n) with q | q
    · exfalso
      have := hc.mpr (gv_below r.pos h0 (Int.le_refl 0) q)
      omega
    · omega
theorem second_ok : ∀ n, 0 ≤ n → n < 20 → (decide (gv marks n = 1) = true ↔ ¬ 0 < (won1 k).getD n.toNat 0 + (cntA marks (fun n => decide (gv marks n = 1)) n n : Nat)) := fun n h0 h20 => by
  rw [won1_get k n h0 h20, decide_eq_true_eq]
  have hc := cntA_pos marks r.pos 1 n
  by_cases hk : n < k
  · rw [if_pos hk]
    have := gv_low r.pos h0 fun m hm => by have := r.low m hm; omega
    omega
  · rw [if_neg hk]
    have hkm := r.mem (by omega)
    constructor
    · intro h q
      obtain ⟨m, a, b, c⟩ := hc.mp (by omega)
      exact gv_move r.pos h0 a b (c.trans h.symm)
    · intro h
      have hno : ¬ ∃ m ∈ marks, m ≤ n ∧ gv marks (n - m) = 1 := fun q => by have := hc.mpr q; omega
      have := gv_nonneg r.pos h0
      rcases Int.lt_or_le 1 (gv marks n) with q | q
      · exact absurd (gv_below r.pos h0 (show (0 : Int) ≤ 1 by decide) q) hno
      · by_cases hz : gv marks n = 0
        · exact absurd (gv_zero r.pos hkm r.low (by omega) hz) hno
        · omega
theorem out_first : ∀ n, 0 ≤ n → n < 20 → outN marks won0 (fun n => decide (gv marks n = 0)) n = dueN marks (valsF marks 20) 0 n := fun n h0 h20 => by
  unfold outN dueN
  rw [valsF_get marks 20 n h0 (by omega), near_count marks r.pos 0 n h0 h20, won0_get]
  by_cases h : gv marks n = 0
  · rw [if_pos (by simpa using h), if_pos h]
  · rw [if_neg (by simpa using h), if_neg h, flat34]
    have hnn := gv_nonneg r.pos h0
    have hc := (cntA_pos marks r.pos 0 n).mpr (gv_below r.pos h0 (Int.le_refl 0) (by omega))
    have hne : nearL marks (valsF marks 20) n ≠ [] := fun e => by
      rw [← near_count marks r.pos 0 n h0 h20, e] at hc; simp at hc
    rw [if_neg hne]
    congr 2; omega
theorem out_second : ∀ n, 0 ≤ n → n < 20 → outN marks (won1 k) (fun n => decide (gv marks n = 1)) n = dueN marks (valsF marks 20) 1 n := fun n h0 h20 => by
  unfold outN dueN
  rw [valsF_get marks 20 n h0 (by omega), near_count marks r.pos 1 n h0 h20, won1_get k n h0 h20]
  by_cases h : gv marks n = 1
  · rw [if_pos (by simpa using h), if_pos h]
  · rw [if_neg (by simpa using h), if_neg h, flat34]
    by_cases hk : n < k
    · have hf : (marks.filter fun m => decide (m ≤ n)) = [] := by
        rw [List.filter_eq_nil_iff]
        intro m hm
        have := r.low m hm
        simp; omega
      have hne : nearL marks (valsF marks 20) n = [] := by
        unfold nearL; rw [hf]; rfl
      have hc : cntA marks (fun n => decide (gv marks n = 1)) n n = 0 := by
        rw [← near_count marks r.pos 1 n h0 h20, hne]; rfl
      rw [if_pos hne, if_pos hk, hc]
      rfl
    · have hkm := r.mem (by omega)
      have hne : nearL marks (valsF marks 20) n ≠ [] := fun e => by
        unfold nearL at e
        rw [List.map_eq_nil_iff, List.filter_eq_nil_iff] at e
        have := e k hkm
        simp at this; omega
      rw [if_neg hne, if_neg hk]
      congr 2; omega
end
end Mine

open PySem PySem.W PyProof.Rows
set_option Elab.async false
set_option maxRecDepth 100000
set_option autoImplicit false
set_option linter.unusedVariables false
set_option linter.unusedSimpArgs false
namespace Mine

/-! ### two heaps side by side, by going through all -/
def okP (mv : List Int) : Bool := (List.range 6).all fun i => (List.range 6).all fun k =>
  !(decide ((valsF mv 6).getD i 0 ≤ 1) && decide ((valsF mv 6).getD k 0 ≤ 1)) ||
    ((cellT (tabP mv true 6) i k == (decide ((valsF mv 6).getD i 0 = 0) == decide ((valsF mv 6).getD k 0 = 0))) && (cellT (tabP mv false 6) i k != (decide ((valsF mv 6).getD i 0 = 0) == decide ((valsF mv 6).getD k 0 = 0))))
def mvs (a b c d e : Bool) : List Int := (if a then [1] else []) ++ ((if b then [2] else []) ++ ((if c then [3] else []) ++ ((if d then [4] else []) ++ if e then [5] else [])))
theorem okP_all : ∀ a b c d e, okP (mvs a b c d e) = true := by
  intro a b c d e
  cases a <;> cases b <;> cases c <;> cases d <;> cases e <;> decide +kernel

theorem mvs_of (l : List Int) (hs : l.Pairwise (· < ·)) (hb : ∀ m ∈ l, 1 ≤ m ∧ m < 6) : ∃ a b c d e, l = mvs a b c d e := by
  refine ⟨decide (1 ∈ l), decide (2 ∈ l), decide (3 ∈ l), decide (4 ∈ l), decide (5 ∈ l), sorted_ext hs ?_ fun x => ?_⟩
  · have : ∀ a b c d e, (mvs a b c d e).Pairwise (· < ·) := by decide +kernel
    exact this _ _ _ _ _
  · unfold mvs
    simp only [List.mem_append]
    have one : ∀ y : Int, x ∈ (if decide (y ∈ l) = true then [y] else []) ↔ x = y ∧ y ∈ l := fun y => by
      split <;> rename_i h <;> simp at h <;> simp [h]
    rw [one, one, one, one, one]
    constructor
    · intro h
      have := hb x h
      have : x = 1 ∨ x = 2 ∨ x = 3 ∨ x = 4 ∨ x = 5 := by omega
      rcases this with rfl | rfl | rfl | rfl | rfl <;> simp [h]
    · rintro (⟨rfl, h⟩ | ⟨rfl, h⟩ | ⟨rfl, h⟩ | ⟨rfl, h⟩ | ⟨rfl, h⟩) <;> exact h
theorem vals_moves (marks : List Int) : ∀ n, n ≤ 6 → valsF marks n = valsF (marks.filter fun m => decide (m < 6)) n
  | 0, _ => rfl
  | n + 1, h => by
    have e : nearL marks (valsF (marks.filter fun m => decide (m < 6)) n) n = nearL (marks.filter fun m => decide (m < 6)) (valsF (marks.filter fun m => decide (m < 6)) n) n := by
      unfold nearL
      rw [List.filter_filter]
      congr 1
      refine List.filter_congr fun m _ => ?_
      rw [Bool.eq_iff_iff]
      simp only [Bool.and_eq_true, decide_eq_true_eq]
      omega
    rw [valsF, valsF, vals_moves marks n (by omega), e]

theorem pairs_ok (marks : List Int) (hs : marks.Pairwise (· < ·)) (hm : ∀ m ∈ marks, 1 ≤ m) (i k : Int) (i0 : 0 ≤ i) (i6 : i < 6) (k0 : 0 ≤ k) (k6 : k < 6) (hi : gv marks i ≤ 1) (hk : gv marks k ≤ 1) :
    cellT (tabP (marks.filter fun m => decide (m < 6)) true 6) i k = (decide (gv marks i = 0) == decide (gv marks k = 0)) ∧ cellT (tabP (marks.filter fun m => decide (m < 6)) false 6) i k ≠ (decide (gv marks i = 0) == decide (gv marks k = 0)) := by
  have hg : ∀ i : Int, 0 ≤ i → i < 6 → (valsF (marks.filter fun m => decide (m < 6)) 6).getD i.toNat 0 = gv marks i := fun i h0 h6 => by
    rw [← vals_moves marks 6 (Nat.le_refl _)]; exact valsF_get marks 6 i h0 (by omega)
  obtain ⟨a, b, c, d, e, hl⟩ := mvs_of (marks.filter fun m => decide (m < 6)) (hs.filter _) fun m h => by
    obtain ⟨h1, h2⟩ := List.mem_filter.mp h
    exact ⟨hm m h1, by simpa using h2⟩
  have hok := okP_all a b c d e
  rw [← hl] at hok
  unfold okP at hok
  have h1 := List.all_eq_true.mp (List.all_eq_true.mp hok i.toNat (List.mem_range.mpr (by omega))) k.toNat (List.mem_range.mpr (by omega))
  rw [hg i i0 i6, hg k k0 k6, Int.toNat_of_nonneg i0, Int.toNat_of_nonneg k0] at h1
  simp only [hi, hk, decide_true, Bool.and_self, Bool.not_true, Bool.false_or, Bool.and_eq_true, beq_iff_eq, bne_iff_ne] at h1
  exact ⟨h1.1, h1.2⟩

theorem asks2_core (marks E : List Int) (k : Int) (hE : ∀ x ∈ E, 1 ≤ x) (hm : laidL 0 E = marks) (r : Ruler marks k) (hk : leastOf marks = k) : Asks2 marks E := by
  have hs : marks.Pairwise (· < ·) := by rw [← hm]; exact (laid_sorted 0 E hE (by decide)).1
  obtain ⟨a1, a2⟩ := played_spec E marks hE hm [34] (.inr rfl) won0 (fun n => decide (gv marks n = 0)) rfl (first_ok r)
  obtain ⟨b1, b2⟩ := played_spec E marks hE hm [] (.inl rfl) (won1 k) (fun n => decide (gv marks n = 1)) (by simp [won1, upto_length]) (second_ok r)
  have g0 : gv marks 0 = 0 := gv_low r.pos (Int.le_refl 0) fun m h => by have := r.pos m h; omega
  have hin : ∀ i ∈ (played E won0 [34]).2 ++ (played E (won1 k) []).2, 0 ≤ i ∧ gv marks i ≤ 1 := fun i h => by
    rw [a2, b2] at h
    rcases List.mem_append.mp h with h | h
    · obtain ⟨h1, h2⟩ := List.mem_filter.mp h
      have := mem_upto.mp h1
      have : gv marks i = 0 := by simpa using h2
      omega
    · obtain ⟨h1, h2⟩ := List.mem_filter.mp h
      have := mem_upto.mp h1
      have : gv marks i = 1 := by simpa using h2
      omega
  have hlost : ∀ i : Int, 0 ≤ i → i < 20 → (played E won0 [34]).2.any (· == i) = decide (gv marks i = 0) := fun i h0 h20 => by
    rw [a2, Bool.eq_iff_iff, List.any_eq_true, decide_eq_true_eq]
    constructor
    · rintro ⟨y, hy, e⟩
      obtain rfl := beq_iff_eq.mp e
      simpa using (List.mem_filter.mp hy).2
    · intro h
      exact ⟨i, List.mem_filter.mpr ⟨mem_upto.mpr ⟨h0, h20⟩, by simpa using h⟩, by simp⟩
  refine ⟨hm, fun t h => ?_, ?_, ?_, ?_, ?_, ?_⟩
  · rw [a1, upto_cons (by decide), List.map_cons, List.flatten_cons, outN, if_pos (by simpa using g0)] at h
    cases h
  · rw [hk, a2, b2]
    refine sorted_ext ((upto_sorted _ _).filter _) ?_ fun x => ?_
    · rw [List.pairwise_map]
      exact (((upto_sorted 0 20).filter _).filter _).imp fun h => by omega
    · rw [List.mem_filter, mem_upto, List.mem_map]
      constructor
      · rintro ⟨⟨h0, h20⟩, h1⟩
        have h1 : gv marks x = 1 := by simpa using h1
        have hkx : k ≤ x := by
          rcases Int.lt_or_le x k with q | q
          · have := gv_low r.pos h0 fun m hm => by have := r.low m hm; omega
            omega
          · exact q
        have := (ferguson r.pos (r.mem (by omega)) r.low x.toNat x rfl hkx).mp h1
        have := r.k0
        exact ⟨x - k, List.mem_filter.mpr ⟨List.mem_filter.mpr ⟨mem_upto.mpr (by omega), by simpa⟩, by simp; omega⟩, by omega⟩
      · rintro ⟨y, hy, rfl⟩
        obtain ⟨h1, h2⟩ := List.mem_filter.mp hy
        obtain ⟨h3, h4⟩ := List.mem_filter.mp h1
        have h2 : y + k < 20 := by simpa using h2
        have h4 : gv marks y = 0 := by simpa using h4
        have h3 := mem_upto.mp h3
        have := r.k0
        exact ⟨by omega, by simpa using (ferguson r.pos (r.mem (by omega)) r.low (y + k).toNat (y + k) rfl (by omega)).mpr (by rw [show y + k - k = y by omega]; exact h4)⟩
  · rw [hk]; exact fun i h => (hin i h).1
  · rw [hk]
    intro i hi i6 j hj j6
    obtain ⟨i0, i1⟩ := hin i hi
    obtain ⟨j0, j1⟩ := hin j hj
    rw [hlost i i0 (by omega), hlost j j0 (by omega)]
    have q := pairs_ok marks hs r.pos i j i0 i6 j0 j6 i1 j1
    exact q
  · rw [a1, due_upto]
    refine congrArg List.flatten (List.map_congr_left fun n hn => ?_)
    have := mem_upto.mp hn
    exact out_first r n this.1 this.2
  · rw [hk, b1, due_upto]
    refine congrArg List.flatten (List.map_congr_left fun n hn => ?_)
    have := mem_upto.mp hn
    exact out_second r n this.1 this.2

theorem asks2 (row : List Int) (hk1 : row.head? ≠ some 0) (hk2 : ∀ x ∈ row, 0 ≤ x ∧ (x ≤ 19 ∨ x = 127)) (hl : row.length ≤ 12) : Asks2 (marksOf row) (gi 21 none row) := by
  have p : ∀ x ∈ row, 0 ≤ x := fun x hx => (hk2 x hx).1
  have hm := marks_eq row hk1 p (fun x hx => by
    have h1 := List.all_eq_true.mp (List.all_takeWhile (p := goesOn) (l := row)) _ hx
    have h2 := hk2 x ((List.takeWhile_sublist _).subset hx)
    simp only [goesOn, Bool.and_eq_true, decide_eq_true_eq] at h1
    omega) (by omega)
  have hE := gi_pos 21 none row (fun l e => by cases e) (fun _ => hk1) p
  have hin := marksOf_in row
  have hs : (marksOf row).Pairwise (· < ·) := by rw [← hm]; exact (laid_sorted 0 _ hE (by decide)).1
  generalize marksOf row = marks at hm hin hs ⊢
  refine asks2_core marks _ (leastOf marks) hE hm ⟨fun m h => (hin m h).1, fun m h => ?_, fun h => ?_, ?_⟩ rfl
  · cases marks with
    | nil => simp at h
    | cons x l =>
      show x ≤ m
      rcases List.mem_cons.mp h with rfl | h
      · omega
      · have := (List.pairwise_cons.mp hs).1 m h; omega
  · cases marks with
    | nil => exact absurd h (by decide)
    | cons x l => exact .head _
  · cases marks with
    | nil => decide
    | cons x l => exact (hin x (.head _)).1
end Mine

open PySem PySem.W PyProof.Rows
set_option Elab.async false
set_option maxRecDepth 100000
set_option autoImplicit false
set_option linter.unusedVariables false
set_option linter.unusedSimpArgs false
namespace Mine
set_option maxHeartbeats 8000000 in
theorem walked : PySem.Challenge.rw_pk0021_02.Holds := hd2 (by
  intro w s₀ s₁ mg mb G Y fa o pm cd doc dV kV ho hd hcd hD hmg hg args vals as hpre hlay hrd hwl hlo
  have KX := kIn_of Y
  refine Ground.open G ?_
  intro T B D TE TW
  have hdV : dV = .none := by
    rcases hD.pos with ⟨_, h⟩ | ⟨h, _⟩
    · exact h
    · exact absurd rfl h
  have hkV : kV = .none := by
    rcases hD.kw with ⟨_, h⟩ | ⟨h, _⟩
    · exact h
    · exact absurd rfl h
  subst hdV hkV
  clear hD G Y B D TE TW hmg
  wrow_args hpre hlay hrd hwl hlo
  refine enter_call ?_
  rename_i ns _ _ _ _ _ _ _ a vs _ hL _ _ _ hI _ hlen _
  have W : Wd (C2 w) s₁.heap := ⟨KX, _, _, _, _, _, T⟩
  refine law_call (C := C2 w) (names := [Str.ofString "script"]) (ms := [.lo ns]) (by decide) ho hd hcd rfl rfl rfl rfl rfl rfl rfl rfl ?hk (by decide) W ?hv rfl ?hR ?hb (m := .bool true)
  case hk =>
    intro x hx
    simp only [List.mem_cons, List.not_mem_nil, or_false] at hx
    subst hx
    exact .inl rfl
  case hv => exact .cons ⟨a, vs, rfl, fun q => q, hL, of_intsAre hI⟩ .nil
  case hR =>
    intro v s' gg hkeep hr
    obtain rfl : v = .bool true := hr
    refine ⟨.inl ⟨_, _, [], rfl, fun _ => rfl, ReadsW.bool true, ?post, fun _ => ⟨List.nodup_nil, fun _ hm => (nomatch hm)⟩⟩, ?old, gg.os, gg.bare (by rw [hg]; exact AllBare.empty)⟩
    case post => wrow_post
    case old => exact OldK.of_keep hkeep
  case hb =>
    intro env s₂ hff F
    dsimp only [PySem.Calls.docDef, List.zip_cons_cons, List.zip_nil_right] at F ⊢
    have R : Room 60 (callerA.deeper env) := ⟨rfl, by show 1 + claimMargin + 1 + 60 < recursionLimit; decide, by show 4 + 3 + 20 * 60 + 100 < cLine; decide⟩
    have hz8 : (ns.take 8).length ≤ 8 := List.length_take_le _ _
    have hn63 : ns.length ≤ 63 := by omega
    refine As.run (x := Str.ofString "row") (fr := true) (m := .il (row0 ns)) (As.ev (Ev.bin ((Ev.comp lkI lkI (xs := ns.take 8) (p := fun _ => true) (f := fun x => menu8.getD (x % 8).toNat 0) [] (Src.list ((Ev.sliceLo (a := none) (b := some 8) (c := none) (Ev.name rfl (by decide)) Part.no (Part.so Ev.int) Part.no (by decide) ?z1).eq (m' := .il (ns.take 8)) ?e1)) ?sco ?cap (.inl rfl) ⟨?tests, ?elt⟩ ?hz (fun _ _ => rfl)).eq (m' := .il ((ns.take 8).map fun x => menu8.getD (x % 8).toNat 0)) ?eq)
      (Ev.disp lkI [2, 1, 4, 0] (Evs.cons Ev.int (Evs.cons Ev.int (Evs.cons Ev.int (Evs.cons Ev.int Evs.nil fun _ _ => rfl) fun _ _ => rfl) fun _ _ => rfl) fun _ _ => rfl) (by decide)) (Bin.addL lkI ?z3)) (by first | exact .inl rfl | exact .inr rfl) (fun _ => rfl)) (.inl rfl) R F fun s₃ F₃ => ?_
    case z1 => omega
    case e1 => exact congrArg MV.il (pick_upto _ (by decide))
    case sco => exact CScope.of' rfl (by kernel_rfl)
    case cap => (repeat' first | exact caps_nil | exact rfl | refine caps_cons ?_ ?_ ?_)
    case tests => exact .inl ⟨rfl, fun _ => rfl⟩
    case elt =>
      intro a ha _
      refine (Ev.itemT (l := menu8) (Ev.tupI menu8 ?tup (by decide)) (Ev.bin (Ev.name rfl (by decide)) Ev.int (Bin.modI (by decide))) (by omega) (by omega) ?get (fun _ _ => rfl)).up rfl
      case tup => exact (Evs.cons Ev.int (Evs.cons Ev.int (Evs.cons Ev.int (Evs.cons Ev.int (Evs.cons Ev.int (Evs.cons Ev.int (Evs.cons Ev.int (Evs.cons Ev.int Evs.nil fun _ _ => rfl) fun _ _ => rfl) fun _ _ => rfl) fun _ _ => rfl) fun _ _ => rfl) fun _ _ => rfl) fun _ _ => rfl) fun _ _ => rfl)
      case get =>
        rw [List.getD_eq_getElem?_getD, List.getElem?_eq_getElem (show (a % 8).toNat < menu8.length from by show _ < 8; omega)]; rfl
    case hz => omega
    case eq => exact congrArg MV.il (by rw [List.filter_eq_self.mpr (by simp)])
    case z3 => rw [List.length_map]; simp only [List.length_cons, List.length_nil]; omega
    clear F
    have F₇ := F₃.weak (ρ' := [(Str.ofString "row", .il (row0 ns))]) (own' := []) (fun _ h => h) (by (repeat' first | exact sub_nil | exact rfl | refine sub_cons ?_ ?_ | ((refine (rfl : _ = some (MV.int _)).trans (congrArg (fun z => some (MV.int z)) ?_)); first | omega | (simp; omega)) | ((refine (rfl : _ = some (MV.str _)).trans (congrArg (fun z => some (MV.str z)) ?_)); first | assumption | (simp; done))))
    clear F₃
    obtain ⟨c, r, hcr⟩ := row0_ne ns
    refine law_if (C := C2 w) (row := row0 ns) (c := c) (f := 60) ?rest R rfl hff F₇ (Gl.own rfl rfl (by decide)) rfl rfl (by decide) (by rw [hcr]; rfl) ?hno ?hyes
    case hno =>
      intro h0
      exact refused_no w _ (by rw [hcr]; simpa using h0)
    case hyes =>
      intro h0
      rw [hcr, h0]
      exact refused_Yes w r
    case rest =>
      clear F₇
      obtain ⟨hk1, hk2, hl2⟩ := row_ok ns
      have hk3 : ∀ x ∈ rowOf ns, 0 ≤ x := fun x hx => (hk2 x hx).1
      have H : Asks2 (marksOf (rowOf ns)) (gi 21 none (rowOf ns)) := asks2 _ hk1 hk2 hl2
      have hs2 : rowOf ns = if c = 0 then [] else row0 ns := by
        unfold rowOf
        rw [hcr]
        simp
      have hc0 : (row0 ns)[0]? = some c := by rw [hcr]; rfl
      generalize rowOf ns = row at H hl2 hs2 hk1 hk2 hk3
      generalize row0 ns = row0 at hs2 hc0 ⊢
      clear hz8
      refine Ex.iteJ [(Str.ofString "row", .il row)] (b := decide (c = 0)) ?_ ?_ ?_ ?_
      · exact Ts.cmp (Ev.item lkI (Ev.name rfl (by decide)) Ev.int (by decide) (by decide) hc0 fun _ _ => rfl) Ev.int Cm.eqI rfl
      · intro h
        have h : c = 0 := by simpa using h
        rw [hs2, if_pos h]
        refine Ex.set (As.ev (Ev.disp lkI [] Evs.nil (by decide)) (.inl rfl) (fun _ => rfl)) (.inl rfl) (List.not_mem_nil) ?_
        exact Ex.nil ⟨rfl, fun _ h => h, by (repeat' first | exact sub_nil | exact rfl | refine sub_cons ?_ ?_ | ((refine (rfl : _ = some (MV.int _)).trans (congrArg (fun z => some (MV.int z)) ?_)); first | omega | (simp; omega)) | ((refine (rfl : _ = some (MV.str _)).trans (congrArg (fun z => some (MV.str z)) ?_)); first | assumption | (simp; done)))⟩
      · intro h
        have h : c ≠ 0 := by simpa using h
        rw [hs2, if_neg h]
        exact Ex.nil ⟨rfl, fun _ h => h, by (repeat' first | exact sub_nil | exact rfl | refine sub_cons ?_ ?_ | ((refine (rfl : _ = some (MV.int _)).trans (congrArg (fun z => some (MV.int z)) ?_)); first | omega | (simp; omega)) | ((refine (rfl : _ = some (MV.str _)).trans (congrArg (fun z => some (MV.str z)) ?_)); first | assumption | (simp; done)))⟩
      clear hs2 hc0
      have hE1 := gi_len 21 none row
      have hLl := laidL_len 0 (gi 21 none row)
      have hml := marksOf_len row
      have hmi := marksOf_in row
      have fl : Fn (C2 w) 60 67 [.il row, .int 0] (.il (laidL 0 (gi 21 none row))) := laid_fn w (k := 50) row 0 hk1 hk3 (by decide) (by decide)
      have fp : ∀ won close, won.length = 21 → (∀ x ∈ won, 0 ≤ x ∧ x ≤ 1) → close.length ≤ 1 → Fn (C2 w) 60 72 [.il row, .il won, .str close] (.pr (joinL [124] (played (gi 21 none row) won close).1) (played (gi 21 none row) won close).2) := fun won close h1 h2 h3 => played_fn w (k := 48) row won close hk1 hk3 h1 h2 h3
      have fm : Fn (C2 w) 60 77 [.il row] (.il (marksOf row)) := marks_fn w (k := 59) row (by omega) hk1 hk3
      obtain ⟨A1, A2, A3, A4, A5, A6, A7⟩ := H
      generalize gi 21 none row = E at A1 A2 A3 A4 A5 A6 A7 hLl hE1 fl fp
      generalize marksOf row = marks at A1 A3 A4 A5 A6 A7 hml hmi fm
      rw [A1] at fl hLl
      refine Ex.set (As.ev (Ev.call (Gl.own rfl rfl (by decide)) rfl (Evs.cons (Ev.name rfl (by decide)) Evs.nil fun _ _ => rfl) fm fun _ _ => rfl) (by first | exact .inl rfl | exact .inr rfl) (fun _ => rfl)) (.inl rfl) (List.not_mem_nil) ?_
      refine Ex.ite (b := false) (Ts.cmp (Ev.call (Gl.own rfl rfl (by decide)) rfl (Evs.cons (Ev.name rfl (by decide)) (Evs.cons Ev.int Evs.nil fun _ _ => rfl) fun _ _ => rfl) fl fun _ _ => rfl) (Ev.name rfl (by decide)) (Cm.neL.eq (by simp)) rfl) (fun q => by cases q) fun _ => ?_
      simp only [List.nil_append]
      have hle : (marks ++ [20])[(0 : Int).toNat]? = some (leastOf marks) := by unfold leastOf; cases marks <;> rfl
      refine Ex.set ((As.ev (Ev.item lkI (Ev.bin (Ev.call (Gl.own rfl rfl (by decide)) rfl (Evs.cons (Ev.name rfl (by decide)) (Evs.cons Ev.int Evs.nil fun _ _ => rfl) fun _ _ => rfl) fl fun _ _ => rfl) (Ev.disp lkI [20] (Evs.cons Ev.int Evs.nil fun _ _ => rfl) (by decide)) (Bin.addL lkI ?z1)) Ev.int (by decide) (by decide) hle fun _ _ => rfl) (by first | exact .inl rfl | exact .inr rfl) (fun _ => rfl))) (.inr rfl) (List.not_mem_nil) ?_
      case z1 => simp only [List.length_cons, List.length_nil]; omega
      have hw1 : ∀ least, (won1 least).length = 21 := fun least => by simp [won1, upto_length]
      have hw2 : ∀ least, ∀ x ∈ won1 least, 0 ≤ x ∧ x ≤ 1 := fun least x hx => by
        obtain ⟨n, _, rfl⟩ := List.mem_map.mp hx
        split <;> omega
      have hp1 := playF_len E [34] 25 0 won0
      have hp2 := playF_len E [] 25 0 (won1 (leastOf marks))
      rw [← played] at hp1 hp2
      refine Ex.unpack (Ev.call (Gl.own rfl rfl (by decide)) rfl (Evs.cons (Ev.name rfl (by decide)) (Evs.cons (Ev.bin (Ev.disp lkI [0] (Evs.cons Ev.int Evs.nil fun _ _ => rfl) (by decide)) Ev.int (Bin.mulL1 (by decide) (by decide))) (Evs.cons (Ev.str.eq (m' := .str [34]) (by rw [q34])) Evs.nil fun _ _ => rfl) fun _ _ => rfl) fun _ _ => rfl) (fp won0 [34] rfl (by decide) (by decide)) fun _ _ => rfl) rfl rfl (fun _ _ => rfl) (fun _ _ => rfl) ?_
      refine Ex.unpack (Ev.call (Gl.own rfl rfl (by decide)) rfl (Evs.cons (Ev.name rfl (by decide)) (Evs.cons ((Ev.comp lkI lkI (xs := upto 0 21) (p := fun _ => true) (f := fun n => if n < leastOf marks then (1 : Int) else 0) [(Str.ofString "least", .int (leastOf marks))] ?src ?sco ?cap (.inl rfl) ⟨.inl ⟨rfl, fun _ => rfl⟩, ?elt⟩ ?hz (fun _ _ => rfl)).eq (m' := .il (won1 (leastOf marks))) ?eq) (Evs.cons (Ev.str.eq (m' := .str []) (by rw [qnil])) Evs.nil fun _ _ => rfl) fun _ _ => rfl) fun _ _ => rfl) (fp (won1 (leastOf marks)) [] (hw1 _) (hw2 _) (by decide)) fun _ _ => rfl) rfl rfl (fun _ _ => rfl) (fun _ _ => rfl) ?_
      case src => exact Src.range1 (Gl.built rfl PyProof.Rows.Boot.«range» (by decide) rfl (by decide)) Ev.int (fun _ _ => rfl) (by decide) (by decide)
      case sco => exact CScope.of' rfl (by kernel_rfl)
      case cap => (repeat' first | exact caps_nil | exact rfl | refine caps_cons ?_ ?_ ?_)
      case hz => decide
      case eq => exact congrArg MV.il (by rw [List.filter_eq_self.mpr (by simp)]; rfl)
      case elt =>
        intro n hn _
        refine Ev.ite (b := decide (n < leastOf marks)) (Ts.cmp (Ev.name rfl (by decide)) (Ev.name rfl (by decide)) Cm.ltI rfl) (fun h => ?yes) (fun h => ?nay)
        case yes => exact (Ev.int.eq (by rw [if_pos (by simpa using h)])).up rfl
        case nay => exact (Ev.int.eq (by rw [if_neg (by simpa using h)])).up rfl
      generalize (played E won0 [34]).2 = lost at A3 A4 A5 hp1 ⊢
      generalize (played E (won1 (leastOf marks)) []).2 = gone at A3 A4 A5 hp2 ⊢
      generalize joinL [124] (played E won0 [34]).1 = told at A2 A6 ⊢
      generalize joinL [124] (played E (won1 (leastOf marks)) []).1 = other at A7 ⊢
      have htl : told.length ≤ 1000 := by
        have h1 := sum_le (dueL marks (valsF marks 20) 0) 41 (fun x hx => by
          obtain ⟨n, _, rfl⟩ := List.mem_map.mp hx
          exact dueN_len _ _ _ _ (by omega))
        have h2 : (dueL marks (valsF marks 20) 0).length = 20 := by simp [dueL]
        rw [A6, List.length_flatten]
        rw [show (List.map List.length (dueL marks (valsF marks 20) 0)) = (dueL marks (valsF marks 20) 0).map (·.length) from rfl]
        omega
      refine Ex.ite (b := false) ((Ts.or (a := false) (b := false) (Ts.cmp (Ev.call (m := .str []) (Gl.own rfl rfl (by decide)) rfl (Evs.cons (Ev.bin Ev.str (Ev.name rfl (by decide)) (Bin.addS ?s1)) Evs.nil fun _ _ => rfl) ?p1 fun _ _ => rfl) Ev.str (Cm.neS.eq ?q1) rfl)
        (fun _ => Ts.cmp (Ev.call (m := .str []) (Gl.own rfl rfl (by decide)) rfl (Evs.cons (Ev.bin Ev.str (Ev.name rfl (by decide)) (Bin.addS ?s2)) Evs.nil fun _ _ => rfl) ?p2 fun _ _ => rfl) Ev.str (Cm.neS.eq ?q2) rfl))) (fun q => by cases q) fun _ => ?_
      case s1 => rw [q257s]; simp only [List.length_cons, List.length_nil]; omega
      case s2 => rw [q257h]; simp only [List.length_cons, List.length_nil]; omega
      case q1 => rw [qnil]; rfl
      case q2 => rw [qnil]; rfl
      case p1 =>
        rw [q257s]
        refine parse_none w (k := 59) _ rfl ?_ (by simp only [List.length_append, List.length_cons, List.length_nil]; omega)
        cases told with
        | nil => intro h; cases h
        | cons c t =>
          intro h
          have hc : c = 34 := by simpa using h
          exact A2 t (by rw [hc])
      case p2 =>
        rw [q257h]
        exact parse_none w (k := 59) _ rfl (fun h => by cases h) (by simp only [List.length_append, List.length_cons, List.length_nil]; omega)
      simp only [List.nil_append]
      refine Ex.ite (b := false) (Ts.cmp (Ev.name rfl (by decide)) ((Ev.comp lkI lkI (xs := lost) (p := fun n => decide (n + leastOf marks < 20)) (f := fun n => n + leastOf marks) [(Str.ofString "least", .int (leastOf marks))] (Src.list (Ev.name rfl (by decide))) ?sco ?cap (.inl rfl) ⟨?tests, ?elt⟩ ?hz (fun _ _ => rfl)).eq (m' := .il gone) ?eq) (Cm.neL.eq (by simp)) rfl) (fun q => by cases q) fun _ => ?_
      case sco => exact CScope.of' rfl (by kernel_rfl)
      case cap => (repeat' first | exact caps_nil | exact rfl | refine caps_cons ?_ ?_ ?_)
      case tests => exact .inr ⟨_, rfl, fun a ha => Ts.cmp (Ev.bin (Ev.name rfl (by decide)) (Ev.name rfl (by decide)) Bin.addI) Ev.int Cm.ltI rfl⟩
      case elt => exact fun a ha _ => (Ev.bin (Ev.name rfl (by decide)) (Ev.name rfl (by decide)) Bin.addI).weak
      case hz => omega
      case eq => exact congrArg MV.il A3.symm
      simp only [List.nil_append]
      have hmm : ∀ m ∈ marks.filter (fun m => decide (m < 6)), 1 ≤ m := fun m hm => (hmi m (List.mem_filter.mp hm).1).1
      have hml6 : (marks.filter fun m => decide (m < 6)).length ≤ 40 := by have := List.length_filter_le (fun m => decide (m < 6)) marks; omega
      refine Ex.set ((As.comp lkI lkI (xs := marks) (p := fun m => decide (m < 6)) (f := fun m => m) [] (Src.list (Ev.name rfl (by decide))) ?sco ?cap (.inl rfl) ⟨?tests, ?elt⟩ ?hz (fun _ _ => rfl) rfl ?sw).eq (m' := .il (marks.filter fun m => decide (m < 6))) ?eq) (.inl rfl) (List.not_mem_nil) ?_
      case sco => exact CScope.of' rfl (by kernel_rfl)
      case cap => (repeat' first | exact caps_nil | exact rfl | refine caps_cons ?_ ?_ ?_)
      case tests => exact .inr ⟨_, rfl, fun a ha => Ts.cmp (Ev.name rfl (by decide)) Ev.int Cm.ltI rfl⟩
      case elt => exact fun a ha _ => (Ev.name rfl (by decide))
      case hz => omega
      case sw => exact fun env O => swaps_local O rfl rfl (by kernel_rfl)
      case eq => exact congrArg MV.il (by simp)
      generalize (marks.filter fun m => decide (m < 6)) = moves at hmm hml6 A5 ⊢
      refine Ex.set (As.ev (Ev.call (Gl.own rfl rfl (by decide)) rfl (Evs.cons (Ev.name rfl (by decide)) (Evs.cons Ev.bool Evs.nil fun _ _ => rfl) fun _ _ => rfl) (pairs_fn w (k := 59) moves true hmm hml6) fun _ _ => rfl) (by first | exact .inl rfl | exact .inr rfl) (fun _ => rfl)) (.inl rfl) (List.not_mem_nil) ?_
      refine Ex.set (As.ev (Ev.call (Gl.own rfl rfl (by decide)) rfl (Evs.cons (Ev.name rfl (by decide)) (Evs.cons Ev.bool Evs.nil fun _ _ => rfl) fun _ _ => rfl) (pairs_fn w (k := 59) moves false hmm hml6) fun _ _ => rfl) (by first | exact .inl rfl | exact .inr rfl) (fun _ => rfl)) (.inl rfl) (List.not_mem_nil) ?_
      have ht1 := tabP_len moves true 6
      have ht2 := tabP_len moves false 6
      have hr1 := tabP_row moves true 6
      have hr2 := tabP_row moves false 6
      generalize tabP moves true 6 = t1 at ht1 hr1 A5 ⊢
      generalize tabP moves false 6 = t2 at ht2 hr2 A5 ⊢
      refine Ex.set ((As.comp lkI lkI (xs := lost ++ gone) (p := fun n => decide (n < 6)) (f := fun n => n) [] (Src.list (Ev.bin (Ev.name rfl (by decide)) (Ev.name rfl (by decide)) (Bin.addL lkI ?z1))) ?sco ?cap (.inl rfl) ⟨?tests, ?elt⟩ ?hz (fun _ _ => rfl) rfl ?sw).eq (m' := .il ((lost ++ gone).filter fun n => decide (n < 6))) ?eq) (.inl rfl) (List.not_mem_nil) ?_
      case z1 => omega
      case sco => exact CScope.of' rfl (by kernel_rfl)
      case cap => (repeat' first | exact caps_nil | exact rfl | refine caps_cons ?_ ?_ ?_)
      case tests => exact .inr ⟨_, rfl, fun a ha => Ts.cmp (Ev.name rfl (by decide)) Ev.int Cm.ltI rfl⟩
      case elt => exact fun a ha _ => (Ev.name rfl (by decide))
      case hz => rw [List.length_append]; omega
      case sw => exact fun env O => swaps_local O rfl rfl (by kernel_rfl)
      case eq => exact congrArg MV.il (by simp)
      have hsm : ∀ i ∈ (lost ++ gone).filter (fun n => decide (n < 6)), 0 ≤ i ∧ i < 6 ∧ i ∈ lost ++ gone := fun i hi => by
        obtain ⟨h1, h2⟩ := List.mem_filter.mp hi
        exact ⟨A4 i h1, by simpa using h2, h1⟩
      generalize ((lost ++ gone).filter fun n => decide (n < 6)) = sm at hsm ⊢
      have hget : ∀ (t : List (List Bool)) (i k : Int), t.length = 6 → (∀ r ∈ t, r.length = 6) → 0 ≤ i → i < 6 → 0 ≤ k → k < 6 → ∃ r, t[i.toNat]? = some r ∧ r[k.toNat]? = some (cellT t i k) := fun t i k h1 h2 h3 h4 h5 h6 => by
        have hg := getD_at t [] (show i.toNat < t.length by omega)
        have hl := h2 _ (List.mem_of_getElem? hg)
        exact ⟨_, hg, getD_at _ false (by omega)⟩
      refine Ex.for (σ := Unit) lkI (fun _ => [(Str.ofString "first", .tb t1), (Str.ofString "second", .tb t2), (Str.ofString "small", .il sm), (Str.ofString "told", .str told), (Str.ofString "other", .str other), (Str.ofString "lost", .il lost), (Str.ofString "marks", .il marks)]) (fun _ _ => True) (xs := sm) (SrcF.name rfl (List.not_mem_nil) (by decide)) (List.not_mem_nil) (by first | exact .inl rfl | exact .inr rfl) (fun _ _ => rfl) () trivial ?_ ?_ ?_
      · (repeat' first | exact sub_nil | exact rfl | refine sub_cons ?_ ?_ | ((refine (rfl : _ = some (MV.int _)).trans (congrArg (fun z => some (MV.int z)) ?_)); first | omega | (simp; omega)) | ((refine (rfl : _ = some (MV.str _)).trans (congrArg (fun z => some (MV.str z)) ?_)); first | assumption | (simp; done)))
      · rintro ii i ⟨⟩ hi _
        obtain ⟨i0, i6, hil⟩ := hsm i (List.mem_of_getElem? hi)
        refine Ex.for (σ := Unit) lkI (fun _ => [(Str.ofString "i", .int i), (Str.ofString "first", .tb t1), (Str.ofString "second", .tb t2), (Str.ofString "small", .il sm), (Str.ofString "told", .str told), (Str.ofString "other", .str other), (Str.ofString "lost", .il lost), (Str.ofString "marks", .il marks)]) (fun _ _ => True) (xs := sm) (SrcF.name rfl (List.not_mem_nil) (by decide)) (List.not_mem_nil) (by first | exact .inl rfl | exact .inr rfl) (fun _ _ => rfl) () trivial ?_ ?_ ?_
        · (repeat' first | exact sub_nil | exact rfl | refine sub_cons ?_ ?_ | ((refine (rfl : _ = some (MV.int _)).trans (congrArg (fun z => some (MV.int z)) ?_)); first | omega | (simp; omega)) | ((refine (rfl : _ = some (MV.str _)).trans (congrArg (fun z => some (MV.str z)) ?_)); first | assumption | (simp; done)))
        · rintro kk k ⟨⟩ hk _
          obtain ⟨k0, k6, hkl⟩ := hsm k (List.mem_of_getElem? hk)
          obtain ⟨p1, p2⟩ := A5 i hil i6 k hkl k6
          obtain ⟨r1, q1, q2⟩ := hget t1 i k ht1 hr1 i0 i6 k0 k6
          obtain ⟨r2, q3, q4⟩ := hget t2 i k ht2 hr2 i0 i6 k0 k6
          refine Ex.set (As.ev (Ev.cmp (Ev.cmp (Ev.name rfl (by decide)) (Ev.name rfl (by decide)) Cm.inL rfl) (Ev.cmp (Ev.name rfl (by decide)) (Ev.name rfl (by decide)) Cm.inL rfl) Cm.eqB rfl) (by first | exact .inl rfl | exact .inr rfl) (fun _ => rfl)) (.inl rfl) (List.not_mem_nil) ?_
          refine Ex.ite (b := false) ((Ts.or (a := false) (b := false) (Ts.cmp (Ev.item lkB (Ev.itemTB (Ev.name rfl (by decide)) (Ev.name rfl (by decide)) i0 (by omega) q1 fun _ _ => rfl) (Ev.name rfl (by decide)) k0 (by omega) q2 fun _ _ => rfl) (Ev.name rfl (by decide)) (Cm.neB.eq ?b1) rfl)
            (fun _ => Ts.cmp (Ev.item lkB (Ev.itemTB (Ev.name rfl (by decide)) (Ev.name rfl (by decide)) i0 (by omega) q3 fun _ _ => rfl) (Ev.name rfl (by decide)) k0 (by omega) q4 fun _ _ => rfl) (Ev.name rfl (by decide)) (Cm.eqB.eq ?b2) rfl))) (fun q => by cases q) fun _ => ?_
          case b1 => rw [p1]; simp
          case b2 => simpa using p2
          exact Ex.nil ⟨fun _ h => h, (), trivial, by (repeat' first | exact sub_nil | exact rfl | refine sub_cons ?_ ?_ | ((refine (rfl : _ = some (MV.int _)).trans (congrArg (fun z => some (MV.int z)) ?_)); first | omega | (simp; omega)) | ((refine (rfl : _ = some (MV.str _)).trans (congrArg (fun z => some (MV.str z)) ?_)); first | assumption | (simp; done)))⟩
        · rintro ⟨⟩ _
          exact Ex.nil ⟨fun _ h => h, (), trivial, by (repeat' first | exact sub_nil | exact rfl | refine sub_cons ?_ ?_ | ((refine (rfl : _ = some (MV.int _)).trans (congrArg (fun z => some (MV.int z)) ?_)); first | omega | (simp; omega)) | ((refine (rfl : _ = some (MV.str _)).trans (congrArg (fun z => some (MV.str z)) ?_)); first | assumption | (simp; done)))⟩
      · rintro ⟨⟩ _
        have hvl := valsF_len marks 20
        have hm1 : ∀ m ∈ marks, 1 ≤ m := fun m hm => (hmi m hm).1
        refine Ex.set (As.ev (Ev.call (Gl.own rfl rfl (by decide)) rfl (Evs.cons (Ev.name rfl (by decide)) Evs.nil fun _ _ => rfl) (values_fn w (k := 59) marks hm1 (by omega)) fun _ _ => rfl) (by first | exact .inl rfl | exact .inr rfl) (fun _ => rfl)) (.inl rfl) (List.not_mem_nil) ?_
        refine Ex.ret (Ev.and (Ev.cmp (Ev.name rfl (by decide)) (Ev.call (Gl.own rfl rfl (by decide)) rfl (Evs.cons (Ev.name rfl (by decide)) (Evs.cons (Ev.name rfl (by decide)) (Evs.cons Ev.int Evs.nil fun _ _ => rfl) fun _ _ => rfl) fun _ _ => rfl) (due_fn w (k := 59) marks (valsF marks 20) 0 hm1 (by omega) hvl) fun _ _ => rfl) Cm.eqS rfl)
          (fun _ => Ev.cmp (Ev.name rfl (by decide)) (Ev.call (Gl.own rfl rfl (by decide)) rfl (Evs.cons (Ev.name rfl (by decide)) (Evs.cons (Ev.name rfl (by decide)) (Evs.cons Ev.int Evs.nil fun _ _ => rfl) fun _ _ => rfl) fun _ _ => rfl) (due_fn w (k := 59) marks (valsF marks 20) 1 hm1 (by omega) hvl) fun _ _ => rfl) Cm.eqS rfl)) ?_
        show MF.ret (.bool _) = MF.ret (.bool true)
        rw [A6, A7]; simp)
end Mine

end
theorem PySem.Challenge.cw_pk0021_02_holds : PySem.Challenge.rw_pk0021_02.Holds :=
  Mine.walked
