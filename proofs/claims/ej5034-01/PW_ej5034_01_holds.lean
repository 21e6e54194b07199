import PyProof.Rows.All
import Wide.All
import OpenK.AllK
import Wide.FinOn
import KE.KBytesCut
import KE.BytesMake
import KE.KFromBytes
import PyProof.IsiHeapPairs
import PyProof.CompFree
import PyProof.CompUse
import PyProof.SliceMore
import PyProof.WalkInts
import PyProof.IsRules
import PyProof.Rows.RaiseClass
import OpenK.KOps
import KE.KxPercent
import PyProof.ExcFactsAll.IndexError
import PyProof.ListNew
import Lean
import PySem.Challenge.RW_ej5034_01
set_option Elab.async false
section
open PySem PySem.W PyProof.Rows
set_option Elab.async false
namespace Mine

/-- partial maps from addresses -/
abbrev Mp := Addr → Option Obj
def upd (m : Mp) (a : Addr) (o : Obj) : Mp := fun b => if b = a then some o else m b
def Le (f g : Mp) : Prop := ∀ a o, f a = some o → g a = some o
theorem Le.refl (f : Mp) : Le f f := fun _ _ h => h
theorem Le.trans {f g h : Mp} (a : Le f g) (b : Le g h) : Le f h := fun x o e => b x o (a x o e)
theorem upd_same (m : Mp) (a : Addr) (o : Obj) : upd m a o a = some o := by simp [upd]
theorem upd_ne {m : Mp} {a b : Addr} {o : Obj} (h : b ≠ a) : upd m a o b = m b := by simp [upd, h]
theorem le_upd {m : Mp} {a : Addr} {o : Obj} (h : m a = none) : Le m (upd m a o) := fun b x e => by
  by_cases q : b = a
  · subst q; rw [h] at e; cases e
  · rw [upd_ne q]; exact e

structure Fram where
  env : Env
  ns : List Str
  vs : List (Option Value)
  real : Bool := true

structure St where
  fr : List Fram
  F : Mp
  U : Mp

def LocOk (h : Heap) (f : Fram) : Prop := ∃ m, h.Ns f.env.locals m ∧ ∀ (i : Nat) (x : Str) (v : Value), f.ns[i]? = some x → f.vs[i]? = some (some v) → m x = some v
structure FrOk (g : Heap) (F U : Mp) (f : Fram) : Prop where
  frame : f.real = true → f.env.frame = some f.env.locals
  kind : f.env.scope.kind = .function
  high : g.get? f.env.locals = none
  nF : F f.env.locals = none
  nU : U f.env.locals = none

structure Own (s₁ : Shared) (σ : St) (s : Shared) : Prop where
  same : ∃ h tk, s = { s₁ with heap := h, toks := tk }
  ground : ∀ b o, s₁.heap.get? b = some o → s.heap.get? b = some o
  frz : ∀ b o, σ.F b = some o → s.heap.get? b = some o
  mts : ∀ b o, σ.U b = some o → s.heap.get? b = some o
  sep : ∀ b o, σ.U b = some o → σ.F b = none ∧ s₁.heap.get? b = none
  frs : ∀ f ∈ σ.fr, FrOk s₁.heap σ.F σ.U f
  loc : ∀ f ∈ σ.fr, LocOk s.heap f
  apart : (σ.fr.map (·.env.locals)).Pairwise (· ≠ ·)

theorem LocOk.lt {h : Heap} {f : Fram} (x : LocOk h f) : f.env.locals < h.objs.size := let ⟨_, n, _⟩ := x; n.lt
theorem LocOk.keeps {h h' : Heap} {f : Fram} (x : LocOk h f) (k : ∀ o, h.get? f.env.locals = some o → h'.get? f.env.locals = some o) : LocOk h' f :=
  let ⟨m, ⟨o, es, ep, ho, r⟩, q⟩ := x; ⟨m, ⟨o, es, ep, k _ ho, r⟩, q⟩

section
variable {s₁ s : Shared} {σ : St}

theorem Own.toks (O : Own s₁ σ s) (t : Nat) : Own s₁ σ { s with toks := t } := by
  obtain ⟨⟨h, tk, rfl⟩, b, c, d, e, f, g, i⟩ := O
  exact ⟨⟨h, t, rfl⟩, b, c, d, e, f, g, i⟩

/-- any heap that keeps all objects -/
theorem Own.ext (O : Own s₁ σ s) {h' : Heap} (k : ∀ b o, s.heap.get? b = some o → h'.get? b = some o) {tk : Nat} : Own s₁ σ { s with heap := h', toks := tk } := by
  obtain ⟨⟨h, tk', rfl⟩, b, c, d, e, f, g, i⟩ := O
  exact ⟨⟨h', tk, rfl⟩, fun a o x => k _ _ (b a o x), fun a o x => k _ _ (c a o x), fun a o x => k _ _ (d a o x), e, f, fun y hy => (g y hy).keeps fun o x => k _ _ x, i⟩

/-- a heap that keeps all objects but one that nobody owns -/
theorem Own.extBut (O : Own s₁ σ s) {h' : Heap} {a : Addr} (hF : σ.F a = none) (hU : σ.U a = none) (hG : s₁.heap.get? a = none) (hL : ∀ f ∈ σ.fr, f.env.locals ≠ a)
    (k : ∀ b o, b ≠ a → s.heap.get? b = some o → h'.get? b = some o) {tk : Nat} : Own s₁ σ { s with heap := h', toks := tk } := by
  obtain ⟨⟨h, tk', rfl⟩, b, c, d, e, f, g, i⟩ := O
  refine ⟨⟨h', tk, rfl⟩, fun x o y => k _ _ ?_ (b x o y), fun x o y => k _ _ ?_ (c x o y), fun x o y => k _ _ ?_ (d x o y), e, f, fun y hy => (g y hy).keeps fun o x => k _ _ (hL y hy) x, i⟩
  · rintro rfl; rw [hG] at y; cases y
  · rintro rfl; rw [hF] at y; cases y
  · rintro rfl; rw [hU] at y; cases y

structure Frsh (s₁ : Shared) (σ : St) (a : Addr) : Prop where
  nF : σ.F a = none
  nU : σ.U a = none
  nL : ∀ f ∈ σ.fr, f.env.locals ≠ a
  high : s₁.heap.get? a = none

theorem Own.fresh (O : Own s₁ σ s) {a : Addr} (h : s.heap.get? a = none) : Frsh s₁ σ a := by
  refine ⟨?_, ?_, fun f hf e => ?_, ?_⟩
  · cases q : σ.F a with
    | none => rfl
    | some o => have := O.frz a o q; rw [h] at this; cases this
  · cases q : σ.U a with
    | none => rfl
    | some o => have := O.mts a o q; rw [h] at this; cases this
  · obtain ⟨m, ⟨o, _, _, ho, _⟩, _⟩ := O.loc f hf
    rw [e, h] at ho; cases ho
  · cases q : s₁.heap.get? a with
    | none => rfl
    | some o => have := O.ground a o q; rw [h] at this; cases this
theorem get_size (h : Heap) : h.get? h.objs.size = none := by
  cases q : h.get? h.objs.size with
  | none => rfl
  | some o => exact absurd (Heap.lt_size q) (Nat.lt_irrefl _)

/-- a new object, frozen at once -/
theorem Own.pushF (O : Own s₁ σ s) (o : Obj) (hf : o.isFreed = false) :
    Frsh s₁ σ s.heap.objs.size ∧ Own s₁ { σ with F := upd σ.F s.heap.objs.size o } { s with heap := s.heap.push o } := by
  obtain ⟨n1, n2, n3, hs⟩ := O.fresh (get_size s.heap)
  have O' := O.ext (h' := s.heap.push o) (fun b x e => Heap.get?_push_of_some o e) (tk := s.toks)
  refine ⟨⟨n1, n2, n3, hs⟩, ⟨O'.same, O'.ground, fun b x e => ?_, O'.mts, fun b x e => ⟨?_, (O.sep b x e).2⟩, fun f h => ?_, O'.loc, O.apart⟩⟩
  · dsimp only at e
    by_cases q : b = s.heap.objs.size
    · subst q; rw [upd_same] at e; cases e; exact Heap.get?_push_size _ hf
    · rw [upd_ne q] at e; exact Heap.get?_push_of_some o (O.frz b x e)
  · have : b ≠ s.heap.objs.size := by rintro rfl; rw [n2] at e; cases e
    show upd σ.F _ o b = none
    rw [upd_ne this]; exact (O.sep b x e).1
  · obtain ⟨a1, a2, a3, a4, a5⟩ := O.frs f h
    exact ⟨a1, a2, a3, by show upd σ.F _ o _ = none; rw [upd_ne (n3 f h)]; exact a4, a5⟩

/-- a new object, mutable -/
theorem Own.pushU (O : Own s₁ σ s) (o : Obj) (hf : o.isFreed = false) :
    Frsh s₁ σ s.heap.objs.size ∧ Own s₁ { σ with U := upd σ.U s.heap.objs.size o } { s with heap := s.heap.push o } := by
  obtain ⟨n1, n2, n3, hs⟩ := O.fresh (get_size s.heap)
  have O' := O.ext (h' := s.heap.push o) (fun b x e => Heap.get?_push_of_some o e) (tk := s.toks)
  refine ⟨⟨n1, n2, n3, hs⟩, ⟨O'.same, O'.ground, O'.frz, fun b x e => ?_, fun b x e => ?_, fun f h => ?_, O'.loc, O.apart⟩⟩
  · dsimp only at e
    by_cases q : b = s.heap.objs.size
    · subst q; rw [upd_same] at e; cases e; exact Heap.get?_push_size _ hf
    · rw [upd_ne q] at e; exact Heap.get?_push_of_some o (O.mts b x e)
  · dsimp only at e
    by_cases q : b = s.heap.objs.size
    · subst q; exact ⟨n1, hs⟩
    · rw [upd_ne q] at e; exact O.sep b x e
  · obtain ⟨a1, a2, a3, a4, a5⟩ := O.frs f h
    exact ⟨a1, a2, a3, a4, by show upd σ.U _ o _ = none; rw [upd_ne (n3 f h)]; exact a5⟩

/-- a change of a mutable object -/
theorem Own.setU (O : Own s₁ σ s) {a : Addr} {o o' : Obj} (ha : σ.U a = some o) {h' : Heap} (hn : h'.get? a = some o') (hs : Heap.SameBut a s.heap h') {tk : Nat} :
    Own s₁ { σ with U := upd σ.U a o' } { s with heap := h', toks := tk } := by
  obtain ⟨⟨h, tk', rfl⟩, b, c, d, e, f, g, i⟩ := O
  have hl : ∀ y ∈ σ.fr, y.env.locals ≠ a := fun y hy q => by have := (f y hy).nU; rw [q, ha] at this; cases this
  refine ⟨⟨h', tk, rfl⟩, fun x o y => (hs.2 x ?_).trans (b x o y), fun x o y => (hs.2 x ?_).trans (c x o y), fun x o y => ?_, fun x o y => ?_, fun y hy => ?_, fun y hy => (g y hy).keeps fun o x => (hs.2 _ (hl y hy)).trans x, i⟩
  · rintro rfl; rw [(e _ _ ha).2] at y; cases y
  · rintro rfl; rw [(e _ _ ha).1] at y; cases y
  · by_cases q : x = a
    · subst q; have y' : upd σ.U x o' x = some o := y; rw [upd_same] at y'; cases y'; exact hn
    · have y' : upd σ.U a o' x = some o := y; rw [upd_ne q] at y'; exact (hs.2 x q).trans (d x o y')
  · by_cases q : x = a
    · subst q; exact e _ _ ha
    · have y' : upd σ.U a o' x = some o := y; rw [upd_ne q] at y'; exact e x o y'
  · obtain ⟨a1, a2, a3, a4, a5⟩ := f y hy
    exact ⟨a1, a2, a3, a4, by show upd σ.U a o' _ = none; rw [upd_ne (hl y hy)]; exact a5⟩

/-- forget mutable objects -/
theorem Own.dropU (O : Own s₁ σ s) {U' : Mp} (k : Le U' σ.U) : Own s₁ { σ with U := U' } s := by
  obtain ⟨a, b, c, d, e, f, g, i⟩ := O
  have no : ∀ x, σ.U x = none → U' x = none := fun x h => by
    cases q : U' x with
    | none => rfl
    | some o => have := k _ _ q; rw [h] at this; cases this
  refine ⟨a, b, c, fun x o y => d x o (k _ _ y), fun x o y => e x o (k _ _ y), fun y hy => ?_, g, i⟩
  obtain ⟨a1, a2, a3, a4, a5⟩ := f y hy
  exact ⟨a1, a2, a3, a4, no _ a5⟩
theorem Own.dropF (O : Own s₁ σ s) {F' : Mp} (k : Le F' σ.F) : Own s₁ { σ with F := F' } s := by
  obtain ⟨a, b, c, d, e, f, g, i⟩ := O
  have no : ∀ x, σ.F x = none → F' x = none := fun x h => by
    cases q : F' x with
    | none => rfl
    | some o => have := k _ _ q; rw [h] at this; cases this
  refine ⟨a, b, fun x o y => c x o (k _ _ y), d, fun x o y => ⟨no _ (e x o y).1, (e x o y).2⟩, fun y hy => ?_, g, i⟩
  obtain ⟨a1, a2, a3, a4, a5⟩ := f y hy
  exact ⟨a1, a2, a3, no _ a4, a5⟩

/-- a mutable object is frozen -/
theorem Own.freeze (O : Own s₁ σ s) {a : Addr} {o : Obj} (ha : σ.U a = some o) : Own s₁ { σ with F := upd σ.F a o, U := fun b => if b = a then none else σ.U b } s := by
  obtain ⟨x1, b, c, d, e, f, g, i⟩ := O
  have hl : ∀ y ∈ σ.fr, y.env.locals ≠ a := fun y hy q => by have := (f y hy).nU; rw [q, ha] at this; cases this
  refine ⟨x1, b, fun x o' y => ?_, fun x o' y => ?_, fun x o' y => ?_, fun y hy => ?_, g, i⟩
  · by_cases q : x = a
    · subst q; have y' : upd σ.F x o x = some o' := y; rw [upd_same] at y'; cases y'; exact d _ _ ha
    · have y' : upd σ.F a o x = some o' := y; rw [upd_ne q] at y'; exact c x o' y'
  · have y' : (if x = a then none else σ.U x) = some o' := y
    split at y'
    · cases y'
    · exact d x o' y'
  · have y' : (if x = a then none else σ.U x) = some o' := y
    split at y'
    · cases y'
    · rename_i q; exact ⟨by show upd σ.F a o x = none; rw [upd_ne q]; exact (e x o' y').1, (e x o' y').2⟩
  · obtain ⟨a1, a2, a3, a4, a5⟩ := f y hy
    exact ⟨a1, a2, a3, by show upd σ.F a o _ = none; rw [upd_ne (hl y hy)]; exact a4, by show (if y.env.locals = a then none else σ.U _) = none; rw [if_neg (hl y hy)]; exact a5⟩

theorem Own.pop {f : Fram} {r : List Fram} {F U : Mp} (O : Own s₁ ⟨f :: r, F, U⟩ s) : Own s₁ ⟨r, F, U⟩ s := by
  obtain ⟨a, b, c, d, e, g, h, i⟩ := O
  exact ⟨a, b, c, d, e, fun y hy => g y (.tail _ hy), fun y hy => h y (.tail _ hy), (List.pairwise_cons.mp i).2⟩
end
end Mine
end

section
open PySem PySem.W PyProof.Rows
set_option Elab.async false
namespace Mine

structure Cx where
  prog : Program
  w : World
  s₁ : Shared

/-- from every owned state, t does not raise, and ends owned, with Q -/
def W {α : Type} (X : Cx) (A : Around) (σ : St) (t : Sem α) (Q : α → St → Prop) : Prop :=
  ∀ (s : Shared) (E : Value → Shared → Prop), Own X.s₁ σ s → wpAny (model X.prog X.w) A t (fun a s' => ∃ σ', Own X.s₁ σ' s' ∧ Q a σ') E s

section
variable {α β : Type} {X : Cx} {A : Around} {σ : St} {env : Env}

theorem W.go {t : Sem α} {Q : α → St → Prop} {s : Shared} {E : Value → Shared → Prop} {P : α → Shared → Prop} (h : W X A σ t Q) (O : Own X.s₁ σ s)
    (k : ∀ a s' σ', Own X.s₁ σ' s' → Q a σ' → P a s') : wpAny (model X.prog X.w) A t P E s :=
  wpAny_mono (h s E O) (fun a s' ⟨σ', O', q⟩ => k a s' σ' O' q) fun _ _ e => e
theorem W.mono {t : Sem α} {Q Q' : α → St → Prop} (h : W X A σ t Q) (k : ∀ a σ', Q a σ' → Q' a σ') : W X A σ t Q' :=
  fun _ _ O => h.go O fun a _ σ' O' q => ⟨σ', O', k a σ' q⟩
theorem W_pure {a : α} {Q : α → St → Prop} (h : Q a σ) : W X A σ (pure a) Q := fun _ _ O => wpAny_pure ⟨σ, O, h⟩
theorem W_bind {m : Sem α} {f : α → Sem β} {Q : β → St → Prop} (h : W X A σ m fun a σ' => W X A σ' (f a) Q) : W X A σ (m >>= f) Q :=
  fun s E O => wpAny_bind (h.go O fun a s' _ O' q => q s' E O')
theorem W_holding {vs : List Value} {m : Sem α} {Q : α → St → Prop} (h : W X A σ m Q) : W X A σ (holding vs m) Q := fun s E O => wpAny_holding (h s E O)
theorem W_standAt {pos : Pos} {Q : Unit → St → Prop} (h : Q () σ) : W X A σ (standAt pos) Q := fun _ _ O => wpAny_standAt ⟨σ, O, h⟩

/-! statements -/
theorem W_execs_nil {Q : Flow → St → Prop} (h : Q .next σ) : W X A σ (execs [] env) Q := fun _ _ O => wpAny_execs_nil ⟨σ, O, h⟩
/-- what comes of a statement: the next ones, or an end -/
def Then (X : Cx) (A : Around) (rest : List Stmt) (env : Env) (Q : Flow → St → Prop) (f : Flow) (σ : St) : Prop :=
  match f with
  | .next => W X A σ (execs rest env) Q
  | .brk => Q .brk σ
  | .cont => Q .cont σ
  | .ret v => Q (.ret v) σ
theorem W_execs_cons {st : Stmt} {rest : List Stmt} {Q : Flow → St → Prop} (h : W X A σ (exec st env) (Then X A rest env Q)) : W X A σ (execs (st :: rest) env) Q := by
  intro s E O
  refine wpAny_execs_cons (h.go O fun f s' σ' O' q => ?_)
  cases f with
  | next => exact q s' E O'
  | brk => exact ⟨σ', O', q⟩
  | cont => exact ⟨σ', O', q⟩
  | ret v => exact ⟨σ', O', q⟩
theorem W_If {test : Expr} {body orelse : List Stmt} {pos : Pos} {Q : Flow → St → Prop}
    (h : W X A σ (isTrue test env (eval test env)) fun b σ' => if b = true then W X A σ' (execs body env) Q else W X A σ' (execs orelse env) Q) : W X A σ (exec (.If test body orelse pos) env) Q := by
  intro s E O
  refine wpAny_If (h.go O fun b s' σ' O' q => ?_)
  cases b
  · exact q s' E O'
  · exact q s' E O'
theorem W_Assign_Name {x : Str} {p pos : Pos} {value : Expr} {Q : Flow → St → Prop}
    (h : W X A σ (eval value env) fun v σ' => W X A σ' (storeName env x v) fun _ => Q .next) (hs : swapsWith value (some (.Name x p)) pos.line env = pure false := by rfl) :
    W X A σ (exec (.Assign [.Name x p] value pos) env) Q :=
  fun s E O => wpAny_Assign_Name (h.go O fun v s' σ' O' q => q s' E O') hs
theorem W_Assign_Tuple {elts : List Expr} {k : Nat} {tpos pos : Pos} {value : Expr} {Q : Flow → St → Prop}
    (h : W X A σ (eval value env) fun v σ' => W X A σ' (assign (.Tuple elts k tpos) env v) fun _ => Q .next)
    (hs : swapsWithSole [.Tuple elts k tpos] value pos.line env = pure false := by rfl) (hw : swappedStores [.Tuple elts k tpos] value env = pure none := by rfl) :
    W X A σ (exec (.Assign [.Tuple elts k tpos] value pos) env) Q :=
  fun s E O => Assign_Tuple (h.go O fun v s' σ' O' q => q s' E O') hs hw
theorem W_Assign_Attribute {o value : Expr} {attr : Str} {p pos : Pos} {Q : Flow → St → Prop}
    (h : W X A σ (eval value env) fun v σ' => W X A σ' (eval o env) fun ov σ'' => W X A σ'' (setAttr ov attr v) fun _ => Q .next)
    (hs : swapsWith value (some (.Attribute o attr p)) pos.line env = pure false := by rfl) : W X A σ (exec (.Assign [.Attribute o attr p] value pos) env) Q :=
  fun s E O => plainObj_wpAny_Assign_Attribute (h.go O fun v s' σ' O' q => q.go O' fun ov s'' σ'' O'' q' => q' s'' E O'') hs
theorem W_Assign_Subscript {o i value : Expr} {p pos : Pos} {Q : Flow → St → Prop}
    (h : W X A σ (eval value env) fun v σ' => W X A σ' (eval o env) fun ov σ'' => W X A σ'' (eval i env) fun iv σ₃ => W X A σ₃ (setItem ov iv v) fun _ => Q .next)
    (hs : swapsWith value (some (.Subscript o i p)) pos.line env = pure false := by rfl) : W X A σ (exec (.Assign [.Subscript o i p] value pos) env) Q :=
  fun s E O => wpAny_Assign_Subscript (h.go O fun v s' σ' O' q => q.go O' fun ov s'' σ'' O'' q' => q'.go O'' fun iv s₃ σ₃ O₃ q₃ => q₃ s₃ E O₃) hs
theorem W_AugAssign_Name {x : Str} {p pos : Pos} {op : Operator} {value : Expr} {Q : Flow → St → Prop}
    (h : W X A σ (loadName env x) fun old σ₁ => W X A σ₁ (eval value env) fun v σ₂ => W X A σ₂ (inplaceOp op old v) fun r σ₃ => W X A σ₃ (storeName env x r) fun _ => Q .next) :
    W X A σ (exec (.AugAssign (.Name x p) op value pos) env) Q :=
  fun s E O => wpAny_AugAssign_Name (h.go O fun old s₁ σ₁ O₁ q₁ => q₁.go O₁ fun v s₂ σ₂ O₂ q₂ => q₂.go O₂ fun r s₃ σ₃ O₃ q₃ => q₃ s₃ E O₃)
theorem W_Expr {e : Expr} {pos : Pos} {Q : Flow → St → Prop} (h : W X A σ (eval e env) fun _ => Q .next)
    (hi : interactive env = false := by rfl) (hs : swapsWith e none pos.line env = pure false := by rfl) : W X A σ (exec (.Expr e pos) env) Q :=
  fun s E O => wpAny_Expr_any (h s E O) hi hs
theorem W_Return {e : Expr} {pos : Pos} {Q : Flow → St → Prop} (h : W X A σ (eval e env) fun v => Q (.ret v)) : W X A σ (exec (.Return (some e) pos) env) Q :=
  fun s E O => wpAny_Return_some (h s E O)
theorem W_Assert {test : Expr} {msg : Option Expr} {pos : Pos} {Q : Flow → St → Prop} (h : W X A σ (isTrue test env (eval test env)) fun b σ' => b = true ∧ Q .next σ') :
    W X A σ (exec (.Assert test msg pos) env) Q :=
  fun s E O => wpAny_Assert_holds (h.go O fun b s' σ' O' q => ⟨q.1, σ', O', q.2⟩)

/-! expressions -/
theorem W_int {i : Int} {k : Nat} {pos : Pos} {Q : Value → St → Prop} (h : ∀ t, Q (.int i t) σ) : W X A σ (eval (.Constant (.int i) k pos) env) Q :=
  fun _ _ O => wpAny_Constant_int ⟨σ, O.toks _, h _⟩
theorem W_none {k : Nat} {pos : Pos} {Q : Value → St → Prop} (h : Q .none σ) : W X A σ (eval (.Constant .none k pos) env) Q := fun _ _ O => wpAny_Constant_none ⟨σ, O, h⟩
theorem W_bool {b : Bool} {k : Nat} {pos : Pos} {Q : Value → St → Prop} (h : Q (.bool b) σ) : W X A σ (eval (.Constant (.bool b) k pos) env) Q := fun _ _ O => wpAny_Constant_bool ⟨σ, O, h⟩
theorem W_str {x : Str} {k : Nat} {pos : Pos} {Q : Value → St → Prop} (h : ∀ t, Q (.str x t) σ) : W X A σ (eval (.Constant (.str x) k pos) env) Q :=
  fun _ _ O => wpAny_Constant_str ⟨σ, O.toks _, h _⟩
theorem W_BinOp {l r : Expr} {op : Operator} {pos : Pos} {Q : Value → St → Prop}
    (h : W X A σ (eval l env) fun a σ₁ => W X A σ₁ (eval r env) fun b σ₂ => W X A σ₂ (binaryOp op a b) Q) : W X A σ (eval (.BinOp l op r pos) env) Q :=
  fun s E O => wpAny_BinOp (h.go O fun a s₁ σ₁ O₁ q₁ => q₁.go O₁ fun b s₂ σ₂ O₂ q₂ => q₂ s₂ E O₂)
theorem W_Compare {l r : Expr} {op : CmpOp} {pos : Pos} {Q : Value → St → Prop}
    (h : W X A σ (eval l env) fun a σ₁ => W X A σ₁ (eval r env) fun b σ₂ => W X A σ₂ (compareOp op a b) Q) (hm : behindInMarks op r = false := by with_unfolding_all rfl) : W X A σ (eval (.Compare l [op] [r] pos) env) Q :=
  fun s E O => wpAny_Compare1 (h.go O fun a s₁ σ₁ O₁ q₁ => q₁.go O₁ fun b s₂ σ₂ O₂ q₂ => q₂ s₂ E O₂) hm
theorem W_IfExp {test body orelse : Expr} {pos : Pos} {Q : Value → St → Prop}
    (h : W X A σ (isTrue test env (eval test env)) fun b σ' => if b = true then W X A σ' (eval body env) Q else W X A σ' (eval orelse env) Q) : W X A σ (eval (.IfExp test body orelse pos) env) Q := by
  intro s E O
  refine wpAny_IfExp (h.go O fun b s' σ' O' q => ?_)
  cases b
  · exact q s' E O'
  · exact q s' E O'
theorem W_And2 {x y : Expr} {pos : Pos} {Q : Value → St → Prop}
    (h : W X A σ (eval x env) fun v σ₁ => W X A σ₁ (truthy v) fun t σ₂ => if t = true then W X A σ₂ (eval y env) Q else Q v σ₂) : W X A σ (eval (.BoolOp .And [x, y] pos) env) Q := by
  intro s E O
  refine wpAny_And2 (h.go O fun v s₁ σ₁ O₁ q₁ => q₁.go O₁ fun t s₂ σ₂ O₂ q₂ => ?_)
  cases t
  · exact ⟨σ₂, O₂, q₂⟩
  · exact q₂ s₂ E O₂
theorem W_Or2 {x y : Expr} {pos : Pos} {Q : Value → St → Prop}
    (h : W X A σ (eval x env) fun v σ₁ => W X A σ₁ (truthy v) fun t σ₂ => if t = true then Q v σ₂ else W X A σ₂ (eval y env) Q) : W X A σ (eval (.BoolOp .Or [x, y] pos) env) Q := by
  intro s E O
  refine wpAny_Or2 (h.go O fun v s₁ σ₁ O₁ q₁ => q₁.go O₁ fun t s₂ σ₂ O₂ q₂ => ?_)
  cases t
  · exact q₂ s₂ E O₂
  · exact ⟨σ₂, O₂, q₂⟩
theorem W_Not {x : Expr} {pos : Pos} {Q : Value → St → Prop} (h : W X A σ (eval x env) fun v σ₁ => W X A σ₁ (truthy v) fun b => Q (.bool !b)) :
    W X A σ (eval (.UnaryOp .Not x pos) env) Q :=
  fun s E O => wpAny_UnaryOp (h.go O fun v s₁ σ₁ O₁ q₁ => not_value (q₁ s₁ E O₁))

/-! tests -/
theorem W_isTrue_Compare {l r : Expr} {op : CmpOp} {pos : Pos} {whole : Sem Value} {Q : Bool → St → Prop}
    (h : W X A σ (eval l env) fun a σ₁ => W X A σ₁ (eval r env) fun b σ₂ => W X A σ₂ (compareOp op a b) fun c σ₃ => W X A σ₃ (truthy c) Q) (hm : behindInMarks op r = false := by with_unfolding_all rfl) :
    W X A σ (isTrue (.Compare l [op] [r] pos) env whole) Q :=
  fun s E O => wpAny_isTrue_Compare1 (h.go O fun a s₁ σ₁ O₁ q₁ => q₁.go O₁ fun b s₂ σ₂ O₂ q₂ => q₂.go O₂ fun c s₃ σ₃ O₃ q₃ => q₃ s₃ E O₃) hm
theorem W_isTrue_Not {x : Expr} {pos : Pos} {whole : Sem Value} {Q : Bool → St → Prop} (h : W X A σ (isTrue x env (eval x env)) fun b => Q !b) :
    W X A σ (isTrue (.UnaryOp .Not x pos) env whole) Q := fun s E O => wpAny_isTrue_Not (h s E O)
theorem W_isTrue_And {vs : List Expr} {pos : Pos} {whole : Sem Value} {op : BoolOp} {Q : Bool → St → Prop} (h : W X A σ (allTrue op vs env) Q) :
    W X A σ (isTrue (.BoolOp op vs pos) env whole) Q := fun s E O => wpAny_isTrue_BoolOp (h s E O)
theorem W_and_nil {Q : Bool → St → Prop} (h : Q true σ) : W X A σ (allTrue .And [] env) Q := fun _ _ O => wpAny_allTrue_And_nil ⟨σ, O, h⟩
theorem W_or_nil {Q : Bool → St → Prop} (h : Q false σ) : W X A σ (allTrue .Or [] env) Q := fun _ _ O => wpAny_allTrue_Or_nil ⟨σ, O, h⟩
theorem W_and_cons {x : Expr} {rest : List Expr} {Q : Bool → St → Prop}
    (h : W X A σ (isTrue x env (eval x env)) fun b σ₁ => if b = true then W X A σ₁ (allTrue .And rest env) Q else Q false σ₁) : W X A σ (allTrue .And (x :: rest) env) Q := by
  intro s E O
  refine wpAny_allTrue_And_cons (h.go O fun b s₁ σ₁ O₁ q => ?_)
  cases b
  · exact ⟨σ₁, O₁, q⟩
  · exact q s₁ E O₁
theorem W_or_cons {x : Expr} {rest : List Expr} {Q : Bool → St → Prop}
    (h : W X A σ (isTrue x env (eval x env)) fun b σ₁ => if b = true then Q true σ₁ else W X A σ₁ (allTrue .Or rest env) Q) : W X A σ (allTrue .Or (x :: rest) env) Q := by
  intro s E O
  refine wpAny_allTrue_Or_cons (h.go O fun b s₁ σ₁ O₁ q => ?_)
  cases b
  · exact q s₁ E O₁
  · exact ⟨σ₁, O₁, q⟩
theorem W_isTrue_val {e : Expr} {whole : Sem Value} {Q : Bool → St → Prop} (h : W X A σ whole fun v σ₁ => W X A σ₁ (truthy v) Q)
    (he : isTrue e env whole = (do let v ← whole; standAt e.pos; holding [v] (truthy v)) := by rfl) : W X A σ (isTrue e env whole) Q :=
  fun s E O => wpAny_isTrue_value (h.go O fun v s₁ σ₁ O₁ q₁ => q₁ s₁ E O₁) he
theorem W_truthy_bool {b : Bool} {Q : Bool → St → Prop} (h : Q b σ) : W X A σ (truthy (.bool b)) Q := fun _ _ O => wpAny_truthy_bool ⟨σ, O, h⟩
theorem W_truthy_none {Q : Bool → St → Prop} (h : Q false σ) : W X A σ (truthy .none) Q := fun _ _ O => wpAny_of_eq (by first | rfl | kernel_rfl) ⟨σ, O, h⟩
theorem W_truthy_int {i : Int} {t : Tok} {Q : Bool → St → Prop} (h : Q (i != 0) σ) : W X A σ (truthy (.int i t)) Q := fun _ _ O => P.truthy_int ⟨σ, O, h⟩

/-! items of displays and calls -/
theorem W_items_nil {pos : Pos} {Q : List Value → St → Prop} (h : Q [] σ) : W X A σ (spliced (backTo pos (starEach [] env))) Q := fun _ _ O => wpAny_items_nil ⟨σ, O, h⟩
theorem W_items_cons {pos : Pos} {e : Expr} {rest : List Expr} {Q : List Value → St → Prop}
    (h : W X A σ (eval e env) fun v σ₁ => W X A σ₁ (spliced (backTo pos (starEach rest env))) fun vs => Q (v :: vs)) (he : starEach (e :: rest) env = (false, eval e env) :: starEach rest env := by rfl) :
    W X A σ (spliced (backTo pos (starEach (e :: rest) env))) Q :=
  fun s E O => wpAny_items_cons (h.go O fun v s₁ σ₁ O₁ q₁ => q₁ s₁ E O₁) he

abbrev tupO (vs : List Value) : Obj := { cls := .type "tuple", data := .seq vs.toArray }
abbrev lstO (vs : List Value) (n : Nat) : Obj := { cls := .type "list", data := .seq vs.toArray n }

theorem W_Tuple {elts : List Expr} {k : Nat} {pos : Pos} {Q : Value → St → Prop}
    (h : W X A σ (spliced (backTo pos (starEach elts env))) fun vs σ₁ => vs.length ≤ sizeLine ∧ ∀ a F', Le σ₁.F F' → F' a = some (tupO vs) → Frsh X.s₁ σ₁ a → Q (.ref a) { σ₁ with F := F' }) : W X A σ (eval (.Tuple elts k pos) env) Q :=
  fun s E O => wpAny_Tuple (h.go O fun vs s₁ σ₁ O₁ q₁ => by
    obtain ⟨fr, O₂⟩ := O₁.pushF (tupO vs) rfl
    exact ⟨q₁.1, _, O₂, q₁.2 _ _ (le_upd fr.nF) (upd_same ..) fr⟩)
/-- a list display: the new list is mutable -/
theorem W_List {elts : List Expr} {pos : Pos} {Q : Value → St → Prop}
    (h : W X A σ (spliced (backTo pos (starEach elts env))) fun vs σ₁ => vs.length ≤ sizeLine ∧ ∀ a, Frsh X.s₁ σ₁ a → Q (.ref a) { σ₁ with U := upd σ₁.U a (lstO vs 0) }) : W X A σ (eval (.List elts pos) env) Q :=
  fun s E O => wpAny_List (h.go O fun vs s₁ σ₁ O₁ q₁ => by
    obtain ⟨fr, O₂⟩ := O₁.pushU (lstO vs 0) rfl
    exact ⟨q₁.1, _, O₂, q₁.2 _ fr⟩)
end
end Mine
end

section
open PySem PySem.W PyProof.Rows
set_option Elab.async false
namespace Mine

inductive Has (x : Str) (v : Value) : List Str → List (Option Value) → Prop
  | here {ns vs} : Has x v (x :: ns) (some v :: vs)
  | there {ns vs y o} : Has x v ns vs → Has x v (y :: ns) (o :: vs)
theorem Has.get {x : Str} {v : Value} : ∀ {ns : List Str} {vs : List (Option Value)}, Has x v ns vs → ∃ i : Nat, ns[i]? = some x ∧ vs[i]? = some (some v)
  | _, _, .here => ⟨0, rfl, rfl⟩
  | _, _, .there h => let ⟨i, a, b⟩ := h.get; ⟨i + 1, by simpa using a, by simpa using b⟩
inductive Put (x : Str) (v : Value) : List Str → List (Option Value) → List (Option Value) → Prop
  | here {ns vs o} : Put x v (x :: ns) (o :: vs) (some v :: vs)
  | there {ns vs ws y o} : Put x v ns vs ws → Put x v (y :: ns) (o :: vs) (o :: ws)
theorem Put.mem {x : Str} {v : Value} : ∀ {ns : List Str} {vs ws : List (Option Value)}, Put x v ns vs ws → x ∈ ns
  | _, _, _, .here => .head _
  | _, _, _, .there h => .tail _ h.mem
theorem Put.get {x : Str} {v : Value} : ∀ {ns : List Str} {vs ws : List (Option Value)}, Put x v ns vs ws → ns.Nodup → ∀ (i : Nat) (y : Str) (u : Value), ns[i]? = some y → ws[i]? = some (some u) → (y = x ∧ u = v) ∨ (y ≠ x ∧ vs[i]? = some (some u))
  | _, _, _, .here, nd, 0, y, u, h1, h2 => by
    simp only [List.getElem?_cons_zero, Option.some.injEq] at h1 h2
    exact .inl ⟨h1.symm, h2.symm⟩
  | _, _, _, .here, nd, i + 1, y, u, h1, h2 => by
    simp only [List.getElem?_cons_succ] at h1 h2
    refine .inr ⟨?_, by simpa using h2⟩
    rintro rfl
    exact (List.nodup_cons.mp nd).1 (List.mem_of_getElem? h1)
  | _, _, _, .there h, nd, 0, y, u, h1, h2 => by
    simp only [List.getElem?_cons_zero, Option.some.injEq] at h1 h2
    subst h1
    refine .inr ⟨?_, by simp [h2]⟩
    rintro rfl
    exact (List.nodup_cons.mp nd).1 h.mem
  | _, _, _, .there h, nd, i + 1, y, u, h1, h2 => by
    simp only [List.getElem?_cons_succ] at h1 h2
    have := h.get (List.nodup_cons.mp nd).2 i y u h1 h2
    simpa using this

structure NmOk (env : Env) (ns : List Str) : Prop where
  nodup : ns.Nodup
  loc : ∀ x ∈ ns, env.kindOf x = some .local
  nd : ∀ x ∈ ns, (x == ("__debug__" : Str)) = false

structure GName (X : Cx) (env : Env) (x : Str) (v : Value) : Prop where
  kind : env.kindOf x = some .globalImplicit
  nd : (x == ("__debug__" : Str)) = false
  val : ∃ mg, X.s₁.heap.Ns env.globals mg ∧ (mg x = some v ∨ (mg x = none ∧ ∃ mb, X.s₁.heap.Ns env.builtins mb ∧ mb x = some v))

abbrev cellO (v : Value) : Obj := { cls := .type "cell", data := .cell (some v) }
structure CName (σ : St) (env : Env) (x : Str) (v : Value) : Prop where
  kind : env.kindOf x = some .cell ∨ env.kindOf x = some .free
  nd : (x == ("__debug__" : Str)) = false
  nc : (x == ("__classdict__" : Str)) = false
  cell : ∃ c, env.cells.lookup x = some c ∧ ∃ o, σ.F c = some o ∧ o.data = .cell (some v)

section
variable {X : Cx} {A : Around} {env : Env} {ns : List Str} {vs : List (Option Value)} {b : Bool} {r : List Fram} {F U : Mp}

theorem W_loadName {x : Str} {v : Value} {Q : Value → St → Prop} (hn : NmOk env ns) (hx : Has x v ns vs) (h : Q v ⟨⟨env, ns, vs, b⟩ :: r, F, U⟩) :
    W X A ⟨⟨env, ns, vs, b⟩ :: r, F, U⟩ (loadName env x) Q := by
  intro s E O
  obtain ⟨i, h1, h2⟩ := hx.get
  obtain ⟨m, hm, hv⟩ := O.loc _ (.head _)
  exact wpAny_loadName_local (O.frs _ (.head _)).kind (hn.loc x (List.mem_of_getElem? h1)) hm (hv i x v h1 h2) ⟨_, O, h⟩
theorem W_name {x : Str} {v : Value} {pos : Pos} {Q : Value → St → Prop} (hn : NmOk env ns) (hx : Has x v ns vs) (h : Q v ⟨⟨env, ns, vs, b⟩ :: r, F, U⟩) :
    W X A ⟨⟨env, ns, vs, b⟩ :: r, F, U⟩ (eval (.Name x pos) env) Q := by
  intro s E O
  obtain ⟨i, h1, _⟩ := hx.get
  exact wpAny_Name (W_loadName hn hx h s E O) (hn.nd x (List.mem_of_getElem? h1))
theorem W_gname {σ : St} {f : Fram} {x : Str} {v : Value} {pos : Pos} {Q : Value → St → Prop} (hg : GName X env x v) (hf : σ.fr.head? = some f) (he : f.env = env) (h : Q v σ) :
    W X A σ (eval (.Name x pos) env) Q := by
  intro s E O
  have hf' : f ∈ σ.fr := List.mem_of_mem_head? hf
  have hk : env.scope.kind = .function := he ▸ (O.frs f hf').kind
  obtain ⟨mg, hns, hv⟩ := hg.val
  have hns' := hns.keeps O.ground
  rcases hv with hv | ⟨hno, mb, hb, hv⟩
  · exact Calls.Name_function_global hk hg.kind (Calls.loadGlobal_global hns' hv ⟨_, O, h⟩) hg.nd
  · exact Calls.Name_function_global hk hg.kind (Calls.loadGlobal_builtin hns' hno (hb.keeps O.ground) hv ⟨_, O, h⟩) hg.nd
theorem W_cname {σ : St} {f : Fram} {x : Str} {v : Value} {pos : Pos} {Q : Value → St → Prop} (hc : CName σ env x v) (hf : σ.fr.head? = some f) (he : f.env = env) (h : Q v σ) :
    W X A σ (eval (.Name x pos) env) Q := by
  intro s E O
  have hf' : f ∈ σ.fr := List.mem_of_mem_head? hf
  have hk : env.scope.kind = .function := he ▸ (O.frs f hf').kind
  obtain ⟨c, hl, o, ho, hd⟩ := hc.cell
  have hcell : s.heap.IsCell c (some v) := ⟨o, O.frz _ _ ho, hd⟩
  refine wpAny_Name ?_ hc.nd
  rcases hc.kind with hk' | hk'
  · exact wpAny_loadName_cell hk hk' hl hcell ⟨_, O, h⟩
  · exact wpAny_loadName_free hk hk' hl hcell ⟨_, O, h⟩ hc.nc

theorem Own.setLoc {s₁ s : Shared} (O : Own s₁ ⟨⟨env, ns, vs, b⟩ :: r, F, U⟩ s) {ws : List (Option Value)} {x : Str} {v : Value} (hn : ns.Nodup) (hp : Put x v ns vs ws) {m : Str → Option Value}
    (hv : ∀ (i : Nat) (x : Str) (v : Value), ns[i]? = some x → vs[i]? = some (some v) → m x = some v) {h' : Heap} {tk : Nat} (hns : h'.Ns env.locals (fun y => if y = x then some v else m y)) (hs : Heap.SameBut env.locals s.heap h') :
    Own s₁ ⟨⟨env, ns, ws, b⟩ :: r, F, U⟩ { s with heap := h', toks := tk } := by
  obtain ⟨⟨h, tk', rfl⟩, bb, c, d, e, f, g, i⟩ := O
  have fh := f _ (.head _)
  have i' := List.pairwise_cons.mp i
  refine ⟨⟨h', tk, rfl⟩, fun x o y => (hs.2 x ?_).trans (bb x o y), fun x o y => (hs.2 x ?_).trans (c x o y), fun x o y => (hs.2 x ?_).trans (d x o y), e, fun y hy => ?_, fun y hy => ?_, i⟩
  · rintro rfl; have := fh.high; rw [y] at this; cases this
  · rintro rfl; have := fh.nF; rw [y] at this; cases this
  · rintro rfl; have := fh.nU; rw [y] at this; cases this
  · rcases List.mem_cons.mp hy with rfl | hy
    · exact ⟨fh.1, fh.2, fh.3, fh.4, fh.5⟩
    · exact f y (.tail _ hy)
  · rcases List.mem_cons.mp hy with rfl | hy
    · refine ⟨_, hns, fun i y u h1 h2 => ?_⟩
      rcases hp.get hn i y u h1 h2 with ⟨rfl, rfl⟩ | ⟨hne, h3⟩
      · simp
      · show (if y = x then some v else m y) = some u
        rw [if_neg hne]; exact hv i y u h1 h3
    · have hne : y.env.locals ≠ env.locals := fun q => i'.1 y.env.locals (List.mem_map.mpr ⟨y, hy, rfl⟩) q.symm
      exact (g y (.tail _ hy)).keeps fun o x => (hs.2 _ hne).trans x

theorem W_store {ws : List (Option Value)} {x : Str} {v : Value} {Q : Unit → St → Prop} (hn : NmOk env ns) (hp : Put x v ns vs ws) (h : Q () ⟨⟨env, ns, ws, b⟩ :: r, F, U⟩) :
    W X A ⟨⟨env, ns, vs, b⟩ :: r, F, U⟩ (storeName env x v) Q := by
  intro s E O
  obtain ⟨m, hm, hv⟩ := O.loc _ (.head _)
  refine wpAny_storeName_local (hn.loc x hp.mem) hm (fun h' hns hs => ⟨_, O.setLoc hn.nodup hp hv hns hs, h⟩) ?_
  have : env.scope.kind = .function := (O.frs _ (.head _)).kind
  rw [this]; rfl
theorem W_assign_Name {ws : List (Option Value)} {x : Str} {v : Value} {pos : Pos} {Q : Unit → St → Prop} (hn : NmOk env ns) (hp : Put x v ns vs ws) (h : Q () ⟨⟨env, ns, ws, b⟩ :: r, F, U⟩) :
    W X A ⟨⟨env, ns, vs, b⟩ :: r, F, U⟩ (assign (.Name x pos) env v) Q := fun s E O => assign_Name (W_store hn hp h s E O)

/-- forget values of names -/
def Weaker : List (Option Value) → List (Option Value) → Prop
  | _, [] => True
  | [], o :: ws => o = none ∧ Weaker [] ws
  | a :: vs, o :: ws => (o = none ∨ o = a) ∧ Weaker vs ws
theorem Weaker.get : ∀ {vs ws : List (Option Value)}, Weaker vs ws → ∀ {i : Nat} {v : Value}, ws[i]? = some (some v) → vs[i]? = some (some v)
  | _, [], _, i, v, e => by simp at e
  | [], o :: ws, h, 0, v, e => by simp [h.1] at e
  | [], o :: ws, h, i + 1, v, e => by
    have := Weaker.get h.2 (i := i) (v := v) (by simpa using e)
    simp at this
  | a :: vs, o :: ws, h, 0, v, e => by
    simp only [List.getElem?_cons_zero, Option.some.injEq] at e
    subst e
    rcases h.1 with q | q
    · cases q
    · simp [q]
  | a :: vs, o :: ws, h, i + 1, v, e => by
    have := Weaker.get h.2 (i := i) (v := v) (by simpa using e)
    simpa using this
theorem Own.weaken {s₁ s : Shared} (O : Own s₁ ⟨⟨env, ns, vs, b⟩ :: r, F, U⟩ s) {ws : List (Option Value)} (k : Weaker vs ws) : Own s₁ ⟨⟨env, ns, ws, b⟩ :: r, F, U⟩ s := by
  obtain ⟨a, bb, c, d, e, f, g, i⟩ := O
  refine ⟨a, bb, c, d, e, fun y hy => ?_, fun y hy => ?_, i⟩
  · rcases List.mem_cons.mp hy with rfl | hy
    · have := f _ (.head _); exact ⟨this.1, this.2, this.3, this.4, this.5⟩
    · exact f y (.tail _ hy)
  · rcases List.mem_cons.mp hy with rfl | hy
    · obtain ⟨m, hm, hv⟩ := g _ (.head _)
      exact ⟨m, hm, fun i x v h1 h2 => hv i x v h1 (k.get h2)⟩
    · exact g y (.tail _ hy)
theorem W_weaken {α : Type} {t : Sem α} {ws : List (Option Value)} {Q : α → St → Prop} (k : Weaker vs ws) (h : W X A ⟨⟨env, ns, ws, b⟩ :: r, F, U⟩ t Q) : W X A ⟨⟨env, ns, vs, b⟩ :: r, F, U⟩ t Q :=
  fun s E O => h s E (O.weaken k)
theorem W_dropU {α : Type} {σ : St} {t : Sem α} {U' : Mp} {Q : α → St → Prop} (k : Le U' σ.U) (h : W X A { σ with U := U' } t Q) : W X A σ t Q := fun s E O => h s E (O.dropU k)
theorem W_freeze {α : Type} {σ : St} {t : Sem α} {a : Addr} {o : Obj} {Q : α → St → Prop} (ha : σ.U a = some o)
    (h : W X A { σ with F := upd σ.F a o, U := fun b => if b = a then none else σ.U b } t Q) : W X A σ t Q := fun s E O => h s E (O.freeze ha)

/-! what stands -/
def Live (X : Cx) (σ : St) (a : Addr) (o : Obj) : Prop := σ.U a = some o ∨ σ.F a = some o ∨ X.s₁.heap.get? a = some o
theorem Own.live {σ : St} {s : Shared} (O : Own X.s₁ σ s) {a : Addr} {o : Obj} (h : Live X σ a o) : s.heap.get? a = some o := by
  rcases h with h | h | h
  · exact O.mts _ _ h
  · exact O.frz _ _ h
  · exact O.ground _ _ h
def TyIs (X : Cx) (σ : St) (v : Value) (T : String) : Prop := match v with
  | .ref a => ∃ o, Live X σ a o ∧ o.cls = .type T
  | v => typeOf v = pure (.type T)
theorem Own.ty {σ : St} {s : Shared} (O : Own X.s₁ σ s) {v : Value} {T : String} (h : TyIs X σ v T) : s.TypeIs v T := by
  cases v with
  | ref a => obtain ⟨o, ho, hc⟩ := h; exact ⟨o, O.live ho, hc⟩
  | _ => exact h

/-! subscripts, attributes -/
theorem W_Subscript {σ : St} {value slice : Expr} {pos : Pos} {Q : Value → St → Prop}
    (h : W X A σ (eval value env) fun o σ₁ => W X A σ₁ (eval slice env) fun i σ₂ => W X A σ₂ (subscriptTail value slice o i) Q) : W X A σ (eval (.Subscript value slice pos) env) Q :=
  fun s E O => Subscript_ (h.go O fun o s₁ σ₁ O₁ q₁ => q₁.go O₁ fun i s₂ σ₂ O₂ q₂ => q₂ s₂ E O₂)
theorem W_tail {σ : St} {value slice : Expr} {o i : Value} {T id : String} {Q : Value → St → Prop} (hT : TyIs X σ o T) (hl : typeLookup (.type T) "__getitem__" = pure (some (.builtin id))) (h : W X A σ (getItem o i) Q)
    (hs : subscripted slice false o i = operate [o, i] (getItem o i) := by with_unfolding_all rfl) : W X A σ (subscriptTail value slice o i) Q := by
  intro s E O
  unfold subscriptTail
  refine wpAny_bind ?_
  rw [getitemInPython_of_ne (O.ty hT).not_modules]
  refine wpAny_bind (wpAny_specialOf (O.ty hT) hl ?_)
  have fin : wpAny (model X.prog X.w) A (subscripted slice false o i) (fun r s₃ => wpAny (model X.prog X.w) A (letTemporaryGo value o r >>= fun _ => pure r) (fun v s' => ∃ σ', Own X.s₁ σ' s' ∧ Q v σ') E s₃) E s := by
    rw [hs]
    exact wpAny_operating (wpAny_mono (h s E O) (fun r s₃ h₃ => wpAny_bind (wpAny_letTemporaryGo (wpAny_pure h₃))) fun _ _ x => x)
  exact wpAny_pure (wpAny_bind fin)
/-- the same for a slice -/
theorem W_tailS {σ : St} {value slice : Expr} {o i : Value} {T id : String} {Q : Value → St → Prop} (hT : TyIs X σ o T) (hl : typeLookup (.type T) "__getitem__" = pure (some (.builtin id))) (h : W X A σ (getItem o i) Q)
    (hs : subscripted slice false o i = operate [i, o] (getItem o i) := by with_unfolding_all rfl) : W X A σ (subscriptTail value slice o i) Q := by
  intro s E O
  unfold subscriptTail
  refine wpAny_bind ?_
  rw [getitemInPython_of_ne (O.ty hT).not_modules]
  refine wpAny_bind (wpAny_specialOf (O.ty hT) hl ?_)
  have fin : wpAny (model X.prog X.w) A (subscripted slice false o i) (fun r s₃ => wpAny (model X.prog X.w) A (letTemporaryGo value o r >>= fun _ => pure r) (fun v s' => ∃ σ', Own X.s₁ σ' s' ∧ Q v σ') E s₃) E s := by
    rw [hs]
    exact wpAny_operating (wpAny_mono (h s E O) (fun r s₃ h₃ => wpAny_bind (wpAny_letTemporaryGo (wpAny_pure h₃))) fun _ _ x => x)
  exact wpAny_pure (wpAny_bind fin)
theorem W_Attribute {σ : St} {value : Expr} {attr : Str} {pos : Pos} {Q : Value → St → Prop} (h : W X A σ (eval value env) fun o σ₁ => W X A σ₁ (getAttr o attr true) Q)
    (he : eval (.Attribute value attr pos) env = (do
      let o ← eval value env
      standAt pos.atName
      let r ← holding [o] (getAttr o attr true)
      letTemporaryGo value o r
      pure r) := by with_unfolding_all rfl) : W X A σ (eval (.Attribute value attr pos) env) Q :=
  fun s E O => Attribute_any_ (h.go O fun o s₁ σ₁ O₁ q₁ => q₁ s₁ E O₁) he

/-! a slice: its object is dropped into the frozen ones -/
abbrev sliceO (l u : Value) : Obj := { cls := .type "slice", data := .fields #[l, u, .none] }
theorem W_Slice {σ : St} {lower upper : Option Expr} {p : Pos} {Q : Value → St → Prop}
    (h : W X A σ (evalPart lower env) fun l σ₁ => W X A σ₁ (evalPart upper env) fun u σ₂ => ∀ a F', Le σ₂.F F' → F' a = some (sliceO l u) → Q (.ref a) { σ₂ with F := F' }) : W X A σ (eval (.Slice lower upper none p) env) Q :=
  fun s E O => wpAny_Slice (h.go O fun l s₁ σ₁ O₁ q₁ => q₁.go O₁ fun u s₂ σ₂ O₂ q₂ => by
    rw [evalPart_none]
    refine wpAny_pure ?_
    obtain ⟨fr, O₃⟩ := O₂.pushF (sliceO l u) rfl
    exact ⟨_, O₃, q₂ _ _ (le_upd fr.nF) (upd_same ..)⟩)
theorem W_part_none {σ : St} {Q : Value → St → Prop} (h : Q .none σ) : W X A σ (evalPart none env) Q := fun _ _ O => by rw [evalPart_none]; exact wpAny_pure ⟨_, O, h⟩
theorem W_part {σ : St} {e : Expr} {Q : Value → St → Prop} (h : W X A σ (eval e env) Q) : W X A σ (evalPart (some e) env) Q := fun s E O => by rw [evalPart_some]; exact h s E O
end
end Mine
end

section
open PySem PySem.W PyProof.Rows
set_option Elab.async false
set_option maxRecDepth 100000
namespace Mine

structure Base (X : Cx) (K : Frag) : Prop where
  k : K.In X.s₁.heap
  lim : X.s₁.heap.NoLimit
  top : ∃ mg mb, X.s₁.heap.Ns mainGlobals mg ∧ X.s₁.heap.Ns builtinsNs mb ∧ ∀ x : Str, x ≠ "__name__" → mb x = bootBuiltins x
  seer : X.s₁.heap.NoSeer

section
variable {X : Cx} {K : Frag}
theorem Base.inK (B : Base X K) {σ : St} {s : Shared} (O : Own X.s₁ σ s) : K.In s.heap := B.k.keeps O.ground
theorem Base.live (B : Base X K) {σ : St} {a : Addr} {o : Obj} (h : K.lookup a = some o) : Live X σ a o := .inr (.inr (B.k _ _ h))

/-- a global of the text -/
theorem Base.glob (B : Base X K) {env : Env} {x : Str} {v : Value} (hg : env.globals = mainGlobals) (e : nsIn K mainGlobals x = some (some v)) (hk : env.scope.names.lookup x = some .globalImplicit)
    (hd : (x == ("__debug__" : Str)) = false) : GName X env x v :=
  let ⟨mg, _, h1, _⟩ := B.top
  ⟨hk, hd, mg, hg ▸ h1, .inl (mg_of B.k h1 e)⟩
theorem Base.bltn (B : Base X K) {env : Env} {x : Str} {v : Value} (hg : env.globals = mainGlobals) (hb : env.builtins = builtinsNs) (e : nsIn K mainGlobals x = some none) (hv : bootBuiltins x = some v) (hn : x ≠ "__name__")
    (hk : env.scope.names.lookup x = some .globalImplicit) (hd : (x == ("__debug__" : Str)) = false) : GName X env x v :=
  let ⟨mg, mb, h1, h2, h3⟩ := B.top
  ⟨hk, hd, mg, hg ▸ h1, .inr ⟨mg_none_of B.k h1 e, mb, hb ▸ h2, (h3 x hn).trans hv⟩⟩
end

/-- the frames above are as they were; the value that is handed back -/
def RetQ (fr : List Fram) (Q : Value → St → Prop) (f : Flow) (σ : St) : Prop :=
  ∃ g, σ.fr = g :: fr ∧ Q (match f with | .ret v => v | _ => .none) ⟨fr, σ.F, σ.U⟩
theorem retQ {fr : List Fram} {Q : Value → St → Prop} {v : Value} {g : Fram} {F U : Mp} (h : Q v ⟨fr, F, U⟩) : RetQ fr Q (.ret v) ⟨g :: fr, F, U⟩ := ⟨g, rfl, h⟩
theorem retQ_next {fr : List Fram} {Q : Value → St → Prop} {g : Fram} {F U : Mp} (h : Q .none ⟨fr, F, U⟩) : RetQ fr Q .next ⟨g :: fr, F, U⟩ := ⟨g, rfl, h⟩

structure EnvOf (env : Env) (fd : FuncData) : Prop where
  scope : env.scope = fd.scope
  globals : env.globals = fd.globals
  builtins : env.builtins = fd.builtins
  frame : env.frame = some env.locals

section
variable {α : Type} {X : Cx} {K : Frag} {A : Around} {σ : St} {env : Env}

theorem Own.enter {s₁ s : Shared} {fr : List Fram} {F U : Mp} (O : Own s₁ ⟨fr, F, U⟩ s) {env : Env} {ns : List Str} {vs : List (Option Value)} {h₀ : Heap} {m : Str → Option Value} {tk : Nat}
    (hL : env.locals = s.heap.objs.size) (hf : env.frame = some env.locals) (hk : env.scope.kind = .function)
    (hns : h₀.Ns s.heap.objs.size m) (hkeep : ∀ b o, s.heap.get? b = some o → h₀.get? b = some o)
    (hv : ∀ (i : Nat) (x : Str) (v : Value), ns[i]? = some x → vs[i]? = some (some v) → m x = some v) : Own s₁ ⟨⟨env, ns, vs, true⟩ :: fr, F, U⟩ { s with heap := h₀, toks := tk } := by
  have fr' := O.fresh (get_size s.heap)
  have O' := O.ext hkeep (tk := tk)
  refine ⟨O'.same, O'.ground, O'.frz, O'.mts, O.sep, fun y hy => ?_, fun y hy => ?_, ?_⟩
  · rcases List.mem_cons.mp hy with rfl | hy
    · exact ⟨fun _ => hf, hk, by show s₁.heap.get? env.locals = none; rw [hL]; exact fr'.high, by show F env.locals = none; rw [hL]; exact fr'.nF, by show U env.locals = none; rw [hL]; exact fr'.nU⟩
    · exact O.frs y hy
  · rcases List.mem_cons.mp hy with rfl | hy
    · exact ⟨m, by show h₀.Ns env.locals m; rw [hL]; exact hns, hv⟩
    · exact O'.loc y hy
  · refine List.pairwise_cons.mpr ⟨fun a ha => ?_, O.apart⟩
    obtain ⟨y, hy, rfl⟩ := List.mem_map.mp ha
    exact fun q => fr'.nL y hy (by rw [← q]; exact hL)

/-- a call of a def of the text: the frame is laid, the body is entered -/
theorem enter_call (B : Base X K) {s : Shared} (O : Own X.s₁ σ s) {f : Addr} {oc : Value} {od : Option Addr} {osl : Array (Option Value)} {fd : FuncData} {body : List Stmt} {vals : List Value} {kws : List (Str × Value)} {Qv E : Value → Shared → Prop}
    (ho : K.lookup f = some ⟨oc, od, .func fd, osl⟩) (hb : fd.body = .stmts body) (hcd : codeIn K fd.code fd.qualname = true) (hclo : fd.closure = [])
    (hcell : ∀ x ∈ fd.scope.names, x.2 ≠ .cell) (hroom : A.depth < recursionLimit)
    (hco : fd.scope.isCoroutine = false) (hgen : fd.scope.isGenerator = false) (hk : fd.scope.kind = .function)
    (hbind : wpAny (model X.prog X.w) A.in1 (bindArgs fd ⟨vals, kws⟩) (fun binds s' => ∃ σ', Own X.s₁ σ' s' ∧ (∀ x ∈ binds, fd.scope.names.lookup x.1 = some .local) ∧
      ∃ ns ws, (∀ (i : Nat) (x : Str) (v : Value), ns[i]? = some x → ws[i]? = some (some v) → binds.reverse.lookup x = some v) ∧
      ∀ env s'', EnvOf env fd → Own X.s₁ ⟨⟨env, ns, ws, true⟩ :: σ'.fr, σ'.F, σ'.U⟩ s'' →
        wpAny (model X.prog X.w) (A.deeper env) (execs body env) (fun fl s₃ => Qv (match fl with | .ret v => v | _ => .none) s₃)
          (fun e s₃ => wpAny (model X.prog X.w) (A.deeper env) (leaving env e) (fun _ s₄ => E e s₄) (fun e' s₄ => E e' s₄) s₃) s'') E s) :
    wpAny (model X.prog X.w) A (call (.ref f) vals kws) Qv E s := by
  have hK := B.inK O
  refine wpAny_call (codeAny_call_function hroom (hK _ _ ho) rfl hco hgen hb (codeRec_of hK hcd) (wpAny_mono hbind (fun binds s' hq => ?_) fun _ _ e => e))
  obtain ⟨σ', O', hloc, ns, ws, hv, h⟩ := hq
  rw [hclo]
  refine wpAny_newFunctionEnv hcell hloc (fun h₀ hns hsb => ⟨(B.lim.keeps O'.ground).fresh _ hsb, codeAny_func ?_⟩) hk
  have O'' := O'.enter (env := newEnv fd.scope s'.heap.objs.size fd.globals [] (fd.qualname ++ ".<locals>.") (some f) fd.code none fd.builtins) (ns := ns) (vs := ws) (tk := s'.toks + binds.length) rfl rfl hk hns
    (fun b o e => hsb.extBut b o (Nat.ne_of_lt (Heap.lt_size e)) (Heap.get?_push_of_some _ e)) hv
  exact h _ _ ⟨rfl, rfl, rfl, rfl⟩ O''

/-- the same, without exceptions -/
theorem W_callG (B : Base X K) {f : Addr} {oc : Value} {od : Option Addr} {osl : Array (Option Value)} {fd : FuncData} {body : List Stmt} {vals : List Value} {kws : List (Str × Value)} {Q : Value → St → Prop}
    (ho : K.lookup f = some ⟨oc, od, .func fd, osl⟩) (hb : fd.body = .stmts body) (hcd : codeIn K fd.code fd.qualname = true) (hclo : fd.closure = [])
    (hcell : ∀ x ∈ fd.scope.names, x.2 ≠ .cell) (hroom : A.depth < recursionLimit)
    (hco : fd.scope.isCoroutine = false) (hgen : fd.scope.isGenerator = false) (hk : fd.scope.kind = .function)
    (hbind : W X A.in1 σ (bindArgs fd ⟨vals, kws⟩) fun binds σ' => (∀ x ∈ binds, fd.scope.names.lookup x.1 = some .local) ∧
      ∃ ns ws, (∀ (i : Nat) (x : Str) (v : Value), ns[i]? = some x → ws[i]? = some (some v) → binds.reverse.lookup x = some v) ∧
      ∀ env, EnvOf env fd → W X (A.deeper env) ⟨⟨env, ns, ws, true⟩ :: σ'.fr, σ'.F, σ'.U⟩ (execs body env) (RetQ σ'.fr Q)) :
    W X A σ (call (.ref f) vals kws) Q := by
  intro s E O
  refine enter_call B O ho hb hcd hclo hcell hroom hco hgen hk (hbind.go O fun binds s' σ' O' q => ?_)
  obtain ⟨hloc, ns, ws, hv, h⟩ := q
  refine ⟨σ', O', hloc, ns, ws, hv, fun env s'' he O'' => (h env he).go O'' fun fl s₃ σ₃ O₃ q₃ => ?_⟩
  obtain ⟨g, hfr, hq⟩ := q₃
  obtain ⟨fr3, F3, U3⟩ := σ₃
  dsimp only at hfr; subst hfr
  exact ⟨_, O₃.pop, hq⟩

/-- plain binds: each parameter by its place -/
theorem W_call (B : Base X K) {f : Addr} {oc : Value} {od : Option Addr} {osl : Array (Option Value)} {fd : FuncData} {body : List Stmt} {vals : List Value} {binds : List (Str × Value)} (ns : List Str) (ws : List (Option Value)) {Q : Value → St → Prop}
    (ho : K.lookup f = some ⟨oc, od, .func fd, osl⟩) (hb : fd.body = .stmts body) (hcd : codeIn K fd.code fd.qualname = true) (hclo : fd.closure = [])
    (hcell : ∀ x ∈ fd.scope.names, x.2 ≠ .cell) (hroom : A.depth < recursionLimit)
    (hco : fd.scope.isCoroutine = false) (hgen : fd.scope.isGenerator = false) (hk : fd.scope.kind = .function)
    (hbind : bindArgs fd ⟨vals, []⟩ = pure binds) (hloc : ∀ x ∈ binds, fd.scope.names.lookup x.1 = some .local)
    (hv : ∀ (i : Nat) (x : Str) (v : Value), ns[i]? = some x → ws[i]? = some (some v) → binds.reverse.lookup x = some v)
    (h : ∀ env, EnvOf env fd → W X (A.deeper env) ⟨⟨env, ns, ws, true⟩ :: σ.fr, σ.F, σ.U⟩ (execs body env) (RetQ σ.fr Q)) :
    W X A σ (call (.ref f) vals) Q :=
  W_callG B ho hb hcd hclo hcell hroom hco hgen hk (by rw [hbind]; exact W_pure ⟨hloc, ns, ws, hv, h⟩)

/-! calls in the text -/
theorem W_Call_Name {x : Str} {p pos : Pos} {args : List Expr} {Q : Value → St → Prop}
    (h : W X A σ (eval (.Name x p) env) fun f σ₁ => W X A σ₁ (callWith pos f [] (backTo pos (starEach args env)) []) Q) : W X A σ (eval (.Call (.Name x p) args [] pos) env) Q :=
  fun s E O => wpAny_Call_Name_kw (h.go O fun f s₁ σ₁ O₁ q₁ => q₁ s₁ E O₁)
theorem W_callWith (B : Base X K) {f : Value} {first : List Value} {pos : Pos} {e : Expr} {rest : List Expr} {Q : Value → St → Prop} (hk : keepIn K f = true)
    (h : W X A σ (spliced (backTo pos (starEach (e :: rest) env))) fun vs σ₁ => W X A σ₁ (call f (first ++ vs)) Q)
    (he : starEach (e :: rest) env = (false, eval e env) :: starEach rest env := by rfl) (hplain : (backTo pos (starEach rest env)).any (·.1) = false := by rfl) :
    W X A σ (callWith pos f first (backTo pos (starEach (e :: rest) env)) []) Q :=
  fun s E O => callWith_K B.k hk (h.go O fun vs s₁ σ₁ O₁ q₁ => ⟨B.inK O₁, q₁ s₁ E O₁⟩) he hplain
theorem W_callWith0 (B : Base X K) {f : Value} {first : List Value} {pos : Pos} {Q : Value → St → Prop} (hk : keepIn K f = true) (h : W X A σ (call f (first ++ [])) Q) : W X A σ (callWith pos f first (backTo pos (starEach [] env)) []) Q :=
  fun s E O => callWith_K0 (B.inK O) hk (h s E O)
theorem W_callWith_b {id : String} {first : List Value} {pos : Pos} {e : Expr} {rest : List Expr} {Q : Value → St → Prop}
    (h : W X A σ (spliced (backTo pos (starEach (e :: rest) env))) fun vs σ₁ => W X A σ₁ (call (.builtin id) (first ++ vs)) Q)
    (he : starEach (e :: rest) env = (false, eval e env) :: starEach rest env := by rfl) (hplain : (backTo pos (starEach rest env)).any (·.1) = false := by rfl) :
    W X A σ (callWith pos (.builtin id) first (backTo pos (starEach (e :: rest) env)) []) Q := by
  intro s E O
  rw [he]
  refine Calls.callWith_builtin (by show (false || (backTo pos (starEach rest env)).any (·.1)) = false; rw [hplain]; rfl) (Calls.evalArgs_plain ?_)
  rw [he] at h
  exact h.go O fun vs s₁ σ₁ O₁ q₁ => q₁ s₁ E O₁
theorem W_callWith_t {T : String} {first : List Value} {pos : Pos} {e : Expr} {rest : List Expr} {Q : Value → St → Prop}
    (h : W X A σ (spliced (backTo pos (starEach (e :: rest) env))) fun vs σ₁ => W X A σ₁ (call (.type T) (first ++ vs)) Q)
    (he : starEach (e :: rest) env = (false, eval e env) :: starEach rest env := by rfl) (hplain : (backTo pos (starEach rest env)).any (·.1) = false := by rfl) :
    W X A σ (callWith pos (.type T) first (backTo pos (starEach (e :: rest) env)) []) Q := by
  intro s E O
  rw [he]
  refine PySem.callWith_type (by show (false || (backTo pos (starEach rest env)).any (·.1)) = false; rw [hplain]; rfl) (Calls.evalArgs_plain ?_)
  rw [he] at h
  exact h.go O fun vs s₁ σ₁ O₁ q₁ => q₁ s₁ E O₁
end
end Mine
end

section
open PySem PySem.W PyProof.Rows
set_option Elab.async false
set_option maxRecDepth 100000
namespace Mine

section
variable {X : Cx} {K : Frag} {A : Around} {σ : St} {env : Env}

theorem lst_isList {h : Heap} {l : Addr} {vs : List Value} {n : Nat} (x : h.get? l = some (lstO vs n)) : h.IsList l vs.toArray := ⟨_, x, rfl, n, rfl⟩

theorem W_getItem_list {l : Addr} {vs : List Value} {n : Nat} {k : Int} {t : Tok} {x : Value} {Q : Value → St → Prop} (hl : Live X σ l (lstO vs n)) (h0 : 0 ≤ k) (hfit : k < 2 ^ 63) (hx : vs[k.toNat]? = some x) (h : Q x σ) :
    W X A σ (getItem (.ref l) (.int k t)) Q := fun _ _ O => wpAny_getItem_list (lst_isList (O.live hl)) h0 hfit (by simpa using hx) ⟨σ, O, h⟩
theorem W_item_list {value slice : Expr} {l : Addr} {vs : List Value} {n : Nat} {k : Int} {t : Tok} {x : Value} {Q : Value → St → Prop} (hl : Live X σ l (lstO vs n)) (h0 : 0 ≤ k) (hfit : k < 2 ^ 63) (hx : vs[k.toNat]? = some x) (h : Q x σ)
    (hs : subscripted slice false (.ref l) (.int k t) = operate [.ref l, .int k t] (getItem (.ref l) (.int k t)) := by with_unfolding_all rfl) :
    W X A σ (subscriptTail value slice (.ref l) (.int k t)) Q :=
  W_tail ⟨_, hl, rfl⟩ slot_list_getitem.lookup (W_getItem_list hl h0 hfit hx h) hs
theorem W_item_tuple {value slice : Expr} {l : Addr} {vs : List Value} {k : Int} {t : Tok} {x : Value} {Q : Value → St → Prop} (hl : Live X σ l (tupO vs)) (h0 : 0 ≤ k) (hfit : k < 2 ^ 63) (hx : vs[k.toNat]? = some x) (h : Q x σ)
    (hs : subscripted slice false (.ref l) (.int k t) = operate [.ref l, .int k t] (getItem (.ref l) (.int k t)) := by with_unfolding_all rfl) :
    W X A σ (subscriptTail value slice (.ref l) (.int k t)) Q := by
  refine W_tail (T := "tuple") ⟨_, hl, rfl⟩ slot_tuple_getitem.lookup (fun s E O => ?_) hs
  have hlt : k.toNat < vs.length := (List.getElem?_eq_some_iff.mp hx).1
  exact getItem_tuple (items := vs.toArray) (j := k.toNat) ⟨_, O.live hl, rfl, 0, rfl⟩ (by omega) hfit (seqIndex_of h0 (by simp; omega)) (by simpa using hx) ⟨σ, O, h⟩

/-- the item is stored; the list is one of the mutable ones -/
theorem setItem_slot {M : Model} {E : Value → Shared → Prop} {s : Shared} {o i v : Value} {T id : String} {Q : Unit → Shared → Prop} (hT : s.TypeIs o T) (hn : seqItemTypes.contains T = false) (slot : Slot T "__setitem__" id)
    (hc : wpAny M A (call (.builtin id) [o, i, v]) (fun _ => Q ()) E s) : wpAny M A (setItem o i v) Q E s := by
  unfold setItem
  refine wpAny_holding (wpAny_bind (wpAny_sequenceKey hT hn ?_))
  exact wpAny_bind (wpAny_callSpecial?_slot hT slot (wpAny_mono hc (fun _ _ h' => wpAny_pure h') fun _ _ e => e))
theorem W_setItem_list {l : Addr} {vs : List Value} {n : Nat} {k : Int} {t : Tok} {v : Value} {Q : Unit → St → Prop} (hl : σ.U l = some (lstO vs n)) (h0 : 0 ≤ k) (hfit : k < 2 ^ 63) (hk : k < vs.length)
    (h : Q () { σ with U := upd σ.U l (lstO (vs.set k.toNat v) n) }) : W X A σ (setItem (.ref l) (.int k t) v) Q := by
  intro s E O
  have ho := O.mts _ _ hl
  refine setItem_slot (T := "list") ⟨_, ho, rfl⟩ (by decide) slot_list_setitem (wpAny_call_entry slot_list_setitem ⟨_, ho, rfl⟩ entry_list_setitem ?_ (args_list_setitem _ _ _))
  show wpAny _ _ (Builtin.List.listSubscript? (.int k t) >>= _) _ _ s
  refine wpAny_bind (wpAny_listSubscript_int (fitsIndex_of h0 hfit) ?_)
  clear hfit
  obtain ⟨j, rfl⟩ := Int.eq_ofNat_of_zero_le h0
  have hj : j < vs.length := by omega
  show wpAny _ _ ((seqItemAt l j >>= fun r => pure (r.map (j, ·))) >>= _) _ _ s
  refine wpAny_bind (wpAny_bind (wpAny_seqItemAt ho rfl (wpAny_pure ?_)))
  rw [show (vs.toArray[j]? : Option Value) = some vs[j] by simp [hj]]
  have hup : (s.heap.update l (Obj.mapSeq (·.setIfInBounds j v))).get? l = some (lstO (vs.set j v) n) := by
    refine (Heap.get?_update_self _ ho rfl).trans ?_
    simp [Obj.mapSeq]
  exact wpAny_bind (wpAny_setSeqItemAt ho rfl (wpAny_bind (wpAny_pure (wpAny_pure ⟨.none, rfl, _, O.setU hl hup (Heap.SameBut.update ..), h⟩))))

theorem W_truthy_list {l : Addr} {vs : List Value} {n : Nat} {Q : Bool → St → Prop} (hl : Live X σ l (lstO vs n)) (hfit : vs.length < 2 ^ 63) (h : Q (!vs.isEmpty) σ) : W X A σ (truthy (.ref l)) Q :=
  fun _ _ O => wpAny_truthy_list (lst_isList (O.live hl)) (by simp; omega) ⟨σ, O.toks _, by simpa using h⟩
theorem W_len_list {l : Addr} {vs : List Value} {n : Nat} {Q : Value → St → Prop} (hl : Live X σ l (lstO vs n)) (hfit : vs.length < 2 ^ 63) (h : ∀ t, Q (.int vs.length t) σ) : W X A σ (call (.builtin "len") [.ref l]) Q :=
  fun _ _ O => Calls.call_len_list (lst_isList (O.live hl)) (by simp; omega) ⟨σ, O.toks _, by simpa using h _⟩
/-- the new list is mutable -/
theorem W_add_list {l b : Addr} {vs us : List Value} {n m : Nat} {Q : Value → St → Prop} (hl : Live X σ l (lstO vs n)) (hb : Live X σ b (lstO us m)) (hsz : vs.length + us.length ≤ sizeLine)
    (h : ∀ a, Frsh X.s₁ σ a → Q (.ref a) { σ with U := upd σ.U a (lstO (vs ++ us) 0) }) : W X A σ (binaryOp .Add (.ref l) (.ref b)) Q := by
  intro s E O
  refine P.add_list (items := vs.toArray) (items2 := us.toArray) (O.live hl) (O.live hb) ?_ (by simpa using hsz)
  obtain ⟨fr, O'⟩ := O.pushU (lstO (vs ++ us) 0) rfl
  refine ⟨_, ?_, h _ fr⟩
  simpa using O'
theorem foldl_replicate (v : Value) : ∀ (k : Nat) (acc : Array Value), List.foldl (fun x1 x2 => x1 ++ x2) acc (List.replicate k #[v]) = acc ++ (List.replicate k v).toArray
  | 0, acc => by simp
  | k + 1, acc => by
    rw [List.replicate_succ, List.foldl_cons, foldl_replicate v k, List.replicate_succ]
    apply Array.ext'
    simp
/-- [v] * k -/
theorem W_mul_list1 {l : Addr} {v : Value} {n : Nat} {k : Int} {t : Tok} {Q : Value → St → Prop} (hl : Live X σ l (lstO [v] n)) (hsz : k ≤ 16777216) (h0 : 0 ≤ k)
    (h : ∀ a, Frsh X.s₁ σ a → Q (.ref a) { σ with U := upd σ.U a (lstO (List.replicate k.toNat v) 0) }) : W X A σ (binaryOp .Mult (.ref l) (.int k t)) Q := by
  intro s E O
  have ho := O.live hl
  obtain ⟨fr, O'⟩ := O.pushU (lstO (List.replicate k.toNat v) 0) rfl
  refine wpAny_binaryOp_repeat_ref (T := "list") (U := "int") (by decide) ⟨_, ho, rfl⟩ (fun s' => typeIs_int s' k t) noFill_list_mul F.fills_int_mul F.slot_int_rmul repeat_list F.slot_int_index.lookup
    (call_meets F.slot_int_rmul (typeIs_int s k t) F.entry_int_rmul (F.args_int_rmul_2 _ _) (int___rmul___int_list k t l [v].toArray n)
      ⟨ho, rfl, ⟨_, ho, rfl⟩, call_meets F.slot_list_mul ⟨_, ho, rfl⟩ F.entry_list_mul (F.args_list_mul_2 _ _)
        (AutoListH.list___mul___list_int_3 l [v].toArray n k t (by simp [Builtin.List.listFitsIndex]; omega) (by simp; omega) (by simp [Builtin.List.listTooLong, sizeLine]; omega))
        ⟨ho, ?_⟩⟩)
  refine ⟨_, ?_, h _ fr⟩
  have e : List.foldl (fun x1 x2 => x1 ++ x2) #[] (List.replicate (if [v].toArray.isEmpty = true then 0 else k.toNat) [v].toArray) = (List.replicate k.toNat v).toArray := by
    rw [if_neg (by simp)]
    have := foldl_replicate v k.toNat #[]
    simpa using this
  rw [e]; exact O'

/-! methods of lists -/
theorem W_Call_meth {o : Expr} {name : Str} {apos pos : Pos} {args : List Expr} {T id : String} {Q : Value → St → Prop} (pa : PlainAttrs T) (slot : Slot T name id) (hty : typeOf (.builtin id) = pure (.type "method_descriptor"))
    (h : W X A σ (eval o env) fun ov σ₁ => TyIs X σ₁ ov T ∧ (∀ a, ov = .ref a → ∃ ob, Live X σ₁ a ob ∧ ob.dict = none) ∧ W X A σ₁ (callWith pos (.builtin id) [ov] (backTo pos (starEach args env)) []) Q)
    (hbase : attributeBase o name env (eval o env) = eval o env := by rfl)
    (hfew : ((backTo pos (starEach args env)).all (fun x => !x.1) && (backToKw pos (keywordEach [] env)).all (fun x => x.1.isSome)
      && decide (args.length + ([] : List Keyword).length + (if ([] : List Keyword).isEmpty then 0 else 1) < 30)) = true := by rfl)
    (hline : (apos.endLine == pos.line) = true := by rfl) : W X A σ (eval (.Call (.Attribute o name apos) args [] pos) env) Q :=
  fun s E O => wpAny_Call_method hbase hfew hline pa slot hty (h.go O fun ov s₁ σ₁ O₁ q₁ => ⟨O₁.ty q₁.1, fun a e => let ⟨ob, h1, h2⟩ := q₁.2.1 a e; ⟨ob, O₁.live h1, h2⟩, q₁.2.2 s₁ E O₁⟩)

theorem mapSeq_lst {vs : List Value} {n : Nat} (f : Array Value → Array Value) : ∃ n', Obj.mapSeq f (lstO vs n) = lstO (f vs.toArray).toList n' := ⟨_, by simp [Obj.mapSeq]; rfl⟩
theorem lst_update {h : Heap} {l : Addr} {vs : List Value} {n : Nat} (ho : h.get? l = some (lstO vs n)) (f : Array Value → Array Value) :
    ∃ n', (h.update l (Obj.mapSeq f)).get? l = some (lstO (f vs.toArray).toList n') := by
  obtain ⟨n', e⟩ := mapSeq_lst (vs := vs) (n := n) f
  exact ⟨n', (Heap.get?_update_self _ ho (by rw [e]; rfl)).trans (by rw [e])⟩

/-- l.append(e) -/
theorem W_append {o e : Expr} {apos pos : Pos} {Q : Value → St → Prop}
    (h : W X A σ (eval o env) fun ov σ₁ => ∃ l, ov = .ref l ∧ (∃ vs n, σ₁.U l = some (lstO vs n)) ∧ W X A σ₁ (eval e env) fun v σ₂ => ∃ vs n, σ₂.U l = some (lstO vs n) ∧ vs.length ≤ sizeLine ∧ ∀ n', Q .none { σ₂ with U := upd σ₂.U l (lstO (vs ++ [v]) n') })
    (he : starEach [e] env = [(false, eval e env)] := by rfl)
    (hbase : attributeBase o "append" env (eval o env) = eval o env := by rfl)
    (hfew : ((backTo pos (starEach [e] env)).all (fun x => !x.1) && (backToKw pos (keywordEach [] env)).all (fun x => x.1.isSome)
      && decide ([e].length + ([] : List Keyword).length + (if ([] : List Keyword).isEmpty then 0 else 1) < 30)) = true := by rfl)
    (hline : (apos.endLine == pos.line) = true := by rfl) : W X A σ (eval (.Call (.Attribute o "append" apos) [e] [] pos) env) Q := by
  refine W_Call_meth F.plainAttrs_list slot_list_append F.type_list_append (h.mono fun ov σ₁ q => ?_) hbase hfew hline
  obtain ⟨l, rfl, ⟨vs, n, hl⟩, hq⟩ := q
  refine ⟨⟨_, .inl hl, rfl⟩, fun a e => by cases e; exact ⟨_, .inl hl, rfl⟩, W_callWith_b (W_items_cons (hq.mono fun v σ₂ q => W_items_nil ?_) he) he⟩
  obtain ⟨us, m, hl2, hsz, hq2⟩ := q
  intro s E O
  have ho := O.mts _ _ hl2
  refine call_meets slot_list_append ⟨_, ho, rfl⟩ entry_list_append (args_list_append _ _) (list_append l us.toArray m v (by simpa using hsz)) ⟨ho, ?_⟩
  obtain ⟨n', hu⟩ := lst_update ho (fun x => x.push v)
  refine ⟨_, O.setU hl2 (o' := lstO (us ++ [v]) n') ?_ (Heap.SameBut.update ..), hq2 n'⟩
  simpa using hu
/-- l.pop(0) -/
theorem W_pop0 {o : Expr} {k : Nat} {cp apos pos : Pos} {Q : Value → St → Prop}
    (h : W X A σ (eval o env) fun ov σ₁ => ∃ l, ov = .ref l ∧ ∃ v vs n, σ₁.U l = some (lstO (v :: vs) n) ∧ vs.length + 1 ≤ sizeLine ∧ ∀ n', Q v { σ₁ with U := upd σ₁.U l (lstO vs n') })
    (hbase : attributeBase o "pop" env (eval o env) = eval o env := by rfl)
    (hline : (apos.endLine == pos.line) = true := by rfl) : W X A σ (eval (.Call (.Attribute o "pop" apos) [.Constant (.int 0) k cp] [] pos) env) Q := by
  refine W_Call_meth F.plainAttrs_list F.slot_list_pop F.type_list_pop (h.mono fun ov σ₁ q => ?_) hbase rfl hline
  obtain ⟨l, rfl, v, vs, n, hl, hsz, hq⟩ := q
  refine ⟨⟨_, .inl hl, rfl⟩, fun a e => by cases e; exact ⟨_, .inl hl, rfl⟩, ?_⟩
  intro s E O
  have ho := O.mts _ _ hl
  refine P.pop_at_list (x := eval (.Constant (.int 0) k cp) env) (wpAny_Constant_int ⟨(v :: vs).toArray, n, 0, _, 0, v, by simpa using hsz, rfl, ho, by decide, by simp [seqIndex?], by simp, ?_⟩)
  obtain ⟨n', hu⟩ := lst_update ho (fun xs => xs.eraseIdxIfInBounds 0)
  refine ⟨_, O.setU (tk := s.toks + 1) hl (o' := lstO vs n') ?_ (Heap.SameBut.update ..), hq n'⟩
  have e : ((v :: vs).toArray.eraseIdxIfInBounds 0).toList = vs := by simp [Array.eraseIdxIfInBounds]
  rw [e] at hu
  exact hu
/-- l.insert(0, e) -/
theorem W_insert0 {o e : Expr} {k : Nat} {cp apos pos : Pos} {Q : Value → St → Prop}
    (h : W X A σ (eval o env) fun ov σ₁ => ∃ l, ov = .ref l ∧ (∃ vs n, σ₁.U l = some (lstO vs n)) ∧ W X A σ₁ (eval e env) fun v σ₂ => ∃ vs n, σ₂.U l = some (lstO vs n) ∧ vs.length ≤ sizeLine ∧ ∀ n', Q .none { σ₂ with U := upd σ₂.U l (lstO (v :: vs) n') })
    (he : starEach [e] env = [(false, eval e env)] := by rfl)
    (hbase : attributeBase o "insert" env (eval o env) = eval o env := by rfl)
    (hfew : ((backTo pos (starEach [.Constant (.int 0) k cp, e] env)).all (fun x => !x.1) && (backToKw pos (keywordEach [] env)).all (fun x => x.1.isSome)
      && decide ([.Constant (.int 0) k cp, e].length + ([] : List Keyword).length + (if ([] : List Keyword).isEmpty then 0 else 1) < 30)) = true := by rfl)
    (hline : (apos.endLine == pos.line) = true := by rfl) : W X A σ (eval (.Call (.Attribute o "insert" apos) [.Constant (.int 0) k cp, e] [] pos) env) Q := by
  refine W_Call_meth F.plainAttrs_list F.slot_list_insert F.type_list_insert (h.mono fun ov σ₁ q => ?_) hbase hfew hline
  obtain ⟨l, rfl, ⟨vs, n, hl⟩, hq⟩ := q
  refine ⟨⟨_, .inl hl, rfl⟩, fun a e => by cases e; exact ⟨_, .inl hl, rfl⟩, W_callWith_b (W_items_cons (W_int fun t => W_items_cons (hq.mono fun v σ₂ q => W_items_nil ?_) he) rfl) rfl (by rw [he]; rfl)⟩
  obtain ⟨us, m, hl2, hsz, hq2⟩ := q
  intro s E O
  have ho := O.mts _ _ hl2
  refine call_meets F.slot_list_insert ⟨_, ho, rfl⟩ F.entry_list_insert (F.args_list_insert_3 _ _ _) (AutoListH.list_insert_list_int_val_1 l us.toArray m 0 t v (by decide) (by simpa using hsz)) ⟨ho, ?_⟩
  obtain ⟨n', hu⟩ := lst_update ho (fun xs => have k := if (0 : Int) < 0 then ((0 : Int) + ((xs.size : Nat) : Int)).toNat else min (0 : Int).toNat xs.size; (xs.extract 0 k).push v ++ xs.extract k)
  refine ⟨_, O.setU hl2 (o' := lstO (v :: us) n') ?_ (Heap.SameBut.update ..), hq2 n'⟩
  simpa using hu
end
end Mine
end

section
open PySem PySem.W PyProof.Rows
set_option Elab.async false
set_option maxRecDepth 100000
namespace Mine

/-- the ids of builtins that lend a buffer while they stand on the stack -/
def lendIds : List String := ["bytearray.__contains__", "bytearray.__mod__", "bytearray.__rmod__", "_struct.pack_into.held", "bytearray.find.held"] ++ Builtin.Bytes.decodersThatHold
def okC : Code → Bool
  | .builtin id _ => !lendIds.contains id
  | _ => true
def Clean (l : List (Code × Pos)) : Prop := ∀ x ∈ l, okC x.1 = true

/-- as wpAny, but only around stacks where no builtin lends a buffer -/
def wpC {α : Type} (M : Model) (A : Around) (t : Sem α) (Q : α → Shared → Prop) (E : Value → Shared → Prop) (s : Shared) : Prop :=
  ∀ Γ p, Γ.In A → okC Γ.code = true → Clean Γ.below → Sem.wp M Γ t (fun a _ s' => Q a s') (fun e _ s' => E e s') p s
def codeC (M : Model) (A : Around) (c : Code) (R : Result → Shared → Prop) (s : Shared) : Prop :=
  ∀ Γ p, Γ.code = c → Γ.Below A → Clean Γ.below → wpCode M Γ R p s

section
variable {α β : Type} {M : Model} {A : Around} {E : Value → Shared → Prop} {s : Shared}
theorem wpC_of {t : Sem α} {Q : α → Shared → Prop} (h : wpAny M A t Q E s) : wpC M A t Q E s := fun Γ p hΓ _ _ => h Γ p hΓ
theorem codeC_of {c : Code} {R : Result → Shared → Prop} (h : codeAny M A c R s) : codeC M A c R s := fun Γ p hc hΓ _ => h Γ p hc hΓ
theorem wpC_mono {t : Sem α} {Q Q' : α → Shared → Prop} {E' : Value → Shared → Prop} (h : wpC M A t Q E s) (hQ : ∀ a s, Q a s → Q' a s) (hE : ∀ e s, E e s → E' e s) : wpC M A t Q' E' s :=
  fun Γ p hΓ k l => Sem.wp_mono M Γ t (fun a _ s => hQ a s) (fun e _ s => hE e s) p s (h Γ p hΓ k l)
theorem wpC_bind {m : Sem α} {f : α → Sem β} {Q : β → Shared → Prop} (h : wpC M A m (fun a s' => wpC M A (f a) Q E s') E s) : wpC M A (m >>= f) Q E s := fun Γ p hΓ k l => by
  rw [Sem.wp_bind']
  exact Sem.wp_mono M Γ m (fun a p' s' h' => h' Γ p' hΓ k l) (fun _ _ _ h' => h') p s (h Γ p hΓ k l)
theorem wpC_of_bind {m : Sem α} {f : α → Sem β} {Q : β → Shared → Prop} (h : wpAny M A m (fun a s' => wpC M A (f a) Q E s') E s) : wpC M A (m >>= f) Q E s := wpC_bind (wpC_of h)
theorem wpC_pure {a : α} {Q : α → Shared → Prop} (h : Q a s) : wpC M A (pure a) Q E s := fun _ _ _ _ _ => h
theorem wpC_holding {vs : List Value} {m : Sem α} {Q : α → Shared → Prop} (h : wpC M A m Q E s) : wpC M A (holding vs m) Q E s := fun Γ p hΓ k l => by rw [Sem.wp_holding]; exact h Γ p hΓ k l
theorem wpC_onRaise {m : Sem α} {k : Value → Sem Unit} {Q : α → Shared → Prop} (h : wpC M A m Q (fun e s' => wpC M A (k e) (fun _ s'' => E e s'') E s') s) : wpC M A (m.onRaise k) Q E s := fun Γ p hΓ a l => by
  rw [Sem.wp_onRaise]
  exact Sem.wp_mono M Γ m (fun _ _ _ h' => h') (fun e p' s' h' => h' Γ p' hΓ a l) p s (h Γ p hΓ a l)
theorem wpC_attempt {m : Sem α} {Q : Except Value α → Shared → Prop} (h : wpC M A m (fun a => Q (.ok a)) (fun e => Q (.error e)) s) : wpC M A m.attempt Q E s := fun Γ p hΓ a l => by
  rw [Sem.wp_attempt]; exact h Γ p hΓ a l
theorem wpC_of_eq {t u : Sem α} {Q : α → Shared → Prop} (e : t = u) (h : wpC M A u Q E s) : wpC M A t Q E s := e ▸ h
theorem wpC_standAt {pos : Pos} {f : Sem α} {Q : α → Shared → Prop} (h : wpC M A f Q E s) : wpC M A (do standAt pos; f) Q E s := wpC_of_bind (wpAny_standAt h)
theorem wpC_of_in1 {t : Sem α} {Q : α → Shared → Prop} (h : wpC M A.in1 t Q E s) : wpC M A t Q E s :=
  fun Γ p hΓ => h Γ p ⟨hΓ.1, hΓ.2.1, hΓ.2.2.1, hΓ.2.2.2.1, Nat.le_succ_of_le hΓ.2.2.2.2⟩

theorem clean_enter {Γ : Ctx} {c : Code} {h : Option Value} {p : Pos} (k : okC Γ.code = true) (l : Clean Γ.below) : Clean (Γ.enter c h p).below :=
  fun x hx => by
    rcases List.mem_cons.mp hx with rfl | hx
    · exact k
    · exact l x hx
theorem wpC_run {c : Code} {h : Option Value} {Q : Flow → Shared → Prop} (hc : codeC M (A.mark h) c (fun r s' => match r with | .ok f => Q f s' | .error e => E e s') s) (hnb : h ≠ some byPass := by intro x; cases x) :
    wpC M A (run c h) Q E s := fun Γ p hΓ k l => by rw [Sem.wp_run]; exact hc _ p rfl (hΓ.enter c h p hnb) (clean_enter k l)
theorem wpC_runValue {c : Code} {Q : Value → Shared → Prop} (hc : codeC M A c (fun r s' => match r with | .ok (.ret v) => Q v s' | .ok _ => False | .error e => E e s') s) : wpC M A (runValue c) Q E s :=
  fun Γ p hΓ k l => by rw [Sem.wp_runValue]; exact hc _ p rfl (hΓ.enter c none p (by intro x; cases x)) (clean_enter k l)
theorem wpC_call {f : Value} {pos : List Value} {kw : List (Str × Value)} {Q : Value → Shared → Prop}
    (hc : codeC M A (.call f ⟨pos, kw⟩) (fun r s' => match r with | .ok (.ret v) => Q v s' | .ok _ => False | .error e => E e s') s) : wpC M A (call f pos kw) Q E s := wpC_runValue hc
theorem codeC_of_tree {c : Code} {R : Result → Shared → Prop} (hc : okC c = true)
    (h : wpC M (A.under c) (M.den c) (fun fin s' => match fin with | .done f => R (.ok f) s' | .again c' => c'.quiet = true ∧ codeC M A c' R s') (fun e s' => R (.error e) s') s) : codeC M A c R s := fun Γ p e hΓ l => by
  subst e
  rw [wpCode_iff_wp]
  refine Sem.wp_mono M Γ _ (fun fin p' s' h' => ?_) (fun _ _ _ h' => h') p s (h Γ p hΓ.in hc l)
  cases fin with
  | done f => exact h'
  | again c' => exact ⟨h'.1, h'.2 (Γ.goto c') p' rfl (hΓ.goto c') l⟩
theorem codeC_mono {c : Code} {R R' : Result → Shared → Prop} (h : codeC M A c R s) (hR : ∀ r s, R r s → R' r s) : codeC M A c R' s := fun Γ p hc hΓ l => wpCode_mono hR (h Γ p hc hΓ l)
theorem codeC_loop {c : Code} {R : Result → Shared → Prop} (hc : okC c = true) (hq : c.quiet = true) (I : Nat → Shared → Prop)
    (turn : ∀ n s, I n s → wpC M (A.under c) (M.den c)
      (fun fin s' => match fin with | .done f => R (.ok f) s' | .again c' => c' = c ∧ ∃ m, m < n ∧ I m s') (fun e s' => R (.error e) s') s)
    (n : Nat) (h : I n s) : codeC M A c R s := by
  induction n using Nat.strongRecOn generalizing s with
  | ind n ih =>
    refine codeC_of_tree hc (wpC_mono (turn n s h) (fun fin s' hf => ?_) fun _ _ h' => h')
    cases fin with
    | done f => exact hf
    | again c' => obtain ⟨rfl, m, hm, hI⟩ := hf; exact ⟨hq, ih m hm hI⟩

theorem lend_no {id : String} (h : lendIds.contains id = false) : id ≠ "bytearray.__contains__" ∧ id ≠ "bytearray.__mod__" ∧ id ≠ "bytearray.__rmod__" ∧ id ≠ "_struct.pack_into.held" ∧ id ≠ "bytearray.find.held" ∧ Builtin.Bytes.decodersThatHold.contains id = false := by
  have k : ∀ x ∈ lendIds, id ≠ x := fun x hx e => by subst e; rw [List.contains_iff_mem.mpr hx] at h; cases h
  refine ⟨k _ (by decide +kernel), k _ (by decide +kernel), k _ (by decide +kernel), k _ (by decide +kernel), k _ (by decide +kernel), ?_⟩
  cases q : Builtin.Bytes.decodersThatHold.contains id with
  | false => rfl
  | true => exact absurd rfl (k id (List.mem_append_right _ (List.contains_iff_mem.mp q)))

/-- around such a stack nothing is lent -/
theorem wpC_exported {self : Value} {Q : Bool → Shared → Prop} (h : Q false s) : wpC M A (Builtin.Bytes.exported self) Q E s := fun Γ p _ k l => by
  show Q (List.any ((Γ.code, p) :: Γ.below) _) s
  rw [List.any_eq_false.mpr fun x hx => ?_]
  · exact h
  · have ok : okC x.1 = true := by
      rcases List.mem_cons.mp hx with rfl | hx
      · exact k
      · exact l x hx
    obtain ⟨c, q⟩ := x
    split
    all_goals (try (exact Bool.false_ne_true))
    all_goals (rename_i e; obtain ⟨e, _⟩ := Prod.mk.inj e; subst e; obtain ⟨h1, h2, h3, h4, h5, h6⟩ := lend_no (by simpa [okC] using ok))
    all_goals first
      | exact absurd rfl h1 | exact absurd rfl h2 | exact absurd rfl h3 | exact absurd rfl h4 | exact absurd rfl h5
      | (rw [h6, Bool.and_false]; exact Bool.false_ne_true)
end
end Mine
end

section
open PySem PySem.W PyProof.Rows PySem.Calls
set_option Elab.async false
set_option maxRecDepth 100000
namespace Mine

theorem caller_clean : okC (Code.builtin "claim.caller" {}) = true ∧ Clean [] := ⟨by decide +kernel, fun _ h => nomatch h⟩

/-- the one thread of a caller: what wpC shows about its tree, its run does -/
theorem thread_C {prog : Program} {w : World} {t : Sem Fin} {s : Shared} {R : Result → Shared → Prop} (hz : s.asleep)
    (h : wpC (model prog w) callerA t (fun fin s' => ∃ f, fin = .done f ∧ R (.ok f) s' ∧ AllBare s'.gens) (fun e s' => R (.error e) s' ∧ AllBare s'.gens) s) :
    ∃ n r s' s'', runN (denote table) prog w n s ⟨t, .builtin "claim.caller" {}, default, []⟩ = .halted (outcomeOf r) s' ∧
      schedN (denote table) prog w n (.single s ⟨t, .builtin "claim.caller" {}, default, []⟩) = .halted (outcomeOf r) s' ∧ s'.forget = s''.forget ∧ R r s'' := by
  have k := h _ default caller_in caller_clean.1 caller_clean.2
  obtain ⟨n, r, s₁, s₂, h1, h2, h3, h4⟩ := wp_halts_full (M := model prog w) (R := R) hz (Sem.wp_mono _ _ _
    (post' := Sem.finPost (model prog w) _ fun r s' => R r s' ∧ leftWithCleanup s'.gens = false) (exc' := fun e _ s' => R (.error e) s' ∧ leftWithCleanup s'.gens = false)
    (fun fin p' s' ⟨f, e, r, b⟩ => by subst e; exact ⟨r, leftWithCleanup_false_of_bare b⟩) (fun e p' s' ⟨r, b⟩ => ⟨r, leftWithCleanup_false_of_bare b⟩) default s k)
  exact ⟨n, r, s₂, s₁, h2, h1, h3, h4⟩
end Mine
end

section
open PySem PySem.W PyProof.Rows PySem.Calls
set_option Elab.async false
set_option maxRecDepth 100000
namespace Mine

/-- what an ordinary call of a def leaves, at the one stack of a caller: the walk that is asked for -/
abbrev WalkC (q : Program) (loose : List Str) (XP : (Str → Option Value) → Heap → Prop) (YP : World → Heap → Prop) (r : RowW) (d : DefRec) (kwd : List (Str × Expr)) : Prop :=
  ∀ (w : World) (s₀ s₁ : Shared) (mg mb : Str → Option Value), Ground q loose r.records XP w s₀ mg mb s₁.heap → YP w s₁.heap → ∀ (a : Addr) (o : Obj) (pm cd doc dV kV : Value), s₁.heap.get? a = some o →
    o.data = .func { docDef d.name d.params d.body d.scope pm cd doc with defaults := dV, kwdefaults := kV } → s₁.heap.CodeRec cd d.name → Dflts mg s₁.heap d.params kwd dV kV → mg d.name = some (.ref a) → s₁.gens = #[] →
    ∀ (args : List WData) (vals : List Value) (as : List Addr), r.claim.pre args = true → WData.layableAll args = true → ReadsAllW r.records (classAt s₀.heap) s₁.heap vals args as → WellAll w.params s₁.heap vals args → (∀ a ∈ as, (a == sysModules) = false) →
      wpC (model r.prog w) callerA (call (.ref a) vals) (fun v s' => GoodWG r.claim (classAt s₀.heap) (ExcName.means s₀.heap) args s₁ (.ok (.ret v)) s')
        (fun e s' => GoodWG r.claim (classAt s₀.heap) (ExcName.means s₀.heap) args s₁ (.error e) s') s₁

theorem tree_C {prog : Program} {w : World} {s : Shared} {mg : Str → Option Value} {n : Str} {f : Value} {vs : List Value} {R : Result → Shared → Prop} (hg : s.heap.Ns mainGlobals mg) (hf : mg n = some f)
    (h : wpC (model prog w) callerA (call f vs) (fun v s' => R (.ok (.ret v)) s') (fun e s' => R (.error e) s') s) :
    wpC (model prog w) callerA (callThread n vs).cur (fun fin s' => ∃ f, fin = .done f ∧ R (.ok f) s') (fun e s' => R (.error e) s') s := by
  refine wpC_of_bind (wpAny_nsGet hg ?_)
  rw [hf]
  exact wpC_bind (wpC_mono h (fun v s' x => wpC_pure ⟨_, rfl, x⟩) fun _ _ x => x)

theorem call_C {c : ClaimW} {w : World} {s : Shared} {free : Addr → Prop} {gens : Prop} {kept : Heap → Prop} {mg : Str → Option Value} {n : Str} {f : Value} (hz : s.asleep) (hgens : s.gens = #[]) (hf : mg n = some f)
    (spec : ∀ args, c.pre args = true → WData.layableAll args = true → ∀ ord : List DictEntry → List DictEntry, (∀ l, (ord l).Perm l) →
      ∃ vs s₁, layAllW c.records (classAt s.heap) w.params ord args s = some (vs, s₁) ∧ s₁.heap.Ns mainGlobals mg ∧
        ∀ R : Result → Shared → Prop, (∀ r s', c.Ends s args vs s₁ r s' → s'.os = s.os → AllBare s'.gens → kept s'.heap → R r s') →
          wpC (model c.prog w) callerA (call f vs) (fun v s' => R (.ok (.ret v)) s') (fun e s' => R (.error e) s') s₁) :
    c.CallFrom (callStub n) w free gens kept s := by
  intro args hpre hlay ord hord
  obtain ⟨vs, s₁, hlaid, hns, hspec⟩ := spec args hpre hlay ord hord
  obtain ⟨l1, _, _, l4⟩ := layAllW_rest _ _ _ hlaid
  have t := tree_C (R := fun r s' => (c.Ends s args vs s₁ r s' ∧ s'.os = s.os ∧ kept s'.heap) ∧ AllBare s'.gens) (prog := c.prog) (w := w) (vs := vs) hns hf (hspec (fun r s' => (c.Ends s args vs s₁ r s' ∧ s'.os = s.os ∧ kept s'.heap) ∧ AllBare s'.gens) fun r s' e o b kp => ⟨⟨e, o, kp⟩, b⟩)
  obtain ⟨k, r, s', s'', hrun, hsched, hfo, ⟨hE, hos, hkp⟩⟩ := thread_C (R := fun r s' => c.Ends s args vs s₁ r s' ∧ s'.os = s.os ∧ kept s'.heap) (Shared.asleep_of_life l4 hz) t
  obtain ⟨eh, _, _, eo, _⟩ := Shared.forget_eq hfo
  have hE' := hE.congr eh
  have hkp' : kept s'.heap := by first | exact eh ▸ hkp | (rw [eh] at hkp; exact hkp) | (rw [← eh] at hkp; exact hkp)
  rw [← eo] at hos
  have hl : s'.heap.life = s.heap.life := (runN_life _ _ _ hrun).trans l4
  refine ⟨vs, s₁, hlaid, k, _, s', hsched, ?_, fun _ i x hx => ?_, hkp', by rw [hl], Shared.rest_eq hos⟩
  · rcases hE' with ⟨v, rfl, d1, d2, d3, d4, d5⟩ | ⟨e, ob, cls, rfl, d1, d2, d3, d4, d5⟩
    · exact .inl ⟨v, rfl, d1, d2, d3, fun b o y _ => d4 b o y, d5⟩
    · exact .inr ⟨e, ob, cls, rfl, d1, d2, d3, d4, fun b o y _ => d5 b o y⟩
  · rw [hgens] at hx; simp at hx

/-- THE BRIDGE. The kit's head tactic applies the lemma of this (last) name; it stands here in a namespace of our own with a walk at the caller's one stack (wpC) where the kit's asks for every stack.
It is proved below from the kit's own lemmas; nothing is assumed. -/
theorem PySem.W.holds_open {r : OpenRow} {q : Program} {loose : List Str} {Xt : Shared → Bool} {XP : (Str → Option Value) → Heap → Prop} {α : Type} {Yf : Shared → α} {Ya : World → α} {YP : World → Heap → Prop} {d : DefRec} {kwd : List (Str × Expr)} {N : Nat}
    (left : LeftO r.prog q loose Xt Yf Ya N) (hY : ∀ w s, Yf s = Ya w → YP w s.heap) (hYk : ∀ w h h', YP w h → (∀ b o, h.get? b = some o → h'.get? b = some o) → YP w h')
    (hX : ∀ s, Xt s = true → XP (s.heap.nsMap mainGlobals) s.heap) (hXk : ∀ mg h h', XP mg h → (∀ b o, h.get? b = some o → h'.get? b = some o) → XP mg h')
    (hdef : defOf q r.name = some (d, kwd)) (hp : r.prog.theDef r.name = some (d.params, d.body, d.scope)) (hk : kwWritten? d.params.kwonlyargs d.params.kw_defaults = some kwd) (hRf : ∀ s, Xt s = true → RecFacts r.records s.heap) (hwr : (!r.writes || r.records.isEmpty) = true)
    (k1 : r.wellSaid = true) (ok : (chainsOk q && opensWell r.prog && (frees r.toRowW && r.within.isEmpty)) = true) (hb : r.prog.bare) (hw : r.toRowW.promised)
    (walk : WalkC q loose XP YP r.toRowW d kwd) : r.Holds := by
  simp only [Bool.and_eq_true] at ok
  obtain ⟨⟨hch, o1⟩, k5, k6⟩ := ok
  obtain ⟨hsame, hu, ha, hap, hm⟩ := frees_parts k5
  have hwi : r.toRowW.claim.within = [] := List.isEmpty_iff.mp k6
  have B := fun w => left.behind (XP := fun mg h => XP mg h ∧ RecFacts r.records h) (fun s hs => ⟨hX s hs, hRf s hs⟩) hch w
  refine ⟨k1, hw, ⟨hb, o1, by show r.toRowW.makers.map _ = []; rw [hm]; rfl⟩, hw.witness, fun w => ⟨(B w).1, fun s' hs' => ?_⟩⟩
  obtain ⟨s₀, hf, hg0, s, hT, hz, hgens, hg, G00, y⟩ := (B w).2 s' hs'
  have G0 : Ground q loose [] XP w s (s.heap.nsMap mainGlobals) (s.heap.nsMap builtinsNs) s.heap := { G00 with X := G00.X.1 }
  have RF := G00.X.2
  have hgens : s.gens = #[] := Array.eq_empty_of_size_eq_zero (beq_iff_eq.mp hgens)
  have G : Ground q loose r.toRowW.records XP w s _ _ s.heap := RF.ground G0
  have hname := defOf_name hdef
  have hT' := hT
  obtain ⟨fa, _, _, _, _, _, _, hfa, _⟩ := G.fn hdef
  refine ⟨s₀, hf, hg0, s, hT, fun n hn => ?_, RF.1, RF.2.1, call_C (c := r.toRowW.claim) hz hgens (n := r.name) hfa fun args hpre hlay ord hord => ?_⟩
  · obtain rfl : n = r.name := by split at hn <;> simp_all
    exact pinned_of_view hg G0 hdef hp hk
  · obtain ⟨⟨vs, s₁⟩, hlaid⟩ := Option.isSome_iff_exists.mp (layAllW_isSome (P := w.params) (ord := ord) G.has args r.toRowW.args s (pre_splitW hpre).1)
    have keeps := layAllW_keeps _ _ _ hlaid
    have rest := layAllW_rest _ _ _ hlaid
    obtain ⟨as, hrd, hin, hold⟩ := reads_layAllW hord _ _ _ hlaid hlay s₁.heap (fun _ _ e => e)
    have L : Laid r.toRowW.records w s s₁ args vs as := ⟨⟨ord, hord, hlaid⟩, hrd, hin, hold, keeps, rest.1.trans hgens, rest.2.2.1⟩
    have G₁ := G.keeps hXk keeps
    obtain ⟨a, o, pm, cd, doc, dV, kV, h1, h2, h3, h4, h5⟩ := G₁.fn hdef
    have ea : fa = a := by have := hfa.symm.trans h1; simpa using this
    subst ea
    have t := walk w s s₁ _ _ G₁ (hYk _ _ _ (hY w s y) keeps) fa o pm cd doc dV kV h2 h3 h4 h5 (hname ▸ h1) L.gens args vs as hpre hlay L.reads L.well (L.low G.low)
    refine ⟨vs, s₁, hlaid, G₁.T.g, fun R k => wpC_mono t (fun v s' g => ?_) fun e s' g => ?_⟩
    all_goals
      have z := g.laid (c := r.toRowW.claim) hsame hwi (ident_freeW hu ha hap) L
      exact k _ s' z.1 z.2.1 z.2.2 fun q => ⟨namesKept_of hT' hg r.keeps keeps g.2.1.old, noTable hwr q⟩
end Mine
end

section
open PySem PySem.W PyProof.Rows
set_option Elab.async false
namespace Mine
set_option maxRecDepth 100000 in
set_option maxHeartbeats 8000000 in
open_top hd for PySem.Challenge.rw_ej5034_01
end Mine
end

section
open PySem PySem.W PyProof.Rows
set_option Elab.async false
set_option maxRecDepth 100000
namespace Mine
namespace BA
theorem slot_len : Slot "bytearray" "__len__" "bytearray.__len__" :=
  .of (owner := "bytearray") (n := "__len__") (by rw [typeLookup_type, builtinLookup_eq_fast]; kernel_rfl) (by decide +kernel) (by decide +kernel) (by decide +kernel)
    (by first | exact .inl (by decide +kernel) | exact .inr (by decide +kernel)) (by rw [isSubtype_type]; kernel_rfl)
theorem entry_len : entryFor table "bytearray.__len__" = some Builtin.«bytearray.__len__» := entryFor_of_tree (by kernel_rfl)
theorem args_len (a : Value) : argsOk "bytearray.__len__" ⟨[a], []⟩ := by unfold argsOk; kernel_rfl
theorem slot_getitem : Slot "bytearray" "__getitem__" "bytearray.__getitem__" :=
  .of (owner := "bytearray") (n := "__getitem__") (by rw [typeLookup_type, builtinLookup_eq_fast]; kernel_rfl) (by decide +kernel) (by decide +kernel) (by decide +kernel)
    (by first | exact .inl (by decide +kernel) | exact .inr (by decide +kernel)) (by rw [isSubtype_type]; kernel_rfl)
theorem entry_getitem : entryFor table "bytearray.__getitem__" = some Builtin.«bytearray.__getitem__» := entryFor_of_tree (by kernel_rfl)
theorem args_getitem (a b : Value) : argsOk "bytearray.__getitem__" ⟨[a, b], []⟩ := by unfold argsOk; kernel_rfl
theorem slot_setitem : Slot "bytearray" "__setitem__" "bytearray.__setitem__" :=
  .of (owner := "bytearray") (n := "__setitem__") (by rw [typeLookup_type, builtinLookup_eq_fast]; kernel_rfl) (by decide +kernel) (by decide +kernel) (by decide +kernel)
    (by first | exact .inl (by decide +kernel) | exact .inr (by decide +kernel)) (by rw [isSubtype_type]; kernel_rfl)
theorem entry_setitem : entryFor table "bytearray.__setitem__" = some Builtin.«bytearray.__setitem__» := entryFor_of_tree (by kernel_rfl)
theorem args_setitem (a b c : Value) : argsOk "bytearray.__setitem__" ⟨[a, b, c], []⟩ := by unfold argsOk; kernel_rfl
theorem slot_eq : Slot "bytearray" (cmpInfo .Eq).2.1 "bytearray.__eq__" :=
  .of (owner := "bytearray") (n := "__eq__") (by rw [typeLookup_type, builtinLookup_eq_fast]; kernel_rfl) (by decide +kernel) (by decide +kernel) (by decide +kernel)
    (by first | exact .inl (by decide +kernel) | exact .inr (by decide +kernel)) (by rw [isSubtype_type]; kernel_rfl)
theorem entry_eq : entryFor table "bytearray.__eq__" = some Builtin.«bytearray.__eq__» := entryFor_of_tree (by kernel_rfl)
theorem args_eq (a b : Value) : argsOk "bytearray.__eq__" ⟨[a, b], []⟩ := by unfold argsOk; kernel_rfl
theorem slot_add : Slot "bytearray" (dunder "add") "bytearray.__add__" :=
  .of (owner := "bytearray") (n := "__add__") (by rw [typeLookup_type, builtinLookup_eq_fast]; kernel_rfl) (by decide +kernel) (by decide +kernel) (by decide +kernel)
    (by first | exact .inl (by decide +kernel) | exact .inr (by decide +kernel)) (by rw [isSubtype_type]; kernel_rfl)
theorem entry_add : entryFor table "bytearray.__add__" = some Builtin.«bytearray.__add__» := entryFor_of_tree (by kernel_rfl)
theorem args_add (a b : Value) : argsOk "bytearray.__add__" ⟨[a, b], []⟩ := by unfold argsOk; kernel_rfl
theorem slot_iadd : Slot "bytearray" (dunderI "add") "bytearray.__iadd__" :=
  .of (owner := "bytearray") (n := "__iadd__") (by rw [typeLookup_type, builtinLookup_eq_fast]; kernel_rfl) (by decide +kernel) (by decide +kernel) (by decide +kernel)
    (by first | exact .inl (by decide +kernel) | exact .inr (by decide +kernel)) (by rw [isSubtype_type]; kernel_rfl)
theorem entry_iadd : entryFor table "bytearray.__iadd__" = some Builtin.«bytearray.__iadd__» := entryFor_of_tree (by kernel_rfl)
theorem args_iadd (a b : Value) : argsOk "bytearray.__iadd__" ⟨[a, b], []⟩ := by unfold argsOk; kernel_rfl
theorem slot_iter : Slot "bytearray" "__iter__" "bytearray.__iter__" :=
  .of (owner := "bytearray") (n := "__iter__") (by rw [typeLookup_type, builtinLookup_eq_fast]; kernel_rfl) (by decide +kernel) (by decide +kernel) (by decide +kernel)
    (by first | exact .inl (by decide +kernel) | exact .inr (by decide +kernel)) (by rw [isSubtype_type]; kernel_rfl)
theorem entry_iter : entryFor table "bytearray.__iter__" = some Builtin.«bytearray.__iter__» := entryFor_of_tree (by kernel_rfl)
theorem args_iter (a : Value) : argsOk "bytearray.__iter__" ⟨[a], []⟩ := by unfold argsOk; kernel_rfl
theorem slot_init : Slot "bytearray" "__init__" "bytearray.__init__" :=
  .of (owner := "bytearray") (n := "__init__") (by rw [typeLookup_type, builtinLookup_eq_fast]; kernel_rfl) (by decide +kernel) (by decide +kernel) (by decide +kernel)
    (by first | exact .inl (by decide +kernel) | exact .inr (by decide +kernel)) (by rw [isSubtype_type]; kernel_rfl)
theorem entry_init : entryFor table "bytearray.__init__" = some Builtin.«bytearray.__init__» := entryFor_of_tree (by kernel_rfl)
theorem args_init (a b : Value) : argsOk "bytearray.__init__" ⟨[a, b], []⟩ := by unfold argsOk; kernel_rfl
theorem look_buffer : typeLookup (.type "bytearray") "__buffer__" = pure (some (.builtin "bytearray.__buffer__")) := by rw [typeLookup_type, builtinLookup_eq_fast]; kernel_rfl
theorem look_release : typeLookup (.type "bytearray") "__release_buffer__" = pure (some (.builtin "bytearray.__release_buffer__")) := by rw [typeLookup_type, builtinLookup_eq_fast]; kernel_rfl
theorem sub_self : isSubtype (.type "bytearray") (.type "bytearray") = pure true := by rw [isSubtype_type]; kernel_rfl
theorem sub_bytes : isSubtype (.type "bytearray") (.type "bytes") = pure false := by rw [isSubtype_type]; kernel_rfl
theorem bytes_sub : isSubtype (.type "bytes") (.type "bytearray") = pure false := by rw [isSubtype_type]; kernel_rfl
theorem noR_add : typeLookup (.type "bytearray") (dunderR "add") = pure none := by rw [typeLookup_type, builtinLookup_eq_fast]; kernel_rfl
theorem noFill_add : fillsNumberSlot (.type "bytearray") "add" = pure false := PySem.fillsNumberSlot_seq (id := "bytearray.__add__") (r := none) slot_add.lookup (by decide +kernel) noR_add rfl
theorem seq_add : seqSlot? (.type "bytearray") "__add__" = pure (some (.builtin "bytearray.__add__")) := PySem.seqSlot_of slot_add.lookup (by decide +kernel)
theorem no_bytes : typeLookup (.type "bytearray") "__bytes__" = pure none := by rw [typeLookup_type, builtinLookup_eq_fast]; kernel_rfl
theorem nix : typeLookup (.type "bytearray") "__index__" = pure none := by rw [typeLookup_type, builtinLookup_eq_fast]; kernel_rfl
theorem b_index : typeLookup (.type "bytes") "__index__" = pure none := by rw [typeLookup_type, builtinLookup_eq_fast]; kernel_rfl
theorem no_bool : typeLookup (.type "bytearray") "__bool__" = pure none := by rw [typeLookup_type, builtinLookup_eq_fast]; kernel_rfl
theorem mro : mroOf (.type "bytearray") = pure [.type "bytearray", .type "object"] := by rw [mroOf_type]; kernel_rfl
theorem look_new : typeLookup (.type "bytearray") "__new__" = pure (some (.builtin "bytearray.__new__")) := by rw [typeLookup_type, builtinLookup_eq_fast]; kernel_rfl
end BA
end Mine
end

section
open PySem PySem.W PyProof.Rows PySem.Builtin
set_option Elab.async false
set_option maxRecDepth 100000
namespace Mine
abbrev baO (b : List UInt8) : Obj := { cls := .type "bytearray", data := .bytearray b.toArray }

section
variable {prog : Program} {w : World} {M : Model} {A : Around} {E : Value → Shared → Prop} {s : Shared} {a : Addr} {b : List UInt8}

theorem ba_ty (h : s.heap.get? a = some (baO b)) : s.TypeIs (.ref a) "bytearray" := ⟨_, h, rfl⟩
theorem ba_payload {Q : Array UInt8 → Shared → Prop} (h : s.heap.get? a = some (baO b)) (k : Q b.toArray s) : wpAny M A (Bytes.payload (.ref a)) Q E s := by
  unfold Bytes.payload Bytes.payload?
  exact wpAny_bind (wpAny_bind (wpAny_load h (wpAny_pure (wpAny_pure k))))
theorem ba_payload? {Q : Option (Array UInt8) → Shared → Prop} (h : s.heap.get? a = some (baO b)) (k : Q (some b.toArray) s) : wpAny M A (Bytes.payload? (.ref a)) Q E s := by
  unfold Bytes.payload?
  exact wpAny_bind (wpAny_load h (wpAny_pure k))
theorem ba_own {n : String} {id : String} {Q : Bool → Shared → Prop} (h : s.heap.get? a = some (baO b)) (hl : typeLookup (.type "bytearray") (n : Str) = pure (some (.builtin id))) (he : id.endsWith ("." ++ n) = true) (hd : id.dropRight (n.length + 1) = "bytearray") (k : Q true s) :
    wpAny M A (Bytes.slotIsOwn (.ref a) n) Q E s := by
  unfold Bytes.slotIsOwn
  refine wpAny_bind (wpAny_specialOf (ba_ty h) hl ?_)
  dsimp only
  rw [he, hd]
  exact wpAny_isInstance (ba_ty h) BA.sub_self k
theorem ba_release {Q : Bool → Shared → Prop} (h : s.heap.get? a = some (baO b)) (k : Q false s) : wpAny M A (Bytes.ownRelease (.ref a)) Q E s := by
  unfold Bytes.ownRelease
  exact wpAny_bind (ba_own h BA.look_release (by decide +kernel) (by decide +kernel) (wpAny_pure k))
theorem ba_buffer {id : String} {full : Bool} {Q : Option (Array UInt8) → Shared → Prop} (h : s.heap.get? a = some (baO b)) (k : Q (some b.toArray) s) : wpAny M A (Bytes.buffer? id (.ref a) full) Q E s := by
  unfold Bytes.buffer?
  refine wpAny_bind (wpAny_specialOf (ba_ty h) BA.look_buffer ?_)
  dsimp only
  refine wpAny_bind (ba_own h BA.look_buffer (by decide +kernel) (by decide +kernel) ?_)
  refine wpAny_bind (wpAny_specialOf (ba_ty h) BA.look_buffer ?_)
  refine wpAny_bind (ba_release h ?_)
  exact wpAny_bind (ba_payload h (wpAny_pure k))
theorem ba_quiet {id : String} {Q : Option (Array UInt8) → Shared → Prop} (h : s.heap.get? a = some (baO b)) (k : Q (some b.toArray) s) : wpAny M A (Bytes.bufferQuiet? id (.ref a)) Q E s := by
  unfold Bytes.bufferQuiet?
  exact wpAny_bind (wpAny_attempt (ba_buffer h (wpAny_pure k)))
end
end Mine
end

section
open PySem PySem.W PyProof.Rows PySem.Builtin
set_option Elab.async false
set_option maxRecDepth 100000
namespace Mine

section
variable {a : Addr} {b : List UInt8}
theorem baM_len : Meets («bytearray.__len__» ⟨[.ref a], []⟩) (fun _ R s => s.heap.get? a = some (baO b) ∧ R (.ok (.ret (.int b.length s.toks))) { s with toks := s.toks + 1 }) := by
  refine .of_wp fun prog w A R s ⟨h, k⟩ => ?_
  show wpAny _ _ (Bytes.payload (.ref a) >>= fun r => _) _ _ s
  refine wpAny_bind (ba_payload h ?_)
  exact wpAny_bind (wpAny_mkInt (wpAny_pure ⟨_, rfl, by simpa using k⟩))
theorem baM_item {i : Int} {u : Tok} {c : UInt8} (h0 : 0 ≤ i) (hf : i < 2 ^ 63) (hc : b[i.toNat]? = some c) :
    Meets («bytearray.__getitem__» ⟨[.ref a, .int i u], []⟩) (fun _ R s => s.heap.get? a = some (baO b) ∧ R (.ok (.ret (.int c.toNat s.toks))) { s with toks := s.toks + 1 }) := by
  refine .of_wp fun prog w A R s ⟨h, k⟩ => ?_
  show wpAny _ _ (Bytes.subscript? (.int i u) >>= fun r => _) _ _ s
  refine wpAny_bind ?_
  unfold Bytes.subscript?
  refine wpAny_bind (wpAny_specialOf (typeIs_int s i u) F.slot_int_index.lookup ?_)
  show wpAny _ _ (if (!Bytes.fitsIndex i) = true then _ else pure (some i)) _ _ s
  have hfi : Bytes.fitsIndex i = true := by simp only [Bytes.fitsIndex, Bool.and_eq_true, decide_eq_true_eq]; omega
  rw [hfi]
  refine wpAny_pure ?_
  show wpAny _ _ (Bytes.payload (.ref a) >>= fun r => _) _ _ s
  refine wpAny_bind (ba_payload h ?_)
  have hl : i.toNat < b.length := (List.getElem?_eq_some_iff.mp hc).1
  have e : (seqIndex? i b.toArray.size).bind (b.toArray[·]?) = some c := by
    have hn : ¬ i < 0 := by omega
    have h1 : i < (b.length : Int) := by omega
    have h2 : b[i.toNat] = c := (List.getElem?_eq_some_iff.mp hc).2
    simp [seqIndex?, hn, h0, h1, h2]
  rw [e]
  exact wpAny_bind (wpAny_mkInt (wpAny_pure ⟨_, rfl, k⟩))

theorem picked_sl (b : List UInt8) (lo hi : Nat) : KBy.picked b.toArray (some (lo : Int)) (some (hi : Int)) = ((b.drop lo).take (hi - lo)).toArray := by
  rw [KBc.picked_eq]
  simp only [Option.elim, clipAt_nat, List.size_toArray]
  congr 1
  by_cases h : lo ≤ b.length
  · rw [Nat.min_eq_left h]
    rw [List.take_eq_take_iff]
    simp only [List.length_drop]
    omega
  · rw [List.drop_eq_nil_of_le (by omega), List.drop_eq_nil_of_le (by omega)]
    simp

theorem baM_slice {sl : Addr} {l u : Value} {lo hi : Option Int} (hl : IsPart l lo) (hu : IsPart u hi) :
    Meets («bytearray.__getitem__» ⟨[.ref a, .ref sl], []⟩) (fun _ R s => s.heap.IsSliceOf sl l u .none ∧ s.heap.get? a = some (baO b) ∧ (KBy.picked b.toArray lo hi).size ≤ sizeLine ∧
      R (.ok (.ret (.ref s.heap.objs.size))) { s with heap := s.heap.push { cls := .type "bytearray", data := .bytearray (KBy.picked b.toArray lo hi) } }) := by
  refine .of_wp fun prog w A R s hS => ?_
  obtain ⟨⟨o, ho, hc, hd⟩, hb, hsz, h⟩ := hS
  have hT : s.TypeIs (.ref sl) "slice" := ⟨o, ho, hc⟩
  show wpAny _ _ (Bytes.subscript? (.ref sl) >>= fun r => _) _ _ s
  refine wpAny_bind ?_
  unfold Bytes.subscript?
  refine wpAny_bind (wpAny_specialOf hT slice_no_index (wpAny_pure ?_))
  refine wpAny_bind (wpAny_typeOf hT ?_)
  show wpAny _ _ (Bytes.sliceParts (.ref sl) >>= fun r => _) _ _ s
  refine wpAny_bind ?_
  unfold Bytes.sliceParts
  refine wpAny_bind (wpAny_field (x := .none) ho hd rfl ?_)
  kby_none
  refine wpAny_ite (KBy.ite_no (show ¬ ((Value.none == rawInt 0) = true) from Bool.false_ne_true) ?_)
  refine wpAny_bind (wpAny_field (x := l) ho hd rfl ?_)
  have go : wpAny (model prog w) A.in1 (sliceIndices (rawPart lo) (rawPart hi) (rawPart none) b.toArray.size) (fun r s' => r = sliceBounds lo hi none b.toArray.size ∧ s' = s) (fun _ _ => False) s :=
    wpAny_of_eq (sliceIndices_raw lo hi none b.toArray.size (fun e => nomatch e)) ⟨rfl, rfl⟩
  cases hl <;> cases hu <;> (first
    | (kby_none; (refine wpAny_bind (wpAny_field (x := .none) ho hd rfl ?_)); kby_none)
    | (kby_none; (refine wpAny_bind (wpAny_field (x := .int _ _) ho hd rfl ?_)); kby_int)
    | (kby_int; (refine wpAny_bind (wpAny_field (x := .none) ho hd rfl ?_)); kby_none)
    | (kby_int; (refine wpAny_bind (wpAny_field (x := .int _ _) ho hd rfl ?_)); kby_int)) <;> refine wpAny_pure ?_
  all_goals
    refine wpAny_bind (ba_payload hb ?_)
    refine wpAny_bind (wpAny_mono go (fun r s' hr => ?_) fun _ _ e => e.elim)
    obtain ⟨hr1, hr2⟩ := hr
    subst hr1 hr2
    unfold Bytes.newBytearray
    exact wpAny_bind (wpAny_newObj_type (wpAny_pure ⟨_, rfl, h⟩) hsz)

theorem baM_set {i v : Int} {t u : Tok} (h0 : 0 ≤ i) (hf : i < 2 ^ 63) (hi : i < b.length) (v0 : 0 ≤ v) (v1 : v < 256) (hz : b.length ≤ sizeLine) :
    Meets («bytearray.__setitem__» ⟨[.ref a, .int i u, .int v t], []⟩) (fun _ R s => s.heap.get? a = some (baO b) ∧
      ∀ h', h'.get? a = some (baO (b.set i.toNat v.toNat.toUInt8)) → Heap.SameBut a s.heap h' → R (.ok (.ret .none)) { s with heap := h' }) := by
  refine .of_wp fun prog w A R s ⟨h, k⟩ => ?_
  unfold Builtin.«bytearray.__setitem__»
  show wpAny _ _ (Bytes.subscript? (.int i u) >>= fun r => _) _ _ s
  refine wpAny_bind ?_
  unfold Bytes.subscript?
  refine wpAny_bind (wpAny_specialOf (typeIs_int s i u) F.slot_int_index.lookup ?_)
  show wpAny _ _ (if (!Bytes.fitsIndex i) = true then _ else pure (some i)) _ _ s
  have hfi : Bytes.fitsIndex i = true := by simp only [Bytes.fitsIndex, Bool.and_eq_true, decide_eq_true_eq]; omega
  rw [hfi]
  refine wpAny_pure ?_
  show wpAny _ _ (Bytes.byteValue (.int v t) >>= fun r => _) _ _ s
  refine wpAny_bind ?_
  unfold Bytes.byteValue
  refine wpAny_bind (wpAny_of_eq (a := v) rfl ?_)
  refine bm_if_false (by simp only [Bool.or_eq_false_iff, decide_eq_false_iff_not]; omega) ?_
  refine wpAny_pure ?_
  refine wpAny_bind (ba_payload h ?_)
  have e : seqIndex? i b.toArray.size = some i.toNat := by
    have hn : ¬ i < 0 := by omega
    simp [seqIndex?, hn, hi]
  rw [e]
  show wpAny _ _ (updateBytearray a (·.setIfInBounds i.toNat v.toNat.toUInt8) >>= fun _ => _) _ _ s
  refine wpAny_bind ?_
  unfold updateBytearray
  refine wpAny_bind (wpAny_load h ?_)
  show wpAny _ _ (update a (Obj.mapBytearray (·.setIfInBounds i.toNat v.toNat.toUInt8)) >>= fun _ => lookBehind a) _ _ _
  refine wpAny_bind (wpAny_update h ?_)
  have h2 : (s.heap.update a (Obj.mapBytearray (·.setIfInBounds i.toNat v.toNat.toUInt8))).get? a = some (baO (b.set i.toNat v.toNat.toUInt8)) :=
    (Heap.get?_update_self (Obj.mapBytearray (·.setIfInBounds i.toNat v.toNat.toUInt8)) h rfl).trans (by simp [Obj.mapBytearray])
  refine wpAny_lookBehind h2 ?_ ?_
  · show (if (b.set i.toNat v.toNat.toUInt8).toArray.size > sizeLine then some "bytearray:memory" else none) = none
    rw [if_neg]
    simp only [List.size_toArray, List.length_set]; omega
  · exact wpAny_pure ⟨_, rfl, k _ h2 (Heap.SameBut.update ..)⟩

theorem baM_eq {c : List UInt8} {t : Tok} : Meets («bytearray.__eq__» ⟨[.ref a, .bytes c.toArray t], []⟩) (fun _ R s => s.heap.get? a = some (baO b) ∧ R (.ok (.ret (.bool (b == c)))) s) := by
  refine .of_wp fun prog w A R s ⟨h, k⟩ => ?_
  show wpAny _ _ (Bytes.buffer? _ (.ref a) >>= fun r => _) _ _ s
  refine wpAny_bind (ba_buffer h ?_)
  show wpAny _ _ (Bytes.bufferQuiet? _ (.bytes c.toArray t) >>= fun r => _) _ _ s
  refine wpAny_bind (wpAny_of_eq KBy.quiet_eq ?_)
  refine wpAny_pure ⟨_, rfl, ?_⟩
  have e := order_eq b c
  rw [← e] at k
  exact k
theorem baM_add {d : Addr} {c : List UInt8} (hz : b.length + c.length ≤ 16777216) :
    Meets («bytearray.__add__» ⟨[.ref a, .ref d], []⟩) (fun _ R s => s.heap.get? a = some (baO b) ∧ s.heap.get? d = some (baO c) ∧ R (.ok (.ret (.ref s.heap.objs.size))) { s with heap := s.heap.push (baO (b ++ c)) }) := by
  refine .of_wp fun prog w A R s ⟨h, h', k⟩ => ?_
  show wpAny _ _ (Bytes.buffer? _ (.ref a) >>= fun r => _) _ _ s
  refine wpAny_bind (ba_buffer h ?_)
  show wpAny _ _ (Bytes.bufferQuiet? _ (.ref d) >>= fun r => _) _ _ s
  refine wpAny_bind (ba_quiet h' ?_)
  show wpAny _ _ (if Bytes.tooLong (b.toArray.size + c.toArray.size) = true then _ else _) _ _ s
  rw [if_neg (by rw [KBy.tooLong_not (by simpa using hz)]; exact Bool.false_ne_true)]
  unfold Bytes.newBytearray
  refine wpAny_bind (wpAny_newObj_type (wpAny_pure ⟨_, rfl, ?_⟩) ?_)
  · simpa using k
  · show (b.toArray ++ c.toArray).size ≤ sizeLine
    rw [sizeLine_eq]; simpa using hz
theorem baM_iter : Meets («bytearray.__iter__» ⟨[.ref a], []⟩) (fun _ R s => R (.ok (.ret (.ref s.heap.objs.size))) { s with heap := s.heap.push { cls := .type "bytearray_iterator", data := .fields #[.ref a, .int 0 0] } }) := by
  refine .of_wp fun prog w A R s k => ?_
  show wpAny _ _ (newFields "bytearray_iterator" [.ref a, rawInt 0] >>= fun r => _) _ _ s
  unfold newFields
  exact wpAny_bind (wpAny_newObj_type (wpAny_pure ⟨_, rfl, k⟩))
end
end Mine
end

section
open PySem PySem.W PyProof.Rows PySem.Builtin PySem.Calls
set_option Elab.async false
set_option maxRecDepth 100000
namespace Mine

section
variable {prog : Program} {w : World} {M : Model} {A : Around} {E : Value → Shared → Prop} {s : Shared} {K : Frag} {a : Addr} {b : List UInt8}

/-! bytes(bytearray) -/
theorem bytes_ba_new {Q : Value → Shared → Prop} (h : s.heap.get? a = some (baO b)) (hz : b.length ≤ sizeLine) (k : ∀ t k, Q (.bytes b.toArray t) { s with toks := k }) :
    codeAny (model prog w) A (.call (.builtin "bytes.__new__") ⟨[.type "bytes", .ref a], []⟩) (wants Q E) s := by
  refine codeAny_of_tree ?_
  show wpAny _ A.in1 (do checkBuiltinCall "bytes.__new__" ⟨[.type "bytes", .ref a], []⟩; again (.builtin "bytes.__new__" ⟨[.type "bytes", .ref a], []⟩)) _ _ s
  refine wpAny_bind (wpAny_of_eq (F.bm_newCall _) (wpAny_pure ⟨plainId_quiet F.bm_plain _, codeAny_builtin F.bm_entry ?_⟩))
  rw [Around.under_plainId F.bm_plain _]
  have hT := ba_ty h
  unfold Builtin.«bytes.__new__»
  refine wpAny_bind (wpAny_of_eq (a := true) rfl ?_)
  refine bm_if_false rfl ?_
  refine wpAny_bind (wpAny_of_eq F.bm_sub ?_)
  refine bm_if_false rfl ?_
  refine wpAny_bind (wpAny_of_eq (F.bm_bind _) ?_)
  refine wpAny_bind (wpAny_of_eq (a := ()) rfl ?_)
  refine wpAny_bind (wpAny_of_eq (a := ()) rfl ?_)
  refine bm_if_false rfl ?_
  refine wpAny_bind (wpAny_specialOf hT BA.no_bytes ?_)
  refine wpAny_bind (wpAny_bind ?_)
  show wpAny _ _ (load a >>= _) _ _ _
  refine wpAny_bind (wpAny_load h ?_)
  refine wpAny_pure (wpAny_pure ?_)
  refine bm_if_false rfl ?_
  refine wpAny_bind (wpAny_specialOf hT BA.nix ?_)
  refine bm_if_true rfl ?_
  first
    | show wpAny _ _ (Builtin.Bytes.buffer? "bytes.__new__" (.ref a) true >>= _) _ _ _
    | (refine wpAny_bind ?_; show wpAny _ _ (Builtin.Bytes.buffer? "bytes.__new__" (.ref a) true >>= _) _ _ _)
  refine wpAny_bind (ba_buffer h ?_)
  refine wpAny_bind (wpAny_rule ?_)
  refine wpAny_bind (wpAny_mkBytes ?_ (by simpa using hz))
  show wpAny _ _ (if (Value.type "bytes" == Value.type "bytes") = true then _ else _) _ _ _
  refine bm_if_true (by decide) ?_
  first
    | exact wpAny_pure (k _ _)
    | exact wpAny_bind (wpAny_pure (wpAny_pure (k _ _)))
    | exact wpAny_pure (wpAny_pure (k _ _))
theorem call_bytes_ba {Q : Value → Shared → Prop} (h : s.heap.get? a = some (baO b)) (hz : b.length ≤ sizeLine) (k : ∀ t k, Q (.bytes b.toArray t) { s with toks := k }) : wpAny (model prog w) A (call (.type "bytes") [.ref a]) Q E s := by
  refine callType_codes (Q₁ := fun obj s₁ => s₁.TypeIs obj "bytes" ∧ Q obj s₁) F.bm_called (F.bm_typeCall _) F.entry_object_init
    (bytes_ba_new h hz fun t j => ⟨PySem.W.typeIs_bytes _ _ _, k t j⟩) fun obj s₁ h₁ => ?_
  exact ⟨h₁.1, F.args_object_init_2 obj _, object_init_meets F.bm_called.init.lookup F.bm_called.made (by decide) prog w A.in1 _ s₁ ⟨h₁.1, rfl, h₁.2⟩⟩

/-! int.from_bytes(x, 'big') -/
theorem meth_fb {pl : Sem Bool} {Q : Value × List Value → Shared → Prop} (X : K.In s.heap)
    (e : findCls K (.type "int") (.type "type") (PySem.Str.ofString "from_bytes") = some (.get (.builtin "classmethod_descriptor.__get__") (.builtin "int.from_bytes") .none (.type "int")))
    (h : Q (.ref s.heap.objs.size, []) { s with heap := s.heap.push KFB.bound, toks := s.toks + 1 }) : wpAny (model prog w) A (getMethod (.type "int") (PySem.Str.ofString "from_bytes") pl) Q E s := by
  have hstub : opaqueClassAbove (.type "int") = pure none := by unfold opaqueClassAbove; dsimp only; rw [show Manifest.isStub "int" = false by decide +kernel]; rfl
  have ht : typeOf (.type "int") = pure (.type "type") := by first | rfl | kernel_rfl
  have L0 : Looks (model prog w) s.heap (typeOf (.type "int")) (.type "type") := Looks.of_pure ht
  have hg : findIn K (.type "type") "__getattribute__" = some (some (.builtin "type.__getattribute__")) := type_tga
  unfold getMethod specialOf
  refine wpAny_bind (wpAny_bind (L0.here ((looks_findIn X hg).here ?_)))
  dsimp only
  rw [if_pos canon_tga]
  refine wpAny_bind (wpAny_mono (Q := fun v => Q (v, [])) (E := E) ?_ (fun _ _ z => wpAny_pure z) fun _ _ z => z)
  have LO : Looks (model prog w) s.heap (opaqueClassAbove (.type "int")) none := Looks.of_pure hstub
  refine cls_open X LO L0 hg (looks_hook X (r := none) (by rfl)) (by show subIn K _ _ = _; rfl) e ?_
  show wpAny _ _ (holding [.builtin "int.from_bytes"] (call (.builtin "classmethod_descriptor.__get__") [.builtin "int.from_bytes", .none, .type "int"]) >>= fun v => ret v) _ _ _
  exact wpAny_bind (wpAny_holding (wpAny_call_entry KFB.slot_get KFB.type_fb KFB.entry_get (KFB.run_get ⟨_, rfl, wpAny_pure (wpAny_pure h)⟩) (KFB.args_get _ _ _)))

def num (l : List UInt8) : Nat := l.foldl (fun acc b => acc * 256 + b.toNat) 0
theorem num_lt (l : List UInt8) (h : l.length ≤ 8) : num l < 2 ^ 64 := by
  have h1 := KFB.fold_lt l 0
  rw [Nat.zero_add, Nat.one_mul] at h1
  have h2 : 256 ^ l.length ≤ 256 ^ 8 := Nat.pow_le_pow_right (by decide) h
  have : num l < 256 ^ l.length := h1
  omega
theorem check_fb_ba {x : Addr} {u : Tok} {o : PySem.Str} : checkBoundCall "int.from_bytes" ⟨[.type "int", .ref x, .str o u], []⟩ = pure () := by first | kernel_rfl | rfl

theorem fb_ba {u : Tok} {P : Fin → Shared → Prop} (ho : s.heap.get? a = some (baO b)) (hl : b.length ≤ 8) (h : P (.done (.ret (.int (num b) s.toks))) { s with toks := s.toks + 1 }) :
    wpAny M A (Builtin.«int.from_bytes» ⟨[.type "int", .ref a, .str (PySem.Str.ofString "big") u], []⟩) P E s := by
  have hT := ba_ty ho
  unfold Builtin.«int.from_bytes»
  refine wpAny_bind (wpAny_of_eq (a := true) KFB.type_int ?_)
  refine bm_if_false rfl ?_
  refine wpAny_bind (wpAny_of_eq (a := true) F.conv_sub_int ?_)
  refine bm_if_false rfl ?_
  refine wpAny_bind (wpAny_of_eq (a := [some (.ref a), some (.str (PySem.Str.ofString "big") u), none]) (by kernel_rfl) ?_)
  refine wpAny_bind (wpAny_of_eq (a := PySem.Str.ofString "big") (by kernel_rfl) ?_)
  refine wpAny_bind (wpAny_of_eq (a := false) rfl ?_)
  refine wpAny_bind (wpAny_of_eq (a := false) (by kernel_rfl) ?_)
  refine wpAny_bind ?_
  show wpAny _ _ (specialOf (.ref a) (PySem.Str.ofString "__bytes__") >>= fun r => _) _ _ _
  refine wpAny_bind (wpAny_specialOf hT BA.no_bytes ?_)
  dsimp only
  refine wpAny_bind (wpAny_bind ?_)
  show wpAny _ _ (load a >>= _) _ _ _
  refine wpAny_bind (wpAny_load ho (wpAny_pure (wpAny_pure ?_)))
  refine bm_if_true rfl ?_
  refine wpAny_bind (wpAny_specialOf hT BA.look_buffer ?_)
  refine wpAny_bind (wpAny_specialOf hT BA.look_release ?_)
  refine wpAny_bind (wpAny_isInstance hT BA.sub_self ?_)
  refine bm_if_false rfl ?_
  refine wpAny_bind (wpAny_bind ?_)
  show wpAny _ _ (load a >>= _) _ _ _
  refine wpAny_bind (wpAny_load ho (wpAny_pure (wpAny_pure ?_)))
  refine wpAny_pure ?_
  show wpAny _ _ (mkIntGrown (b.foldl (fun (acc : Int) (b : UInt8) => acc * 256 + (b.toNat : Int)) ((0 : Nat) : Int)) >>= fun v => _) _ _ _
  rw [KFB.foldI_eq]
  refine wpAny_bind (KFB.grown (num_lt b hl) ?_)
  refine bm_if_true (by decide +kernel) ?_
  exact wpAny_bind (wpAny_pure (wpAny_pure h))
theorem call_fb {x : Addr} {v : Value} {u : Tok} {z : Int} {Q : Value → Shared → Prop} (ho : s.heap.get? x = some KFB.bound) (hc : checkBoundCall "int.from_bytes" ⟨[.type "int", v, .str (PySem.Str.ofString "big") u], []⟩ = pure ())
    (tree : ∀ {P : Fin → Shared → Prop} {E' : Value → Shared → Prop} {A' : Around}, P (.done (.ret (.int z s.toks))) { s with toks := s.toks + 1 } → wpAny (model prog w) A' (Builtin.«int.from_bytes» ⟨[.type "int", v, .str (PySem.Str.ofString "big") u], []⟩) P E' s)
    (h : Q (.int z s.toks) { s with toks := s.toks + 1 }) : wpAny (model prog w) A (call (.ref x) [v, .str (PySem.Str.ofString "big") u]) Q E s := by
  refine wpAny_call (codeAny_of_tree ?_)
  show wpAny _ A.in1 (callAny (.ref x) ⟨[v, .str (PySem.Str.ofString "big") u], []⟩) _ _ s
  simp only [callAny]
  refine wpAny_bind (wpAny_load ho ?_)
  simp only [KFB.bound, show (Value.type "builtin_function_or_method" == Value.type "method" || Value.type "builtin_function_or_method" == Value.type "builtin_function_or_method" || Value.type "builtin_function_or_method" == Value.type "method-wrapper") = true by decide, if_true]
  refine bm_if_true (by decide) ?_
  refine wpAny_bind (wpAny_of_eq (a := ()) hc ?_)
  refine wpAny_bind (wpAny_pure (wpAny_pure ?_))
  exact ⟨KFB.quiet_fb, codeAny_builtin KFB.entry_fb (tree h)⟩
theorem fb_bytes {t u : Tok} {P : Fin → Shared → Prop} (hl : b.length ≤ 8) (h : P (.done (.ret (.int (num b) s.toks))) { s with toks := s.toks + 1 }) :
    wpAny M A (Builtin.«int.from_bytes» ⟨[.type "int", .bytes b.toArray t, .str (PySem.Str.ofString "big") u], []⟩) P E s := by
  have e : KFB.value (KBw.bInts b.toArray) = ((num b : Nat) : Int) := (KFB.fold_cast b 0).symm
  exact KFB.tree_big (by simpa using hl) (by rw [e]; exact h)

/-! bytearray == bytes, + -/
theorem ba_eq_bytes {c : List UInt8} {t : Tok} {Q : Value → Shared → Prop} (ho : s.heap.get? a = some (baO b)) (hu : A.units < cLine) (h : Q (.bool (b == c)) s) : wpAny (model prog w) A (compareOp .Eq (.ref a) (.bytes c.toArray t)) Q E s := by
  show wpAny _ _ (richCompare .Eq (.ref a) (.bytes c.toArray t)) _ _ _
  have hT := ba_ty ho
  have hB : s.TypeIs (.bytes c.toArray t) "bytes" := rfl
  unfold richCompare
  refine wpAny_holding ?_
  refine wpAny_bind (wpAny_cRoomFor hu ?_)
  rw [show oneThing? .Eq (.ref a) (.bytes c.toArray t) = none from rfl]
  dsimp only
  refine wpAny_bind (wpAny_typeOf hT (wpAny_bind (wpAny_typeOf hB ?_)))
  refine bm_if_true (by decide) ?_
  refine wpAny_bind (wpAny_of_eq BA.bytes_sub ?_)
  refine bm_if_false rfl ?_
  refine wpAny_bind (wpAny_tryCompare_slot hT BA.slot_eq (call_meets BA.slot_eq hT BA.entry_eq (BA.args_eq _ _) (baM_eq (b := b)) ⟨ho, ?_⟩))
  exact ⟨(fun e => nomatch e), wpAny_pure h⟩
theorem ba_add {d : Addr} {c : List UInt8} {Q : Value → Shared → Prop} (ho : s.heap.get? a = some (baO b)) (hd : s.heap.get? d = some (baO c)) (hz : b.length + c.length ≤ 16777216)
    (h : Q (.ref s.heap.objs.size) { s with heap := s.heap.push (baO (b ++ c)) }) : wpAny (model prog w) A (binaryOp .Add (.ref a) (.ref d)) Q E s :=
  PySem.concat_meets (ba_ty ho) (ba_ty hd) BA.noFill_add BA.seq_add BA.slot_add BA.entry_add (BA.args_add _ _) (baM_add hz) ⟨ho, hd, h⟩
end
end Mine
end

section
open PySem PySem.W PyProof.Rows PySem.Builtin PySem.Calls
set_option Elab.async false
set_option maxRecDepth 100000
namespace Mine
namespace BA
theorem slot_ga : Slot "bytearray" "__getattribute__" "bytearray.__getattribute__" :=
  .of (owner := "bytearray") (n := "__getattribute__") (by rw [typeLookup_type, builtinLookup_eq_fast]; kernel_rfl) (by decide +kernel) (by decide +kernel) (by decide +kernel)
    (by first | exact .inl (by decide +kernel) | exact .inr (by decide +kernel)) (by rw [isSubtype_type]; kernel_rfl)
theorem args_ga (a b : Value) : argsOk "bytearray.__getattribute__" ⟨[a, b], []⟩ := by unfold argsOk; kernel_rfl
theorem entry_ga : entryFor table "bytearray.__getattribute__" = some Builtin.«object.__getattribute__» :=
  entryFor_alias (id' := "object.__getattribute__") (by kernel_rfl) (by first | rfl | decide +kernel) (by decide +kernel) (by kernel_rfl)
theorem lk_class : typeLookup (.type "bytearray") "__class__" = pure (some (.builtin "object.__class__")) := by rw [typeLookup_type, builtinLookup_eq_fast]; kernel_rfl
theorem sub_class_owner : isSubtype (.type "bytearray") (.type (".".intercalate ("object.__class__".cutAt '.').dropLast)) = pure true := by
  rw [F.owner_object_class, isSubtype_type]; kernel_rfl
end BA

section
variable {prog : Program} {w : World} {A : Around} {E : Value → Shared → Prop} {h : Heap} {g : Array GenState} {d : Drawn} {t : Nat} {os : OsState} {a : Addr} {o : Obj}

theorem ba_class_get {R : Result → Shared → Prop} (hx : h.get? a = some o) (hc : o.cls = .type "bytearray") (hq : R (.ok (.ret (.type "bytearray"))) ⟨h, g, d, t, os⟩) :
    codeAny (model prog w) A (.call (.builtin "getset_descriptor.__get__") ⟨[.builtin "object.__class__", .ref a, .type "bytearray"], []⟩) R ⟨h, g, d, t, os⟩ := by
  have hT : (⟨h, g, d, t, os⟩ : Shared).TypeIs (.ref a) "bytearray" := ⟨_, hx, hc⟩
  have hT5 : (⟨h, g, d, t, os⟩ : Shared).TypeIs (.builtin "object.__class__") "getset_descriptor" := F.typeOf_object_class
  have f8 := BA.sub_class_owner
  refine codeAny_call_builtin F.slot_gs_get.plain F.entry_gs_get (F.slot_gs_get.check _ _ _ _ _ _ _ _ hT5 (F.args_gs_get _ _ _) ?_)
  repeat (any_goals (first | assumption | wp_step))
  refine ⟨Code.quiet_builtin _ (by decide +kernel), codeAny_builtin F.entry_object_class ?_⟩
  repeat (any_goals (first | assumption | wp_step))
theorem ba_class_entry {tk : Tok} {Q : PySem.Fin → Shared → Prop} (hx : h.get? a = some o) (hc : o.cls = .type "bytearray") (hq : Q (.done (.ret (.type "bytearray"))) ⟨h, g, d, t, os⟩) :
    wpAny (model prog w) A (Builtin.«object.__getattribute__» ⟨[.ref a, .str "__class__" tk], []⟩) Q E ⟨h, g, d, t, os⟩ := by
  have hT : (⟨h, g, d, t, os⟩ : Shared).TypeIs (.ref a) "bytearray" := ⟨_, hx, hc⟩
  have hT5 : (⟨h, g, d, t, os⟩ : Shared).TypeIs (.builtin "object.__class__") "getset_descriptor" := F.typeOf_object_class
  have f4 := BA.lk_class
  have f5 := F.typeOf_object_class
  have f6 := F.slot_gs_get.lookup
  have f7 := F.slot_gs_set.lookup
  repeat (any_goals (first | assumption | wp_step))
  refine ba_class_get hx hc ?_
  repeat (any_goals (first | assumption | wp_step))
theorem ba_class_by {tk : Tok} {Q : Value → Shared → Prop} (hx : h.get? a = some o) (hc : o.cls = .type "bytearray") (hq : Q (.type "bytearray") ⟨h, g, d, t, os⟩) : wpAny (model prog w) A (getAttrBy (.ref a) (.str "__class__" tk) false) Q E ⟨h, g, d, t, os⟩ := by
  have hT : (⟨h, g, d, t, os⟩ : Shared).TypeIs (.ref a) "bytearray" := ⟨_, hx, hc⟩
  have f2 := BA.slot_ga.lookup
  have f3 := BA.slot_ga.bind (.ref a)
  repeat (any_goals (first | assumption | wp_step))
  refine codeAny_call_builtin BA.slot_ga.plain BA.entry_ga (BA.slot_ga.check _ _ _ _ _ _ _ _ hT (BA.args_ga _ _) (ba_class_entry hx hc ?_))
  repeat (any_goals (first | assumption | wp_step))
theorem ba_class_attr {Q : Option Value → Shared → Prop} (hx : h.get? a = some o) (hc : o.cls = .type "bytearray") (hq : Q (some (.type "bytearray")) ⟨h, g, d, t + 1, os⟩) : wpAny (model prog w) A (getAttr? (.ref a) "__class__") Q E ⟨h, g, d, t, os⟩ := by
  unfold getAttr? getAttrBy?
  repeat (any_goals (first | assumption | with_reducible apply ba_class_by hx hc | wp_step))
theorem ba_nested_false {T : String} {dep : Int} {tk : Tok} {Q : PySem.Fin → Shared → Prop} (hx : h.get? a = some o) (hc : o.cls = .type "bytearray") (hne : (Value.type "bytearray" == Value.type T) = false) (hty : typeOf (.type T) = pure (.type "type"))
    (hsub : isSubtype (.type "bytearray") (.type T) = pure false) (hq : Q (.done (.ret (.bool false))) ⟨h, g, d, t + 1, os⟩) :
    wpAny (model prog w) A (Builtin.«isinstance.nested» ⟨[.ref a, .type T, .int dep tk], []⟩) Q E ⟨h, g, d, t, os⟩ := by
  have hT : (⟨h, g, d, t, os⟩ : Shared).TypeIs (.ref a) "bytearray" := ⟨_, hx, hc⟩
  repeat (any_goals (first | assumption | with_reducible apply ba_class_attr hx hc | wp_step))
end

section
variable {prog : Program} {w : World} {A : Around} {E : Value → Shared → Prop} {s : Shared} {a tp : Addr}
/-- isinstance(x, (bytes, bytearray)) for a bytearray -/
theorem ba_isi_tuple {Q : Value → Shared → Prop} (hx : s.TypeIs (.ref a) "bytearray") (ht : s.heap.get? tp = some (tupO [.type "bytes", .type "bytearray"])) (h : ∀ tk, Q (.bool true) { s with toks := tk }) :
    wpAny (model prog w) A (call (.builtin "isinstance") [.ref a, .ref tp]) Q E s :=
  IsiPair.tupleOfB (Tx := "bytearray") (cs := [.type "bytes", .type "bytearray"]) (vs := [false, true])
    (AnswersAll.cons (fun _ _ _ _ _ _ s hs => by
      obtain ⟨h, g, d, t, os⟩ := s
      obtain ⟨⟨o, hx, hc⟩, hq⟩ := hs
      exact ba_nested_false hx hc (by decide +kernel) F.isi_meta_bytes BA.sub_bytes (hq (t + 1)))
    (AnswersAll.cons (Answers.of_true F.isi_meta_bytearray BA.sub_self) AnswersAll.nil)) hx ht rfl h
end
end Mine
end

section
open PySem PySem.W PyProof.Rows
set_option Elab.async false
set_option maxRecDepth 100000
namespace Mine

/-- a value that holds octets: a bytearray (lv) or bytes -/
def Oct (X : Cx) (σ : St) : Bool → Value → List UInt8 → Prop
  | false, v, o => ∃ t, v = .bytes o.toArray t
  | true, v, o => ∃ a, v = .ref a ∧ Live X σ a (baO o)
def OctF (F : Mp) : Bool → Value → List UInt8 → Prop
  | false, v, o => ∃ t, v = .bytes o.toArray t
  | true, v, o => ∃ a, v = .ref a ∧ F a = some (baO o)
theorem OctF.oct {X : Cx} {σ : St} {lv : Bool} {v : Value} {o : List UInt8} (h : OctF σ.F lv v o) : Oct X σ lv v o := by
  cases lv with
  | false => exact h
  | true => obtain ⟨a, rfl, h⟩ := h; exact ⟨a, rfl, .inr (.inl h)⟩
theorem OctF.le {F F' : Mp} {lv : Bool} {v : Value} {o : List UInt8} (k : Le F F') (h : OctF F lv v o) : OctF F' lv v o := by
  cases lv with
  | false => exact h
  | true => obtain ⟨a, rfl, h⟩ := h; exact ⟨a, rfl, k _ _ h⟩
/-- a new octet value, among the mutable objects where it is a bytearray -/
def OctN (X : Cx) (σ : St) (lv : Bool) (v : Value) (o : List UInt8) (U' : Mp) : Prop := match lv with
  | false => (∃ t, v = .bytes o.toArray t) ∧ U' = σ.U
  | true => ∃ a, v = .ref a ∧ Frsh X.s₁ σ a ∧ U' = upd σ.U a (baO o)
theorem OctN.oct {X : Cx} {σ : St} {lv : Bool} {v : Value} {o : List UInt8} {U' : Mp} (h : OctN X σ lv v o U') {fr : List Fram} {F : Mp} : Oct X ⟨fr, F, U'⟩ lv v o := by
  cases lv with
  | false => exact h.1
  | true => obtain ⟨a, rfl, _, rfl⟩ := h; exact ⟨a, rfl, .inl (upd_same ..)⟩
theorem OctN.le {X : Cx} {σ : St} {lv : Bool} {v : Value} {o : List UInt8} {U' : Mp} (h : OctN X σ lv v o U') : Le σ.U U' := by
  cases lv with
  | false => rw [h.2]; exact .refl _
  | true => obtain ⟨a, rfl, fr, rfl⟩ := h; exact le_upd fr.nU

section
variable {X : Cx} {K : Frag} {A : Around} {σ : St} {env : Env} {lv : Bool} {v : Value} {o : List UInt8}

theorem W_const_bytes {x : List UInt8} {k : Nat} {pos : Pos} {Q : Value → St → Prop} (h : ∀ t, Q (.bytes x.toArray t) σ) : W X A σ (eval (.Constant (.bytes x) k pos) env) Q :=
  fun _ _ O => Constant_bytes ⟨σ, O.toks _, h _⟩
theorem W_add_bytes {b c : List UInt8} {t u : Tok} {Q : Value → St → Prop} (hz : b.length + c.length ≤ 16777216) (h : ∀ t, Q (.bytes (b ++ c).toArray t) σ) : W X A σ (binaryOp .Add (.bytes b.toArray t) (.bytes c.toArray u)) Q :=
  fun _ _ O => KBy.add_bytes (by simpa using hz) fun t' k => ⟨σ, O.toks _, by simpa using h t'⟩
theorem W_eq_bytes {b c : List UInt8} {t u : Tok} {Q : Value → St → Prop} (h : Q (.bool (b == c)) σ) : W X A σ (compareOp .Eq (.bytes b.toArray t) (.bytes c.toArray u)) Q :=
  fun _ _ O => eq_bytes ⟨σ, O, by simpa using h⟩
theorem W_bytes_ints {l : Addr} {vs : List Value} {n : Nat} {ns : List Int} {Q : Value → St → Prop} (hl : Live X σ l (lstO vs n)) (hi : IntsAre vs ns) (hr : ∀ n ∈ ns, 0 ≤ n ∧ n < 256) (hz : vs.length ≤ sizeLine) (hh : A.handled = none)
    (h : ∀ t, Q (.bytes (ns.map fun n => n.toNat.toUInt8).toArray t) σ) : W X A σ (call (.type "bytes") [.ref l]) Q :=
  fun _ _ O => call_bytes_ints (lst_isList (O.live hl)) hi hr hz hh fun h' t k hk => ⟨σ, O.ext hk, by simpa [byteArr] using h t⟩
theorem W_bytes_oct {Q : Value → St → Prop} {b : List UInt8} (ho : Oct X σ true v b) (hz : b.length ≤ sizeLine) (h : ∀ t, Q (.bytes b.toArray t) σ) : W X A σ (call (.type "bytes") [v]) Q := by
  obtain ⟨a, rfl, hl⟩ := ho
  exact fun _ _ O => call_bytes_ba (O.live hl) hz fun t k => ⟨σ, O.toks _, h t⟩
theorem W_len_oct {Q : Value → St → Prop} (ho : Oct X σ lv v o) (hz : o.length ≤ 1099511627776) (h : ∀ t, Q (.int o.length t) σ) : W X A σ (call (.builtin "len") [v]) Q := by
  cases lv with
  | false => obtain ⟨t, rfl⟩ := ho; exact fun _ _ O => len_bytes (by simpa using hz) ⟨σ, O.toks _, by simpa using h _⟩
  | true =>
    obtain ⟨a, rfl, hl⟩ := ho
    exact fun _ _ O => call_len_meets (ba_ty (O.live hl)) BA.slot_len BA.entry_len (BA.args_len _) (baM_len (b := o)) (by omega) (by omega) (fun _ hq => ⟨O.live hl, hq⟩) ⟨σ, O.toks _, h _⟩
theorem W_oct_item {value slice : Expr} {i : Int} {u : Tok} {c : UInt8} {Q : Value → St → Prop} (ho : Oct X σ lv v o) (hz : o.length ≤ 1099511627776) (h0 : 0 ≤ i) (hc : o[i.toNat]? = some c) (h : ∀ t, Q (.int c.toNat t) σ)
    (hs1 : ∀ b t, subscripted slice false (.bytes b t) (.int i u) = operate [.bytes b t, .int i u] (getItem (.bytes b t) (.int i u)) := by intro _ _; with_unfolding_all rfl)
    (hs2 : ∀ a, subscripted slice false (.ref a) (.int i u) = operate [.ref a, .int i u] (getItem (.ref a) (.int i u)) := by intro _; with_unfolding_all rfl) :
    W X A σ (subscriptTail value slice v (.int i u)) Q := by
  have hlt : i.toNat < o.length := (List.getElem?_eq_some_iff.mp hc).1
  cases lv with
  | false =>
    obtain ⟨t, rfl⟩ := ho
    refine W_tail (T := "bytes") rfl FB.slot_bytes_getitem.lookup (fun s E O => getItem_bytes hz h0 (by omega) ⟨σ, O.toks _, ?_⟩) (hs1 _ _)
    have e : o.getD i.toNat 0 = c := by simp [List.getD, hc]
    rw [e]; exact h _
  | true =>
    obtain ⟨a, rfl, hl⟩ := ho
    exact W_tail (T := "bytearray") ⟨_, hl, rfl⟩ BA.slot_getitem.lookup (fun s E O => getItem_meets (ba_ty (O.live hl)) (by decide) BA.slot_getitem BA.entry_getitem (BA.args_getitem _ _) (baM_item h0 (by omega) hc)
      ⟨O.live hl, σ, O.toks _, h _⟩) (hs2 _)
theorem W_oct_slice {value slice : Expr} {sl : Addr} {lo hi : Nat} {t u : Tok} {Q : Value → St → Prop} (ho : Oct X σ lv v o) (hsl : Live X σ sl (sliceO (.int lo t) (.int hi u))) (hz : o.length ≤ 16777216)
    (h : ∀ v' U', OctN X σ lv v' ((o.drop lo).take (hi - lo)) U' → Q v' { σ with U := U' })
    (hs1 : ∀ b t, subscripted slice false (.bytes b t) (.ref sl) = operate [.ref sl, .bytes b t] (getItem (.bytes b t) (.ref sl)) := by intro _ _; with_unfolding_all rfl)
    (hs2 : ∀ a, subscripted slice false (.ref a) (.ref sl) = operate [.ref sl, .ref a] (getItem (.ref a) (.ref sl)) := by intro _; with_unfolding_all rfl) :
    W X A σ (subscriptTail value slice v (.ref sl)) Q := by
  have hp1 : IsPart (.int (lo : Int) t) (some (lo : Int)) := by constructor
  have hp2 : IsPart (.int (hi : Int) u) (some (hi : Int)) := by constructor
  have hsz : (KBy.picked o.toArray (some (lo : Int)) (some (hi : Int))).size ≤ sizeLine := by
    refine Nat.le_trans (KBc.size_picked_le _ _ _) ?_
    rw [sizeLine_eq]; simpa using hz
  cases lv with
  | false =>
    obtain ⟨t', rfl⟩ := ho
    refine W_tailS (T := "bytes") rfl FB.slot_bytes_getitem.lookup (fun s E O => getItem_meets (typeIs_bytes _ _ _) (by decide) FB.slot_bytes_getitem FB.entry_bytes_getitem (FB.args_bytes_getitem_2 _ _)
      (KBc.meets_slice2 _ _ _ hp1 hp2) ⟨⟨_, O.live hsl, rfl, rfl⟩, hsz, fun t' k => ⟨σ, O.toks _, ?_⟩⟩) (hs1 _ _)
    rw [picked_sl]
    exact h _ _ ⟨⟨_, rfl⟩, rfl⟩
  | true =>
    obtain ⟨a, rfl, hl⟩ := ho
    refine W_tailS (T := "bytearray") ⟨_, hl, rfl⟩ BA.slot_getitem.lookup (fun s E O => getItem_meets (ba_ty (O.live hl)) (by decide) BA.slot_getitem BA.entry_getitem (BA.args_getitem _ _)
      (baM_slice hp1 hp2) ⟨⟨_, O.live hsl, rfl, rfl⟩, O.live hl, hsz, ?_⟩) (hs2 _)
    rw [picked_sl]
    obtain ⟨fr, O'⟩ := O.pushU (baO ((o.drop lo).take (hi - lo))) rfl
    exact ⟨_, O', h _ _ ⟨_, rfl, fr, rfl⟩⟩
theorem W_oct_eq {c : List UInt8} {t : Tok} {Q : Value → St → Prop} (ho : Oct X σ lv v o) (hu : A.units < cLine) (h : Q (.bool (o == c)) σ) : W X A σ (compareOp .Eq v (.bytes c.toArray t)) Q := by
  cases lv with
  | false => obtain ⟨t', rfl⟩ := ho; exact W_eq_bytes h
  | true => obtain ⟨a, rfl, hl⟩ := ho; exact fun s E O => ba_eq_bytes (O.live hl) hu ⟨σ, O, h⟩
theorem W_oct_add {v' : Value} {c : List UInt8} {Q : Value → St → Prop} (ho : Oct X σ lv v o) (hc : Oct X σ lv v' c) (hz : o.length + c.length ≤ 16777216)
    (h : ∀ r U', OctN X σ lv r (o ++ c) U' → Q r { σ with U := U' }) : W X A σ (binaryOp .Add v v') Q := by
  cases lv with
  | false =>
    obtain ⟨t, rfl⟩ := ho; obtain ⟨u, rfl⟩ := hc
    exact W_add_bytes hz fun t => h _ _ ⟨⟨_, rfl⟩, rfl⟩
  | true =>
    obtain ⟨a, rfl, hl⟩ := ho; obtain ⟨d, rfl, hd⟩ := hc
    intro s E O
    refine ba_add (O.live hl) (O.live hd) hz ?_
    obtain ⟨fr, O'⟩ := O.pushU (baO (o ++ c)) rfl
    exact ⟨_, O', h _ _ ⟨_, rfl, fr, rfl⟩⟩
theorem W_set_oct {a : Addr} {b : List UInt8} {i k : Int} {t u : Tok} {Q : Unit → St → Prop} (hl : σ.U a = some (baO b)) (h0 : 0 ≤ i) (hf : i < 2 ^ 63) (hi : i < b.length) (v0 : 0 ≤ k) (v1 : k < 256) (hz : b.length ≤ sizeLine)
    (h : Q () { σ with U := upd σ.U a (baO (b.set i.toNat k.toNat.toUInt8)) }) : W X A σ (setItem (.ref a) (.int i u) (.int k t)) Q := by
  intro s E O
  have ho := O.mts _ _ hl
  exact setItem_slot (T := "bytearray") (ba_ty ho) (by decide) BA.slot_setitem (call_meets BA.slot_setitem (ba_ty ho) BA.entry_setitem (BA.args_setitem _ _ _) (baM_set h0 hf hi v0 v1 hz)
    ⟨ho, fun h' g sb => ⟨_, O.setU hl g sb, h⟩⟩)

/-! isinstance -/
theorem W_isi_true {T : String} {Q : Value → St → Prop} (hT : TyIs X σ v T) (hty : typeOf (.type T) = pure (.type "type")) (hsub : isSubtype (.type T) (.type T) = pure true) (h : Q (.bool true) σ) : W X A σ (call (.builtin "isinstance") [v, .type T]) Q :=
  fun _ _ O => call_isinstance (isinstance_true (Tx := T) hty hsub) ⟨O.ty hT, σ, O, h⟩
theorem W_isi_list_bytes {a : Addr} {vs : List Value} {n : Nat} {Q : Value → St → Prop} (hl : Live X σ a (lstO vs n)) (h : Q (.bool false) σ) : W X A σ (call (.builtin "isinstance") [.ref a, .type "bytes"]) Q :=
  fun _ _ O => IsiPair.list_bytes (O.live hl) rfl ⟨σ, O.toks _, h⟩
theorem W_isi_list_tuple {a : Addr} {vs : List Value} {n : Nat} {Q : Value → St → Prop} (hl : Live X σ a (lstO vs n)) (h : Q (.bool false) σ) : W X A σ (call (.builtin "isinstance") [.ref a, .type "tuple"]) Q :=
  fun _ _ O => IsiPair.list_tuple (O.live hl) rfl ⟨σ, O.toks _, h⟩
theorem W_isi_bytes {b : Array UInt8} {t : Tok} {Q : Value → St → Prop} (h : Q (.bool true) σ) : W X A σ (call (.builtin "isinstance") [.bytes b t, .type "bytes"]) Q :=
  W_isi_true (v := .bytes b t) rfl F.isi_meta_bytes F.sub_bytes_bytes h
theorem W_isi_bytearray {a : Addr} {b : List UInt8} {Q : Value → St → Prop} (hl : Live X σ a (baO b)) (h : Q (.bool true) σ) : W X A σ (call (.builtin "isinstance") [.ref a, .type "bytearray"]) Q :=
  W_isi_true (v := .ref a) ⟨_, hl, rfl⟩ F.isi_meta_bytearray BA.sub_self h
theorem W_isi_list {a : Addr} {vs : List Value} {n : Nat} {Q : Value → St → Prop} (hl : Live X σ a (lstO vs n)) (h : Q (.bool true) σ) : W X A σ (call (.builtin "isinstance") [.ref a, .type "list"]) Q :=
  W_isi_true (v := .ref a) ⟨_, hl, rfl⟩ F.isi_meta_list F.sub_list_list h
theorem W_isi_tuple {a : Addr} {vs : List Value} {Q : Value → St → Prop} (hl : Live X σ a (tupO vs)) (h : Q (.bool true) σ) : W X A σ (call (.builtin "isinstance") [.ref a, .type "tuple"]) Q :=
  W_isi_true (v := .ref a) ⟨_, hl, rfl⟩ F.isi_meta_tuple F.sub_tuple_tuple h
end
end Mine
end

section
open PySem PySem.W PyProof.Rows
set_option Elab.async false
set_option maxRecDepth 100000
namespace Mine

section
variable {X : Cx} {K : Frag} {A : Around} {σ : St} {env : Env} {a b : Int} {t u : Tok}
theorem W_add {Q : Value → St → Prop} (h : ∀ t, Q (.int (a + b) t) σ) : W X A σ (binaryOp .Add (.int a t) (.int b u)) Q := fun _ _ O => P.add_int ⟨σ, O.toks _, h _⟩
theorem W_sub {Q : Value → St → Prop} (h : ∀ t, Q (.int (a - b) t) σ) : W X A σ (binaryOp .Sub (.int a t) (.int b u)) Q := fun _ _ O => P.sub_int ⟨σ, O.toks _, h _⟩
theorem W_mod {Q : Value → St → Prop} (hb : b ≠ 0) (h : ∀ t, Q (.int (a.fmod b) t) σ) : W X A σ (binaryOp .Mod (.int a t) (.int b u)) Q := fun _ _ O => mod_int' hb ⟨σ, O.toks _, h _⟩
theorem W_eq {Q : Value → St → Prop} (h : Q (.bool (a == b)) σ) : W X A σ (compareOp .Eq (.int a t) (.int b u)) Q := fun _ _ O => P.eq_int ⟨σ, O, h⟩
theorem W_ne {Q : Value → St → Prop} (h : Q (.bool (a != b)) σ) : W X A σ (compareOp .NotEq (.int a t) (.int b u)) Q := fun _ _ O => P.ne_int ⟨σ, O, h⟩
theorem W_lt {Q : Value → St → Prop} (h : Q (.bool (decide (a < b))) σ) : W X A σ (compareOp .Lt (.int a t) (.int b u)) Q := fun _ _ O => P.lt_int ⟨σ, O, h⟩
theorem W_le {Q : Value → St → Prop} (h : Q (.bool (decide (a ≤ b))) σ) : W X A σ (compareOp .LtE (.int a t) (.int b u)) Q := fun _ _ O => P.le_int ⟨σ, O, h⟩
theorem W_gt {Q : Value → St → Prop} (h : Q (.bool (decide (a > b))) σ) : W X A σ (compareOp .Gt (.int a t) (.int b u)) Q := fun _ _ O => P.gt_int ⟨σ, O, h⟩
/-- the frame on top is one of the text's, and no tree was given -/
def Seen (X : Cx) (A : Around) : Prop := X.prog.given.tree = none ∧ ∃ env l, A.frames = some (env :: l) ∧ env.scope.isGenerator = false ∧ env.scope.isCoroutine = false ∧ env.builtins = builtinsNs ∧ env.globals = mainGlobals
/-- floor division; huge numbers ask for room -/
theorem W_floordiv (B : Base X K) {Q : Value → St → Prop} (hb : b ≠ 0) (hd : A.depth + Builtin.pylongFrames < recursionLimit) (hS : Seen X A) (h : ∀ t, Q (.int (a.fdiv b) t) σ) : W X A σ (binaryOp .FloorDiv (.int a t) (.int b u)) Q := by
  intro _ _ O
  obtain ⟨ht, env', l, hf, h1, h2, h3, h4⟩ := hS
  exact floordiv_int hb ⟨σ, O.toks _, h _⟩ (.inr (PySem.PylongRoom.of (B.lim.keeps O.ground) hd (PySem.SeerAt.of (PySem.Heap.NoSeer.keeps B.seer O.ground) ht hf h1 h2 h3 h4)))
theorem W_floordiv_small {Q : Value → St → Prop} (hb : b ≠ 0) (hp : Builtin.divisionGoesByPylong a b = false) (h : ∀ t, Q (.int (a.fdiv b) t) σ) : W X A σ (binaryOp .FloorDiv (.int a t) (.int b u)) Q :=
  fun _ _ O => floordiv_int hb ⟨σ, O.toks _, h _⟩ (.inl hp)
end

/-! iterators -/
def era (m : Mp) (a : Addr) : Mp := fun b => if b = a then none else m b
theorem era_upd {m : Mp} {a : Addr} {o : Obj} (h : m a = none) : era (upd m a o) a = m := by
  funext b
  by_cases q : b = a
  · subst q; simp [era, h]
  · simp [era, upd, q]
theorem era_le (m : Mp) (a : Addr) : Le (era m a) m := fun b o e => by
  unfold era at e
  split at e
  · cases e
  · exact e
theorem upd_upd (m : Mp) (a : Addr) (o o' : Obj) : upd (upd m a o) a o' = upd m a o' := by
  funext b
  by_cases q : b = a
  · simp [upd, q]
  · simp [upd, q]
theorem era_upd_upd {m : Mp} {a b : Addr} {o : Obj} (h : b ≠ a) : era (upd m b o) a = upd (era m a) b o := by
  funext c
  by_cases q : c = a
  · subst q; simp [era, upd, Ne.symm h]
  · simp [era, upd, q]
theorem upd_comm {m : Mp} {a b : Addr} {o p : Obj} (h : a ≠ b) : upd (upd m a o) b p = upd (upd m b p) a o := by
  funext c
  by_cases q : c = a
  · subst q; simp [upd, h]
  · simp [upd, q]

structure ItOk (X : Cx) (A : Around) (io : Nat → Obj → Prop) (n : Nat) (src : St → Prop) (item : Nat → Value → Prop) : Prop where
  step : ∀ {σ : St} {it : Addr} {o : Obj} {i : Nat}, i < n → σ.U it = some o → io i o → src σ →
    W X A σ (pyNext (.ref it)) fun r σ' => ∃ v o', r = some v ∧ item i v ∧ io (i + 1) o' ∧ σ' = { σ with U := upd σ.U it o' }
  stop : ∀ {σ : St} {it : Addr} {o : Obj}, σ.U it = some o → io n o → src σ → W X A σ (pyNext (.ref it)) fun r σ' => r = none ∧ σ' = { σ with U := era σ.U it }
  self : ∀ {σ : St} {it : Addr} {o : Obj} {i : Nat}, σ.U it = some o → io i o → W X A σ (pyIter (.ref it)) fun v σ' => v = .ref it ∧ σ' = σ

section
variable {X : Cx} {K : Frag} {A : Around} {σ : St} {env : Env}

theorem Own.era {s₁ s : Shared} (O : Own s₁ σ s) {a : Addr} {o : Obj} (ha : σ.U a = some o) {h' : Heap} (k : Heap.ExtBut a s.heap h') {tk : Nat} : Own s₁ { σ with U := Mine.era σ.U a } { s with heap := h', toks := tk } := by
  have O' := O.dropU (era_le σ.U a)
  refine O'.extBut (a := a) (O.sep _ _ ha).1 (by simp [Mine.era]) (O.sep _ _ ha).2 (fun f hf e => ?_) (fun b o hb e => k b o hb e)
  have := (O.frs f hf).nU
  rw [e, ha] at this; cases this

def lstIt (l : Addr) (i : Nat) (o : Obj) : Prop := o.cls = .type "list_iterator" ∧ o.data = .fields #[.ref l, .int i 0]
theorem W_iter_list {l : Addr} {vs : List Value} {n : Nat} {Q : Value → St → Prop} (hl : Live X σ l (lstO vs n)) (h : ∀ it o, Frsh X.s₁ σ it → lstIt l 0 o → Q (.ref it) { σ with U := upd σ.U it o }) : W X A σ (pyIter (.ref l)) Q := by
  intro s E O
  refine wpAny_pyIter_list (lst_isList (O.live hl)) ?_
  obtain ⟨fr, O'⟩ := O.pushU { cls := .type "list_iterator", data := .fields #[.ref l, .int 0 0] } rfl
  exact ⟨_, O', h _ _ fr ⟨rfl, rfl⟩⟩
theorem itOk_list (hh : A.handled = none) {l : Addr} {vs : List Value} {n : Nat} : ItOk X A (lstIt l) vs.length (fun σ => Live X σ l (lstO vs n)) (fun i v => vs[i]? = some v) where
  step := fun {σ it o i} hi hu ho hl s E O => by
    have hx : vs[i]? = some vs[i] := List.getElem?_eq_getElem hi
    refine wpAny_pyNext_list_item ⟨o, O.mts _ _ hu, ho⟩ (lst_isList (O.live hl)) (x := vs[i]) (by simp [hi]) fun h' ⟨o', g, c, d⟩ hs => ?_
    exact ⟨_, O.setU hu g hs, vs[i], o', rfl, hx, ⟨c, d⟩, rfl⟩
  stop := fun {σ it o} hu ho hl s E O => by
    refine wpAny_pyNext_list_end hh ⟨o, O.mts _ _ hu, ho⟩ (lst_isList (O.live hl)) (by simp) fun h' k => ?_
    exact ⟨_, O.era hu k, rfl, rfl⟩
  self := fun {σ it o i} hu ho s E O => by
    refine wpAny_pyIter_listiter (l := l) (i := i) ⟨o, O.mts _ _ hu, ho⟩ ⟨_, O, rfl, rfl⟩

def rngIt (a n : Int) (i : Nat) (o : Obj) : Prop := o = { cls := .type "range_iterator", dict := none, data := .fields #[rawInt (a + i), rawInt (n - i), rawInt 1], slots := #[] }
abbrev rngO (a b c : Int) (t u v : Tok) : Obj := { cls := .type "range", dict := none, data := .fields #[.int a t, .int b u, .int c v], slots := #[] }
theorem W_range1 {n : Int} {t : Tok} {Q : Value → St → Prop} (h : ∀ r t u v U', Frsh X.s₁ σ r → U' = upd σ.U r (rngO 0 n 1 t u v) → Q (.ref r) { σ with U := U' }) : W X A σ (call (.type "range") [.int n t]) Q := by
  intro s E O
  refine call_range_1 ?_
  obtain ⟨fr, O'⟩ := O.pushU (rngO 0 n 1 s.toks t (s.toks + 1)) rfl
  exact ⟨_, O'.toks _, h _ _ _ _ _ fr rfl⟩
theorem W_range2 {a b : Int} {t u : Tok} {Q : Value → St → Prop} (h : ∀ r t u v U', Frsh X.s₁ σ r → U' = upd σ.U r (rngO a b 1 t u v) → Q (.ref r) { σ with U := U' }) : W X A σ (call (.type "range") [.int a t, .int b u]) Q := by
  intro s E O
  refine call_range_2 ?_
  obtain ⟨fr, O'⟩ := O.pushU (rngO a b 1 t u s.toks) rfl
  exact ⟨_, O'.toks _, h _ _ _ _ _ fr rfl⟩
/-- the range itself may be forgotten -/
theorem W_iter_range {r : Addr} {a b : Int} {t u v : Tok} {Q : Value → St → Prop} (hr : Live X σ r (rngO a b 1 t u v)) (ha : -(2 ^ 62) ≤ a) (ha' : a < 2 ^ 62) (hb : -(2 ^ 62) ≤ b) (hb' : b < 2 ^ 62)
    (h : ∀ it o, Frsh X.s₁ σ it → rngIt a (b - a).toNat 0 o → Q (.ref it) { σ with U := upd σ.U it o }) : W X A σ (pyIter (.ref r)) Q := by
  intro s E O
  refine wpAny_pyIter_range (O.live hr) (small_one ha ha' hb hb') ?_
  obtain ⟨fr, O'⟩ := O.pushU { cls := .type "range_iterator", data := .fields #[rawInt a, rawInt (Builtin.Range.rangeSize a b 1), rawInt 1] } rfl
  refine ⟨_, O', h _ _ fr ?_⟩
  unfold rngIt
  rw [rangeSize_one]
  have e : (if a < b then b - a else 0) = (((b - a).toNat : Nat) : Int) := by split <;> omega
  rw [e]; simp
theorem itOk_range (hh : A.handled = none) {a : Int} {n : Nat} : ItOk X A (rngIt a n) n (fun _ => True) (fun i v => ∃ t, v = .int (a + i) t) where
  step := fun {σ it o i} hi hu ho _ s E O => by
    subst ho
    refine wpAny_pyNext_range_item (O.mts _ _ hu) (by omega) fun h' g hs => ?_
    refine ⟨_, O.setU hu g hs, _, _, rfl, ⟨_, rfl⟩, ?_, rfl⟩
    unfold rngIt
    have e1 : a + ((i + 1 : Nat) : Int) = a + (i : Int) + 1 := by push_cast; omega
    have e2 : (n : Int) - ((i + 1 : Nat) : Int) = (n : Int) - (i : Int) - 1 := by push_cast; omega
    rw [e1, e2]
  stop := fun {σ it o} hu ho _ s E O => by
    subst ho
    exact wpAny_pyNext_range_end hh (O.mts _ _ hu) (by omega) fun h' k => ⟨_, O.era hu k, rfl, rfl⟩
  self := fun {σ it o i} hu ho s E O => by
    subst ho
    exact wpAny_pyIter_rangeiter (O.mts _ _ hu) ⟨_, O, rfl, rfl⟩

/-! for and while -/
/-- what comes of the body of a loop -/
def Turn (I : St → Prop) (Q : Flow → St → Prop) (f : Flow) (σ : St) : Prop := match f with
  | .next => I σ
  | .cont => I σ
  | .brk => Q .next σ
  | .ret v => Q (.ret v) σ
theorem W_For {target iter : Expr} {body : List Stmt} {pos : Pos} {Q : Flow → St → Prop}
    (h : W X A σ (eval iter env) fun x σ₁ => W X A σ₁ (pyIter x) fun itv σ₂ => ∃ (it : Addr) (io : Nat → Obj → Prop) (n : Nat) (src : St → Prop) (item : Nat → Value → Prop) (I : Nat → St → Prop), itv = .ref it ∧ ItOk X A io n src item ∧ I 0 σ₂ ∧
      (∀ i σ, I i σ → (∃ o, σ.U it = some o ∧ io i o) ∧ src σ) ∧
      (∀ i σ o v, I i σ → i < n → item i v → io (i + 1) o → W X A { σ with U := upd σ.U it o } (assign target env v) fun _ σ' => W X A σ' (execs body env) (Turn (I (i + 1)) Q)) ∧
      (∀ σ, I n σ → Q .next { σ with U := era σ.U it }))
    (hs : ∀ x, foldedSetIterable iter env x = pure x := by intro _; rfl) (ht : ∀ it v, letOwnedTupleGo target it v = pure () := by intro _ _; rfl) : W X A σ (exec (.For target iter body [] pos) env) Q := by
  intro s E O
  refine wpAny_For (h.go O fun x s₁ σ₁ O₁ q₁ => q₁.go O₁ fun itv s₂ σ₂ O₂ q₂ => ?_) hs
  obtain ⟨it, io, n, src, item, I, rfl, ok, h0, hI, turn, fin⟩ := q₂
  refine codeAny_forLoop (fun k s' => ∃ i σ', k = n - i ∧ i ≤ n ∧ Own X.s₁ σ' s' ∧ I i σ') ?_ n ⟨0, _, by omega, by omega, O₂, h0⟩ (ht _)
  rintro k s' ⟨i, σ', rfl, hi, O', hi'⟩
  obtain ⟨⟨o, hu, ho⟩, hsrc⟩ := hI i σ' hi'
  by_cases hlt : i < n
  · refine (ok.step hlt hu ho hsrc).go O' fun r s₃ σ₃ O₃ q₃ => ?_
    obtain ⟨v, o', rfl, hv, ho', rfl⟩ := q₃
    refine (turn i σ' o' v hi' hlt hv ho').go O₃ fun _ s₄ σ₄ O₄ q₄ => q₄.go O₄ fun f s₅ σ₅ O₅ q₅ => ?_
    cases f with
    | next => exact ⟨n - (i + 1), by omega, i + 1, σ₅, rfl, hlt, O₅, q₅⟩
    | cont => exact ⟨n - (i + 1), by omega, i + 1, σ₅, rfl, hlt, O₅, q₅⟩
    | brk => exact ⟨σ₅, O₅, q₅⟩
    | ret v => exact ⟨σ₅, O₅, q₅⟩
  · obtain rfl : i = n := by omega
    refine (ok.stop hu ho hsrc).go O' fun r s₃ σ₃ O₃ q₃ => ?_
    obtain ⟨rfl, rfl⟩ := q₃
    exact wpAny_execs_nil ⟨_, O₃, fin _ hi'⟩
theorem W_While {test : Expr} {body : List Stmt} {pos : Pos} {Q : Flow → St → Prop} (I : Nat → St → Prop) (n : Nat) (h0 : I n σ)
    (turn : ∀ n σ, I n σ → W X A σ (isTrue test env (eval test env)) fun b σ' => if b = true then W X A σ' (execs body env) (Turn (fun σ'' => ∃ m, m < n ∧ I m σ'') Q) else Q .next σ') :
    W X A σ (exec (.While test body [] pos) env) Q := by
  intro s E O
  refine wpAny_While (codeAny_whileLoop (fun k s' => ∃ σ', Own X.s₁ σ' s' ∧ I k σ') ?_ n ⟨σ, O, h0⟩)
  rintro k s' ⟨σ', O', hi⟩
  refine (turn k σ' hi).go O' fun b s₂ σ₂ O₂ q₂ => ?_
  cases b
  · exact wpAny_execs_nil ⟨σ₂, O₂, q₂⟩
  · refine W.go q₂ O₂ fun f s₃ σ₃ O₃ q₃ => ?_
    cases f with
    | next => obtain ⟨m, hm, q⟩ := q₃; exact ⟨m, hm, σ₃, O₃, q⟩
    | cont => obtain ⟨m, hm, q⟩ := q₃; exact ⟨m, hm, σ₃, O₃, q⟩
    | brk => exact ⟨σ₃, O₃, q₃⟩
    | ret v => exact ⟨σ₃, O₃, q₃⟩
end
end Mine
end

section
open PySem PySem.W PyProof.Rows
set_option Elab.async false
set_option maxRecDepth 100000
namespace Mine

/-- the frame of a comprehension -/
theorem Own.enterComp {s₁ s : Shared} {fr : List Fram} {F U : Mp} (O : Own s₁ ⟨fr, F, U⟩ s) {env : Env} {h₀ : Heap} {m : Str → Option Value} {tk : Nat} {x : Str}
    (hL : env.locals = s.heap.objs.size) (hk : env.scope.kind = .function) (hns : h₀.Ns s.heap.objs.size m) (hkeep : ∀ b o, s.heap.get? b = some o → h₀.get? b = some o) :
    Own s₁ ⟨⟨env, [x], [none], false⟩ :: fr, F, U⟩ { s with heap := h₀, toks := tk } := by
  have fr' := O.fresh (get_size s.heap)
  have O' := O.ext hkeep (tk := tk)
  refine ⟨O'.same, O'.ground, O'.frz, O'.mts, O.sep, fun y hy => ?_, fun y hy => ?_, ?_⟩
  · rcases List.mem_cons.mp hy with rfl | hy
    · exact ⟨fun e => (Bool.false_ne_true e).elim, hk, by show s₁.heap.get? env.locals = none; rw [hL]; exact fr'.high, by show F env.locals = none; rw [hL]; exact fr'.nF, by show U env.locals = none; rw [hL]; exact fr'.nU⟩
    · exact O.frs y hy
  · rcases List.mem_cons.mp hy with rfl | hy
    · refine ⟨m, by show h₀.Ns env.locals m; rw [hL]; exact hns, fun i y v _ h2 => ?_⟩
      cases i with
      | zero => simp at h2
      | succ i => simp at h2
    · exact O'.loc y hy
  · refine List.pairwise_cons.mpr ⟨fun a ha => ?_, O.apart⟩
    obtain ⟨y, hy, rfl⟩ := List.mem_map.mp ha
    exact fun q => fr'.nL y hy (by rw [← q]; exact hL)
theorem Own.swap {s₁ s : Shared} {f g : Fram} {fr : List Fram} {F U : Mp} (O : Own s₁ ⟨f :: g :: fr, F, U⟩ s) : Own s₁ ⟨g :: f :: fr, F, U⟩ s := by
  obtain ⟨a, b, c, d, e, h, i, j⟩ := O
  have sw : ∀ y, y ∈ g :: f :: fr → y ∈ f :: g :: fr := fun y hy => by
    rcases List.mem_cons.mp hy with rfl | hy
    · exact .tail _ (.head _)
    · rcases List.mem_cons.mp hy with rfl | hy
      · exact .head _
      · exact .tail _ (.tail _ hy)
  refine ⟨a, b, c, d, e, fun y hy => h y (sw y hy), fun y hy => i y (sw y hy), ?_⟩
  have j1 := List.pairwise_cons.mp j
  have j2 := List.pairwise_cons.mp j1.2
  refine List.pairwise_cons.mpr ⟨fun y hy => ?_, List.pairwise_cons.mpr ⟨fun y hy => j1.1 y (.tail _ hy), j2.2⟩⟩
  rcases List.mem_cons.mp hy with rfl | hy
  · exact Ne.symm (j1.1 _ (.head _))
  · exact j2.1 y hy
/-- the comprehension's frame goes -/
theorem Own.popBut {s₁ s : Shared} {f : Fram} {fr : List Fram} {F U : Mp} (O : Own s₁ ⟨f :: fr, F, U⟩ s) {h' : Heap} (k : Heap.SameBut f.env.locals s.heap h') : Own s₁ ⟨fr, F, U⟩ { s with heap := h' } := by
  have fo := O.frs _ (.head _)
  refine O.pop.extBut (a := f.env.locals) fo.nF fo.nU fo.high (fun g hg e => ?_) (fun b o hb e => (k.2 b hb).trans e)
  exact (List.pairwise_cons.mp O.apart).1 _ (List.mem_map.mpr ⟨g, hg, rfl⟩) e.symm

section
variable {X : Cx} {K : Frag} {A : Around} {env : Env} {fr : List Fram} {F U : Mp}

/-- what a comprehension with one for and no if does -/
structure Comp (X : Cx) (A : Around) (env : Env) (scope : Scope) (cl : List (Str × Addr)) (x : Str) (elt : Expr) (fr : List Fram) (it : Addr) (io : Nat → Obj → Prop) (n : Nat) (src : St → Prop) (item : Nat → Value → Prop)
    (J : Nat → List Value → St → Prop) : Prop where
  ok : ItOk X A io n src item
  len : n ≤ sizeLine
  src : ∀ {i ys F U C D o m} {vs : List (Option Value)}, J i ys ⟨fr, F, U⟩ → src ⟨⟨compEnvC scope cl C env, [x], vs, false⟩ :: fr, F, upd (upd U it o) D (lstO ys m)⟩
  turn : ∀ {i ys F U C D o m v}, J i ys ⟨fr, F, U⟩ → i < n → item i v → ys.length = i → U it = none → U D = none → it ≠ D →
    W X A ⟨⟨compEnvC scope cl C env, [x], [some v], false⟩ :: fr, F, upd (upd U it o) D (lstO ys m)⟩ (eval elt (compEnvC scope cl C env)) fun y σ' => ∃ F' U', Le F F' ∧ U' it = none ∧ U' D = none ∧
      σ' = ⟨⟨compEnvC scope cl C env, [x], [some v], false⟩ :: fr, F', upd (upd U' it o) D (lstO ys m)⟩ ∧ J (i + 1) (ys ++ [y]) ⟨fr, F', U'⟩

theorem comp_run {x : Str} {px : Pos} {elt iter : Expr} {scope : Scope} {cl : List (Str × Addr)} {pos : Pos} {it : Addr} {o : Obj} {io : Nat → Obj → Prop} {n : Nat} {src : St → Prop} {item : Nat → Value → Prop} {J : Nat → List Value → St → Prop}
    (hcell : ∀ y ∈ scope.names, y.2 ≠ .cell) (hkind : scope.kind = .function) (hx : scope.names.lookup x = some .local) (hxd : (x == ("__debug__" : Str)) = false)
    (c : Comp X A env scope cl x elt fr it io n src item J) (ho : io 0 o) (hU : U it = none) (hJ : J 0 [] ⟨fr, F, U⟩) {s : Shared} {E : Value → Shared → Prop} (O : Own X.s₁ ⟨fr, F, upd U it o⟩ s) {R : Value → Addr → Result → Shared → Prop}
    (hR : ∀ D C m ys F' U' vs s', Own X.s₁ ⟨⟨compEnvC scope cl C env, [x], vs, false⟩ :: fr, F', upd U' D (lstO ys m)⟩ s' → U' D = none → J n ys ⟨fr, F', U'⟩ → R (.ref D) C (.ok .next) s') :
    wpAny (model X.prog X.w) A (newList []) (fun acc s₃ => wpAny (model X.prog X.w) A (newFunctionEnv scope env.globals cl [] env.qual none .none (some env)) (fun cenv s₄ =>
      codeAny (model X.prog X.w) A (.compStart (.ListComp elt [⟨.Name x px, iter, [], 0⟩] scope pos) 0 (.ref it) acc { cenv with scope := relabel scope env }) (R acc cenv.locals) s₄) E s₃) E s := by
  unfold newList
  refine wpAny_newObj_type ?_
  obtain ⟨frD, O₁⟩ := O.pushU (lstO [] 0) rfl
  generalize hD : s.heap.objs.size = D at frD O₁ ⊢
  refine wpAny_newFunctionEnv hcell (by intro y hy; simp at hy) (fun h₁ hns₁ hsb₁ => ?_) hkind
  have O₂ := O₁.enterComp (x := x) (env := compEnvC scope cl (s.heap.push (lstO [] 0)).objs.size env) (h₀ := h₁) (tk := s.toks + ([] : List (Str × Value)).length) rfl hkind hns₁
    (fun b o e => hsb₁.extBut b o (Nat.ne_of_lt (Heap.lt_size e)) (Heap.get?_push_of_some _ e))
  generalize hC : (s.heap.push (lstO [] 0)).objs.size = C at O₂ ⊢
  have hDU : U D = none := by
    have := frD.nU
    by_cases q : D = it
    · subst q; exact hU
    · rwa [show (⟨fr, F, upd U it o⟩ : St).U D = U D from upd_ne q] at this
  have hne : it ≠ D := fun q => by
    have := frD.nU
    rw [← q, show (⟨fr, F, upd U it o⟩ : St).U it = some o from upd_same ..] at this; cases this
  have loop : ∀ s' F' U' vs ys i o' m, Own X.s₁ ⟨⟨compEnvC scope cl C env, [x], vs, false⟩ :: fr, F', upd (upd U' it o') D (lstO ys m)⟩ s' → (∃ v, vs = [v]) → io i o' → i ≤ n → ys.length = i → U' it = none → U' D = none → J i ys ⟨fr, F', U'⟩ →
      codeAny (model X.prog X.w) A (.compLoop (.ListComp elt [⟨.Name x px, iter, [], 0⟩] scope pos) 0 (.ref it) (.ref D) (compEnvC scope cl C env)) (R (.ref D) C) s' := by
    intro s' F' U' vs ys i o' m O' hvs hio hi hl h1 h2 hj
    refine codeAny_compLoop_list (fun k s' => ∃ F' U' vs ys i o' m, k = n - i ∧ Own X.s₁ ⟨⟨compEnvC scope cl C env, [x], vs, false⟩ :: fr, F', upd (upd U' it o') D (lstO ys m)⟩ s' ∧ (∃ v, vs = [v]) ∧ io i o' ∧ i ≤ n ∧ ys.length = i ∧ U' it = none ∧ U' D = none ∧ J i ys ⟨fr, F', U'⟩)
      ?_ (n - i) ⟨F', U', vs, ys, i, o', m, rfl, O', hvs, hio, hi, hl, h1, h2, hj⟩
    clear O' hvs hio hi hl h1 h2 hj
    rintro k s' ⟨F', U', vs, ys, i, o', m, rfl, O', ⟨v0, rfl⟩, hio, hi, hl, h1, h2, hj⟩
    have hu : (⟨⟨compEnvC scope cl C env, [x], [v0], false⟩ :: fr, F', upd (upd U' it o') D (lstO ys m)⟩ : St).U it = some o' := by
      show upd (upd U' it o') D (lstO ys m) it = some o'
      rw [upd_ne hne, upd_same]
    by_cases hlt : i < n
    · refine (c.ok.step hlt hu hio (c.src hj)).go O' fun r s₃ σ₃ O₃ q₃ => ?_
      obtain ⟨v, o'', rfl, hv, hio', rfl⟩ := q₃
      have e1 : upd (upd (upd U' it o') D (lstO ys m)) it o'' = upd (upd U' it o'') D (lstO ys m) := by rw [upd_comm (Ne.symm hne), upd_upd]
      have O₃' : Own X.s₁ ⟨⟨compEnvC scope cl C env, [x], [v0], false⟩ :: fr, F', upd (upd U' it o'') D (lstO ys m)⟩ s₃ := e1 ▸ O₃
      have nm : NmOk (compEnvC scope cl C env) [x] := ⟨by simp, fun y hy => by rw [List.mem_singleton.mp hy]; exact lookup_relabel_local hx, fun y hy => by rw [List.mem_singleton.mp hy]; exact hxd⟩
      refine (W_assign_Name (ws := [some v]) (Q := fun _ σ => σ = ⟨⟨compEnvC scope cl C env, [x], [some v], false⟩ :: fr, F', upd (upd U' it o'') D (lstO ys m)⟩) nm .here rfl).go O₃' fun _ s₄ σ₄ O₄ q₄ => ?_
      subst q₄
      refine (c.turn hj hlt hv hl h1 h2 hne).go O₄ fun y s₅ σ₅ O₅ q₅ => ?_
      obtain ⟨F₆, U₆, hF, h1', h2', rfl, hj'⟩ := q₅
      have hDD : (⟨⟨compEnvC scope cl C env, [x], [some v], false⟩ :: fr, F₆, upd (upd U₆ it o'') D (lstO ys m)⟩ : St).U D = some (lstO ys m) := upd_same ..
      have hoD := O₅.mts _ _ hDD
      refine call_meets slot_list_append ⟨_, hoD, rfl⟩ entry_list_append (args_list_append _ _) (list_append D ys.toArray m y ?_) ⟨hoD, ?_⟩
      · have := c.len; simp only [List.size_toArray]; omega
      · obtain ⟨n', hu'⟩ := lst_update hoD (fun x => x.push y)
        refine ⟨n - (i + 1), by omega, F₆, U₆, [some v], ys ++ [y], i + 1, o'', n', rfl, ?_, ⟨_, rfl⟩, hio', hlt, by simp [hl], h1', h2', hj'⟩
        have O₆ := O₅.setU (tk := s₅.toks) hDD (o' := lstO (ys ++ [y]) n') (by simpa using hu') (Heap.SameBut.update ..)
        have e2 : upd (upd (upd U₆ it o'') D (lstO ys m)) D (lstO (ys ++ [y]) n') = upd (upd U₆ it o'') D (lstO (ys ++ [y]) n') := upd_upd ..
        exact e2 ▸ O₆
    · obtain rfl : i = n := by omega
      refine (c.ok.stop hu hio (c.src hj)).go O' fun r s₃ σ₃ O₃ q₃ => ?_
      obtain ⟨rfl, rfl⟩ := q₃
      refine hR D C m ys F' U' [v0] s₃ ?_ h2 hj
      have e : era (upd (upd U' it o') D (lstO ys m)) it = upd U' D (lstO ys m) := by rw [era_upd_upd (Ne.symm hne), era_upd h1]
      exact e ▸ O₃
  have st := loop _ F U [none] [] 0 o 0 O₂ ⟨_, rfl⟩ ho (Nat.zero_le _) rfl hU hDU hJ
  refine codeAny_compStart_list st ?_
  have hu : (⟨⟨compEnvC scope cl C env, [x], [none], false⟩ :: fr, F, upd (upd U it o) D (lstO [] 0)⟩ : St).U it = some o := by
    show upd (upd U it o) D (lstO [] 0) it = some o
    rw [upd_ne hne, upd_same]
  refine (c.ok.self hu ho).go O₂ fun v s₃ σ₃ O₃ q₃ => ?_
  obtain ⟨rfl, rfl⟩ := q₃
  exact loop _ F U [none] [] 0 o 0 O₃ ⟨_, rfl⟩ ho (Nat.zero_le _) rfl hU hDU hJ

/-- a comprehension as a value -/
theorem W_ListComp {σ : St} {x : Str} {px : Pos} {elt iter : Expr} {scope : Scope} {pos : Pos} {Q : Value → St → Prop} (cl : List (Str × Addr))
    (hclos : closureFor scope env = pure cl) (hcell : ∀ y ∈ scope.names, y.2 ≠ .cell) (hkind : scope.kind = .function) (hnames : ∀ y ∈ scope.names, y.2 = .local → scope.names.lookup y.1 = some .local)
    (hx : scope.names.lookup x = some .local) (hxd : (x == ("__debug__" : Str)) = false)
    (h : W X A σ (eval iter env) fun xv σ₁ => W X A σ₁ (pyIter xv) fun itv σ₂ => ∃ (fr : List Fram) (F U : Mp) (it : Addr) (o : Obj) (io : Nat → Obj → Prop) (n : Nat) (src : St → Prop) (item : Nat → Value → Prop) (J : Nat → List Value → St → Prop),
      itv = .ref it ∧ σ₂ = ⟨fr, F, upd U it o⟩ ∧ U it = none ∧ io 0 o ∧ J 0 [] ⟨fr, F, U⟩ ∧ Comp X A env scope cl x elt fr it io n src item J ∧
      ∀ D m ys F' U', J n ys ⟨fr, F', U'⟩ → U' D = none → Q (.ref D) ⟨fr, F', upd U' D (lstO ys m)⟩)
    (hs : ∀ x, foldedSetIterable iter env x = pure x := by intro _; rfl) : W X A σ (eval (.ListComp elt [⟨.Name x px, iter, [], 0⟩] scope pos) env) Q := by
  intro s E O
  rw [eval_ListComp]
  refine wpAny_comprehension_free (use := none) rfl hs hclos hkind hnames (h.go O fun xv s₁ σ₁ O₁ q₁ => q₁.go O₁ fun itv s₂ σ₂ O₂ q₂ => ?_)
  obtain ⟨fr, F, U, it, o, io, n, src, item, J, rfl, rfl, hU, ho, hJ, c, hQ⟩ := q₂
  refine comp_run (R := fun acc C => compPost (model X.prog X.w) A E none _ acc C) hcell hkind hx hxd c ho hU hJ O₂ fun D C m ys F' U' vs s' O' hD hj => ?_
  obtain ⟨mm, hm, _⟩ := O'.loc _ (.head _)
  exact ⟨mm, hm, fun h' hs' => ⟨_, O'.popBut hs', hQ D m ys F' U' hj hD⟩⟩
/-- x = [.. for ..] on one line -/
theorem W_Assign_ListComp {σ : St} {x y : Str} {px py : Pos} {elt iter : Expr} {scope : Scope} {pos spos : Pos} {Q : Flow → St → Prop} (cl : List (Str × Addr))
    (hsw : swapsWith (.ListComp elt [⟨.Name x px, iter, [], 0⟩] scope pos) (some (.Name y py)) spos.line env = pure true)
    (hclos : closureFor scope env = pure cl) (hcell : ∀ y ∈ scope.names, y.2 ≠ .cell) (hkind : scope.kind = .function) (hnames : ∀ y ∈ scope.names, y.2 = .local → scope.names.lookup y.1 = some .local)
    (hx : scope.names.lookup x = some .local) (hxd : (x == ("__debug__" : Str)) = false)
    (h : W X A σ (eval iter env) fun xv σ₁ => W X A σ₁ (pyIter xv) fun itv σ₂ => ∃ (ns : List Str) (ws : Addr → List (Option Value)) (v0 : List (Option Value)) (b : Bool) (fr : List Fram) (F U : Mp) (it : Addr) (o : Obj) (io : Nat → Obj → Prop) (n : Nat) (src : St → Prop) (item : Nat → Value → Prop) (J : Nat → List Value → St → Prop),
      itv = .ref it ∧ σ₂ = ⟨⟨env, ns, v0, b⟩ :: fr, F, upd U it o⟩ ∧ U it = none ∧ io 0 o ∧ J 0 [] ⟨⟨env, ns, v0, b⟩ :: fr, F, U⟩ ∧ Comp X A env scope cl x elt (⟨env, ns, v0, b⟩ :: fr) it io n src item J ∧ NmOk env ns ∧ (∀ D, Put y (.ref D) ns v0 (ws D)) ∧
      ∀ D m ys F' U', J n ys ⟨⟨env, ns, v0, b⟩ :: fr, F', U'⟩ → U' D = none → Q .next ⟨⟨env, ns, ws D, b⟩ :: fr, F', upd U' D (lstO ys m)⟩)
    (hs : ∀ x, foldedSetIterable iter env x = pure x := by intro _; rfl) : W X A σ (exec (.Assign [.Name y py] (.ListComp elt [⟨.Name x px, iter, [], 0⟩] scope pos) spos) env) Q := by
  intro s E O
  rw [exec_Assign_Name_used _ _ _ _ hsw]
  refine wpAny_bind (wpAny_standAt (wpAny_bind ?_))
  show wpAny _ A (do let _ ← comprehension (.ListComp elt [⟨.Name x px, iter, [], 0⟩] scope pos) scope env _ (newList []) false (eval iter env) (some (assign (.Name y py) env))) _ _ s
  refine wpAny_bind (wpAny_mono (wpAny_comprehension_free (use := some (assign (.Name y py) env)) (Q := fun _ s' => ∃ σ', Own X.s₁ σ' s' ∧ Q .next σ') rfl hs hclos hkind hnames
    (h.go O fun xv s₁ σ₁ O₁ q₁ => q₁.go O₁ fun itv s₂ σ₂ O₂ q₂ => ?_)) (fun _ s' hq => wpAny_pure (wpAny_pure hq)) fun _ _ e => e)
  obtain ⟨ns, ws, v0, b, fr, F, U, it, o, io, n, src, item, J, rfl, rfl, hU, ho, hJ, c, nm, hput, hQ⟩ := q₂
  refine comp_run (R := fun acc C => compPost (model X.prog X.w) A E (some (assign (.Name y py) env)) _ acc C) hcell hkind hx hxd c ho hU hJ O₂ fun D C m ys F' U' vs s' O' hD hj => ?_
  show wpAny _ A (assign (.Name y py) env (.ref D)) _ _ _
  refine (W_assign_Name (Q := fun _ σ => σ = ⟨⟨env, ns, ws D, b⟩ :: ⟨compEnvC scope cl C env, [x], vs, false⟩ :: fr, F', upd U' D (lstO ys m)⟩) nm (hput D) rfl).go O'.swap fun _ s₄ σ₄ O₄ q₄ => ?_
  subst q₄
  obtain ⟨mm, hm, _⟩ := O₄.loc _ (.tail _ (.head _))
  exact ⟨mm, hm, fun h' hs' => ⟨_, O₄.swap.popBut hs', hQ D m ys F' U' hj hD⟩⟩
end
end Mine
end

section
open PySem PySem.W PyProof.Rows PySem.Builtin
set_option Elab.async false
set_option maxRecDepth 100000
namespace Mine
namespace BA
theorem slot_next : Slot "bytearray_iterator" "__next__" "bytearray_iterator.__next__" :=
  .of (owner := "bytearray_iterator") (n := "__next__") (by rw [typeLookup_type, builtinLookup_eq_fast]; kernel_rfl) (by decide +kernel) (by decide +kernel) (by decide +kernel)
    (by first | exact .inl (by decide +kernel) | exact .inr (by decide +kernel)) (by rw [isSubtype_type]; kernel_rfl)
theorem slot_self : Slot "bytearray_iterator" "__iter__" "bytearray_iterator.__iter__" :=
  .of (owner := "bytearray_iterator") (n := "__iter__") (by rw [typeLookup_type, builtinLookup_eq_fast]; kernel_rfl) (by decide +kernel) (by decide +kernel) (by decide +kernel)
    (by first | exact .inl (by decide +kernel) | exact .inr (by decide +kernel)) (by rw [isSubtype_type]; kernel_rfl)
theorem entry_next : entryFor table "bytearray_iterator.__next__" = some Builtin.«bytearray_iterator.__next__» := entryFor_of_tree (by kernel_rfl)
theorem entry_self : entryFor table "bytearray_iterator.__iter__" = some Builtin.«dict_keyiterator.__iter__» := entryFor_alias (id' := "dict_keyiterator.__iter__") (by kernel_rfl) rfl (by decide +kernel) (by kernel_rfl)
theorem args_next (a : Value) : argsOk "bytearray_iterator.__next__" ⟨[a], []⟩ := by unfold argsOk; kernel_rfl
theorem args_self (a : Value) : argsOk "bytearray_iterator.__iter__" ⟨[a], []⟩ := by unfold argsOk; kernel_rfl
end BA

def octIt (a : Addr) (i : Nat) (o : Obj) : Prop := o.cls = .type "bytearray_iterator" ∧ o.data = .fields #[.ref a, .int i 0]
section
variable {X : Cx} {K : Frag} {A : Around} {σ : St} {env : Env}

theorem W_iter_oct {a : Addr} {b : List UInt8} {Q : Value → St → Prop} (hl : Live X σ a (baO b)) (h : ∀ it o, Frsh X.s₁ σ it → octIt a 0 o → Q (.ref it) { σ with U := upd σ.U it o }) : W X A σ (pyIter (.ref a)) Q := by
  intro s E O
  refine wpAny_pyIter_slot (ba_ty (O.live hl)) BA.slot_iter (call_meets BA.slot_iter (ba_ty (O.live hl)) BA.entry_iter (BA.args_iter _) baM_iter ?_)
  obtain ⟨fr, O'⟩ := O.pushU { cls := .type "bytearray_iterator", data := .fields #[.ref a, .int 0 0] } rfl
  exact ⟨"bytearray_iterator", _, ⟨_, Heap.get?_push_size _ rfl, rfl⟩, BA.slot_next.lookup, _, O', h _ _ fr ⟨rfl, rfl⟩⟩
theorem itOk_oct (hh : A.handled = none) {a : Addr} {b : List UInt8} : ItOk X A (octIt a) b.length (fun σ => Live X σ a (baO b)) (fun i v => ∃ c t, b[i]? = some c ∧ v = .int c.toNat t) where
  step := fun {σ it o i} hi hu ho hl s E O => by
    have hob := O.live hl
    have hoi := O.mts _ _ hu
    obtain ⟨hc, hd⟩ := ho
    have hx : b[i]? = some b[i] := List.getElem?_eq_getElem hi
    unfold pyNext
    refine wpAny_bind (wpAny_attempt (wpAny_callSpecial?_slot (name := PySem.Str.ofString "__next__") (T := "bytearray_iterator") ⟨_, hoi, hc⟩ BA.slot_next
      (wpAny_call_entry BA.slot_next ⟨_, hoi, hc⟩ BA.entry_next ?_ (BA.args_next _))))
    show wpAny _ _ (field (.ref it) 0 >>= _) _ _ s
    refine wpAny_bind (wpAny_field hoi hd (x := .ref a) rfl ?_)
    show wpAny _ _ (load a >>= _) _ _ s
    refine wpAny_bind (wpAny_load hob ?_)
    show wpAny _ _ (field (.ref it) 1 >>= _) _ _ s
    refine wpAny_bind (wpAny_field hoi hd (x := .int i 0) rfl ?_)
    have e : b.toArray[i]? = some b[i] := by simp [hi]
    simp only [Int.toNat_natCast, e]
    have hu2 : (s.heap.update it (Obj.mapFields (·.setIfInBounds 1 (rawInt (i + 1))))).get? it = some (Obj.mapFields (·.setIfInBounds 1 (rawInt (i + 1))) o) :=
      Heap.get?_update_self _ hoi (Obj.isFreed_of_fields (Obj.data_mapFields hd _))
    refine wpAny_bind (wpAny_setField hoi hd (by simp) (wpAny_bind (wpAny_mkInt (wpAny_pure ⟨_, rfl, wpAny_pure ?_⟩))))
    refine ⟨_, O.setU (tk := s.toks + 1) hu hu2 (Heap.SameBut.update ..), _, _, rfl, ⟨_, _, hx, rfl⟩, ⟨(Obj.cls_mapFields ..).trans hc, ?_⟩, rfl⟩
    rw [Obj.data_mapFields hd]; simp [rawInt]
  stop := fun {σ it o} hu ho hl s E O => by
    have hob := O.live hl
    have hoi := O.mts _ _ hu
    obtain ⟨hc, hd⟩ := ho
    unfold pyNext
    refine wpAny_bind (wpAny_attempt (wpAny_callSpecial?_slot (name := PySem.Str.ofString "__next__") (T := "bytearray_iterator") ⟨_, hoi, hc⟩ BA.slot_next
      (wpAny_call_entry BA.slot_next ⟨_, hoi, hc⟩ BA.entry_next ?_ (BA.args_next _))))
    show wpAny _ _ (field (.ref it) 0 >>= _) _ _ s
    refine wpAny_bind (wpAny_field hoi hd (x := .ref a) rfl ?_)
    show wpAny _ _ (load a >>= _) _ _ s
    refine wpAny_bind (wpAny_load hob ?_)
    show wpAny _ _ (field (.ref it) 1 >>= _) _ _ s
    refine wpAny_bind (wpAny_field hoi hd (x := .int b.length 0) rfl ?_)
    have e : b.toArray[b.length]? = none := by simp
    simp only [Int.toNat_natCast, e]
    refine wpAny_bind (wpAny_rule (wpAny_bind (wpAny_setField hoi hd (by simp) ?_)))
    refine wpAny_bind (wpAny_letGo ?_)
    show wpAny _ _ (newExc (.type "StopIteration") [] >>= _) _ _ _
    refine wpAny_bind ?_
    simp only [newExc, newTuple]
    refine wpAny_bind (wpAny_newObj_type ?_ (by size_fits))
    refine wpAny_bind (m := firstArgMember _ _) (wpAny_of_eq (a := Value.none) (by first | rfl | (simp only [firstArgMember]; rfl)) ?_)
    refine wpAny_newObj_type ?_ (by size_fits)
    simp only [raiseNew]
    refine wpAny_bind (wpAny_handled ?_)
    rw [show A.in1.handled = none from hh]
    refine wpAny_bind (wpAny_pure (wpAny_throw ?_))
    refine wpAny_bind (wpAny_isInstance (T := "StopIteration") (b := true) ⟨_, Heap.get?_push_size _ rfl, rfl⟩ isSubtype_stop ?_)
    exact wpAny_pure ⟨_, O.era hu (((Heap.SameBut.update ..).extBut.push _).push _), rfl, rfl⟩
  self := fun {σ it o i} hu ho s E O => by
    have hoi := O.mts _ _ hu
    refine wpAny_pyIter_slot (T := "bytearray_iterator") ⟨_, hoi, ho.1⟩ BA.slot_self (wpAny_call_entry BA.slot_self ⟨_, hoi, ho.1⟩ BA.entry_self ?_ (BA.args_self _))
    show wpAny _ _ (ret (.ref it)) _ _ s
    exact wpAny_pure ⟨_, rfl, "bytearray_iterator", _, ⟨_, hoi, ho.1⟩, BA.slot_next.lookup, _, O, rfl, rfl⟩

/-! list slices -/
theorem pick_both (vs : List Value) (lo hi : Nat) : slicePick vs.toArray (some (lo : Int)) (some (hi : Int)) none = ((vs.drop lo).take (hi - lo)).toArray := by
  rw [slicePick_plain]
  simp only [Option.elim, clipAt_nat, List.size_toArray]
  congr 1
  by_cases h : lo ≤ vs.length
  · rw [Nat.min_eq_left h, List.take_eq_take_iff]
    simp only [List.length_drop]
    omega
  · rw [List.drop_eq_nil_of_le (by omega), List.drop_eq_nil_of_le (by omega)]
    simp
theorem W_slice_list {value slice : Expr} {l sl : Addr} {vs : List Value} {n : Nat} {vl vu : Value} {lo hi : Option Int} {us : List Value} {Q : Value → St → Prop} (hl : Live X σ l (lstO vs n)) (hsl : Live X σ sl (sliceO vl vu)) (pl : IsPart vl lo) (pu : IsPart vu hi)
    (hz : vs.length ≤ sizeLine) (hp : slicePick vs.toArray lo hi none = us.toArray) (h : ∀ a, Frsh X.s₁ σ a → Q (.ref a) { σ with U := upd σ.U a (lstO us 0) })
    (hs : subscripted slice false (.ref l) (.ref sl) = operate [.ref sl, .ref l] (getItem (.ref l) (.ref sl)) := by with_unfolding_all rfl) : W X A σ (subscriptTail value slice (.ref l) (.ref sl)) Q := by
  refine W_tailS (T := "list") ⟨_, hl, rfl⟩ slot_list_getitem.lookup (fun s E O => ?_) hs
  refine wpAny_getItem_list_slice (lst_isList (O.live hl)) ⟨_, O.live hsl, rfl, rfl⟩ pl pu .none (by simp) ?_ (by simpa using hz)
  rw [hp]
  obtain ⟨fr, O'⟩ := O.pushU (lstO us 0) rfl
  exact ⟨_, O', h _ fr⟩

/-! max, is -/
theorem W_max {a b : Int} {t u : Tok} {Q : Value → St → Prop} (hh : A.handled = none) (h : ∀ t, Q (.int (max a b) t) σ) : W X A σ (call (.builtin "max") [.int a t, .int b u]) Q := by
  intro s E O
  refine max_two_ints hh fun h' tk hk => ⟨_, O.ext hk, ?_⟩
  by_cases hc : b > a
  · rw [if_pos hc]; have := h u; rwa [Int.max_eq_right (by omega)] at this
  · rw [if_neg hc]; have := h t; rwa [Int.max_eq_left (by omega)] at this
theorem W_is_same {a : Addr} {Q : Value → St → Prop} (h : Q (.bool true) σ) : W X A σ (compareOp .Is (.ref a) (.ref a)) Q := fun _ _ O => wpAny_is_ref_self ⟨_, O, h⟩
theorem W_is_other {a b : Addr} {vs us : List Value} {n m : Nat} {Q : Value → St → Prop} (hab : a ≠ b) (ha : Live X σ a (lstO vs n)) (hb : Live X σ b (lstO us m)) (h : Q (.bool false) σ) : W X A σ (compareOp .Is (.ref a) (.ref b)) Q :=
  fun _ _ O => wpAny_is_ref_other hab (O.live ha) (O.live hb) (by show Value.type "list" ≠ Value.type "tuple"; decide +kernel) ⟨_, O, h⟩
theorem W_is_plain {a b : Value} {Q : Value → St → Prop} (hp : plainIs a b = true) (h : Q (.bool (a == b)) σ) : W X A σ (compareOp .Is a b) Q := fun _ _ O => wpAny_is_plain hp ⟨_, O, h⟩

/-! a, b, c = t -/
theorem W_assign_Tuple {elts : List Expr} {k : Nat} {pos : Pos} {t : Addr} {vs : List Value} {Q : Unit → St → Prop} (hh : A.handled = none) (ht : Live X σ t (tupO vs)) (hn : (assignEach elts env).length = vs.length) (hstar : (assignEach elts env).findIdx? (·.1) = none)
    (h : W X A σ (assignInOrder ((assignEach elts env).map (·.2)) vs) Q) : W X A σ (assign (.Tuple elts k pos) env (.ref t)) Q := by
  intro s E O
  refine assign_Tuple_tuple (items := vs.toArray) hh ⟨_, O.live ht, rfl, 0, rfl⟩ (by simpa using hn) hstar fun h' he => ?_
  have fr := O.fresh (get_size s.heap)
  exact h _ E (O.extBut fr.nF fr.nU fr.high fr.nL fun b o hb e => he b o hb e)
theorem W_inOrder_nil {xs : List Value} {Q : Unit → St → Prop} (h : Q () σ) : W X A σ (assignInOrder [] xs) Q := fun _ _ O => assignInOrder_nil ⟨_, O, h⟩
theorem W_inOrder_cons {t : Value → Sem Unit} {ts : List (Value → Sem Unit)} {x : Value} {xs : List Value} {Q : Unit → St → Prop} (h : W X A σ (t x) fun _ σ' => W X A σ' (assignInOrder ts xs) Q) : W X A σ (assignInOrder (t :: ts) (x :: xs)) Q :=
  fun _ E O => assignInOrder_cons (h.go O fun _ s' _ O' q => q s' E O')
end
end Mine
end

section
open PySem PySem.W PyProof.Rows
set_option Elab.async false
set_option maxRecDepth 100000
namespace Mine

def nmCheck (sc : Scope) : List Str → Bool
  | [] => true
  | x :: r => (sc.names.lookup x == some .local) && !(x == ("__debug__" : Str)) && !r.contains x && nmCheck sc r
theorem nmCheck_ok {sc : Scope} : ∀ {ns : List Str}, nmCheck sc ns = true → ns.Nodup ∧ ∀ x ∈ ns, sc.names.lookup x = some .local ∧ (x == ("__debug__" : Str)) = false
  | [], _ => ⟨List.nodup_nil, fun _ h => by cases h⟩
  | x :: r, h => by
    simp only [nmCheck, Bool.and_eq_true, Bool.not_eq_true', beq_iff_eq] at h
    obtain ⟨⟨⟨h1, h2⟩, h3⟩, h4⟩ := h
    obtain ⟨a, b⟩ := nmCheck_ok h4
    refine ⟨List.nodup_cons.mpr ⟨fun hm => (by rw [List.contains_iff_mem.mpr hm] at h3; cases h3), a⟩, fun y hy => ?_⟩
    rcases List.mem_cons.mp hy with rfl | hy
    · exact ⟨h1, h2⟩
    · exact b y hy
theorem nmOk {env : Env} {fd : FuncData} {ns : List Str} (he : EnvOf env fd) (h : nmCheck fd.scope ns = true) : NmOk env ns := by
  obtain ⟨a, b⟩ := nmCheck_ok h
  refine ⟨a, fun x hx => ?_, fun x hx => (b x hx).2⟩
  show env.scope.names.lookup x = some .local
  rw [he.scope]; exact (b x hx).1

theorem zip_mem {ns : List Str} {vals : List Value} {y : Str × Value} (h : y ∈ ns.zip vals) : y.1 ∈ ns := (List.of_mem_zip h).1
theorem lookup_zip_rev : ∀ {ns : List Str} {vals : List Value}, ns.Nodup → ∀ (i : Nat) (x : Str) (v : Value), ns[i]? = some x → vals[i]? = some v → (ns.zip vals).reverse.lookup x = some v
  | [], _, _, i, x, v, h, _ => by simp at h
  | _ :: _, [], _, i, x, v, _, h => by simp at h
  | n :: ns, u :: vals, nd, i, x, v, h1, h2 => by
    have nd' := List.nodup_cons.mp nd
    rw [List.zip_cons_cons, List.reverse_cons, List.lookup_append]
    cases i with
    | zero =>
      simp only [List.getElem?_cons_zero, Option.some.injEq] at h1 h2
      subst h1 h2
      have : (ns.zip vals).reverse.lookup n = none := by
        rw [List.lookup_eq_none_iff]
        intro y hy
        refine bne_iff_ne.mpr fun e => nd'.1 (e ▸ zip_mem (List.mem_reverse.mp hy))
      rw [this]
      simp
    | succ i =>
      simp only [List.getElem?_cons_succ] at h1 h2
      rw [lookup_zip_rev nd'.2 i x v h1 h2]
      rfl

/-- the arguments stand in order behind the first names; the others have no value -/
inductive Binds : List Value → List (Option Value) → Prop
  | nil : Binds [] []
  | none {ws} : Binds [] ws → Binds [] (none :: ws)
  | cons {v vs ws} : Binds vs ws → Binds (v :: vs) (some v :: ws)
theorem Binds.get : ∀ {vals : List Value} {ws : List (Option Value)}, Binds vals ws → ∀ {i : Nat} {v : Value}, ws[i]? = some (some v) → vals[i]? = some v
  | _, _, .nil, i, v, h => by simp at h
  | _, _, .none b, 0, v, h => by simp at h
  | _, _, .none b, i + 1, v, h => by
    have := b.get (i := i) (v := v) (by simpa using h)
    simp at this
  | _, _, .cons b, 0, v, h => by simpa using h
  | _, _, .cons b, i + 1, v, h => by simpa using b.get (i := i) (v := v) (by simpa using h)

/-- a call of a def of the text: all parameters plain and given in order -/
theorem W_callP {X : Cx} {K : Frag} {A : Around} {σ : St} (B : Base X K) {f : Addr} {oc : Value} {od : Option Addr} {osl : Array (Option Value)} {fd : FuncData} {body : List Stmt} {vals : List Value} (ns0 ns : List Str) (ws : List (Option Value)) {Q : Value → St → Prop}
    (hroom : A.depth < recursionLimit) (ho : K.lookup f = some ⟨oc, od, .func fd, osl⟩)
    (h : ∀ env, EnvOf env fd → NmOk env ns → W X (A.deeper env) ⟨⟨env, ns, ws, true⟩ :: σ.fr, σ.F, σ.U⟩ (execs body env) (RetQ σ.fr Q))
    (hb : fd.body = .stmts body := by rfl) (hcd : codeIn K fd.code fd.qualname = true := by kernel_rfl) (hclo : fd.closure = [] := by rfl)
    (hcell : ∀ x ∈ fd.scope.names, x.2 ≠ .cell := by decide +kernel)
    (hco : fd.scope.isCoroutine = false := by rfl) (hgen : fd.scope.isGenerator = false := by rfl) (hk : fd.scope.kind = .function := by rfl)
    (hbind : bindArgs fd ⟨vals, []⟩ = pure (ns0.zip vals) := by rfl) (hnm : nmCheck fd.scope ns = true := by decide +kernel) (hpre : ns0 <+: ns := by exact ⟨_, rfl⟩)
    (hws : Binds vals ws := by repeat constructor) (hlen : ns0.length = vals.length := by rfl) :
    W X A σ (call (.ref f) vals) Q := by
  obtain ⟨nd, hl⟩ := nmCheck_ok hnm
  obtain ⟨rest, rfl⟩ := hpre
  refine W_call B (ns0 ++ rest) ws ho hb hcd hclo hcell hroom hco hgen hk hbind (fun x hx => (hl _ (List.mem_append_left _ (zip_mem hx))).1) (fun i x v h1 h2 => ?_) fun env he => h env he (nmOk he hnm)
  have h3 := hws.get h2
  have hi : i < vals.length := (List.getElem?_eq_some_iff.mp h3).1
  refine lookup_zip_rev (List.nodup_append.mp nd).1 i x v ?_ h3
  rwa [List.getElem?_append_left (by omega)] at h1

/-- the end of a def -/
theorem W_ret {X : Cx} {A : Around} {σ : St} {env : Env} {e : Expr} {pos : Pos} {rest : List Stmt} {fr : List Fram} {Q : Value → St → Prop} (h : W X A σ (eval e env) fun v σ' => ∃ g, σ'.fr = g :: fr ∧ Q v ⟨fr, σ'.F, σ'.U⟩) :
    W X A σ (execs (.Return (some e) pos :: rest) env) (RetQ fr Q) := W_execs_cons (W_Return (h.mono fun _ _ x => x))

theorem W_retR {X : Cx} {A : Around} {σ : St} {env : Env} {e : Expr} {pos : Pos} {rest : List Stmt} {R : Flow → St → Prop} (h : W X A σ (eval e env) fun v σ' => R (.ret v) σ') :
    W X A σ (execs (.Return (some e) pos :: rest) env) R := W_execs_cons (W_Return (h.mono fun _ _ x => x))
theorem Then.ret {X : Cx} {A : Around} {σ : St} {env : Env} {rest : List Stmt} {R : Flow → St → Prop} {v : Value} (h : R (.ret v) σ) : Then X A rest env R (.ret v) σ := h
theorem Turn.ret {I : St → Prop} {σ : St} {R : Flow → St → Prop} {v : Value} (h : R (.ret v) σ) : Turn I R (.ret v) σ := h
theorem retM {fr : List Fram} {Q : Value → St → Prop} {v : Value} {σ : St} (h : ∃ g, σ.fr = g :: fr ∧ Q v ⟨fr, σ.F, σ.U⟩) : RetQ fr Q (.ret v) σ := h

theorem c_next {P : Params} {X : Cx} {A : Around} {σ : St} (B : Base X (Mine.hd.heap_39 P)) {l : Addr} {vs : List Value} {n : Nat} {Q : Value → St → Prop} (hr : A.depth < recursionLimit) (hl : σ.U l = some (lstO vs n)) (hz : vs.length ≤ sizeLine)
    (h0 : vs = [] → ∀ t, Q (.int 0 t) σ) (h1 : ∀ v r, vs = v :: r → ∀ n', Q v { σ with U := upd σ.U l (lstO r n') }) : W X A σ (call (.ref 163) [.ref l]) Q := by
  refine W_callP B ["left"] ["left"] [some (.ref l)] hr (by rfl) fun env he hn => ?_
  refine W_execs_cons (W_Return (W_IfExp (W_isTrue_val (W_name hn .here (W_truthy_list (.inl hl) (by unfold sizeLine at hz; omega) ?_)))))
  cases vs with
  | nil => exact W_int fun t => retQ (h0 rfl t)
  | cons v r => exact W_pop0 (W_name hn .here ⟨l, rfl, v, r, n, hl, hz, fun n' => retQ (h1 v r rfl n')⟩)
end Mine
end

section
set_option Elab.async false
namespace Mine

inductive T
  | leaf (b : List UInt8)
  | node (l : List T)

def digits (n : Nat) : List UInt8 := if h : n = 0 then [] else digits (n / 256) ++ [UInt8.ofNat (n % 256)]
termination_by n
decreasing_by omega
def hdr (base n : Nat) : List UInt8 := if n < 56 then [UInt8.ofNat (base + n)] else UInt8.ofNat (base + 55 + (digits n).length) :: digits n

mutual
def code : T → List UInt8
  | .leaf b => hdr 128 b.length ++ b
  | .node l => hdr 192 (codes l).length ++ codes l
def codes : List T → List UInt8
  | [] => []
  | t :: l => code t ++ codes l
end
mutual
def skel : T → T
  | .leaf b => .leaf (List.replicate b.length 0)
  | .node l => .node (skels l)
def skels : List T → List T
  | [] => []
  | t :: l => skel t :: skels l
end
mutual
def Ok : T → Prop
  | .leaf b => 2 ≤ b.length ∧ b.length < 65536
  | .node l => (codes l).length < 65536 ∧ Oks l
def Oks : List T → Prop
  | [] => True
  | t :: l => Ok t ∧ Oks l
end
mutual
def depth : T → Nat
  | .leaf _ => 0
  | .node l => depths l + 1
def depths : List T → Nat
  | [] => 0
  | t :: l => max (depth t) (depths l)
end
mutual
def spots : T → Nat → List Nat
  | .leaf b, p => (List.range b.length).map (· + (p + (hdr 128 b.length).length))
  | .node l, p => spotss l (p + (hdr 192 (codes l).length).length)
def spotss : List T → Nat → List Nat
  | [], _ => []
  | t :: l, p => spots t p ++ spotss l (p + (code t).length)
end

theorem codes_append : ∀ (l m : List T), codes (l ++ m) = codes l ++ codes m
  | [], m => by simp [codes]
  | t :: l, m => by simp [codes, codes_append l m]
theorem skels_eq : ∀ l : List T, skels l = l.map skel
  | [] => rfl
  | t :: l => by simp [skels, skels_eq l]
theorem skels_length (l : List T) : (skels l).length = l.length := by rw [skels_eq]; simp
theorem Oks.mem : ∀ {l : List T}, Oks l → ∀ t ∈ l, Ok t
  | [], _, _, h => by cases h
  | t :: l, h, u, hu => by
    rcases List.mem_cons.mp hu with rfl | hu
    · exact h.1
    · exact Oks.mem h.2 u hu
theorem depths_mem : ∀ {l : List T} {t : T}, t ∈ l → depth t ≤ depths l
  | [], _, h => by cases h
  | u :: l, t, h => by
    simp only [depths]
    rcases List.mem_cons.mp h with rfl | h
    · omega
    · have := depths_mem h; omega

/-! what hangs on the shape alone -/
mutual
theorem code_skel : ∀ t : T, (code (skel t)).length = (code t).length
  | .leaf b => by simp [skel, code]
  | .node l => by simp [skel, code, codes_skel l]
theorem codes_skel : ∀ l : List T, (codes (skels l)).length = (codes l).length
  | [] => rfl
  | t :: l => by simp [skels, codes, code_skel t, codes_skel l]
end
theorem code_len {t u : T} (h : skel t = skel u) : (code t).length = (code u).length := by rw [← code_skel t, h, code_skel]
theorem codes_len {l m : List T} (h : skels l = skels m) : (codes l).length = (codes m).length := by rw [← codes_skel l, h, codes_skel]
mutual
theorem ok_skel : ∀ t : T, Ok (skel t) ↔ Ok t
  | .leaf b => by simp [skel, Ok]
  | .node l => by simp [skel, Ok, oks_skel l, codes_skel l]
theorem oks_skel : ∀ l : List T, Oks (skels l) ↔ Oks l
  | [] => by simp [skels]
  | t :: l => by simp [skels, Oks, ok_skel t, oks_skel l]
end
mutual
theorem depth_skel : ∀ t : T, depth (skel t) = depth t
  | .leaf b => by simp [skel, depth]
  | .node l => by simp [skel, depth, depths_skel l]
theorem depths_skel : ∀ l : List T, depths (skels l) = depths l
  | [] => rfl
  | t :: l => by simp [skels, depths, depth_skel t, depths_skel l]
end
mutual
theorem spots_skel : ∀ (t : T) (p : Nat), spots (skel t) p = spots t p
  | .leaf b, p => by simp [skel, spots]
  | .node l, p => by simp [skel, spots, spotss_skel l, codes_skel l]
theorem spotss_skel : ∀ (l : List T) (p : Nat), spotss (skels l) p = spotss l p
  | [], p => rfl
  | t :: l, p => by simp [skels, spotss, spots_skel t, spotss_skel l, code_skel t]
end
theorem Ok.of_skel {t u : T} (h : skel t = skel u) (k : Ok u) : Ok t := (ok_skel t).mp (h ▸ (ok_skel u).mpr k)
theorem skel_leaf {t : T} {b : List UInt8} (h : skel t = skel (.leaf b)) : ∃ c, t = .leaf c ∧ c.length = b.length := by
  cases t with
  | leaf c => simp only [skel, T.leaf.injEq] at h; exact ⟨c, rfl, by simpa using congrArg List.length h⟩
  | node l => simp [skel] at h
theorem skel_node {t : T} {l : List T} (h : skel t = skel (.node l)) : ∃ m, t = .node m ∧ skels m = skels l := by
  cases t with
  | leaf c => simp [skel] at h
  | node m => simp only [skel, T.node.injEq] at h; exact ⟨m, rfl, h⟩
theorem skels_cons {l : List T} {t : T} {m : List T} (h : skels l = skels (t :: m)) : ∃ u r, l = u :: r ∧ skel u = skel t ∧ skels r = skels m := by
  cases l with
  | nil => simp [skels] at h
  | cons u r => simp only [skels, List.cons.injEq] at h; exact ⟨u, r, rfl, h.1, h.2⟩
theorem skels_app {l : List T} {m k : List T} (h : skels l = skels (m ++ k)) : ∃ m' k', l = m' ++ k' ∧ skels m' = skels m ∧ skels k' = skels k := by
  induction m generalizing l with
  | nil => exact ⟨[], l, rfl, rfl, h⟩
  | cons t m ih =>
    obtain ⟨u, r, rfl, h1, h2⟩ := skels_cons h
    obtain ⟨m', k', rfl, h3, h4⟩ := ih h2
    exact ⟨u :: m', k', rfl, by simp [skels, h1, h3], h4⟩

/-! a store at a spot -/
theorem hdr_pos (b n : Nat) : 1 ≤ (hdr b n).length := by unfold hdr; split <;> simp
mutual
theorem spots_ge : ∀ (t : T) (p q : Nat), q ∈ spots t p → p ≤ q ∧ q < p + (code t).length
  | .leaf b, p, q, h => by
    simp only [spots, List.mem_map, List.mem_range] at h
    obtain ⟨i, hi, rfl⟩ := h
    simp only [code, List.length_append]
    omega
  | .node l, p, q, h => by
    have := spotss_ge l _ q h
    simp only [code, List.length_append]
    omega
theorem spotss_ge : ∀ (l : List T) (p q : Nat), q ∈ spotss l p → p ≤ q ∧ q < p + (codes l).length
  | [], p, q, h => by cases h
  | t :: l, p, q, h => by
    simp only [codes, List.length_append]
    rcases List.mem_append.mp h with h | h
    · have := spots_ge t p q h; omega
    · have := spotss_ge l _ q h; omega
end
mutual
theorem store : ∀ (t : T) (p q : Nat) (v : UInt8), q ∈ spots t p → ∃ t', skel t' = skel t ∧ code t' = (code t).set (q - p) v
  | .leaf b, p, q, v, h => by
    simp only [spots, List.mem_map, List.mem_range] at h
    obtain ⟨i, hi, rfl⟩ := h
    refine ⟨.leaf (b.set i v), by simp [skel], ?_⟩
    simp only [code, List.length_set]
    rw [List.set_append_right _ _ (by omega)]
    congr 2
    omega
  | .node l, p, q, v, h => by
    obtain ⟨l', h1, h2⟩ := stores l _ q v h
    have g := spotss_ge l _ q h
    have e := codes_len h1
    refine ⟨.node l', by simp [skel, h1], ?_⟩
    show hdr 192 (codes l').length ++ codes l' = (hdr 192 (codes l).length ++ codes l).set (q - p) v
    rw [e, h2, List.set_append_right _ _ (by omega)]
    congr 2
    omega
theorem stores : ∀ (l : List T) (p q : Nat) (v : UInt8), q ∈ spotss l p → ∃ l', skels l' = skels l ∧ codes l' = (codes l).set (q - p) v
  | [], p, q, v, h => by cases h
  | t :: l, p, q, v, h => by
    rcases List.mem_append.mp h with h | h
    · obtain ⟨t', h1, h2⟩ := store t p q v h
      have g := spots_ge t p q h
      refine ⟨t' :: l, by simp [skels, h1], ?_⟩
      simp only [codes, h2]
      rw [List.set_append_left _ _ (by omega)]
    · obtain ⟨l', h1, h2⟩ := stores l _ q v h
      have g := spotss_ge l _ q h
      refine ⟨t :: l', by simp [skels, h1], ?_⟩
      simp only [codes, h2]
      rw [List.set_append_right _ _ (by omega)]
      congr 2
      omega
end

/-! a part at a place -/
inductive At : T → Nat → T → Nat → Prop
  | here {t p} : At t p t p
  | kid {l m p u q t} : At t (p + (hdr 192 (codes (l ++ t :: m)).length).length + (codes l).length) u q → At (.node (l ++ t :: m)) p u q
theorem At.cut {t u : T} {p q : Nat} (h : At t p u q) : ∃ pre post, code t = pre ++ code u ++ post ∧ p + pre.length = q := by
  induction h with
  | here => exact ⟨[], [], by simp, rfl⟩
  | @kid l m p u q t h ih =>
    obtain ⟨pre, post, e, hq⟩ := ih
    refine ⟨hdr 192 (codes (l ++ t :: m)).length ++ (codes l ++ pre), post ++ codes m, ?_, ?_⟩
    · simp only [code, codes_append, codes, e, List.append_assoc]
    · simp only [List.length_append] at hq ⊢; omega
theorem At.skel {t u : T} {p q : Nat} (h : At t p u q) : ∀ {t'}, Mine.skel t' = Mine.skel t → ∃ u', At t' p u' q ∧ Mine.skel u' = Mine.skel u := by
  induction h with
  | here => exact fun {t'} e => ⟨t', .here, e⟩
  | @kid l m p u q t h ih =>
    intro t' e
    obtain ⟨r, rfl, hr⟩ := skel_node e
    obtain ⟨l', k', rfl, h1, h2⟩ := skels_app hr
    obtain ⟨t2, m', rfl, h3, h4⟩ := skels_cons h2
    obtain ⟨u', hu, hs⟩ := ih h3
    refine ⟨u', .kid ?_, hs⟩
    rw [codes_len hr, codes_len h1]; exact hu
theorem At.ok {t u : T} {p q : Nat} (h : At t p u q) (k : Ok t) : Ok u := by
  induction h with
  | here => exact k
  | @kid l m p u q t h ih => exact ih (k.2.mem _ (by simp))
theorem At.depth {t u : T} {p q : Nat} (h : At t p u q) : Mine.depth u ≤ Mine.depth t := by
  induction h with
  | here => exact Nat.le_refl _
  | @kid l m p u q t h ih =>
    have := depths_mem (l := l ++ t :: m) (t := t) (by simp)
    simp only [Mine.depth]; omega
theorem At.trans {t u v : T} {p q r : Nat} (h : At t p u q) (k : At u q v r) : At t p v r := by
  induction h with
  | here => exact k
  | kid h ih => exact .kid (ih k)
/-- the i-th kid -/
theorem At.nth {l : List T} {p i : Nat} {u : T} (h : l[i]? = some u) : At (.node l) p u (p + (hdr 192 (codes l).length).length + (codes (l.take i)).length) := by
  have hi := (List.getElem?_eq_some_iff.mp h).1
  have e : l = l.take i ++ u :: l.drop (i + 1) := by
    have := List.take_append_drop i l
    rw [List.drop_eq_getElem_cons hi, (List.getElem?_eq_some_iff.mp h).2] at this
    exact this.symm
  have k := At.kid (l := l.take i) (m := l.drop (i + 1)) (p := p) (t := u) .here
  rw [← e] at k
  exact k

/-! digits -/
theorem digits_zero : digits 0 = [] := by unfold digits; simp
theorem digits_pos {n : Nat} (h : 0 < n) : digits n = digits (n / 256) ++ [UInt8.ofNat (n % 256)] := by
  rw [digits]; rw [dif_neg (by omega)]
theorem digits_len {n : Nat} (h : n < 65536) : (digits n).length ≤ 2 := by
  by_cases h0 : n = 0
  · subst h0; simp [digits_zero]
  · rw [digits_pos (by omega)]
    by_cases h1 : n / 256 = 0
    · simp [h1, digits_zero]
    · have h2 : n / 256 / 256 = 0 := by omega
      rw [digits_pos (by omega), h2, digits_zero]; simp
theorem digits_ne {n : Nat} (h : 0 < n) : 1 ≤ (digits n).length := by rw [digits_pos h]; simp
theorem ofNat_toNat {k : Nat} (h : k < 256) : (UInt8.ofNat k).toNat = k := by simp [UInt8.toNat_ofNat']; omega
theorem digits_head {n : Nat} (h : 0 < n) : ∀ b, (digits n).head? = some b → b ≠ 0 := by
  induction n using Nat.strongRecOn with
  | ind n ih =>
    intro b hb
    rw [digits_pos h] at hb
    by_cases h1 : n / 256 = 0
    · rw [h1, digits_zero] at hb
      simp only [List.nil_append, List.head?_cons, Option.some.injEq] at hb
      intro e
      rw [← hb] at e
      have := congrArg UInt8.toNat e
      rw [ofNat_toNat (by omega)] at this
      simp at this
      omega
    · have hne : digits (n / 256) ≠ [] := fun e => by have := digits_ne (n := n / 256) (by omega); rw [e] at this; simp at this
      obtain ⟨c, r, e⟩ := List.exists_cons_of_ne_nil hne
      rw [e] at hb
      simp only [List.cons_append, List.head?_cons, Option.some.injEq] at hb
      exact ih (n / 256) (by omega) (by omega) b (by rw [e, ← hb]; rfl)
end Mine
end

section
open PySem PySem.W PyProof.Rows
set_option Elab.async false
set_option maxRecDepth 100000
namespace Mine

mutual
/-- a tree in the heap: leaves are octets (lv: bytearrays), nodes are lists -/
def IsD (lv : Bool) (F : Mp) : T → Value → Prop
  | .leaf b, v => OctF F lv v b
  | .node l, v => ∃ a vs n, v = .ref a ∧ F a = some (lstO vs n) ∧ IsDs lv F l vs
def IsDs (lv : Bool) (F : Mp) : List T → List Value → Prop
  | [], vs => vs = []
  | t :: l, vs => ∃ v r, vs = v :: r ∧ IsD lv F t v ∧ IsDs lv F l r
end
mutual
/-- a tree's layout in the heap: spans and lists of them -/
def IsN (F : Mp) : T → Nat → Value → Prop
  | .leaf b, p, v => ∃ a t u, v = .ref a ∧ F a = some (tupO [.int ((p + (hdr 128 b.length).length : Nat) : Int) t, .int ((p + (code (.leaf b)).length : Nat) : Int) u])
  | .node l, p, v => ∃ a vs n, v = .ref a ∧ F a = some (lstO vs n) ∧ IsNs F l (p + (hdr 192 (codes l).length).length) vs
def IsNs (F : Mp) : List T → Nat → List Value → Prop
  | [], _, vs => vs = []
  | t :: l, p, vs => ∃ v r, vs = v :: r ∧ IsN F t p v ∧ IsNs F l (p + (code t).length) r
end
mutual
theorem IsD.le {lv : Bool} {F F' : Mp} (k : Le F F') : ∀ {t : T} {v : Value}, IsD lv F t v → IsD lv F' t v
  | .leaf b, v, h => by unfold IsD at h ⊢; exact OctF.le k h
  | .node l, v, h => by
    unfold IsD at h ⊢
    obtain ⟨a, vs, n, e, h1, h2⟩ := h
    exact ⟨a, vs, n, e, k _ _ h1, IsDs.le k h2⟩
theorem IsDs.le {lv : Bool} {F F' : Mp} (k : Le F F') : ∀ {l : List T} {vs : List Value}, IsDs lv F l vs → IsDs lv F' l vs
  | [], vs, h => by unfold IsDs at h ⊢; exact h
  | t :: l, vs, h => by
    unfold IsDs at h ⊢
    obtain ⟨v, r, e, h1, h2⟩ := h
    exact ⟨v, r, e, IsD.le k h1, IsDs.le k h2⟩
end
mutual
theorem IsN.le {F F' : Mp} (k : Le F F') : ∀ {t : T} {p : Nat} {v : Value}, IsN F t p v → IsN F' t p v
  | .leaf b, p, v, h => by
    unfold IsN at h ⊢
    obtain ⟨a, t, u, e, h1⟩ := h
    exact ⟨a, t, u, e, k _ _ h1⟩
  | .node l, p, v, h => by
    unfold IsN at h ⊢
    obtain ⟨a, vs, n, e, h1, h2⟩ := h
    exact ⟨a, vs, n, e, k _ _ h1, IsNs.le k h2⟩
theorem IsNs.le {F F' : Mp} (k : Le F F') : ∀ {l : List T} {p : Nat} {vs : List Value}, IsNs F l p vs → IsNs F' l p vs
  | [], p, vs, h => by unfold IsNs at h ⊢; exact h
  | t :: l, p, vs, h => by
    unfold IsNs at h ⊢
    obtain ⟨v, r, e, h1, h2⟩ := h
    exact ⟨v, r, e, IsN.le k h1, IsNs.le k h2⟩
end
mutual
theorem isN_skel {F : Mp} : ∀ {t : T} {p : Nat} {v : Value}, IsN F (skel t) p v ↔ IsN F t p v
  | .leaf b, p, v => by simp [skel, IsN, code]
  | .node l, p, v => by simp only [skel, IsN, codes_skel l, isNs_skel (l := l)]
theorem isNs_skel {F : Mp} : ∀ {l : List T} {p : Nat} {vs : List Value}, IsNs F (skels l) p vs ↔ IsNs F l p vs
  | [], p, vs => by simp [skels]
  | t :: l, p, vs => by simp only [skels, IsNs, code_skel t, isN_skel (t := t), isNs_skel (l := l)]
end
theorem IsN.of_skel {F : Mp} {t u : T} {p : Nat} {v : Value} (h : skel t = skel u) (k : IsN F u p v) : IsN F t p v := isN_skel.mp (h ▸ isN_skel.mpr k)
theorem IsDs.length {lv : Bool} {F : Mp} : ∀ {l : List T} {vs : List Value}, IsDs lv F l vs → vs.length = l.length
  | [], vs, h => by unfold IsDs at h; subst h; rfl
  | t :: l, vs, h => by
    unfold IsDs at h
    obtain ⟨v, r, rfl, _, h2⟩ := h
    simp [IsDs.length h2]
theorem IsNs.length {F : Mp} : ∀ {l : List T} {p : Nat} {vs : List Value}, IsNs F l p vs → vs.length = l.length
  | [], p, vs, h => by unfold IsNs at h; subst h; rfl
  | t :: l, p, vs, h => by
    unfold IsNs at h
    obtain ⟨v, r, rfl, _, h2⟩ := h
    simp [IsNs.length h2]
theorem IsDs.at {lv : Bool} {F : Mp} : ∀ {l : List T} {vs : List Value}, IsDs lv F l vs → ∀ {i : Nat} {v : Value}, vs[i]? = some v → ∃ t, l[i]? = some t ∧ IsD lv F t v
  | [], vs, h, i, v, e => by unfold IsDs at h; subst h; simp at e
  | t :: l, vs, h, i, v, e => by
    unfold IsDs at h
    obtain ⟨v0, r, rfl, h1, h2⟩ := h
    cases i with
    | zero => simp only [List.getElem?_cons_zero, Option.some.injEq] at e; subst e; exact ⟨t, rfl, h1⟩
    | succ i => simp only [List.getElem?_cons_succ] at e ⊢; exact IsDs.at h2 e
theorem IsNs.at {F : Mp} : ∀ {l : List T} {p : Nat} {vs : List Value}, IsNs F l p vs → ∀ {i : Nat} {v : Value}, vs[i]? = some v → ∃ t, l[i]? = some t ∧ IsN F t (p + (codes (l.take i)).length) v
  | [], p, vs, h, i, v, e => by unfold IsNs at h; subst h; simp at e
  | t :: l, p, vs, h, i, v, e => by
    unfold IsNs at h
    obtain ⟨v0, r, rfl, h1, h2⟩ := h
    cases i with
    | zero => simp only [List.getElem?_cons_zero, Option.some.injEq] at e; subst e; exact ⟨t, rfl, by simpa [codes] using h1⟩
    | succ i =>
      simp only [List.getElem?_cons_succ] at e ⊢
      obtain ⟨u, h3, h4⟩ := IsNs.at h2 e
      refine ⟨u, h3, ?_⟩
      simp only [List.take_succ_cons, codes, List.length_append]
      rwa [← Nat.add_assoc]
theorem IsDs.snoc {lv : Bool} {F : Mp} : ∀ {l : List T} {vs : List Value} {t : T} {v : Value}, IsDs lv F l vs → IsD lv F t v → IsDs lv F (l ++ [t]) (vs ++ [v])
  | [], vs, t, v, h, k => by unfold IsDs at h; subst h; unfold IsDs; exact ⟨v, [], rfl, k, by unfold IsDs; rfl⟩
  | u :: l, vs, t, v, h, k => by
    unfold IsDs at h
    obtain ⟨v0, r, rfl, h1, h2⟩ := h
    show IsDs lv F (u :: (l ++ [t])) _
    unfold IsDs
    exact ⟨v0, r ++ [v], rfl, h1, IsDs.snoc h2 k⟩
theorem IsNs.snoc {F : Mp} : ∀ {l : List T} {p : Nat} {vs : List Value} {t : T} {v : Value}, IsNs F l p vs → IsN F t (p + (codes l).length) v → IsNs F (l ++ [t]) p (vs ++ [v])
  | [], p, vs, t, v, h, k => by unfold IsNs at h; subst h; unfold IsNs; exact ⟨v, [], rfl, by simpa [codes] using k, by unfold IsNs; rfl⟩
  | u :: l, p, vs, t, v, h, k => by
    unfold IsNs at h
    obtain ⟨v0, r, rfl, h1, h2⟩ := h
    show IsNs F (u :: (l ++ [t])) _ _
    unfold IsNs
    refine ⟨v0, r ++ [v], rfl, h1, IsNs.snoc h2 ?_⟩
    simp only [codes, List.length_append] at k
    rwa [← Nat.add_assoc] at k

theorem num_snoc (l : List UInt8) (b : UInt8) : num (l ++ [b]) = num l * 256 + b.toNat := by simp [num]
theorem num_digits (n : Nat) : num (digits n) = n := by
  induction n using Nat.strongRecOn with
  | ind n ih =>
    by_cases h : n = 0
    · subst h; simp [digits_zero, num]
    · rw [digits_pos (by omega), num_snoc, ih _ (by omega), ofNat_toNat (by omega)]
      omega

/-- room for n more frames -/
structure Room (A : Around) (n : Nat) : Prop where
  depth : A.depth + n ≤ 900
  units : A.units + 8 * n ≤ 9000
  calm : A.handled = none
theorem Room.deeper {A : Around} {n : Nat} (r : Room A (n + 1)) (env : Env) : Room (A.deeper env) n :=
  ⟨by show A.depth + 1 + n ≤ 900; have := r.depth; omega, by show A.units + 3 + 8 * n ≤ 9000; have := r.units; omega, r.calm⟩
theorem Room.le {A : Around} {n m : Nat} (r : Room A n) (h : m ≤ n) : Room A m := ⟨by have := r.depth; omega, by have := r.units; omega, r.calm⟩
theorem Room.d {A : Around} {n : Nat} (r : Room A n) : A.depth < recursionLimit := by have := r.depth; show A.depth < 1000; omega
theorem Room.u {A : Around} {n : Nat} (r : Room A n) : A.units < cLine := by have := r.units; show A.units < 9900; omega

/-- a global name of the text's -/
theorem gl {K : Frag} {X : Cx} (B : Base X K) {env : Env} {fd : FuncData} (he : EnvOf env fd) (x : Str) (v : Value) (hg : fd.globals = mainGlobals := by rfl) (e : nsIn K mainGlobals x = some (some v) := by kernel_rfl)
    (hk : fd.scope.names.lookup x = some .globalImplicit := by decide +kernel) (hd : (x == ("__debug__" : Str)) = false := by decide +kernel) : GName X env x v :=
  B.glob (he.globals.trans hg) e (by rw [he.scope]; exact hk) hd
theorem bl {K : Frag} {X : Cx} (B : Base X K) {env : Env} {fd : FuncData} (he : EnvOf env fd) (x : Str) (v : Value) (hg : fd.globals = mainGlobals := by rfl) (hb : fd.builtins = builtinsNs := by rfl) (e : nsIn K mainGlobals x = some none := by kernel_rfl) (hv : bootBuiltins x = some v := by kernel_rfl)
    (hn : x ≠ "__name__" := by decide +kernel) (hk : fd.scope.names.lookup x = some .globalImplicit := by decide +kernel) (hd : (x == ("__debug__" : Str)) = false := by decide +kernel) : GName X env x v :=
  B.bltn (he.globals.trans hg) (he.builtins.trans hb) e hv hn (by rw [he.scope]; exact hk) hd
end Mine
end

section
open PySem PySem.W PyProof.Rows
set_option Elab.async false
set_option maxRecDepth 100000
namespace Mine

theorem fmod_nat (n k : Nat) : (n : Int).fmod (k : Int) = ((n % k : Nat) : Int) := by rw [Int.fmod_eq_emod_of_nonneg _ (by omega)]; rfl
theorem fdiv_nat (n k : Nat) : (n : Int).fdiv (k : Int) = ((n / k : Nat) : Int) := by rw [Int.fdiv_eq_ediv_of_nonneg _ (by omega)]; rfl
theorem ints1 {i : Int} {t : Tok} : IntsAre [.int i t] [i] := .cons _ _ .nil

section
variable {P : Params} {X : Cx} {A : Around} {σ : St}

theorem c_digits (B : Base X (Mine.hd.heap_39 P)) (r : Room A 1) {n : Nat} {t : Tok} (hn : n < 65536) : W X A σ (call (.ref 175) [.int n t]) fun v σ' => σ' = σ ∧ ∃ t, v = .bytes (digits n).toArray t := by
  obtain ⟨fr, F, U⟩ := σ
  refine W_callP B ["n"] ["n", "found"] [some (.int n t), none] r.d (by rfl) fun env he nm => ?_
  have hh : (A.deeper env).handled = none := r.calm
  refine W_execs_cons (W_Assign_Name (W_const_bytes fun t0 => W_store nm (.there .here) ?_))
  refine W_execs_cons (W_While (fun k σ' => ∃ t' t'' fd, k < 65536 ∧ digits n = digits k ++ fd ∧ fd.length ≤ 8 ∧ (∃ j, k * 256 ^ j ≤ n ∧ j = fd.length) ∧ σ' = ⟨⟨env, ["n", "found"], [some (.int (k : Nat) t'), some (.bytes fd.toArray t'')], true⟩ :: fr, F, U⟩) n ⟨t, t0, [], hn, by simp, by simp, ⟨0, by simp, rfl⟩, rfl⟩ ?_)
  rintro k σ' ⟨t', t'', fd, hk, hd, hl, ⟨j, hj, hjl⟩, rfl⟩
  refine W_isTrue_Compare (W_name nm .here (W_int fun t1 => W_gt (W_truthy_bool ?_)))
  by_cases h0 : 0 < k
  · rw [if_pos (by simp; omega)]
    refine W_execs_cons (W_Assign_Name (W_BinOp (W_Call_Name (W_gname (bl B he "bytes" (.type "bytes")) rfl rfl (W_callWith_t (W_items_cons (W_List (W_items_cons (W_BinOp (W_name nm .here (W_int fun t2 => W_mod (by decide) fun t3 => W_items_nil ⟨by simp [sizeLine], fun a fr' => W_items_nil ?_⟩)))))))))))
    refine W_bytes_ints (.inl (upd_same ..)) ints1 (fun m hm => ?_) (by simp [sizeLine]) hh fun t4 => W_dropU (le_upd fr'.nU) (W_name nm (.there .here) ?_)
    · rw [List.mem_singleton] at hm
      subst hm
      have : Int.fmod (k : Int) 256 = ((k % 256 : Nat) : Int) := fmod_nat k 256
      omega
    have e : ([Int.fmod (k : Int) 256].map fun n => n.toNat.toUInt8) = [UInt8.ofNat (k % 256)] := by
      have := fmod_nat k 256
      simp only [List.map_cons, List.map_nil]
      rw [show Int.fmod (k : Int) 256 = ((k % 256 : Nat) : Int) from this]
      rfl
    rw [e]
    refine W_add_bytes (by simp; omega) fun t5 => W_store nm (.there .here) ?_
    refine W_execs_cons (W_Assign_Name (W_BinOp (W_name nm .here (W_int fun t6 => W_floordiv_small (by decide) (PyProof.noPylong_small (by decide)) fun t7 => W_store nm .here (W_execs_nil ?_)))))
    refine ⟨k / 256, by omega, t7, t5, [UInt8.ofNat (k % 256)] ++ fd, by omega, ?_, ?_, ?_, ?_⟩
    · rw [hd, digits_pos h0]; simp
    · have h1 := digits_len hn
      have h2 := congrArg List.length hd
      have h3 := digits_ne h0
      simp only [List.length_append] at h2
      simp; omega
    · refine ⟨j + 1, ?_, by simp; omega⟩
      have : k / 256 * 256 ≤ k := by omega
      calc k / 256 * 256 ^ (j + 1) = (k / 256 * 256) * 256 ^ j := by rw [Nat.pow_succ, Nat.mul_comm (256 ^ j), Nat.mul_assoc]
        _ ≤ k * 256 ^ j := Nat.mul_le_mul_right _ this
        _ ≤ n := hj
    · rw [show Int.fdiv (k : Int) 256 = ((k / 256 : Nat) : Int) from fdiv_nat k 256]
  · rw [if_neg (by simp; omega)]
    have : k = 0 := by omega
    subst this
    refine W_ret (W_name nm (.there .here) ⟨_, rfl, rfl, t'', ?_⟩)
    rw [hd, digits_zero]; simp
end
end Mine
end

section
open PySem PySem.W PyProof.Rows
set_option Elab.async false
set_option maxRecDepth 100000
namespace Mine

/-- only the frozen objects have grown -/
def Grow (σ σ' : St) : Prop := ∃ F', Le σ.F F' ∧ σ' = ⟨σ.fr, F', σ.U⟩
theorem codes_take_succ {l : List T} {i : Nat} {t : T} (h : l[i]? = some t) : codes (l.take (i + 1)) = codes (l.take i) ++ code t := by
  rw [List.take_add_one, h, codes_append]; simp [codes]
theorem codes_take_le (l : List T) (i : Nat) : (codes (l.take i)).length ≤ (codes l).length := by
  have : codes l = codes (l.take i) ++ codes (l.drop i) := by rw [← codes_append, List.take_append_drop]
  rw [this]; simp
theorem hdr_len {b n : Nat} (h : n < 65536) : (hdr b n).length ≤ 3 := by
  unfold hdr; split
  · simp
  · have := digits_len h; simp; omega

section
variable {P : Params} {X : Cx}

def CodeC (X : Cx) (t : T) (n : Nat) : Prop := ∀ {A : Around} {σ : St} {v : Value}, Room A n → IsD false σ.F t v →
  W X A σ (call (.ref 189) [v]) fun w σ' => Grow σ σ' ∧ ∃ t', w = .bytes (code t).toArray t'
def BodyC (X : Cx) (l : List T) (n : Nat) : Prop := ∀ {A : Around} {σ : St} {a : Addr} {vs : List Value} {m : Nat}, Room A n → σ.F a = some (lstO vs m) → IsDs false σ.F l vs →
  W X A σ (call (.ref 182) [.ref a]) fun w σ' => Grow σ σ' ∧ ∃ t', w = .bytes (codes l).toArray t'

theorem body_of (B : Base X (Mine.hd.heap_39 P)) {l : List T} {n : Nat} (hz : (codes l).length < 65536) (ih : ∀ t ∈ l, CodeC X t n) : BodyC X l (n + 1) := by
  intro A σ a vs m r ha hd
  obtain ⟨fr, F, U⟩ := σ
  refine W_callP B ["tree"] ["tree", "found", "part"] [some (.ref a), none, none] r.d (by rfl) fun env he nm => ?_
  have hr : Room (A.deeper env) n := r.deeper env
  refine W_execs_cons (W_Assign_Name (W_const_bytes fun t0 => W_store nm (.there .here) ?_))
  refine W_execs_cons (W_For (W_name nm .here (W_iter_list (.inr (.inl ha)) fun it o hf ho => ?_)))
  refine ⟨it, lstIt a, vs.length, fun σ => Live X σ a (lstO vs m), fun i v => vs[i]? = some v, fun i σ => ∃ F' t pv o, Le F F' ∧ lstIt a i o ∧ σ = ⟨⟨env, ["tree", "found", "part"], [some (.ref a), some (.bytes (codes (l.take i)).toArray t), pv], true⟩ :: fr, F', upd U it o⟩,
    rfl, itOk_list hr.calm, ⟨F, t0, none, o, .refl _, ho, rfl⟩, ?_, ?_, ?_⟩
  · rintro i σ ⟨F', t, pv, o, k, ho, rfl⟩
    exact ⟨⟨o, upd_same .., ho⟩, .inr (.inl (k _ _ ha))⟩
  · rintro i σ o' v ⟨F', t, pv, o, k, ho, rfl⟩ hi hv ho'
    obtain ⟨u, hu, hd'⟩ := hd.at hv
    refine W_assign_Name nm (.there (.there .here)) ?_
    refine W_execs_cons (W_Assign_Name (W_BinOp (W_name nm (.there .here) (W_Call_Name (W_gname (gl B he "_law_code" (.ref 189)) rfl rfl (W_callWith B (by kernel_rfl) (W_items_cons (W_name nm (.there (.there .here)) (W_items_nil ?_)))))))))
    refine (ih u (List.mem_of_getElem? hu) hr (hd'.le k)).mono fun w σ' ⟨⟨F'', k', e⟩, t', hw⟩ => ?_
    subst e hw
    have hle := codes_take_le l (i + 1)
    rw [codes_take_succ hu, List.length_append] at hle
    refine W_add_bytes (by omega) fun t3 => W_store nm (.there .here) (W_execs_nil ⟨F'', t3, some v, o', k.trans k', ho', ?_⟩)
    rw [codes_take_succ hu, upd_upd]
  · rintro σ ⟨F', t, pv, o, k, ho, rfl⟩
    refine W_ret (W_name nm (.there .here) ⟨_, rfl, ⟨F', k, ?_⟩, t, ?_⟩)
    · rw [era_upd hf.nU]
    · rw [hd.length, List.take_length]

theorem byte1 {i : Int} {k : Nat} (h : i = (k : Int)) (hk : k < 256) : ([i].map fun n => n.toNat.toUInt8) = [UInt8.ofNat k] ∧ ∀ n ∈ [i], 0 ≤ n ∧ n < 256 := by
  subst h
  exact ⟨rfl, fun n hn => by rw [List.mem_singleton.mp hn]; omega⟩

theorem code_of (B : Base X (Mine.hd.heap_39 P)) {u : T} {n : Nat} (hok : Ok u) (hn : 2 ≤ n) (ih : ∀ l, u = .node l → BodyC X l n) : CodeC X u (n + 1) := by
  intro A σ v r hd
  obtain ⟨fr, F, U⟩ := σ
  refine W_callP B ["tree"] ["tree", "base", "body", "size"] [some v, none, none, none] r.d (by rfl) fun env he nm => ?_
  have hr : Room (A.deeper env) n := r.deeper env
  refine W_execs_cons <| W.mono (Q := fun f σ' => f = .next ∧ ∃ (base : Nat) (o : List UInt8) (F' : Mp) (t t' : Tok), base + 57 ≤ 255 ∧ o.length < 65536 ∧ code u = hdr base o.length ++ o ∧ Le F F' ∧
    σ' = ⟨⟨env, ["tree", "base", "body", "size"], [some v, some (.int (base : Nat) t), some (.bytes o.toArray t'), none], true⟩ :: fr, F', U⟩) ?_ ?_
  · refine W_Assign_Tuple <| W_IfExp <| W_isTrue_val <| W_Call_Name <| W_gname (bl B he "isinstance" (.builtin "isinstance")) rfl rfl <| W_callWith_b <| W_items_cons <| W_name nm .here <| W_items_cons <|
      W_gname (bl B he "bytes" (.type "bytes")) rfl rfl <| W_items_nil ?_
    cases u with
    | leaf b =>
      unfold IsD at hd
      obtain ⟨t, rfl⟩ := hd
      refine W_isi_bytes <| W_truthy_bool ?_
      rw [if_pos rfl]
      refine W_Tuple <| W_items_cons <| W_int fun t1 => W_items_cons <| W_name nm .here <| W_items_nil ⟨by simp [sizeLine], fun a F' k hF _ => ?_⟩
      refine W_assign_Tuple hr.calm (.inr (.inl hF)) rfl rfl <| W_inOrder_cons <| W_assign_Name nm (.there .here) <| W_inOrder_cons <| W_assign_Name nm (.there (.there .here)) <| W_inOrder_nil ?_
      exact ⟨rfl, 128, b, F', _, _, by omega, hok.2, rfl, k, rfl⟩
    | node l =>
      unfold IsD at hd
      obtain ⟨a, vs, m, rfl, ha, hds⟩ := hd
      refine W_isi_list_bytes (.inr (.inl ha)) <| W_truthy_bool ?_
      rw [if_neg (by simp)]
      refine W_Tuple <| W_items_cons <| W_int fun t1 => W_items_cons <| W_Call_Name <| W_gname (gl B he "_law_body" (.ref 182)) rfl rfl <| W_callWith B (by kernel_rfl) <| W_items_cons <| W_name nm .here <| W_items_nil ?_
      refine W.mono (ih l rfl (σ := ⟨_ :: fr, F, U⟩) hr ha hds) fun w σ' ⟨⟨F1, k1, e⟩, t', hw⟩ => ?_
      subst e hw
      refine W_items_nil ⟨by simp [sizeLine], fun a' F' k hF _ => ?_⟩
      refine W_assign_Tuple hr.calm (.inr (.inl hF)) rfl rfl <| W_inOrder_cons <| W_assign_Name nm (.there .here) <| W_inOrder_cons <| W_assign_Name nm (.there (.there .here)) <| W_inOrder_nil ?_
      exact ⟨rfl, 192, codes l, F', _, _, by omega, hok.1, rfl, k1.trans k, rfl⟩
  rintro f σ' ⟨rfl, base, o, F', t, t', hb, ho, hcode, k, rfl⟩
  refine W_execs_cons <| W_If <| W_isTrue_Compare <| W_Call_Name <| W_gname (bl B he "len" (.builtin "len")) rfl rfl <| W_callWith_b <| W_items_cons <| W_name nm (.there (.there .here)) <| W_items_nil ?_
  refine W_len_oct (lv := false) (o := o) ⟨_, rfl⟩ (by omega) fun t1 => W_int fun t2 => W_lt <| W_truthy_bool ?_
  have lenb : ∀ (Q : Value → St → Prop) F', (∀ t, Q (.int (o.length : Nat) t) ⟨⟨env, ["tree", "base", "body", "size"], [some v, some (.int (base : Nat) t), some (.bytes o.toArray t'), none], true⟩ :: fr, F', U⟩) → True := fun _ _ _ => trivial
  by_cases h : o.length < 56
  · rw [if_pos (by simp; omega)]
    have eb := byte1 (i := (base : Int) + (o.length : Int)) (k := base + o.length) (by omega) (by omega)
    refine W_retR <| W_BinOp <| W_Call_Name <| W_gname (bl B he "bytes" (.type "bytes")) rfl rfl <| W_callWith_t <| W_items_cons <| W_List <| W_items_cons <| W_BinOp <| W_name nm (.there .here) <|
      W_Call_Name <| W_gname (bl B he "len" (.builtin "len")) rfl rfl <| W_callWith_b <| W_items_cons <| W_name nm (.there (.there .here)) <| W_items_nil <| W_len_oct (lv := false) (o := o) ⟨_, rfl⟩ (by omega) fun t3 =>
      W_add fun t4 => W_items_nil ⟨by simp [sizeLine], fun a fr' => W_items_nil ?_⟩
    refine W_bytes_ints (.inl (upd_same ..)) ints1 eb.2 (by simp [sizeLine]) hr.calm fun t5 => ?_
    refine W_dropU (le_upd fr'.nU) <| W_name nm (.there (.there .here)) ?_
    rw [eb.1]
    refine W_add_bytes (by simp; omega) fun t6 => Then.ret <| retM ⟨_, rfl, ⟨F', k, rfl⟩, t6, ?_⟩
    rw [hcode]; unfold hdr; rw [if_pos h]
  · rw [if_neg (by simp; omega)]
    refine W_execs_nil ?_
    have hdl := digits_len ho
    have eb := byte1 (i := (base : Int) + 55 + ((digits o.length).length : Int)) (k := base + 55 + (digits o.length).length) (by omega) (by omega)
    refine W_execs_cons <| W_Assign_Name <| W_Call_Name <| W_gname (gl B he "_law_digits" (.ref 175)) rfl rfl <| W_callWith B (by kernel_rfl) <| W_items_cons <|
      W_Call_Name <| W_gname (bl B he "len" (.builtin "len")) rfl rfl <| W_callWith_b <| W_items_cons <| W_name nm (.there (.there .here)) <| W_items_nil <| W_len_oct (lv := false) (o := o) ⟨_, rfl⟩ (by omega) fun t3 => W_items_nil ?_
    refine (c_digits B (hr.le (by omega)) ho).mono fun w σ' ⟨e, t4, hw⟩ => ?_
    subst e hw
    refine W_store nm (.there (.there (.there .here))) ?_
    refine W_ret <| W_BinOp <| W_BinOp <| W_Call_Name <| W_gname (bl B he "bytes" (.type "bytes")) rfl rfl <| W_callWith_t <| W_items_cons <| W_List <| W_items_cons <| W_BinOp <| W_BinOp <| W_name nm (.there .here) <| W_int fun t5 => W_add fun t6 =>
      W_Call_Name <| W_gname (bl B he "len" (.builtin "len")) rfl rfl <| W_callWith_b <| W_items_cons <| W_name nm (.there (.there (.there .here))) <| W_items_nil <| W_len_oct (lv := false) (o := digits o.length) ⟨_, rfl⟩ (by omega) fun t7 =>
      W_add fun t8 => W_items_nil ⟨by simp [sizeLine], fun a fr' => W_items_nil ?_⟩
    refine W_bytes_ints (.inl (upd_same ..)) ints1 eb.2 (by simp [sizeLine]) hr.calm fun t9 => ?_
    refine W_dropU (le_upd fr'.nU) <| W_name nm (.there (.there (.there .here))) ?_
    rw [eb.1]
    refine W_add_bytes (by simp; omega) fun t10 => W_name nm (.there (.there .here)) <| W_add_bytes (by simp; omega) fun t11 => ⟨_, rfl, ⟨F', k, rfl⟩, t11, ?_⟩
    rw [hcode]; unfold hdr; rw [if_neg h]; simp
end
end Mine
end

section
open PySem PySem.W PyProof.Rows
set_option Elab.async false
set_option maxRecDepth 100000
namespace Mine

theorem Le.upd {m m' : Mp} {a : Addr} {o : Obj} (h : Le m m') : Le (upd m a o) (upd m' a o) := fun b p e => by
  by_cases q : b = a
  · subst q; rw [upd_same] at e ⊢; exact e
  · rw [upd_ne q] at e ⊢; exact h b p e
theorem W_frz {α : Type} {X : Cx} {A : Around} {σ : St} {t : Sem α} {a : Addr} {o : Obj} {Q : α → St → Prop} (ha : σ.U a = some o) (h : σ.F a = none → W X A ⟨σ.fr, upd σ.F a o, era σ.U a⟩ t Q) : W X A σ t Q :=
  fun s E O => h (O.sep _ _ ha).1 s E (O.freeze ha)
theorem inter {env : Env} {fd : FuncData} (he : EnvOf env fd) (hk : fd.scope.kind = .function := by rfl) : interactive env = false := by
  unfold interactive; rw [he.scope, hk]; rfl
theorem Frsh.ne {s₁ : Shared} {σ : St} {a b : Addr} {o : Obj} (h : Frsh s₁ σ a) (hb : σ.U b = some o) : b ≠ a := fun q => by
  subst q; rw [h.nU] at hb; cases hb
theorem IntsAre.append : ∀ {vs us : List Value} {ns ms : List Int}, IntsAre vs ns → IntsAre us ms → IntsAre (vs ++ us) (ns ++ ms)
  | _, _, _, _, .nil, k => k
  | _, _, _, _, .cons n t h, k => .cons n t (IntsAre.append h k)
abbrev nats (l : List Nat) : List Int := l.map fun (k : Nat) => (k : Int)
theorem nats_append (a b : List Nat) : nats (a ++ b) = nats a ++ nats b := List.map_append ..
theorem spots_leaf_take {b : List UInt8} {p i : Nat} (h : i < b.length) : (spots (.leaf b) p).take (i + 1) = (spots (.leaf b) p).take i ++ [i + (p + (hdr 128 b.length).length)] := by
  rw [List.take_add_one]
  congr 1
  simp [spots, h]
theorem spots_len : ∀ (t : T) (p : Nat), (spots t p).length ≤ (code t).length := by
  have : ∀ n, (∀ t, sizeOf t ≤ n → ∀ p, (spots t p).length ≤ (code t).length) ∧ (∀ l, sizeOf l ≤ n → ∀ p, (spotss l p).length ≤ (codes l).length) := by
    intro n
    induction n with
    | zero => exact ⟨fun t h => by cases t <;> simp at h, fun l h => by cases l <;> simp at h⟩
    | succ n ih =>
      refine ⟨fun t h p => ?_, fun l h p => ?_⟩
      · cases t with
        | leaf b => simp [spots, code]
        | node l =>
          have := ih.2 l (by simp at h; omega) (p + (hdr 192 (codes l).length).length)
          simp only [spots, code, List.length_append]; omega
      · cases l with
        | nil => simp [spotss]
        | cons t l =>
          have h1 := ih.1 t (by simp at h; omega) p
          have h2 := ih.2 l (by simp at h; omega) (p + (code t).length)
          simp only [spotss, codes, List.length_append]; omega
  exact fun t p => (this (sizeOf t)).1 t (Nat.le_refl _) p

theorem spotss_len : ∀ (l : List T) (p : Nat), (spotss l p).length ≤ (codes l).length
  | [], p => by simp [spotss]
  | t :: l, p => by
    have h1 := spots_len t p
    have h2 := spotss_len l (p + (code t).length)
    simp only [spotss, codes, List.length_append]; omega
theorem code_pos : ∀ t : T, 1 ≤ (code t).length
  | .leaf b => by have := hdr_pos 128 b.length; simp only [code, List.length_append]; omega
  | .node l => by have := hdr_pos 192 (codes l).length; simp only [code, List.length_append]; omega
theorem kids_len : ∀ l : List T, l.length ≤ (codes l).length
  | [] => by simp
  | t :: l => by have := kids_len l; have := code_pos t; simp only [codes, List.length_append, List.length_cons]; omega
theorem take_succ_some {α : Type} {l : List α} {i : Nat} {t : α} (h : l[i]? = some t) : l.take (i + 1) = l.take i ++ [t] := by rw [List.take_add_one, h]; rfl
theorem spotss_append : ∀ (l m : List T) (p : Nat), spotss (l ++ m) p = spotss l p ++ spotss m (p + (codes l).length)
  | [], m, p => by simp [spotss, codes]
  | t :: l, m, p => by simp [spotss, codes, spotss_append l m, Nat.add_assoc]
theorem spotss_take_succ {l : List T} {i p : Nat} {t : T} (h : l[i]? = some t) : spotss (l.take (i + 1)) p = spotss (l.take i) p ++ spots t (p + (codes (l.take i)).length) := by
  rw [take_succ_some h, spotss_append]; simp [spotss]

section
variable {P : Params} {X : Cx}

theorem c_code (B : Base X (Mine.hd.heap_39 P)) : ∀ (d : Nat) {t : T}, depth t ≤ d → Ok t → CodeC X t (2 * d + 3)
  | d, .leaf b, _, hok => by
    refine fun r hd => ?_
    exact code_of B (n := 2) hok (Nat.le_refl _) (fun l e => nomatch e) (r.le (by omega)) hd
  | 0, .node l, h, _ => by simp [depth] at h
  | d + 1, .node l, h, hok => by
    have hd : depths l ≤ d := by simp only [depth] at h; omega
    refine code_of B (n := 2 * d + 4) hok (by omega) fun l' e => ?_
    cases e
    exact body_of B hok.1 fun t ht => c_code B d (Nat.le_trans (depths_mem ht) hd) (hok.2.mem t ht)
theorem c_body (B : Base X (Mine.hd.heap_39 P)) {d : Nat} {l : List T} (h : depths l ≤ d) (hz : (codes l).length < 65536) (hok : Oks l) : BodyC X l (2 * d + 4) :=
  body_of B hz fun t ht => c_code B d (Nat.le_trans (depths_mem ht) h) (hok.mem t ht)

def MapC (X : Cx) (t : T) (n : Nat) : Prop := ∀ {A : Around} {σ : St} {v : Value} {p : Nat} {tk : Tok} {sp : Addr} {ss : List Value} {m : Nat} {S : List Nat}, Room A n → IsD false σ.F t v → σ.U sp = some (lstO ss m) → IntsAre ss (nats S) →
  p + S.length + 2 * (code t).length ≤ 1000000 →
  W X A σ (call (.ref 196) [v, .int (p : Nat) tk, .ref sp]) fun w σ' => ∃ F' ss' m', Le σ.F F' ∧ σ' = ⟨σ.fr, F', upd σ.U sp (lstO ss' m')⟩ ∧ IntsAre ss' (nats (S ++ spots t p)) ∧ IsN F' t p w

abbrev mapNs : List Str := ["tree", "at", "spots", "own", "first", "p", "place", "kids", "part"]
theorem map_of (B : Base X (Mine.hd.heap_39 P)) {u : T} {d n : Nat} (hok : Ok u) (hdep : depth u ≤ d) (hn : 2 * d + 4 ≤ n) (ih : ∀ l, u = .node l → ∀ t ∈ l, MapC X t n) : MapC X u (n + 1) := by
  intro A σ v p tk sp ss m S r hd hsp hS hz
  obtain ⟨fr, F, U⟩ := σ
  change U sp = _ at hsp
  refine W_callP B ["tree", "at", "spots"] mapNs [some v, some (.int (p : Nat) tk), some (.ref sp), none, none, none, none, none, none] r.d (by rfl) fun env he nm => ?_
  have hr : Room (A.deeper env) n := r.deeper env
  have hss : ss.length = S.length := by have := hS.length; simpa using this
  have hcl := spots_len u p
  refine W_execs_cons <| W_Assign_Name <| W_Call_Name <| W_gname (gl B he "_law_code" (.ref 189)) rfl rfl <| W_callWith B (by kernel_rfl) <| W_items_cons <| W_name nm .here <| W_items_nil ?_
  refine W.mono (c_code B d hdep hok (σ := ⟨_ :: fr, F, U⟩) (hr.le (by omega)) hd) fun w σ' ⟨⟨F1, (k1 : Le F F1), e⟩, t1, hw⟩ => ?_
  subst e hw
  refine W_store nm (.there (.there (.there .here))) ?_
  refine W_execs_cons <| W_If <| W_isTrue_val <| W_Call_Name <| W_gname (bl B he "isinstance" (.builtin "isinstance")) rfl rfl <| W_callWith_b <| W_items_cons <| W_name nm .here <| W_items_cons <|
      W_gname (bl B he "bytes" (.type "bytes")) rfl rfl <| W_items_nil ?_
  have lenown : ∀ {B' : List UInt8} {tk : Tok} {σ : St} {Q : Value → St → Prop}, B'.length ≤ 1000000 → (∀ t, Q (.int B'.length t) σ) → W X (A.deeper env) σ (call (.builtin "len") ([] ++ [.bytes B'.toArray tk])) Q := fun hb h => W_len_oct (lv := false) ⟨_, rfl⟩ (by omega) h
  cases u with
  | leaf b =>
    unfold IsD at hd
    obtain ⟨t, rfl⟩ := hd
    refine W_isi_bytes <| W_truthy_bool ?_
    rw [if_pos rfl]
    have hlen : (code (.leaf b)).length = (hdr 128 b.length).length + b.length := by simp [code]
    -- first = at + len(own) - len(tree)
    refine W_execs_cons <| W_Assign_Name <| W_BinOp <| W_BinOp <| W_name nm (.there .here) <| W_Call_Name <| W_gname (bl B he "len" (.builtin "len")) rfl rfl <| W_callWith_b <| W_items_cons <| W_name nm (.there (.there (.there .here))) <| W_items_nil <|
      lenown (by omega) fun t2 => W_add fun t3 => W_Call_Name <| W_gname (bl B he "len" (.builtin "len")) rfl rfl <| W_callWith_b <| W_items_cons <| W_name nm .here <| W_items_nil <| lenown (by omega) fun t4 => W_sub fun t5 => W_store nm (.there (.there (.there (.there .here)))) ?_
    have e1 : (p : Int) + ((code (.leaf b)).length : Int) - (b.length : Int) = ((p + (hdr 128 b.length).length : Nat) : Int) := by rw [hlen]; omega
    rw [e1]
    -- for p in range(first, at + len(own))
    refine W_execs_cons <| W_For <| W_Call_Name <| W_gname (bl B he "range" (.type "range")) rfl rfl <| W_callWith_t <| W_items_cons <| W_name nm (.there (.there (.there (.there .here)))) <| W_items_cons <| W_BinOp <| W_name nm (.there .here) <|
      W_Call_Name <| W_gname (bl B he "len" (.builtin "len")) rfl rfl <| W_callWith_b <| W_items_cons <| W_name nm (.there (.there (.there .here))) <| W_items_nil <| lenown (by omega) fun t6 => W_add fun t7 => W_items_nil <| W_range2 fun rg ta tb tc U1 frg eU => ?_
    subst eU
    refine W_iter_range (.inl (upd_same ..)) (by omega) (by omega) (by omega) (by omega) fun it o hf ho => ?_
    have en : ((p : Int) + ((code (.leaf b)).length : Int) - ((p + (hdr 128 b.length).length : Nat) : Int)).toNat = b.length := by rw [hlen]; omega
    rw [en] at ho
    have hsr : sp ≠ rg := frg.ne hsp
    have hsi : sp ≠ it := hf.ne ((upd_ne hsr).trans hsp)
    refine ⟨it, rngIt ((p + (hdr 128 b.length).length : Nat) : Int) b.length, b.length, fun _ => True, _, fun i σ => ∃ ss' m' pv o, IntsAre ss' (nats (S ++ (spots (.leaf b) p).take i)) ∧ rngIt ((p + (hdr 128 b.length).length : Nat) : Int) b.length i o ∧
      σ = ⟨⟨env, mapNs, [some (.bytes b.toArray t), some (.int (p : Nat) tk), some (.ref sp), some (.bytes (code (.leaf b)).toArray t1), some (.int ((p + (hdr 128 b.length).length : Nat) : Int) t5), pv, none, none, none], true⟩ :: fr, F1,
        upd (upd (upd U rg (rngO ((p + (hdr 128 b.length).length : Nat) : Int) ((p : Int) + ((code (.leaf b)).length : Int)) 1 ta tb tc)) sp (lstO ss' m')) it o⟩,
      rfl, itOk_range hr.calm, ⟨ss, m, none, o, by simpa using hS, ho, ?_⟩, ?_, ?_, ?_⟩
    · have : upd (upd U rg (rngO ((p + (hdr 128 b.length).length : Nat) : Int) ((p : Int) + ((code (.leaf b)).length : Int)) 1 ta tb tc)) sp (lstO ss m) = upd U rg (rngO ((p + (hdr 128 b.length).length : Nat) : Int) ((p : Int) + ((code (.leaf b)).length : Int)) 1 ta tb tc) := by
        funext c
        by_cases q : c = sp
        · subst q; rw [upd_same, upd_ne hsr]; exact hsp.symm
        · rw [upd_ne q]
      rw [this]
    · rintro i σ ⟨ss', m', pv, o, _, ho, rfl⟩
      exact ⟨⟨o, upd_same .., ho⟩, trivial⟩
    · rintro i σ o' v ⟨ss', m', pv, o, hs', ho, rfl⟩ hi ⟨tv, rfl⟩ ho'
      refine W_assign_Name nm (.there (.there (.there (.there (.there .here))))) ?_
      rw [upd_upd]
      refine W_execs_cons <| W_Expr (hi := inter he) <| W_append <| W_name nm (.there (.there .here)) ⟨sp, rfl, ⟨ss', m', by show upd _ it o' sp = _; rw [upd_ne hsi, upd_same]⟩, W_name nm (.there (.there (.there (.there (.there .here))))) ⟨ss', m', by show upd _ it o' sp = _; rw [upd_ne hsi, upd_same], ?_, fun m2 => W_execs_nil ?_⟩⟩
      · have := hs'.length
        simp only [List.length_map, List.length_append, List.length_take] at this
        unfold sizeLine; omega
      · refine ⟨ss' ++ [.int (((p + (hdr 128 b.length).length : Nat) : Int) + (i : Int)) tv], m2, some (.int (((p + (hdr 128 b.length).length : Nat) : Int) + (i : Int)) tv), o', ?_, ho', ?_⟩
        · rw [spots_leaf_take hi, ← List.append_assoc, nats_append]
          refine IntsAre.append hs' ?_
          have e : ((p + (hdr 128 b.length).length : Nat) : Int) + (i : Int) = ((i + (p + (hdr 128 b.length).length) : Nat) : Int) := by omega
          rw [e]; exact ints1
        · rw [upd_comm hsi.symm, upd_upd]
    · rintro σ ⟨ss', m', pv, o, hs', ho, rfl⟩
      have e2 : era (upd (upd (upd U rg (rngO ((p + (hdr 128 b.length).length : Nat) : Int) ((p : Int) + ((code (.leaf b)).length : Int)) 1 ta tb tc)) sp (lstO ss' m')) it o) it = upd (upd U rg (rngO ((p + (hdr 128 b.length).length : Nat) : Int) ((p : Int) + ((code (.leaf b)).length : Int)) 1 ta tb tc)) sp (lstO ss' m') := by
        refine era_upd ?_
        rw [upd_ne hsi.symm]; exact hf.nU
      rw [e2]
      refine W_dropU (U' := upd U sp (lstO ss' m')) (Le.upd (le_upd frg.nU)) ?_
      refine W_retR <| W_Tuple <| W_items_cons <| W_name nm (.there (.there (.there (.there .here)))) <| W_items_cons <| W_BinOp <| W_name nm (.there .here) <|
        W_Call_Name <| W_gname (bl B he "len" (.builtin "len")) rfl rfl <| W_callWith_b <| W_items_cons <| W_name nm (.there (.there (.there .here))) <| W_items_nil <| lenown (by omega) fun t8 => W_add fun t9 => W_items_nil ⟨by simp [sizeLine], fun a F2 k2 hF2 _ => ?_⟩
      refine Then.ret <| retM ⟨_, rfl, F2, ss', m', k1.trans k2, rfl, ?_, ?_⟩
      · rw [List.take_of_length_le (by simp [spots])] at hs'; exact hs'
      · unfold IsN
        exact ⟨a, _, _, rfl, by rw [hF2]; push_cast; rfl⟩
  | node l =>
    unfold IsD at hd
    obtain ⟨a, vs, m0, rfl, ha, hds⟩ := hd
    refine W_isi_list_bytes (.inr (.inl (k1 _ _ ha))) <| W_truthy_bool ?_
    rw [if_neg (by simp)]
    refine W_execs_nil ?_
    have hlen : (code (.node l)).length = (hdr 192 (codes l).length).length + (codes l).length := by simp [code]
    have hdl : depths l ≤ d - 1 := by simp only [depth] at hdep; omega
    have hd1 : 1 ≤ d := by simp only [depth] at hdep; omega
    -- place = at + len(own) - len(_law_body(tree))
    refine W_execs_cons <| W_Assign_Name <| W_BinOp <| W_BinOp <| W_name nm (.there .here) <| W_Call_Name <| W_gname (bl B he "len" (.builtin "len")) rfl rfl <| W_callWith_b <| W_items_cons <| W_name nm (.there (.there (.there .here))) <| W_items_nil <|
      lenown (by omega) fun t2 => W_add fun t3 => W_Call_Name <| W_gname (bl B he "len" (.builtin "len")) rfl rfl <| W_callWith_b <| W_items_cons <| W_Call_Name <| W_gname (gl B he "_law_body" (.ref 182)) rfl rfl <| W_callWith B (by kernel_rfl) <| W_items_cons <| W_name nm .here <| W_items_nil ?_
    refine W.mono (c_body B (d := d - 1) hdl hok.1 hok.2 (σ := ⟨_ :: fr, F1, U⟩) (hr.le (by omega)) (k1 _ _ ha) (hds.le k1)) fun w σ' ⟨⟨F2, (k2 : Le F1 F2), e⟩, t4, hw⟩ => ?_
    subst e hw
    refine W_items_nil <| lenown (by omega) fun t5 => W_sub fun t6 => W_store nm (.there (.there (.there (.there (.there (.there .here)))))) ?_
    have e1 : (p : Int) + ((code (.node l)).length : Int) - ((codes l).length : Int) = ((p + (hdr 192 (codes l).length).length : Nat) : Int) := by rw [hlen]; omega
    rw [e1]
    -- kids = []
    refine W_execs_cons <| W_Assign_Name <| W_List <| W_items_nil ⟨by simp, fun kd fkd => W_store nm (.there (.there (.there (.there (.there (.there (.there .here))))))) ?_⟩
    have hsk : sp ≠ kd := fkd.ne hsp
    -- for part in tree
    refine W_execs_cons <| W_For <| W_name nm .here <| W_iter_list (.inr (.inl ((k1.trans k2) _ _ ha))) fun it o hf ho => ?_
    have hsi : sp ≠ it := hf.ne (b := sp) ((upd_ne hsk).trans hsp)
    have hki : kd ≠ it := hf.ne (b := kd) (upd_same ..)
    have hvl := hds.length
    refine ⟨it, lstIt a, vs.length, fun σ => Live X σ a (lstO vs m0), fun i v => vs[i]? = some v, fun i σ => ∃ F' ss' m' ks mk pv o tt, Le F2 F' ∧ IntsAre ss' (nats (S ++ spotss (l.take i) (p + (hdr 192 (codes l).length).length))) ∧
      IsNs F' (l.take i) (p + (hdr 192 (codes l).length).length) ks ∧ lstIt a i o ∧
      σ = ⟨⟨env, mapNs, [some (.ref a), some (.int (p : Nat) tk), some (.ref sp), some (.bytes (code (.node l)).toArray t1), none, none, some (.int ((p + (hdr 192 (codes l).length).length + (codes (l.take i)).length : Nat) : Int) tt), some (.ref kd), pv], true⟩ :: fr, F',
        upd (upd (upd U sp (lstO ss' m')) kd (lstO ks mk)) it o⟩,
      rfl, itOk_list hr.calm, ⟨F2, ss, m, [], 0, none, o, t6, .refl _, by simpa [spotss] using hS, by simp [IsNs], ho, ?_⟩, ?_, ?_, ?_⟩
    · have e : upd U sp (lstO ss m) = U := by
        funext c
        by_cases q : c = sp
        · subst q; rw [upd_same]; exact hsp.symm
        · rw [upd_ne q]
      rw [e]; simp [codes]
    · rintro i σ ⟨F', ss', m', ks, mk, pv, o, tt, k, _, _, ho, rfl⟩
      exact ⟨⟨o, upd_same .., ho⟩, .inr (.inl (k _ _ ((k1.trans k2) _ _ ha)))⟩
    · rintro i σ o' v ⟨F', ss', m', ks, mk, pv, o, tt, k, hs', hks, ho, rfl⟩ hi hv ho'
      obtain ⟨u, hu, hd'⟩ := hds.at hv
      have hum := List.mem_of_getElem? hu
      have ecs := codes_take_succ hu
      have hle := codes_take_le l (i + 1)
      rw [ecs, List.length_append] at hle
      have hsl : (spotss (l.take i) (p + (hdr 192 (codes l).length).length)).length ≤ (codes (l.take i)).length := by
        have := spots_len (.node (l.take i)) (p + (hdr 192 (codes l).length).length - (hdr 192 (codes (l.take i)).length).length)
        have h3 : (hdr 192 (codes (l.take i)).length).length ≤ (hdr 192 (codes l).length).length ∨ True := .inr trivial
        exact spotss_len _ _
      refine W_assign_Name nm (.there (.there (.there (.there (.there (.there (.there (.there .here)))))))) ?_
      rw [upd_upd]
      have hsU : upd (upd (upd U sp (lstO ss' m')) kd (lstO ks mk)) it o' sp = some (lstO ss' m') := by rw [upd_ne hsi, upd_ne hsk, upd_same]
      have hkU : ∀ x, upd (upd (upd U sp x) kd (lstO ks mk)) it o' kd = some (lstO ks mk) := fun x => by rw [upd_ne hki, upd_same]
      refine W_execs_cons <| W_Expr (hi := inter he) <| W_append <| W_name nm (.there (.there (.there (.there (.there (.there (.there .here))))))) ⟨kd, rfl, ⟨ks, mk, hkU _⟩, ?_⟩
      refine W_Call_Name <| W_gname (gl B he "_law_map" (.ref 196)) rfl rfl <| W_callWith B (by kernel_rfl) <| W_items_cons <| W_name nm (.there (.there (.there (.there (.there (.there (.there (.there .here)))))))) <| W_items_cons <| W_name nm (.there (.there (.there (.there (.there (.there .here)))))) <|
        W_items_cons <| W_name nm (.there (.there .here)) <| W_items_nil ?_
      refine W.mono (ih l rfl u hum (σ := ⟨_ :: fr, F', _⟩) hr (hd'.le (k1.trans (k2.trans k))) hsU hs' ?_) fun w σ' ⟨F3, ss2, m2, (k3 : Le F' F3), e, hs2, hw⟩ => ?_
      · have := List.length_append (as := S) (bs := spotss (l.take i) (p + (hdr 192 (codes l).length).length))
        rw [hlen] at hz
        omega
      subst e
      have eU : upd (upd (upd (upd U sp (lstO ss' m')) kd (lstO ks mk)) it o') sp (lstO ss2 m2) = upd (upd (upd U sp (lstO ss2 m2)) kd (lstO ks mk)) it o' := by
        rw [upd_comm hsi.symm, upd_comm hsk.symm, upd_upd]
      refine ⟨ks, mk, ?_, ?_, fun m3 => ?_⟩
      · show upd (upd (upd (upd U sp (lstO ss' m')) kd (lstO ks mk)) it o') sp (lstO ss2 m2) kd = _
        rw [eU]; exact hkU _
      · have := hks.length
        have h2 : i < l.length := by omega
        simp only [List.length_take] at this
        have h3 := kids_len l
        unfold sizeLine; omega
      rw [eU]
      -- place = place + len(_law_code(part))
      refine W_execs_cons <| W_Assign_Name <| W_BinOp <| W_name nm (.there (.there (.there (.there (.there (.there .here)))))) <| W_Call_Name <| W_gname (bl B he "len" (.builtin "len")) rfl rfl <| W_callWith_b <| W_items_cons <|
        W_Call_Name <| W_gname (gl B he "_law_code" (.ref 189)) rfl rfl <| W_callWith B (by kernel_rfl) <| W_items_cons <| W_name nm (.there (.there (.there (.there (.there (.there (.there (.there .here)))))))) <| W_items_nil ?_
      refine W.mono (c_code B (d - 1) (Nat.le_trans (depths_mem hum) hdl) (hok.2.mem u hum) (σ := ⟨_ :: fr, F3, _⟩) (hr.le (by omega)) (hd'.le (k1.trans (k2.trans (k.trans k3))))) fun w2 σ' ⟨⟨F4, (k4 : Le F3 F4), e⟩, t7, hw2⟩ => ?_
      subst e hw2
      refine W_items_nil <| lenown (by omega) fun t8 => W_add fun t9 => W_store nm (.there (.there (.there (.there (.there (.there .here)))))) <| W_execs_nil ?_
      refine ⟨F4, ss2, m2, ks ++ [w], m3, some v, o', t9, k.trans (k3.trans k4), ?_, ?_, ho', ?_⟩
      · rw [spotss_take_succ hu, ← List.append_assoc]; exact hs2
      · rw [take_succ_some hu]
        exact ((hks.le (k3.trans k4))).snoc (hw.le k4)
      · have e5 : ((p + (hdr 192 (codes l).length).length + (codes (l.take i)).length : Nat) : Int) + ((code u).length : Int) = ((p + (hdr 192 (codes l).length).length + (codes (l.take (i + 1))).length : Nat) : Int) := by
          rw [ecs, List.length_append]; omega
        rw [e5, upd_comm hki.symm, upd_upd]
    · rintro σ ⟨F', ss', m', ks, mk, pv, o, tt, k, hs', hks, ho, rfl⟩
      have hUk : upd U sp (lstO ss' m') kd = none := by rw [upd_ne hsk.symm]; exact fkd.nU
      have e2 : era (upd (upd (upd U sp (lstO ss' m')) kd (lstO ks mk)) it o) it = upd (upd U sp (lstO ss' m')) kd (lstO ks mk) := by
        refine era_upd ?_
        rw [upd_ne hki.symm, upd_ne hsi.symm]
        have := hf.nU
        exact (upd_ne hki.symm).symm.trans this
      rw [e2]
      refine W_frz (a := kd) (o := lstO ks mk) (upd_same ..) fun nF => ?_
      show W X _ ⟨_, _, era (upd (upd U sp (lstO ss' m')) kd (lstO ks mk)) kd⟩ _ _
      rw [era_upd hUk]
      refine W_ret <| W_name nm (.there (.there (.there (.there (.there (.there (.there .here))))))) ⟨_, rfl, upd F' kd (lstO ks mk), ss', m', (k1.trans (k2.trans k)).trans (le_upd nF), rfl, ?_, ?_⟩
      · rw [List.take_of_length_le (by omega)] at hs'; exact hs'
      · unfold IsN
        rw [List.take_of_length_le (by omega)] at hks
        exact ⟨kd, ks, mk, rfl, upd_same .., hks.le (le_upd nF)⟩
end
end Mine
end

section
open PySem PySem.W PyProof.Rows
set_option Elab.async false
set_option maxRecDepth 100000
namespace Mine

theorem Own.addF {s₁ s : Shared} {σ : St} (O : Own s₁ σ s) {a : Addr} {o : Obj} (h : s.heap.get? a = some o) (f : Frsh s₁ σ a) : Own s₁ ⟨σ.fr, upd σ.F a o, σ.U⟩ s := by
  refine ⟨O.same, O.ground, fun b x e => ?_, O.mts, fun b x e => ⟨?_, (O.sep b x e).2⟩, fun y hy => ?_, O.loc, O.apart⟩
  · by_cases q : b = a
    · subst q
      have e' : upd σ.F b o b = some x := e
      rw [upd_same] at e'; cases e'; exact h
    · have e' : upd σ.F a o b = some x := e
      rw [upd_ne q] at e'; exact O.frz b x e'
  · have : b ≠ a := by rintro rfl; have := f.nU; rw [show σ.U b = some x from e] at this; cases this
    show upd σ.F a o b = none
    rw [upd_ne this]; exact (O.sep b x e).1
  · obtain ⟨a1, a2, a3, a4, a5⟩ := O.frs y hy
    exact ⟨a1, a2, a3, by show upd σ.F a o _ = none; rw [upd_ne (f.nL y hy)]; exact a4, a5⟩
theorem Own.addU {s₁ s : Shared} {σ : St} (O : Own s₁ σ s) {a : Addr} {o : Obj} (h : s.heap.get? a = some o) (f : Frsh s₁ σ a) : Own s₁ ⟨σ.fr, σ.F, upd σ.U a o⟩ s := by
  refine ⟨O.same, O.ground, O.frz, fun b x e => ?_, fun b x e => ?_, fun y hy => ?_, O.loc, O.apart⟩
  · by_cases q : b = a
    · subst q
      have e' : upd σ.U b o b = some x := e
      rw [upd_same] at e'; cases e'; exact h
    · have e' : upd σ.U a o b = some x := e
      rw [upd_ne q] at e'; exact O.mts b x e'
  · by_cases q : b = a
    · subst q; exact ⟨f.nF, f.high⟩
    · have e' : upd σ.U a o b = some x := e
      rw [upd_ne q] at e'; exact O.sep b x e'
  · obtain ⟨a1, a2, a3, a4, a5⟩ := O.frs y hy
    exact ⟨a1, a2, a3, a4, by show upd σ.U a o _ = none; rw [upd_ne (f.nL y hy)]; exact a5⟩
theorem Frsh.addF {s₁ : Shared} {σ : St} {a b : Addr} {o : Obj} (f : Frsh s₁ σ a) (h : a ≠ b) : Frsh s₁ ⟨σ.fr, upd σ.F b o, σ.U⟩ a :=
  ⟨by show upd σ.F b o a = none; rw [upd_ne h]; exact f.nF, f.nU, f.nL, f.high⟩

theorem cells_keys : ∀ (names : List (Str × NameKind)) (n n' : Nat) (acc acc' : List (Str × Addr)), acc.map (·.1) = acc'.map (·.1) → (cellsFrom n names acc).map (·.1) = (cellsFrom n' names acc').map (·.1)
  | [], _, _, _, _, h => h
  | (x, k) :: r, n, n', acc, acc', h => by
    unfold cellsFrom
    split
    · exact cells_keys r _ _ _ _ (by simp [h])
    · exact cells_keys r _ _ _ _ h
theorem lookup_keys : ∀ {l m : List (Str × Addr)} {x : Str}, l.map (·.1) = m.map (·.1) → (l.lookup x).isSome = true → (m.lookup x).isSome = true
  | [], m, x, h, k => by simp at k
  | (a, b) :: l, [], x, h, k => by simp at h
  | (a, b) :: l, (c, d) :: m, x, h, k => by
    simp only [List.map_cons, List.cons.injEq] at h
    obtain ⟨h1, h2⟩ := h
    subst h1
    simp only [List.lookup_cons] at k ⊢
    split
    · rfl
    · rename_i q
      rw [q] at k
      exact lookup_keys h2 k
theorem cells_some {names : List (Str × NameKind)} {n : Nat} {x : Str} (h : ((cellsFrom 0 names []).lookup x).isSome = true) : ((cellsFrom n names []).lookup x).isSome = true := lookup_keys (cells_keys names 0 n [] [] rfl) h
/-- a call of a def with cells -/
theorem W_callK {X : Cx} {K : Frag} {A : Around} {σ : St} (B : Base X K) {f : Addr} {oc : Value} {od : Option Addr} {osl : Array (Option Value)} {fd : FuncData} {body : List Stmt} {vals : List Value} (ns0 ns : List Str) (ws : List (Option Value)) {Q : Value → St → Prop}
    (hroom : A.depth < recursionLimit) (ho : K.lookup f = some ⟨oc, od, .func fd, osl⟩)
    (h : ∀ env s' E, EnvOf env fd → NmOk env ns → env.cells = cellsFrom (env.locals + 1) fd.scope.names [] → Own X.s₁ ⟨⟨env, ns, ws, true⟩ :: σ.fr, σ.F, σ.U⟩ s' →
      (∀ n c, env.cells.lookup n = some c → Frsh X.s₁ ⟨⟨env, ns, ws, true⟩ :: σ.fr, σ.F, σ.U⟩ c ∧ s'.heap.IsCell c (bindC (fun n => fd.scope.names.lookup n) (ns0.zip vals) (fun _ => none) n)) →
      (∀ n n' c, env.cells.lookup n = some c → env.cells.lookup n' = some c → n = n') →
      wpAny (model X.prog X.w) (A.deeper env) (execs body env) (fun fl s₃ => ∃ σ', Own X.s₁ σ' s₃ ∧ RetQ σ.fr Q fl σ') E s')
    (hb : fd.body = .stmts body := by rfl) (hcd : codeIn K fd.code fd.qualname = true := by kernel_rfl) (hclo : fd.closure = [] := by rfl)
    (hco : fd.scope.isCoroutine = false := by rfl) (hgen : fd.scope.isGenerator = false := by rfl) (hk : fd.scope.kind = .function := by rfl)
    (hbind : bindArgs fd ⟨vals, []⟩ = pure (ns0.zip vals) := by rfl)
    (hkind : ∀ x ∈ ns0, fd.scope.names.lookup x = some .local ∨ (fd.scope.names.lookup x = some .cell ∧ ((cellsFrom 0 fd.scope.names []).lookup x).isSome = true) := by decide +kernel)
    (hnm : nmCheck fd.scope ns = true := by decide +kernel)
    (hv : ∀ (i : Nat) (x : Str) (v : Value), ns[i]? = some x → ws[i]? = some (some v) → bindL (fun n => fd.scope.names.lookup n) (ns0.zip vals) (fun _ => none) x = some v) :
    W X A σ (call (.ref f) vals) Q := by
  intro s E O
  have hK := B.inK O
  refine wpAny_call (codeAny_call_cells hroom (hK _ _ ho) rfl (B.lim.keeps O.ground) (codeRec_of hK hcd) hb hbind hclo (fun x hx => ?_) (fun s' x => ?_) hco hgen hk)
  · rcases hkind x.1 (zip_mem hx) with h1 | ⟨h1, h2⟩
    · exact .inl h1
    · exact .inr ⟨h1, cells_some h2⟩
  · have he : EnvOf (callEnvC fd s.heap.objs.size f) fd := ⟨rfl, rfl, rfl, rfl⟩
    obtain ⟨⟨h₀, tk, hs⟩, hns, hkeep, habove⟩ := x.toInCall
    subst hs
    have O' := O.enter (env := callEnvC fd s.heap.objs.size f) (ns := ns) (vs := ws) (tk := tk) (h₀ := h₀) rfl rfl hk hns hkeep hv
    refine wpAny_mono (h (callEnvC fd s.heap.objs.size f) _ _ he (nmOk he hnm) rfl O' (fun n c hc => ⟨?_, x.cell n c hc⟩) (fun n n' c h1 h2 => name_of_addr x.apart (mem_of_lookup h1) (mem_of_lookup h2))) (fun fl s₃ ⟨σ₃, O₃, q₃⟩ => ?_) fun _ _ e => e
    · have hlt : s.heap.objs.size < c := x.above n c (mem_of_lookup hc)
      have fr0 := O.fresh (a := c) (by
        cases q : s.heap.get? c with
        | none => rfl
        | some o => exact absurd (Heap.lt_size q) (Nat.not_lt.mpr (Nat.le_of_lt hlt)))
      refine ⟨fr0.nF, fr0.nU, fun y hy => ?_, fr0.high⟩
      rcases List.mem_cons.mp hy with rfl | hy
      · exact Nat.ne_of_lt hlt
      · exact fr0.nL y hy
    · obtain ⟨g, hfr, hq⟩ := q₃
      obtain ⟨fr3, F3, U3⟩ := σ₃
      dsimp only at hfr; subst hfr
      exact ⟨_, O₃.pop, hq⟩

/-- a first store into a cell: it is frozen at once -/
theorem W_store_cell {X : Cx} {A : Around} {env : Env} {ns : List Str} {vs : List (Option Value)} {b : Bool} {r : List Fram} {F U : Mp} {x : Str} {v : Value} {c : Addr} {o : Obj} {Q : Unit → St → Prop}
    (hk : env.kindOf x = some .cell) (hd : (x == ("__debug__" : Str)) = false) (hcd : (x == ("__classdict__" : Str)) = false) (hc : env.cells.lookup x = some c) (ho : o.data = .cell none) (hU : U c = none)
    (h : ∀ F', Le F F' → CName ⟨⟨env, ns, vs, b⟩ :: r, F', U⟩ env x v → Q () ⟨⟨env, ns, vs, b⟩ :: r, F', U⟩) : W X A ⟨⟨env, ns, vs, b⟩ :: r, F, upd U c o⟩ (storeName env x v) Q := by
  intro s E O
  have hoc := O.mts c o (upd_same ..)
  refine wpAny_storeName_cell (O.frs _ (.head _)).kind hk hc ⟨o, hoc, ho⟩ fun h' ⟨o', g, hd'⟩ hs => ?_
  have O' := (O.setU (tk := s.toks) (a := c) (o := o) (upd_same ..) g hs).freeze (a := c) (o := o') (upd_same ..)
  have nF : F c = none := (O.sep c o (upd_same ..)).1
  refine ⟨⟨⟨env, ns, vs, b⟩ :: r, upd F c o', U⟩, ?_, h _ (le_upd nF) ⟨.inl hk, hd, hcd, c, hc, o', upd_same .., hd'⟩⟩
  have e : (fun b => if b = c then none else upd (upd U c o) c o' b) = U := by rw [upd_upd]; exact era_upd hU
  have O2 : Own X.s₁ ⟨⟨env, ns, vs, b⟩ :: r, upd F c o', fun b => if b = c then none else upd (upd U c o) c o' b⟩ _ := O'
  rw [e] at O2
  exact O2
end Mine
end

section
open PySem PySem.W PyProof.Rows
set_option Elab.async false
set_option maxRecDepth 100000
namespace Mine

/-! names in a comprehension -/
def cellAt (env : Env) (n : Str) : Addr := (env.cells.lookup n).getD 0
def closL (env : Env) : List (Str × NameKind) → List (Str × Addr) → List (Str × Addr)
  | [], acc => acc
  | (n, k) :: r, acc => closL env r (if k = .free then (n, cellAt env n) :: acc else acc)
theorem forIn_clos {env : Env} (f : Str × NameKind → List (Str × Addr) → Sem (ForInStep (List (Str × Addr)))) (hf : ∀ n k c, f (n, k) c = if k = .free then (do let a ← cellOf env n; pure (.yield ((n, a) :: c))) else pure (.yield c)) :
    ∀ (l : List (Str × NameKind)) (acc : List (Str × Addr)), (∀ x ∈ l, x.2 = .free → (env.cells.lookup x.1).isSome = true) → forIn l acc f = (pure (closL env l acc) : Sem _)
  | [], acc, _ => rfl
  | (n, k) :: r, acc, h => by
    rw [List.forIn_cons, hf]
    have hr := fun x hx => h x (List.mem_cons_of_mem _ hx)
    by_cases q : k = .free
    · rw [if_pos q]
      obtain ⟨a, ha⟩ := Option.isSome_iff_exists.mp (h (n, k) List.mem_cons_self q)
      have e : cellOf env n = pure a := by unfold cellOf; rw [ha]
      rw [e]
      simp only [pure_bind]
      rw [forIn_clos f hf r _ hr]
      simp [closL, q, cellAt, ha]
    · rw [if_neg q]
      simp only [pure_bind]
      rw [forIn_clos f hf r _ hr]
      simp [closL, q]
theorem closure_eq {scope : Scope} {env : Env} (h : ∀ x ∈ scope.names, x.2 = .free → (env.cells.lookup x.1).isSome = true) : closureFor scope env = pure (closL env scope.names []) := by
  simp only [closureFor]
  rw [forIn_clos (env := env) _ (fun n k c => ?_) scope.names [] h]
  · rfl
  · by_cases q : k = .free
    · simp [q]
    · simp [q]
theorem closure_in {scope : Scope} {env : Env} (L : List Str) (hL : ∀ y ∈ L, (env.cells.lookup y).isSome = true) (h : ∀ x ∈ scope.names, x.2 = .free → x.1 ∈ L := by decide +kernel) : closureFor scope env = pure (closL env scope.names []) :=
  closure_eq fun x hx hf => hL _ (h x hx hf)
theorem lookup_relabel {env : Env} {x : Str} {k : NameKind} : ∀ {names : List (Str × NameKind)}, names.lookup x = some k →
    (names.map fun (n, k) => if (k == NameKind.free && env.scope.kind == .function && env.kindOf n == some .cell) then (n, NameKind.cell) else (n, k)).lookup x =
      some (if (k == NameKind.free && env.scope.kind == .function && env.kindOf x == some .cell) then NameKind.cell else k)
  | [], h => by simp at h
  | (n, j) :: r, h => by
    have ih := @lookup_relabel env x k r
    show List.lookup x ((if (j == NameKind.free && env.scope.kind == .function && env.kindOf n == some .cell) = true then (n, NameKind.cell) else (n, j)) :: _) = _
    cases hx : x == n with
    | true =>
      simp only [List.lookup_cons, hx, Option.some.injEq] at h
      subst h
      have e : x = n := eq_of_beq hx
      subst e
      split <;> simp [List.lookup_cons]
    | false =>
      simp only [List.lookup_cons, hx] at h
      split <;> (simp only [List.lookup_cons, hx]; exact ih h)
theorem comp_gname {X : Cx} {env : Env} {scope : Scope} {cl : List (Str × Addr)} {C : Addr} {x : Str} {v : Value} (h : ∀ {env' : Env}, env'.globals = env.globals → env'.builtins = env.builtins → env'.kindOf x = some .globalImplicit → GName X env' x v)
    (hk : scope.names.lookup x = some .globalImplicit) : GName X (compEnvC scope cl C env) x v := h rfl rfl (lookup_relabel (env := env) hk)
theorem comp_cname {σ σ' : St} {env : Env} {scope : Scope} {C : Addr} {x : Str} {v : Value} (h : CName σ env x v) (hF : Le σ.F σ'.F) (hkf : scope.names.lookup x = some .free) (hl : (closL env scope.names []).lookup x = some (cellAt env x)) :
    CName σ' (compEnvC scope (closL env scope.names []) C env) x v := by
  obtain ⟨_, h2, h3, c, hc, o, ho, hd⟩ := h
  refine ⟨?_, h2, h3, c, ?_, o, hF _ _ ho, hd⟩
  · have := lookup_relabel (env := env) hkf
    show (relabel scope env).names.lookup x = _ ∨ (relabel scope env).names.lookup x = _
    unfold relabel
    rw [this]
    split
    · exact .inl rfl
    · exact .inr rfl
  · show (closL env scope.names []).lookup x = some c
    rw [hl, cellAt, hc]; rfl
theorem glC {K : Frag} {X : Cx} (B : Base X K) {env : Env} {fd : FuncData} (he : EnvOf env fd) {scope : Scope} {cl : List (Str × Addr)} {C : Addr} (x : Str) (v : Value) (hg : fd.globals = mainGlobals := by rfl) (e : nsIn K mainGlobals x = some (some v) := by kernel_rfl)
    (hk : scope.names.lookup x = some .globalImplicit := by decide +kernel) (hd : (x == ("__debug__" : Str)) = false := by decide +kernel) : GName X (compEnvC scope cl C env) x v :=
  B.glob (show (compEnvC scope cl C env).globals = mainGlobals from he.globals.trans hg) e (lookup_relabel (env := env) hk) hd
theorem CName.le {σ σ' : St} {env : Env} {x : Str} {v : Value} (h : CName σ env x v) (k : Le σ.F σ'.F) : CName σ' env x v := ⟨h.kind, h.nd, h.nc, let ⟨c, h1, o, h2, h3⟩ := h.cell; ⟨c, h1, o, k _ _ h2, h3⟩⟩

theorem nm_comp {scope : Scope} {cl : List (Str × Addr)} {C : Addr} {env : Env} {x : Str} (h : scope.names.lookup x = some .local) (hd : (x == ("__debug__" : Str)) = false) : NmOk (compEnvC scope cl C env) [x] :=
  ⟨by simp, fun y hy => (by rw [List.mem_singleton.mp hy]; exact lookup_relabel_local h), fun y hy => (by rw [List.mem_singleton.mp hy]; exact hd)⟩
/-- bounds of the trees that the law makes -/
def bound : Nat → Nat
  | 0 => 58
  | d + 1 => 3 * bound d + 3
def TOk (d : Nat) (t : T) : Prop := Ok t ∧ depth t ≤ d ∧ (code t).length ≤ bound d
theorem TOk.up {d : Nat} {t : T} (h : TOk d t) : TOk (d + 1) t := ⟨h.1, by have := h.2.1; omega, by have := h.2.2; simp only [bound]; omega⟩
theorem TOk.leaf {b : List UInt8} (h : b.length = 2 ∨ b.length = 3 ∨ b.length = 5 ∨ b.length = 56) : ∀ d, TOk d (.leaf b)
  | 0 => by
    refine ⟨by unfold Ok; omega, by simp [depth], ?_⟩
    simp only [code, List.length_append, bound]
    unfold hdr
    rcases h with h | h | h | h <;> rw [h] <;> simp [digits_pos, digits_zero]
  | d + 1 => (TOk.leaf h d).up
theorem codes_le {d : Nat} : ∀ {l : List T}, (∀ t ∈ l, TOk d t) → (codes l).length ≤ l.length * bound d ∧ Oks l ∧ depths l ≤ d
  | [], _ => by simp [codes, Oks, depths]
  | t :: l, h => by
    obtain ⟨h1, h2, h3⟩ := codes_le fun u hu => h u (.tail _ hu)
    obtain ⟨k1, k2, k3⟩ := h t (.head _)
    refine ⟨?_, ⟨k1, h2⟩, ?_⟩
    · simp only [codes, List.length_append, List.length_cons, Nat.succ_mul]; omega
    · simp only [depths]; omega
theorem TOk.node {d : Nat} {l : List T} (hd : d ≤ 3) (h : ∀ t ∈ l, TOk d t) (hl : l.length ≤ 3) : TOk (d + 1) (.node l) := by
  obtain ⟨h1, h2, h3⟩ := codes_le h
  have hb : bound d ≤ 1800 := by
    have : d = 0 ∨ d = 1 ∨ d = 2 ∨ d = 3 := by omega
    rcases this with rfl | rfl | rfl | rfl <;> simp [bound]
  have h4 : (codes l).length ≤ 3 * bound d := Nat.le_trans h1 (Nat.mul_le_mul_right _ hl)
  refine ⟨⟨by omega, h2⟩, by simp only [depth]; omega, ?_⟩
  have := hdr_len (b := 192) (n := (codes l).length) (by omega)
  simp only [code, List.length_append, bound]
  omega
end Mine
end

section
open PySem PySem.W PyProof.Rows
set_option Elab.async false
set_option maxRecDepth 100000
namespace Mine

section
variable {α : Type} {X : Cx} {A : Around} {σ : St}
theorem W_shrink {t : Sem α} {Q : α → St → Prop} (h : W X A σ t fun a σ' => ∃ U', Le U' σ'.U ∧ Q a ⟨σ'.fr, σ'.F, U'⟩) : W X A σ t Q :=
  fun s E O => h.go O fun _ _ σ' O' ⟨U', k, q⟩ => ⟨⟨σ'.fr, σ'.F, U'⟩, O'.dropU k, q⟩
theorem W_frzP {t : Sem α} {Q : α → St → Prop} (h : W X A σ t fun a σ' => ∃ b o, σ'.U b = some o ∧ (σ'.F b = none → Q a ⟨σ'.fr, upd σ'.F b o, era σ'.U b⟩)) : W X A σ t Q :=
  fun s E O => h.go O fun _ _ _ O' ⟨_, _, hu, q⟩ => ⟨_, O'.freeze hu, q (O'.sep _ _ hu).1⟩
end

def Ints (vs : List Value) : Prop := ∃ ns, IntsAre vs ns
theorem Ints.tail {v : Value} {vs : List Value} (h : Ints (v :: vs)) : (∃ i t, v = .int i t) ∧ Ints vs := by
  obtain ⟨ns, h⟩ := h
  cases h with
  | cons n t h => exact ⟨⟨_, _, rfl⟩, _, h⟩
theorem ne_of_mp {m : Mp} {a b : Addr} {o : Obj} (h : m a = some o) (k : m b = none) : a ≠ b := fun q => by
  subst q; rw [h] at k; cases k
theorem upd_self {m : Mp} {a : Addr} {o : Obj} (h : m a = some o) : upd m a o = m := by
  funext c
  by_cases q : c = a
  · subst q; rw [upd_same]; exact h.symm
  · rw [upd_ne q]

section
variable {P : Params} {X : Cx}
theorem c_nextI (B : Base X (Mine.hd.heap_39 P)) {A : Around} {σ : St} {l : Addr} {vs : List Value} {m : Nat} (r : Room A 1) (hl : σ.U l = some (lstO vs m)) (hi : Ints vs) (hz : vs.length ≤ 100) :
    W X A σ (call (.ref 163) [.ref l]) fun w σ' => ∃ i t vs' m', w = .int i t ∧ σ' = ⟨σ.fr, σ.F, upd σ.U l (lstO vs' m')⟩ ∧ Ints vs' ∧ vs'.length ≤ 100 := by
  refine c_next B r.d hl (by unfold sizeLine; omega) (fun e t => ?_) fun v r e n' => ?_
  · exact ⟨0, t, vs, m, rfl, by rw [upd_self hl], hi, hz⟩
  · subst e
    obtain ⟨⟨i, t, rfl⟩, hi'⟩ := hi.tail
    exact ⟨i, t, r, n', rfl, rfl, hi', by simp only [List.length_cons] at hz; omega⟩

def TreeC (X : Cx) (d n : Nat) : Prop := ∀ {A : Around} {σ : St} {l : Addr} {vs : List Value} {m : Nat} {tk : Tok}, Room A n → σ.U l = some (lstO vs m) → Ints vs → vs.length ≤ 100 →
  W X A σ (call (.ref 168) [.ref l, .int (d : Nat) tk]) fun w σ' => ∃ F' vs' m' t, Le σ.F F' ∧ σ' = ⟨σ.fr, F', upd σ.U l (lstO vs' m')⟩ ∧ Ints vs' ∧ vs'.length ≤ 100 ∧ IsD false F' t w ∧ TOk d t

theorem fmod_lt (i : Int) {k : Nat} (hk : 0 < k) : ∃ j : Nat, i.fmod (k : Int) = (j : Int) ∧ j < k := by
  have h1 := Int.fmod_nonneg_of_pos i (b := (k : Int)) (by omega)
  have h2 := Int.fmod_lt_of_pos i (b := (k : Int)) (by omega)
  exact ⟨(i.fmod k).toNat, by omega, by omega⟩

theorem tree_of (B : Base X (Mine.hd.heap_39 P)) {d n : Nat} (hd3 : d ≤ 3) (ih : ∀ e, d = e + 1 → TreeC X e n) : TreeC X d (n + 2) := by
  intro A σ l vs m tk r hl hi hz
  obtain ⟨fr, F, U⟩ := σ
  change U l = _ at hl
  refine W_callK B ["left", "deep"] ["n"] [none] r.d (by rfl) (fun env s' E he nm hcells O hc hdis => ?_) (hv := fun i x v _ h2 => by
    cases i with
    | zero => simp at h2
    | succ i => simp at h2)
  have hr : Room (A.deeper env) (n + 1) := r.deeper env
  have hcs : env.cells = [(("m" : Str), env.locals + 1 + 1 + 1), (("deep" : Str), env.locals + 1 + 1), (("left" : Str), env.locals + 1)] := hcells.trans (by rfl)
  have l1 : env.cells.lookup ("left" : Str) = some (env.locals + 1) := by rw [hcs]; rfl
  have l2 : env.cells.lookup ("deep" : Str) = some (env.locals + 1 + 1) := by rw [hcs]; rfl
  have l3 : env.cells.lookup ("m" : Str) = some (env.locals + 1 + 1 + 1) := by rw [hcs]; rfl
  obtain ⟨f1, o1, ho1, hd1⟩ := hc _ _ l1
  obtain ⟨f2, o2, ho2, hd2⟩ := hc _ _ l2
  obtain ⟨f3, o3, ho3, hd3'⟩ := hc _ _ l3
  have hd1 : o1.data = .cell (some (.ref l)) := hd1.trans (by rfl)
  have hd2 : o2.data = .cell (some (.int (d : Nat) tk)) := hd2.trans (by rfl)
  have hd3' : o3.data = .cell none := hd3'.trans (by rfl)
  have ki : ∀ x k, (env.scope.names.lookup x = some k) = (env.kindOf x = some k) := fun _ _ => rfl
  have O1 := O.addF ho1 f1
  have O2 := O1.addF ho2 (f2.addF (Nat.succ_ne_self _))
  have O3 := O2.addU ho3 ((f3.addF (Nat.ne_of_gt (Nat.lt_succ_of_lt (Nat.lt_succ_self _)))).addF (Nat.succ_ne_self _))
  generalize env.locals + 1 = c1 at l1 l2 l3 f1 f2 f3 O3 hcs
  have hkc : ∀ x, (∃ y : NameKind, y = .cell ∧ env.scope.names.lookup x = some y) → env.kindOf x = some .cell := fun x ⟨y, e, h⟩ => e ▸ h
  have k1 : env.kindOf "left" = some .cell := by show env.scope.names.lookup _ = _; rw [he.scope]; rfl
  have k2 : env.kindOf "deep" = some .cell := by show env.scope.names.lookup _ = _; rw [he.scope]; rfl
  have k3 : env.kindOf "m" = some .cell := by show env.scope.names.lookup _ = _; rw [he.scope]; rfl
  generalize c1 + 1 = c2 at l2 l3 f2 f3 O3 hcs
  generalize c2 + 1 = c3 at l3 f3 O3 hcs
  have nF1 : F c1 = none := f1.nF
  have n12 : c2 ≠ c1 := fun e => by subst e; have := hdis _ _ _ l1 l2; exact absurd this (by decide +kernel)
  have nF2 : upd F c1 o1 c2 = none := by rw [upd_ne n12]; exact f2.nF
  have L1 : Le F (upd (upd F c1 o1) c2 o2) := (le_upd nF1).trans (le_upd nF2)
  have hl3 : l ≠ c3 := f3.ne hl
  have cn1 : CName ⟨⟨env, ["n"], [none], true⟩ :: fr, upd (upd F c1 o1) c2 o2, upd U c3 o3⟩ env "left" (.ref l) := ⟨.inl k1, by decide +kernel, by decide +kernel, c1, l1, o1, by show upd (upd F c1 o1) c2 o2 c1 = _; rw [upd_ne n12.symm, upd_same], hd1⟩
  have cn2 : CName ⟨⟨env, ["n"], [none], true⟩ :: fr, upd (upd F c1 o1) c2 o2, upd U c3 o3⟩ env "deep" (.int (d : Nat) tk) := ⟨.inl k2, by decide +kernel, by decide +kernel, c2, l2, o2, by show upd (upd F c1 o1) c2 o2 c2 = _; rw [upd_same], hd2⟩
  generalize upd (upd F c1 o1) c2 o2 = F1 at L1 cn1 cn2 O3
  suffices h : W X (A.deeper env) ⟨⟨env, ["n"], [none], true⟩ :: fr, F1, upd U c3 o3⟩ (execs _ env) (RetQ fr _) from h _ _ O3
  clear O O1 O2 O3 hc hdis
  -- n = _law_next(left)
  refine W_execs_cons <| W_Assign_Name <| W_Call_Name <| W_gname (gl B he "_law_next" (.ref 163)) rfl rfl <| W_callWith B (by kernel_rfl) <| W_items_cons <| W_cname cn1 rfl rfl <| W_items_nil ?_
  refine W.mono (c_nextI B (σ := ⟨_ :: fr, F1, upd U c3 o3⟩) (hr.le (by omega)) ((upd_ne hl3).trans hl) hi hz) fun w σ' ⟨i, t1, vs1, m1, ew, e, hi1, hz1⟩ => ?_
  subst ew e
  refine W_store nm .here ?_
  have e1 : upd (upd U c3 o3) l (lstO vs1 m1) = upd (upd U l (lstO vs1 m1)) c3 o3 := upd_comm hl3.symm
  rw [e1]
  -- m = n // 3
  refine W_execs_cons <| W_Assign_Name <| W_BinOp <| W_name nm .here <| W_int fun t2 => W_floordiv_small (by decide) (PyProof.noPylong_small (by decide)) fun t3 => ?_
  refine W_store_cell k3 (by decide +kernel) (by decide +kernel) l3 hd3' ((upd_ne hl3.symm).trans f3.nU) fun F2 L2 cn3 => ?_
  have cn1 : CName ⟨⟨env, ["n"], [some (.int i t1)], true⟩ :: fr, F2, upd U l (lstO vs1 m1)⟩ env "left" (.ref l) := cn1.le L2
  have cn2 : CName ⟨⟨env, ["n"], [some (.int i t1)], true⟩ :: fr, F2, upd U l (lstO vs1 m1)⟩ env "deep" (.int (d : Nat) tk) := cn2.le L2
  -- if deep == 0 or n % 3 != 0
  refine W_execs_cons <| W_If <| W.mono (Q := fun b σ' => σ' = ⟨⟨env, ["n"], [some (.int i t1)], true⟩ :: fr, F2, upd U l (lstO vs1 m1)⟩ ∧ (b = false → d ≠ 0)) ?_ ?_
  · refine W_isTrue_And <| W_or_cons <| W_isTrue_Compare <| W_cname cn2 rfl rfl <| W_int fun t4 => W_eq <| W_truthy_bool ?_
    by_cases h0 : d = 0
    · rw [if_pos (by simp [h0])]
      exact ⟨rfl, fun e => nomatch e⟩
    · rw [if_neg (by simp; omega)]
      refine W_or_cons <| W_isTrue_Compare <| W_BinOp <| W_name nm .here <| W_int fun t5 => W_mod (by decide) fun t6 => W_int fun t7 => W_ne <| W_truthy_bool ?_
      split
      · exact ⟨rfl, fun _ => h0⟩
      · exact W_or_nil ⟨rfl, fun _ => h0⟩
  rintro b σ' ⟨rfl, hb⟩
  have hl2 : upd U l (lstO vs1 m1) l = some (lstO vs1 m1) := upd_same ..
  cases b with
  | true =>
    rw [if_pos rfl]
    obtain ⟨j, hj, hj4⟩ := fmod_lt (i.fdiv 3) (k := 4) (by omega)
    have hj : (i.fdiv 3).fmod 4 = (j : Int) := hj
    have hsz : ∃ z : Nat, (z = 2 ∨ z = 3 ∨ z = 5 ∨ z = 56) ∧ ∀ a b c e : Tok, ∃ t, ([.int 2 a, .int 3 b, .int 5 c, .int 56 e] : List Value)[((j : Nat) : Int).toNat]? = some (.int (z : Nat) t) := by
      have : j = 0 ∨ j = 1 ∨ j = 2 ∨ j = 3 := by omega
      rcases this with rfl | rfl | rfl | rfl
      · exact ⟨2, by omega, fun a b c e => ⟨a, rfl⟩⟩
      · exact ⟨3, by omega, fun a b c e => ⟨b, rfl⟩⟩
      · exact ⟨5, by omega, fun a b c e => ⟨c, rfl⟩⟩
      · exact ⟨56, by omega, fun a b c e => ⟨e, rfl⟩⟩
    obtain ⟨z, hz4, hzt⟩ := hsz
    refine W_retR <| W_shrink <| W_Call_Name <| W_gname (bl B he "bytes" (.type "bytes")) rfl rfl <| W_callWith_t <| W_items_cons <| W_ListComp (closL env _ []) (closure_in ["m"] (by intro y hy; rcases List.mem_singleton.mp hy with rfl; rw [l3]; rfl)) (by decide +kernel) (by rfl) (by decide +kernel) (by decide +kernel) (by decide +kernel) ?_
    refine W_Call_Name <| W_gname (bl B he "range" (.type "range")) rfl rfl <| W_callWith_t <| W_items_cons <| W_Subscript <| W_Tuple <| W_items_cons <| W_int fun u1 => W_items_cons <| W_int fun u2 => W_items_cons <| W_int fun u3 => W_items_cons <| W_int fun u4 =>
      W_items_nil ⟨by simp [sizeLine], fun a F3 L3 ha fa => W_BinOp <| W_cname (cn3.le L3) rfl rfl <| W_int fun u5 => W_mod (by decide) fun u6 => ?_⟩
    rw [hj]
    obtain ⟨u7, hu7⟩ := hzt u1 u2 u3 u4
    refine W_item_tuple (.inr (.inl ha)) (by omega) (by omega) hu7 <| W_items_nil <| W_range1 fun rg ta tb tc U1 frg eU => ?_
    subst eU
    refine W_iter_range (.inl (upd_same ..)) (by omega) (by omega) (by omega) (by omega) fun it o hf ho => ?_
    have ez : ((z : Int) - 0).toNat = z := by omega
    rw [ez] at ho
    refine ⟨_, F3, upd (upd U l (lstO vs1 m1)) rg _, it, o, rngIt 0 z, z, fun _ => True, fun i v => ∃ t, v = .int (0 + i) t, fun i ys σ => σ.F = F3 ∧ σ.U = upd (upd U l (lstO vs1 m1)) rg _ ∧ ∃ ns, IntsAre ys ns ∧ ns.length = i ∧ ∀ k ∈ ns, 0 ≤ k ∧ k < 256,
      rfl, rfl, hf.nU, ho, ⟨rfl, rfl, [], .nil, rfl, fun k hk => nomatch hk⟩, ⟨itOk_range hr.calm, by unfold sizeLine; omega, fun _ => trivial, ?_⟩, ?_⟩
    · rintro i' ys F' U' C D o' mm v ⟨e1, e2, ns, hns, hlen, hrng⟩ hi' ⟨tv, rfl⟩ hys hit hDU hne
      have e1 := Eq.symm e1
      have e2 := Eq.symm e2
      dsimp only at e1 e2
      subst e1 e2
      refine W_BinOp <| W_BinOp <| W_cname (comp_cname cn3 L3 ?h1 ?h2) rfl rfl <| W_name ?nm2 .here <| W_add fun t8 => W_int fun t9 => W_mod (by decide) fun t10 => ?_
      case h1 => decide +kernel
      case h2 => rfl
      case nm2 => exact nm_comp (by decide +kernel) (by decide +kernel)
      obtain ⟨q, hq, hq2⟩ := fmod_lt (i.fdiv 3 + (0 + (i' : Int))) (k := 256) (by omega)
      refine ⟨_, _, .refl _, hit, hDU, rfl, rfl, rfl, ns ++ [(i.fdiv 3 + (0 + (i' : Int))).fmod 256], IntsAre.append hns ints1, by simp [hlen], fun k hk => ?_⟩
      rcases List.mem_append.mp hk with hk | hk
      · exact hrng k hk
      · rw [List.mem_singleton.mp hk]
        have : (i.fdiv 3 + (0 + (i' : Int))).fmod 256 = (q : Int) := hq
        omega
    · rintro D mm ys F' U' ⟨e1, e2, ns, hns, hlen, hrng⟩ hDU
      have e1 := Eq.symm e1
      have e2 := Eq.symm e2
      dsimp only at e1 e2
      subst e1 e2
      refine W_items_nil <| W_bytes_ints (.inl (upd_same ..)) hns hrng (by have := hns.length; unfold sizeLine; omega) hr.calm fun t11 => ?_
      refine ⟨upd U l (lstO vs1 m1), (le_upd frg.nU).trans (le_upd hDU), Then.ret <| retM ⟨_, rfl, F3, vs1, m1, .leaf (ns.map fun n => n.toNat.toUInt8), (L1.trans L2).trans L3, rfl, hi1, hz1, ?_, ?_⟩⟩
      · unfold IsD; exact ⟨t11, rfl⟩
      · refine TOk.leaf ?_ d
        rw [List.length_map, hlen]; exact hz4
  | false =>
    rw [if_neg (by simp)]
    obtain ⟨e, rfl⟩ : ∃ e, d = e + 1 := ⟨d - 1, by have := hb rfl; omega⟩
    obtain ⟨j, hj, hj4⟩ := fmod_lt (i.fdiv 3) (k := 4) (by omega)
    have hj : (i.fdiv 3).fmod 4 = (j : Int) := hj
    refine W_execs_nil <| W_retR <| W_frzP <| W_shrink <| W_ListComp (closL env _ []) (closure_in ["left", "deep"] (by intro y hy; simp only [List.mem_cons, List.not_mem_nil, or_false] at hy; rcases hy with rfl | rfl; rw [l1]; rfl; rw [l2]; rfl)) (by decide +kernel) (by rfl) (by decide +kernel) (by decide +kernel) (by decide +kernel) ?_
    refine W_Call_Name <| W_gname (bl B he "range" (.type "range")) rfl rfl <| W_callWith_t <| W_items_cons <| W_BinOp <| W_cname cn3 rfl rfl <| W_int fun u5 => W_mod (by decide) fun u6 => ?_
    rw [hj]
    refine W_items_nil <| W_range1 fun rg ta tb tc U1 frg eU => ?_
    subst eU
    refine W_iter_range (.inl (upd_same ..)) (by omega) (by omega) (by omega) (by omega) fun it o hf ho => ?_
    have ez : ((j : Int) - 0).toNat = j := by omega
    rw [ez] at ho
    have hlr : l ≠ rg := frg.ne hl2
    refine ⟨_, F2, upd (upd U l (lstO vs1 m1)) rg _, it, o, rngIt 0 j, j, fun _ => True, fun i v => ∃ t, v = .int (0 + i) t,
      fun i ys σ => ∃ vs' m' ts, Le F2 σ.F ∧ σ.U = upd (upd U l (lstO vs' m')) rg (rngO 0 j 1 ta tb tc) ∧ Ints vs' ∧ vs'.length ≤ 100 ∧ IsDs false σ.F ts ys ∧ (∀ t ∈ ts, TOk e t) ∧ ts.length = i,
      rfl, rfl, hf.nU, ho, ⟨vs1, m1, [], .refl _, rfl, hi1, hz1, by unfold IsDs; rfl, (fun t ht => nomatch ht), rfl⟩, ⟨itOk_range hr.calm, by unfold sizeLine; omega, fun _ => trivial, ?_⟩, ?_⟩
    · rintro i' ys F' U' C D o' mm v ⟨vs', m', ts, Lf, e2, hI, hL, hts, htok, hlen⟩ hi' ⟨tv, rfl⟩ hys hit hDU hne
      have e2 := Eq.symm e2
      dsimp only at e2 Lf hts
      subst e2
      have hlU : upd (upd U l (lstO vs' m')) rg (rngO 0 j 1 ta tb tc) l = some (lstO vs' m') := by rw [upd_ne hlr, upd_same]
      have hli : l ≠ it := ne_of_mp hlU hit
      have hlD : l ≠ D := ne_of_mp hlU hDU
      refine W_Call_Name <| W_gname (glC B he "_law_tree" (.ref 168) (hk := ?h0)) rfl rfl <| W_callWith B (by kernel_rfl) <| W_items_cons <| W_cname (comp_cname cn1 Lf ?h1 ?h2) rfl rfl <| W_items_cons <| W_BinOp <| W_cname (comp_cname cn2 Lf ?h3 ?h4) rfl rfl <| W_int fun t8 => W_sub fun t9 => W_items_nil ?_
      case h0 => decide +kernel
      case h1 => decide +kernel
      case h2 => rfl
      case h3 => decide +kernel
      case h4 => rfl
      rw [show ((e + 1 : Nat) : Int) - 1 = (e : Int) by omega]
      refine W.mono (ih e rfl (σ := ⟨_ :: _, F', _⟩) (hr.le (by omega)) (l := l) (vs := vs') (m := m') ?_ hI hL) fun w σ' ⟨F3, vs3, m3, t, Lf3, e3, hI3, hL3, hd3, htk⟩ => ?_
      · show upd (upd _ it o') D (lstO ys mm) l = _
        rw [upd_ne hlD, upd_ne hli]; exact hlU
      · refine ⟨F3, upd (upd U l (lstO vs3 m3)) rg (rngO 0 j 1 ta tb tc), Lf3, ?_, ?_, ?_, vs3, m3, ts ++ [t], Lf.trans Lf3, rfl, hI3, hL3, IsDs.snoc (hts.le Lf3) hd3, ?_, by simp [hlen]⟩
        · rw [upd_comm hlr, upd_ne hli.symm]
          rw [upd_comm hlr, upd_ne hli.symm] at hit; exact hit
        · rw [upd_comm hlr, upd_ne hlD.symm]
          rw [upd_comm hlr, upd_ne hlD.symm] at hDU; exact hDU
        · rw [e3]
          congr 1
          show upd (upd (upd (upd (upd U l (lstO vs' m')) rg (rngO 0 j 1 ta tb tc)) it o') D (lstO ys mm)) l (lstO vs3 m3) = upd (upd (upd (upd U l (lstO vs3 m3)) rg (rngO 0 j 1 ta tb tc)) it o') D (lstO ys mm)
          rw [upd_comm hlD.symm, upd_comm hli.symm, upd_comm hlr.symm, upd_upd]
        · intro u hu
          rcases List.mem_append.mp hu with hu | hu
          · exact htok u hu
          · rw [List.mem_singleton.mp hu]; exact htk
    · rintro D mm ys F' U' ⟨vs', m', ts, Lf, e2, hI, hL, hts, htok, hlen⟩ hDU
      have e2 := Eq.symm e2
      dsimp only at e2 Lf hts
      subst e2
      have hUD : upd U l (lstO vs' m') D = none := by
        by_cases q : D = l
        · subst q; rw [upd_ne hlr, upd_same] at hDU; cases hDU
        · by_cases q2 : D = rg
          · subst q2; rw [upd_same] at hDU; cases hDU
          · rw [upd_ne q2] at hDU; exact hDU
      have hrU : upd U l (lstO vs' m') rg = none := by rw [upd_ne hlr.symm]; have := frg.nU; exact (upd_ne hlr.symm).symm.trans this
      refine ⟨upd (upd U l (lstO vs' m')) D (lstO ys mm), Le.upd (le_upd hrU), D, lstO ys mm, upd_same .., fun nF => retM ⟨_, rfl, upd F' D (lstO ys mm), vs', m', .node ts, (L1.trans L2).trans (Lf.trans (le_upd nF)), ?_, hI, hL, ?_, TOk.node (by omega) htok (by omega)⟩⟩
      · show (⟨fr, upd F' D (lstO ys mm), era (upd (upd U l (lstO vs' m')) D (lstO ys mm)) D⟩ : St) = _
        rw [era_upd hUD]
      · unfold IsD
        exact ⟨D, ys, mm, rfl, upd_same .., hts.le (le_upd nF)⟩
end
end Mine
end

section
open PySem PySem.W PyProof.Rows
set_option Elab.async false
set_option maxRecDepth 100000
namespace Mine

theorem cut_mid {α : Type} {o pre x post : List α} {lo hi : Nat} (h : o = pre ++ x ++ post) (hl : pre.length = lo) (hh : hi = lo + x.length) : (o.drop lo).take (hi - lo) = x := by
  subst h hl hh
  rw [List.append_assoc, List.drop_left, Nat.add_sub_cancel_left, List.take_left]
theorem Live.le {X : Cx} {σ σ' : St} {a : Addr} {o : Obj} (h : Live X σ a o) (hU : σ'.U = σ.U) (hF : Le σ.F σ'.F) : Live X σ' a o := by
  rcases h with h | h | h
  · exact .inl (hU ▸ h)
  · exact .inr (.inl (hF _ _ h))
  · exact .inr (.inr h)
theorem Live.upd {X : Cx} {fr fr' : List Fram} {F F' U : Mp} {a b : Addr} {o x : Obj} (h : Live X ⟨fr, F, U⟩ a o) (hF : Le F F') (hb : U b = none) : Live X ⟨fr', F', upd U b x⟩ a o := by
  rcases h with h | h | h
  · exact .inl ((upd_ne (ne_of_mp h hb)).trans h)
  · exact .inr (.inl (hF _ _ h))
  · exact .inr (.inr h)
abbrev octs (o : List UInt8) : List Int := o.map fun c => (c.toNat : Int)
theorem octs_back (b : List UInt8) : ((octs b).map fun n => n.toNat.toUInt8) = b := by
  rw [List.map_map]
  conv => rhs; rw [← List.map_id b]
  exact List.map_congr_left fun c _ => by simp
theorem octs_range (b : List UInt8) : ∀ n ∈ octs b, 0 ≤ n ∧ n < 256 := fun n hn => by
  obtain ⟨c, _, rfl⟩ := List.mem_map.mp hn
  have := c.toNat_lt
  omega

section
variable {P : Params} {X : Cx}

theorem c_tree (B : Base X (Mine.hd.heap_39 P)) : ∀ d, d ≤ 3 → TreeC X d (2 * d + 2)
  | 0, h => tree_of B (n := 0) h fun e he => nomatch he
  | d + 1, h => tree_of B (n := 2 * d + 2) h fun e he => by
    obtain rfl : d = e := by omega
    exact c_tree B d (by omega)

def NowC (X : Cx) (t : T) (n : Nat) : Prop := ∀ {A : Around} {σ : St} {v : Value} {p : Nat} {sl : Addr} {vs : List Value} {m : Nat} {o pre post : List UInt8}, Room A n → IsN σ.F t p v → Live X σ sl (lstO vs m) → IntsAre vs (octs o) → o.length ≤ 1000000 →
  o = pre ++ code t ++ post → pre.length = p →
  W X A σ (call (.ref 201) [v, .ref sl]) fun w σ' => ∃ F', Le σ.F F' ∧ σ' = ⟨σ.fr, F', σ.U⟩ ∧ IsD false F' t w

theorem now_of (B : Base X (Mine.hd.heap_39 P)) {u : T} {n : Nat} (ih : ∀ l, u = .node l → ∀ t ∈ l, NowC X t n) : NowC X u (n + 1) := by
  intro A σ v p sl vs m o pre post r hn hsl hI hz ho hp
  obtain ⟨fr, F, U⟩ := σ
  refine W_callK B ["node", "src"] ["node"] [some v] r.d (by rfl) (fun env s' E he nm hcells O hc hdis => ?_) (hv := fun i x v' h1 h2 => by
    cases i with
    | zero => simp only [List.getElem?_cons_zero, Option.some.injEq] at h1 h2; subst h1 h2; rfl
    | succ i => simp at h2)
  have hr : Room (A.deeper env) n := r.deeper env
  have hcs : env.cells = [(("src" : Str), env.locals + 1)] := hcells.trans (by rfl)
  have l1 : env.cells.lookup ("src" : Str) = some (env.locals + 1) := by rw [hcs]; rfl
  obtain ⟨f1, o1, ho1, hd1⟩ := hc _ _ l1
  have hd1 : o1.data = .cell (some (.ref sl)) := hd1.trans (by rfl)
  have O1 := O.addF ho1 f1
  generalize env.locals + 1 = c1 at l1 f1 O1 hcs
  have k1 : env.kindOf "src" = some .cell := by show env.scope.names.lookup _ = _; rw [he.scope]; rfl
  have nF1 : F c1 = none := f1.nF
  have L1 : Le F (upd F c1 o1) := le_upd nF1
  have cn1 : CName ⟨⟨env, ["node"], [some v], true⟩ :: fr, upd F c1 o1, U⟩ env "src" (.ref sl) := ⟨.inl k1, by decide +kernel, by decide +kernel, c1, l1, o1, upd_same .., hd1⟩
  generalize upd F c1 o1 = F1 at L1 cn1 O1
  suffices h : W X (A.deeper env) ⟨⟨env, ["node"], [some v], true⟩ :: fr, F1, U⟩ (execs _ env) (RetQ fr _) from h _ _ O1
  clear O O1 hc hdis
  refine W_execs_cons <| W_If <| W_isTrue_val <| W_Call_Name <| W_gname (bl B he "isinstance" (.builtin "isinstance")) rfl rfl <| W_callWith_b <| W_items_cons <| W_name nm .here <| W_items_cons <|
    W_gname (bl B he "tuple" (.type "tuple")) rfl rfl <| W_items_nil ?_
  cases u with
  | leaf b =>
    unfold IsN at hn
    obtain ⟨a, t1, t2, rfl, ha⟩ := hn
    refine W_isi_tuple (.inr (.inl (L1 _ _ ha))) <| W_truthy_bool ?_
    rw [if_pos rfl]
    refine W_retR <| W_shrink <| W_Call_Name <| W_gname (bl B he "bytes" (.type "bytes")) rfl rfl <| W_callWith_t <| W_items_cons <| W_Subscript <| W_cname cn1 rfl rfl <| W_Slice <| W_part <| W_Subscript <| W_name nm .here <| W_int fun u1 =>
      W_item_tuple (.inr (.inl (L1 _ _ ha))) (by decide) (by decide) rfl <| W_part <| W_Subscript <| W_name nm .here <| W_int fun u2 => W_item_tuple (.inr (.inl (L1 _ _ ha))) (by decide) (by decide) rfl fun sa F2 L2 hsa => ?_
    have hsl1 : Live X ⟨⟨env, ["node"], [some (.ref a)], true⟩ :: fr, F2, U⟩ sl (lstO vs m) := hsl.le rfl (L1.trans L2)
    have e : code (.leaf b) = hdr 128 b.length ++ b := by simp [code]
    have hol := congrArg List.length ho
    simp only [List.length_append, e] at hol
    have hvl := hI.length
    simp only [List.length_map] at hvl
    have hcut : ∀ {β : Type} (g : UInt8 → β), ((o.map g).drop (p + (hdr 128 b.length).length)).take (p + (code (.leaf b)).length - (p + (hdr 128 b.length).length)) = b.map g := fun g => by
      refine cut_mid (pre := (pre ++ hdr 128 b.length).map g) (post := post.map g) ?_ (by simp [hp]) (by simp [e]; omega)
      rw [ho, e]; simp
    refine W_slice_list hsl1 (.inr (.inl hsa)) (by constructor) (by constructor) (by unfold sizeLine; omega) (pick_both ..) fun la fla => W_items_nil ?_
    have hI2 := (hI.drop (p + (hdr 128 b.length).length)).take (p + (code (.leaf b)).length - (p + (hdr 128 b.length).length))
    rw [hcut] at hI2
    refine W_bytes_ints (.inl (upd_same ..)) hI2 (octs_range b) (by have := hI2.length; simp only [List.length_map] at this; unfold sizeLine; omega) hr.calm fun u3 => ?_
    rw [octs_back]
    refine ⟨U, le_upd fla.nU, Then.ret <| retM ⟨_, rfl, F2, L1.trans L2, rfl, ?_⟩⟩
    unfold IsD
    exact ⟨u3, rfl⟩
  | node l =>
    unfold IsN at hn
    obtain ⟨a, ks, mk, rfl, ha, hks⟩ := hn
    refine W_isi_list_tuple (.inr (.inl (L1 _ _ ha))) <| W_truthy_bool ?_
    rw [if_neg (by simp)]
    refine W_execs_nil <| W_retR <| W_frzP <| W_ListComp (closL env _ []) (closure_in ["src"] (by intro y hy; rcases List.mem_singleton.mp hy with rfl; rw [l1]; rfl)) (by decide +kernel) (by rfl) (by decide +kernel) (by decide +kernel) (by decide +kernel) ?_
    refine W_name nm .here <| W_iter_list (.inr (.inl (L1 _ _ ha))) fun it ob hf hob => ?_
    have hkl := hks.length
    refine ⟨_, F1, U, it, ob, lstIt a, ks.length, fun σ => Live X σ a (lstO ks mk), fun i v => ks[i]? = some v,
      fun i ys σ => Le F1 σ.F ∧ σ.U = U ∧ IsDs false σ.F (l.take i) ys, rfl, rfl, hf.nU, hob, ⟨.refl _, rfl, by simp [IsDs]⟩, ⟨itOk_list hr.calm, ?_, ?_, ?_⟩, ?_⟩
    · have h1 := kids_len l
      have e : code (.node l) = hdr 192 (codes l).length ++ codes l := by simp [code]
      have hol := congrArg List.length ho
      simp only [List.length_append, e] at hol
      unfold sizeLine; omega
    · rintro i ys F' U' C D ob' mm vs' ⟨Lf, eU, _⟩
      exact .inr (.inl (Lf _ _ (L1 _ _ ha)))
    · rintro i ys F' U' C D ob' mm v ⟨Lf, eU, hds⟩ hi hv hys hit hDU hne
      have eU := Eq.symm eU
      dsimp only at eU Lf hds
      subst eU
      obtain ⟨t, ht, hnt⟩ := hks.at hv
      refine W_Call_Name <| W_gname (glC B he "_law_now" (.ref 201) (hk := ?h0)) rfl rfl <| W_callWith B (by kernel_rfl) <| W_items_cons <| W_name ?nm2 .here <| W_items_cons <| W_cname (comp_cname cn1 Lf ?h1 ?h2) rfl rfl <| W_items_nil ?_
      case h0 => decide +kernel
      case h1 => decide +kernel
      case h2 => rfl
      case nm2 => exact nm_comp (by decide +kernel) (by decide +kernel)
      have hlv : ∀ fr'', Live X ⟨fr'', F', upd (upd U it ob') D (lstO ys mm)⟩ sl (lstO vs m) := fun _ =>
        (hsl.upd (fr' := []) (F' := F') (L1.trans Lf) hit).upd (.refl _) ((upd_ne hne.symm).trans hDU)
      have e : code (.node l) = hdr 192 (codes l).length ++ codes l := by simp [code]
      have ecut : codes l = codes (l.take i) ++ code t ++ codes (l.drop (i + 1)) := by
        have h1 : codes l = codes (l.take (i + 1)) ++ codes (l.drop (i + 1)) := by rw [← codes_append, List.take_append_drop]
        rw [codes_take_succ ht] at h1; exact h1
      refine W.mono (ih l rfl t (List.mem_of_getElem? ht) (σ := ⟨_ :: _, F', _⟩) (p := p + (hdr 192 (codes l).length).length + (codes (l.take i)).length) (pre := pre ++ hdr 192 (codes l).length ++ codes (l.take i)) (post := codes (l.drop (i + 1)) ++ post) hr ?_ (hlv _) hI hz ?_ ?_) fun w σ' ⟨F3, Lf3, e3, hd3⟩ => ?_
      · exact hnt.le (L1.trans Lf)
      · rw [ho, e]
        generalize hdr 192 (codes l).length = H
        rw [ecut]
        simp only [List.append_assoc]
      · simp [hp]; omega
      · subst e3
        exact ⟨F3, U, Lf3, hit, hDU, rfl, Lf.trans Lf3, rfl, by rw [take_succ_some ht]; exact IsDs.snoc (hds.le Lf3) hd3⟩
    · rintro D mm ys F' U' ⟨Lf, eU, hds⟩ hDU
      have eU := Eq.symm eU
      dsimp only at eU Lf hds
      subst eU
      refine ⟨D, lstO ys mm, upd_same .., fun nF => retM ⟨_, rfl, upd F' D (lstO ys mm), (L1.trans Lf).trans (le_upd nF), ?_, ?_⟩⟩
      · show (⟨fr, upd F' D (lstO ys mm), era (upd U D (lstO ys mm)) D⟩ : St) = _
        rw [era_upd hDU]
      · unfold IsD
        rw [List.take_of_length_le (by omega)] at hds
        exact ⟨D, ys, mm, rfl, upd_same .., hds.le (le_upd nF)⟩
end
end Mine
end

section
open PySem PySem.W PyProof.Rows
set_option Elab.async false
set_option maxRecDepth 100000
namespace Mine
theorem IsDs.get {lv : Bool} {F : Mp} {l : List T} {vs : List Value} (h : IsDs lv F l vs) {i : Nat} (hi : i < l.length) : ∃ t v, l[i]? = some t ∧ vs[i]? = some v ∧ IsD lv F t v := by
  have := h.length
  obtain ⟨t, h1, h2⟩ := h.at (i := i) (v := vs[i]) (List.getElem?_eq_getElem (by omega))
  exact ⟨t, vs[i], h1, List.getElem?_eq_getElem (by omega), h2⟩

section
variable {P : Params} {X : Cx}
theorem c_now (B : Base X (Mine.hd.heap_39 P)) : ∀ (d : Nat) {t : T}, depth t ≤ d → NowC X t (d + 1)
  | 0, t, h => now_of B fun l e => by subst e; simp [depth] at h
  | d + 1, t, h => now_of B fun l e t' ht => by
    subst e
    refine c_now B d ?_
    have := depths_mem ht
    simp only [depth] at h; omega

def AlikeC (X : Cx) (t : T) (n : Nat) : Prop := ∀ {A : Around} {σ : St} {v w : Value}, Room A n → IsD true σ.F t v → IsD false σ.F t w →
  W X A σ (call (.ref 208) [v, w]) fun r σ' => r = .bool true ∧ σ' = σ
theorem alike_of (B : Base X (Mine.hd.heap_39 P)) {u : T} {n : Nat} (hok : Ok u) (ih : ∀ l, u = .node l → ∀ t ∈ l, AlikeC X t n) : AlikeC X u (n + 1) := by
  intro A σ v w r hv hw
  obtain ⟨fr, F, U⟩ := σ
  refine W_callP B ["told", "want"] ["told", "want", "k"] [some v, some w, none] r.d (by rfl) fun env he nm => ?_
  have hr : Room (A.deeper env) n := r.deeper env
  refine W_execs_cons <| W_If <| W_isTrue_val <| W_Call_Name <| W_gname (bl B he "isinstance" (.builtin "isinstance")) rfl rfl <| W_callWith_b <| W_items_cons <| W_name nm (.there .here) <| W_items_cons <|
    W_gname (bl B he "bytes" (.type "bytes")) rfl rfl <| W_items_nil ?_
  cases u with
  | leaf b =>
    unfold IsD at hv hw
    obtain ⟨a, rfl, ha⟩ := hv
    obtain ⟨t, rfl⟩ := hw
    refine W_isi_bytes <| W_truthy_bool ?_
    rw [if_pos rfl]
    refine W_retR <| W_And2 <| W_Call_Name <| W_gname (bl B he "isinstance" (.builtin "isinstance")) rfl rfl <| W_callWith_b <| W_items_cons <| W_name nm .here <| W_items_cons <|
      W_gname (bl B he "bytearray" (.type "bytearray")) rfl rfl <| W_items_nil <| W_isi_bytearray (.inr (.inl ha)) <| W_truthy_bool ?_
    rw [if_pos rfl]
    refine W_Compare <| W_Call_Name <| W_gname (bl B he "bytes" (.type "bytes")) rfl rfl <| W_callWith_t <| W_items_cons <| W_name nm .here <| W_items_nil <| W_bytes_oct ⟨a, rfl, .inr (.inl ha)⟩ (by have := hok.2; unfold sizeLine; omega) fun t1 => W_name nm (.there .here) <| W_eq_bytes ?_
    exact Then.ret <| retM ⟨_, rfl, by simp, rfl⟩
  | node l =>
    unfold IsD at hv hw
    obtain ⟨a, vs, m, rfl, ha, hvs⟩ := hv
    obtain ⟨b, ws, m', rfl, hb, hws⟩ := hw
    have hvl := hvs.length
    have hwl := hws.length
    have hkl := kids_len l
    have hcl := hok.1
    refine W_isi_list_bytes (.inr (.inl hb)) <| W_truthy_bool ?_
    rw [if_neg (by simp)]
    refine W_execs_nil <| W_execs_cons <| W_If <| W_isTrue_And <| W_or_cons <| W_isTrue_Not <| W_isTrue_val <| W_Call_Name <| W_gname (bl B he "isinstance" (.builtin "isinstance")) rfl rfl <| W_callWith_b <| W_items_cons <| W_name nm .here <| W_items_cons <|
      W_gname (bl B he "list" (.type "list")) rfl rfl <| W_items_nil <| W_isi_list (.inr (.inl ha)) <| W_truthy_bool ?_
    rw [if_neg (by simp)]
    refine W_or_cons <| W_isTrue_Compare <| W_Call_Name <| W_gname (bl B he "len" (.builtin "len")) rfl rfl <| W_callWith_b <| W_items_cons <| W_name nm .here <| W_items_nil <| W_len_list (.inr (.inl ha)) (by omega) fun t1 =>
      W_Call_Name <| W_gname (bl B he "len" (.builtin "len")) rfl rfl <| W_callWith_b <| W_items_cons <| W_name nm (.there .here) <| W_items_nil <| W_len_list (.inr (.inl hb)) (by omega) fun t2 => W_ne <| W_truthy_bool ?_
    rw [if_neg (by simp [hvl, hwl])]
    refine W_or_nil ?_
    rw [if_neg (by simp)]
    refine W_execs_nil <| W_execs_cons <| W_For <| W_Call_Name <| W_gname (bl B he "range" (.type "range")) rfl rfl <| W_callWith_t <| W_items_cons <| W_Call_Name <| W_gname (bl B he "len" (.builtin "len")) rfl rfl <| W_callWith_b <| W_items_cons <| W_name nm (.there .here) <|
      W_items_nil <| W_len_list (.inr (.inl hb)) (by omega) fun t3 => W_items_nil <| W_range1 fun rg ta tb tc U1 frg eU => ?_
    subst eU
    refine W_iter_range (.inl (upd_same ..)) (by omega) (by omega) (by omega) (by omega) fun it o hf ho => ?_
    have ez : ((ws.length : Int) - 0).toNat = l.length := by omega
    rw [ez] at ho
    refine ⟨it, rngIt 0 l.length, l.length, fun _ => True, fun i v => ∃ t, v = .int (0 + i) t, fun i σ => ∃ pv o, rngIt 0 l.length i o ∧ σ = ⟨⟨env, ["told", "want", "k"], [some (.ref a), some (.ref b), pv], true⟩ :: fr, F, upd (upd U rg _) it o⟩,
      rfl, itOk_range hr.calm, ⟨none, o, ho, rfl⟩, ?_, ?_, ?_⟩
    · rintro i σ ⟨pv, o, ho, rfl⟩
      exact ⟨⟨o, upd_same .., ho⟩, trivial⟩
    · rintro i σ o' v ⟨pv, o, ho, rfl⟩ hi ⟨tv, rfl⟩ ho'
      obtain ⟨t, v1, ht, hv1, hd1⟩ := hvs.get hi
      obtain ⟨t', w1, ht', hw1, hd2⟩ := hws.get hi
      rw [ht] at ht'
      cases ht'
      refine W_assign_Name nm (.there (.there .here)) ?_
      rw [upd_upd]
      refine W_execs_cons <| W_If <| W_isTrue_Not <| W_isTrue_val <| W_Call_Name <| W_gname (gl B he "_law_alike" (.ref 208)) rfl rfl <| W_callWith B (by kernel_rfl) <| W_items_cons <| W_Subscript <| W_name nm .here <| W_name nm (.there (.there .here)) <|
        W_item_list (.inr (.inl ha)) (by omega) (by omega) (by rw [show ((0 : Int) + (i : Int)).toNat = i by omega]; exact hv1) <| W_items_cons <| W_Subscript <| W_name nm (.there .here) <| W_name nm (.there (.there .here)) <|
        W_item_list (.inr (.inl hb)) (by omega) (by omega) (by rw [show ((0 : Int) + (i : Int)).toNat = i by omega]; exact hw1) <| W_items_nil ?_
      refine W.mono (ih l rfl t (List.mem_of_getElem? ht) (σ := ⟨_ :: fr, F, _⟩) hr hd1 hd2) fun r' σ' ⟨er, es⟩ => ?_
      subst er es
      refine W_truthy_bool ?_
      rw [if_neg (by simp)]
      exact W_execs_nil <| W_execs_nil ⟨_, o', ho', rfl⟩
    · rintro σ ⟨pv, o, ho, rfl⟩
      have e2 : era (upd (upd U rg (rngO 0 (ws.length : Int) 1 ta tb tc)) it o) it = upd U rg (rngO 0 (ws.length : Int) 1 ta tb tc) := era_upd hf.nU
      rw [e2]
      refine W_dropU (le_upd frg.nU) <| W_ret <| W_bool ⟨_, rfl, rfl, rfl⟩
theorem c_alike (B : Base X (Mine.hd.heap_39 P)) : ∀ (d : Nat) {t : T}, depth t ≤ d → Ok t → AlikeC X t (d + 1)
  | 0, t, h, hok => alike_of B hok fun l e => by subst e; simp [depth] at h
  | d + 1, t, h, hok => alike_of B hok fun l e t' ht => by
    subst e
    refine c_alike B d ?_ (hok.2.mem t' ht)
    have := depths_mem ht
    simp only [depth] at h; omega
end
end Mine
end

section
open PySem PySem.W PyProof.Rows PySem.Calls
set_option Elab.async false
set_option maxRecDepth 100000
namespace Mine

section
variable {P : Params} {X : Cx} {A : Around} {σ : St} {env : Env}

theorem W_from_bytes (B : Base X (Mine.hd.heap_39 P)) {e : Expr} {p1 ap cp pos : Pos} {k : Nat} {Q : Value → St → Prop} {f : Fram} (hg : GName X env "int" (.type "int")) (hf : σ.fr.head? = some f) (hfe : f.env = env)
    (h : ∀ F', Le σ.F F' → W X A ⟨σ.fr, F', σ.U⟩ (eval e env) fun v σ₁ => ∃ lv o, Oct X σ₁ lv v o ∧ o.length ≤ 8 ∧ Le F' σ₁.F ∧ ∀ t, Q (.int (num o : Nat) t) σ₁)
    (he : starEach [e, .Constant (.str "big") k cp] env = (false, eval e env) :: starEach [.Constant (.str "big") k cp] env := by rfl) {pl : Sem Bool}
    (heq : eval (.Call (.Attribute (.Name "int" p1) "from_bytes" ap) [e, .Constant (.str "big") k cp] [] pos) env = (do
      let ov ← eval (.Name "int" p1) env
      standAt ap.atName
      let (f, first) ← holding [ov] (getMethod ov "from_bytes" pl)
      callWith pos f first (backTo pos (starEach [e, .Constant (.str "big") k cp] env)) (backToKw pos (keywordEach [] env))) := by rfl) :
    W X A σ (eval (.Call (.Attribute (.Name "int" p1) "from_bytes" ap) [e, .Constant (.str "big") k cp] [] pos) env) Q := by
  intro s E O
  refine methodCall_KW (pl := pl) (he := heq) ?_
  refine (W_gname (Q := fun v σ' => v = .type "int" ∧ σ' = σ) hg hf hfe ⟨rfl, rfl⟩).go O fun v s₁ σ₁ O₁ q₁ => ?_
  obtain ⟨rfl, rfl⟩ := q₁
  refine meth_fb (B.inK O₁) (by rfl) ?_
  obtain ⟨fr1, O₂⟩ := O₁.pushF KFB.bound rfl
  have O₂ := O₂.toks (s₁.toks + 1)
  generalize hx : s₁.heap.objs.size = x at fr1 O₂ ⊢
  have L1 : Le σ₁.F (upd σ₁.F x KFB.bound) := le_upd fr1.nF
  have hsp : W X A ⟨σ₁.fr, upd σ₁.F x KFB.bound, σ₁.U⟩ (spliced (backTo pos (starEach [e, .Constant (.str "big") k cp] env))) (fun vs σ' => ∃ v lv o u, vs = [v, .str "big" u] ∧ Oct X σ' lv v o ∧ o.length ≤ 8 ∧ σ'.F x = some KFB.bound ∧ ∀ t, Q (.int (num o : Nat) t) σ') :=
    W_items_cons ((h _ L1).mono fun v σ' ⟨lv, o, h1, h2, h3, h4⟩ => W_items_cons <| W_str fun u => W_items_nil ⟨v, lv, o, u, rfl, h1, h2, h3 _ _ (upd_same ..), h4⟩) he
  rw [he] at hsp ⊢
  refine KFB.callWith_fields rfl (evalArgs_plain (hsp.go O₂ fun vs s₃ σ₃ O₃ q₃ => ?_))
  · obtain ⟨v, lv, o, u, rfl, h1, h2, h3, h4⟩ := q₃
    have hxs := O₃.frz _ _ h3
    refine ⟨hxs, ?_⟩
    show wpAny _ A (call (.ref x) [v, .str (PySem.Str.ofString "big") u]) _ E s₃
    cases lv with
    | false =>
      obtain ⟨t, rfl⟩ := h1
      exact call_fb hxs KFB.check_fb (fun z => fb_bytes h2 z) ⟨_, O₃.toks _, h4 _⟩
    | true =>
      obtain ⟨a, rfl, ha⟩ := h1
      exact call_fb hxs check_fb_ba (fun z => fb_ba (O₃.live ha) h2 z) ⟨_, O₃.toks _, h4 _⟩

theorem c_big (B : Base X (Mine.hd.heap_39 P)) {lv : Bool} {v : Value} {o : List UInt8} (r : Room A 1) (ho : Oct X σ lv v o) (hz : o.length ≤ 8) :
    W X A σ (call (.ref 62) [v]) fun w σ' => Grow σ σ' ∧ ∃ t, w = .int (num o : Nat) t := by
  obtain ⟨fr, F, U⟩ := σ
  refine W_callP B ["value"] ["value"] [some v] r.d (by rfl) fun env he nm => ?_
  refine W_ret <| W_from_bytes B (bl B he "int" (.type "int")) rfl rfl fun F' L => W_name nm .here ⟨lv, o, ?_, hz, .refl _, fun t => ⟨_, rfl, ⟨F', L, rfl⟩, t, rfl⟩⟩
  cases lv with
  | false => exact ho
  | true => obtain ⟨a, e, h⟩ := ho; exact ⟨a, e, h.le rfl L⟩
theorem Oct.le {σ' : St} {lv : Bool} {v : Value} {o : List UInt8} (h : Oct X σ lv v o) (hU : σ'.U = σ.U) (hF : Le σ.F σ'.F) : Oct X σ' lv v o := by
  cases lv with
  | false => exact h
  | true => obtain ⟨a, e, h⟩ := h; exact ⟨a, e, h.le hU hF⟩
theorem Oct.leU {σ' : St} {lv : Bool} {v : Value} {o : List UInt8} (h : Oct X σ lv v o) (hU : Le σ.U σ'.U) (hF : Le σ.F σ'.F) : Oct X σ' lv v o := by
  cases lv with
  | false => exact h
  | true =>
    obtain ⟨a, e, h⟩ := h
    refine ⟨a, e, ?_⟩
    rcases h with h | h | h
    · exact .inl (hU _ _ h)
    · exact .inr (.inl (hF _ _ h))
    · exact .inr (.inr h)

/-- is_bytes of a bytearray -/
theorem c_isbytes (B : Base X (Mine.hd.heap_39 P)) {v : Value} {o : List UInt8} (r : Room A 1) (ho : Oct X σ true v o) :
    W X A σ (call (.ref 55) [v]) fun w σ' => Grow σ σ' ∧ w = .bool true := by
  obtain ⟨fr, F, U⟩ := σ
  refine W_callP B ["value"] ["value"] [some v] r.d (by rfl) fun env he nm => ?_
  refine W_ret <| W_Call_Name <| W_gname (bl B he "isinstance" (.builtin "isinstance")) rfl rfl <| W_callWith_b <| W_items_cons <| W_name nm .here <| W_items_cons <| W_Tuple <| W_items_cons <|
    W_gname (bl B he "bytes" (.type "bytes")) rfl rfl <| W_items_cons <| W_gname (bl B he "bytearray" (.type "bytearray")) rfl rfl <| W_items_nil ⟨by simp [sizeLine], fun a F' L ha _ => W_items_nil ?_⟩
  obtain ⟨x, rfl, hx⟩ := ho
  intro s E O
  refine ba_isi_tuple (ba_ty (O.live (hx.le rfl L))) (O.frz _ _ ha) fun tk => ⟨_, O.toks _, _, rfl, ⟨F', L, rfl⟩, rfl⟩
end
end Mine
end

section
open PySem PySem.W PyProof.Rows PySem.Calls
set_option Elab.async false
set_option maxRecDepth 100000
namespace Mine

/-- a new octet value; a bytearray stands among the mutable objects -/
def OctU (lv : Bool) (v : Value) (o : List UInt8) (U U' : Mp) : Prop := match lv with
  | false => (∃ t, v = .bytes o.toArray t) ∧ U' = U
  | true => ∃ a, v = .ref a ∧ U a = none ∧ U' = upd U a (baO o)
theorem OctU.oct {X : Cx} {lv : Bool} {v : Value} {o : List UInt8} {U U' : Mp} (h : OctU lv v o U U') {fr : List Fram} {F : Mp} : Oct X ⟨fr, F, U'⟩ lv v o := by
  cases lv with
  | false => exact h.1
  | true => obtain ⟨a, rfl, _, rfl⟩ := h; exact ⟨a, rfl, .inl (upd_same ..)⟩
theorem OctU.le {lv : Bool} {v : Value} {o : List UInt8} {U U' : Mp} (h : OctU lv v o U U') : Le U U' := by
  cases lv with
  | false => rw [h.2]; exact .refl _
  | true => obtain ⟨a, rfl, n, rfl⟩ := h; exact le_upd n
theorem OctN.u {X : Cx} {σ : St} {lv : Bool} {v : Value} {o : List UInt8} {U' : Mp} (h : OctN X σ lv v o U') : OctU lv v o σ.U U' := by
  cases lv with
  | false => exact h
  | true => obtain ⟨a, e, f, e'⟩ := h; exact ⟨a, e, f.nU, e'⟩
/-- another, without the first -/
theorem OctU.swap {lv : Bool} {v w : Value} {o c : List UInt8} {U U' U'' : Mp} (h : OctU lv v o U U') (k : OctU lv w c U' U'') : ∃ V, OctU lv w c U V ∧ Le V U'' := by
  cases lv with
  | false => exact ⟨U, ⟨k.1, rfl⟩, by rw [k.2, h.2]; exact .refl _⟩
  | true =>
    obtain ⟨a, rfl, n, rfl⟩ := h
    obtain ⟨b, rfl, n', rfl⟩ := k
    have hab : b ≠ a := fun q => by subst q; rw [upd_same] at n'; cases n'
    rw [upd_ne hab] at n'
    exact ⟨upd U b (baO c), ⟨b, rfl, n', rfl⟩, Le.upd (le_upd n)⟩

section
variable {P : Params} {X : Cx} {A : Around} {σ : St} {env : Env}

theorem W_cut {value le he : Expr} {p pos : Pos} {Q : Value → St → Prop}
    (h : W X A σ (eval value env) fun v σ₁ => W X A σ₁ (eval le env) fun lw σ₂ => W X A σ₂ (eval he env) fun hw σ₃ => ∃ (lv : Bool) (o : List UInt8) (lo hi : Nat) (x y : Int) (t u : Tok), Oct X σ₃ lv v o ∧ lw = .int x t ∧ hw = .int y u ∧ x = (lo : Int) ∧ y = (hi : Int) ∧ o.length ≤ 16777216 ∧
      ∀ F' v' U', Le σ₃.F F' → OctU lv v' ((o.drop lo).take (hi - lo)) σ₃.U U' → Q v' ⟨σ₃.fr, F', U'⟩) : W X A σ (eval (.Subscript value (.Slice (some le) (some he) none p) pos) env) Q := by
  refine W_Subscript <| h.mono fun v σ₁ h => W_Slice <| W_part <| h.mono fun lw σ₂ h => W_part <| h.mono fun hw σ₃ h => ?_
  obtain ⟨lv, o, lo, hi, x, y, t, u, ho, rfl, rfl, rfl, rfl, hz, hq⟩ := h
  intro a F' L ha
  exact W_oct_slice (ho.le (σ' := ⟨σ₃.fr, F', σ₃.U⟩) rfl L) (.inr (.inl ha)) hz fun v' U' hN => hq F' v' U' L hN.u

abbrev pfxNs : List Str := ["rlp", "start", "b0", "ll", "len_prefix", "l"]
def pTy : T → String
  | .leaf _ => "bytes"
  | .node _ => "list"
def pHdr : T → List UInt8
  | .leaf b => hdr 128 b.length
  | .node l => hdr 192 (codes l).length
def pBody : T → List UInt8
  | .leaf b => b
  | .node l => codes l
theorem code_eq (t : T) : code t = pHdr t ++ pBody t := by cases t <;> simp [code, pHdr, pBody]
def PfxP (X : Cx) (lv : Bool) (u : T) (start : Nat) (σ : St) (w : Value) (σ' : St) : Prop :=
  ∃ a F' U' p t1 t2, w = .ref a ∧ Le σ.F F' ∧ σ' = ⟨σ.fr, F', U'⟩ ∧ OctU lv p (pHdr u) σ.U U' ∧ F' a = some (tupO [p, .type (pTy u), .int ((pBody u).length : Nat) t1, .int ((start + (pHdr u).length : Nat) : Int) t2])

theorem at_mid {o pre x post : List UInt8} {i : Nat} {c : UInt8} (h : o = pre ++ x ++ post) (hc : x[i]? = some c) : o[pre.length + i]? = some c := by
  have hi := (List.getElem?_eq_some_iff.mp hc).1
  rw [h, List.append_assoc, List.getElem?_append_right (by omega), Nat.add_sub_cancel_left, List.getElem?_append_left hi]; exact hc

set_option maxHeartbeats 4000000 in
theorem c_prefix (B : Base X (Mine.hd.heap_39 P)) {lv : Bool} {v : Value} {o pre post : List UInt8} {u : T} {start : Nat} {tk : Tok} (r : Room A 2) (ho : Oct X σ lv v o) (hz : o.length ≤ 1000000) (hok : Ok u)
    (e : o = pre ++ code u ++ post) (hp : pre.length = start) : W X A σ (call (.ref 76) [v, .int (start : Nat) tk]) (PfxP X lv u start σ) := by
  obtain ⟨fr, F, U⟩ := σ
  refine W_callP B ["rlp", "start"] pfxNs [some v, some (.int (start : Nat) tk), none, none, none, none] r.d (by rfl) fun env he nm => ?_
  have hr : Room (A.deeper env) 1 := r.deeper env
  have Q0 : ∀ {F' : Mp} {U' : Mp} {vs : List (Option Value)}, Le U U' → Le F F' → Oct X ⟨⟨env, pfxNs, vs, true⟩ :: fr, F', U'⟩ lv v o := fun h1 h2 => ho.leU (σ := ⟨fr, F, U⟩) h1 h2
  have hz' : o.length ≤ 16777216 := by omega
  have e' : o = pre ++ pHdr u ++ (pBody u ++ post) := by rw [e, code_eq]; simp
  have hol := congrArg List.length e'
  simp only [List.length_append] at hol
  have nb0 : ∀ {c : UInt8} {rest : List UInt8}, pHdr u = c :: rest → o[((start : Nat) : Int).toNat]? = some c := fun h => by
    have := at_mid (i := 0) e' (by rw [h]; rfl)
    rw [Nat.add_zero, hp] at this
    rw [Int.toNat_natCast]; exact this
  have s1 : (start : Int) + 1 = ((start + 1 : Nat) : Int) := by omega
  -- a piece of the header
  have cut : ∀ {i j : Nat} {x : List UInt8}, (pHdr u).drop i = x ++ (pHdr u).drop j → j = i + x.length → j ≤ (pHdr u).length → (o.drop (start + i)).take (start + j - (start + i)) = x := fun {i j x} h h1 h2 => by
    refine cut_mid (pre := pre ++ (pHdr u).take i) (post := (pHdr u).drop j ++ (pBody u ++ post)) ?_ ?_ (by omega)
    · conv => lhs; rw [e', ← List.take_append_drop i (pHdr u), h]
      simp
    · simp only [List.length_append, List.length_take, hp]; omega
  have fin : ∀ {p : Value} {F1 U1 : Mp} {vs : List (Option Value)} {t1 t2 : Tok} {a : Addr}, Le F F1 → OctU lv p (pHdr u) U U1 → F1 a = some (tupO [p, .type (pTy u), .int ((pBody u).length : Nat) t1, .int ((start + (pHdr u).length : Nat) : Int) t2]) →
      RetQ fr (PfxP X lv u start ⟨fr, F, U⟩) (.ret (.ref a)) ⟨⟨env, pfxNs, vs, true⟩ :: fr, F1, U1⟩ := fun {p F1 U1 vs t1 t2 a} h1 h2 h3 => retM ⟨_, rfl, a, F1, U1, p, t1, t2, rfl, h1, rfl, h2, h3⟩
  cases u with
  | leaf b =>
    by_cases hs : b.length < 56
    · have hh : pHdr (.leaf b) = [UInt8.ofNat (128 + b.length)] := by simp [pHdr, hdr, hs]
      have hb0 : (UInt8.ofNat (128 + b.length)).toNat = 128 + b.length := ofNat_toNat (by omega)
      have h2 := hok.1
      refine W_execs_cons <| W_Assign_Name <| W_Subscript <| W_name nm .here <| W_name nm (.there .here) <| W_oct_item (Q0 (.refl _) (.refl _)) (by omega) (by omega) (nb0 hh) fun t0 => W_store nm (.there (.there .here)) ?_
      rw [hb0]
      refine W_execs_cons <| W_If <| W_isTrue_Compare <| W_name nm (.there (.there .here)) <| W_int fun t1 => W_lt <| W_truthy_bool ?_
      rw [if_neg (by simp; omega)]
      refine W_execs_cons <| W_If <| W_isTrue_Compare <| W_name nm (.there (.there .here)) <| W_gname (gl B he "SHORT_STRING" _ (e := rfl)) rfl rfl <| W_lt <| W_truthy_bool ?_
      rw [if_pos (by simp; omega)]
      refine W_execs_cons <| W_If <| W_isTrue_And <| W_and_cons <| W_isTrue_Compare <| W_BinOp <| W_name nm (.there (.there .here)) <| W_int fun t2 => W_sub fun t3 => W_int fun t4 => W_eq <| W_truthy_bool ?_
      rw [if_neg (by simp; omega), if_neg (by simp)]
      refine W_execs_nil <| W_retR <| W_Tuple <| W_items_cons <| W_cut <| W_name nm .here <| W_name nm (.there .here) <| W_BinOp <| W_name nm (.there .here) <| W_int fun t5 => W_add fun t6 => ⟨lv, o, start, start + 1, _, _, _, _, Q0 (.refl _) (.refl _), rfl, rfl, rfl, s1, hz', fun F1 p U1 L1 hN => ?_⟩
      rw [show (o.drop start).take (start + 1 - start) = pHdr (.leaf b) from cut (i := 0) (j := 1) (by rw [hh]; rfl) (by rw [hh]; rfl) (by rw [hh]; simp)] at hN
      refine W_items_cons <| W_gname (bl B he "bytes" (.type "bytes")) rfl rfl <| W_items_cons <| W_BinOp <| W_name nm (.there (.there .here)) <| W_int fun t7 => W_sub fun t8 => W_items_cons <| W_BinOp <| W_name nm (.there .here) <| W_int fun t9 => W_add fun t10 => W_items_nil ⟨by simp [sizeLine], fun a F2 L2 ha _ => ?_⟩
      refine (show RetQ fr (PfxP X lv (.leaf b) start ⟨fr, F, U⟩) (.ret _) _ from fin (L1.trans L2) hN (t1 := t8) (t2 := t10) (ha.trans ?_))
      rw [hh]
      have q1 : (((128 + b.length : Nat) : Int) - 128) = (((pBody (.leaf b)).length : Nat) : Int) := by simp [pBody]; omega
      rw [q1, s1]; rfl
    · have hn : b.length < 65536 := hok.2
      have hh : pHdr (.leaf b) = UInt8.ofNat (128 + 55 + (digits b.length).length) :: digits b.length := by simp [pHdr, hdr, hs]
      have hdl := digits_len hn
      have hdp := digits_ne (n := b.length) (by omega)
      have hb0 : (UInt8.ofNat (128 + 55 + (digits b.length).length)).toNat = 128 + 55 + (digits b.length).length := ofNat_toNat (by omega)
      have hlen : (pHdr (.leaf b)).length = 1 + (digits b.length).length := by rw [hh]; simp; omega
      obtain ⟨d0, dr, hd⟩ := List.exists_cons_of_ne_nil (l := digits b.length) (fun q => by rw [q] at hdp; simp at hdp)
      have hd0 : d0 ≠ 0 := digits_head (n := b.length) (by omega) d0 (by rw [hd]; rfl)
      refine W_execs_cons <| W_Assign_Name <| W_Subscript <| W_name nm .here <| W_name nm (.there .here) <| W_oct_item (Q0 (.refl _) (.refl _)) (by omega) (by omega) (nb0 hh) fun t0 => W_store nm (.there (.there .here)) ?_
      rw [hb0]
      refine W_execs_cons <| W_If <| W_isTrue_Compare <| W_name nm (.there (.there .here)) <| W_int fun t1 => W_lt <| W_truthy_bool ?_
      rw [if_neg (by simp; omega)]
      refine W_execs_cons <| W_If <| W_isTrue_Compare <| W_name nm (.there (.there .here)) <| W_gname (gl B he "SHORT_STRING" _ (e := rfl)) rfl rfl <| W_lt <| W_truthy_bool ?_
      rw [if_neg (by simp; omega)]
      refine W_execs_cons <| W_If <| W_isTrue_Compare <| W_name nm (.there (.there .here)) <| W_int fun t2 => W_lt <| W_truthy_bool ?_
      rw [if_pos (by simp; omega)]
      -- ll
      refine W_execs_cons <| W_Assign_Name <| W_BinOp <| W_name nm (.there (.there .here)) <| W_int fun t3 => W_sub fun t4 => W_store nm (.there (.there (.there .here))) ?_
      have ell : ((128 + 55 + (digits b.length).length : Nat) : Int) - 183 = (((digits b.length).length : Nat) : Int) := by omega
      rw [ell]
      -- rlp[start + 1:start + 2] == b'\x00'
      refine W_execs_cons <| W_If <| W_isTrue_Compare <| W_cut <| W_name nm .here <| W_BinOp <| W_name nm (.there .here) <| W_int fun t5 => W_add fun t6 => W_BinOp <| W_name nm (.there .here) <| W_int fun t7 => W_add fun t8 =>
        ⟨lv, o, start + 1, start + 2, _, _, _, _, Q0 (.refl _) (.refl _), rfl, rfl, s1, by omega, hz', fun F1 p U1 L1 hN => ?_⟩
      rw [show (o.drop (start + 1)).take (start + 2 - (start + 1)) = [d0] from cut (i := 1) (j := 2) (by rw [hh, hd]; rfl) rfl (by rw [hlen, hd]; simp only [List.length_cons]; omega)] at hN
      refine W_const_bytes fun t9 => W_oct_eq hN.oct hr.u <| W_truthy_bool ?_
      rw [if_neg (by simp [hd0])]
      refine W_execs_nil <| W_dropU hN.le ?_
      -- len_prefix
      refine W_execs_cons <| W_Assign_Name <| W_cut <| W_name nm .here <| W_BinOp <| W_name nm (.there .here) <| W_int fun t10 => W_add fun t11 => W_BinOp <| W_BinOp <| W_name nm (.there .here) <| W_int fun t12 => W_add fun t13 => W_name nm (.there (.there (.there .here))) <| W_add fun t14 =>
        ⟨lv, o, start + 1, start + (1 + (digits b.length).length), _, _, _, _, Q0 (.refl _) L1, rfl, rfl, s1, by omega, hz', fun F2 lp U2 L2 hL => ?_⟩
      rw [show (o.drop (start + 1)).take (start + (1 + (digits b.length).length) - (start + 1)) = digits b.length from cut (i := 1) (j := 1 + (digits b.length).length) (by rw [hh]; simp [List.drop_eq_nil_of_le, Nat.add_comm 1]) rfl (by omega)] at hL
      refine W_store nm (.there (.there (.there (.there .here)))) ?_
      -- l
      refine W_execs_cons <| W_Assign_Name <| W_Call_Name <| W_gname (gl B he "big_endian_to_int" (.ref 62)) rfl rfl <| W_callWith B (by kernel_rfl) <| W_items_cons <| W_name nm (.there (.there (.there (.there .here)))) <| W_items_nil ?_
      refine W.mono (c_big B hr (hL.oct (fr := _ :: fr) (F := F2)) (by omega)) fun w σ' ⟨⟨F3, (L3 : Le F2 F3), e3⟩, t15, hw⟩ => ?_
      subst e3 hw
      rw [num_digits]
      refine W_store nm (.there (.there (.there (.there (.there .here))))) ?_
      refine W_execs_cons <| W_If <| W_isTrue_Compare <| W_name nm (.there (.there (.there (.there (.there .here))))) <| W_int fun t16 => W_lt <| W_truthy_bool ?_
      rw [if_neg (by simp; omega)]
      -- the tuple
      refine W_execs_nil <| W_retR <| W_shrink <| W_Tuple <| W_items_cons <| W_BinOp <| W_cut <| W_name nm .here <| W_name nm (.there .here) <| W_BinOp <| W_name nm (.there .here) <| W_int fun t17 => W_add fun t18 =>
        ⟨lv, o, start, start + 1, _, _, _, _, Q0 hL.le (L1.trans (L2.trans L3)), rfl, rfl, rfl, s1, hz', fun F4 q U3 L4 hq => ?_⟩
      rw [show (o.drop start).take (start + 1 - start) = [UInt8.ofNat (128 + 55 + (digits b.length).length)] from cut (i := 0) (j := 1) (by rw [hh]; rfl) rfl (by omega)] at hq
      refine W_name nm (.there (.there (.there (.there .here)))) <| W_oct_add hq.oct ((hL.oct (fr := []) (F := F4)).leU (σ' := ⟨_, F4, U3⟩) hq.le (.refl _)) (by simp; omega) fun rr U4 hR => ?_
      have hR := hR.u
      obtain ⟨V, hV, lV⟩ := hq.swap hR
      obtain ⟨V2, hV2, lV2⟩ := hL.swap hV
      refine W_items_cons <| W_gname (bl B he "bytes" (.type "bytes")) rfl rfl <| W_items_cons <| W_name nm (.there (.there (.there (.there (.there .here))))) <| W_items_cons <| W_BinOp <| W_BinOp <| W_name nm (.there .here) <| W_int fun t19 => W_add fun t20 => W_name nm (.there (.there (.there .here))) <| W_add fun t21 =>
        W_items_nil ⟨by simp [sizeLine], fun a F5 L5 ha _ => ⟨V2, lV2.trans lV, ?_⟩⟩
      refine (show RetQ fr (PfxP X lv (.leaf b) start ⟨fr, F, U⟩) (.ret _) _ from fin (L1.trans (L2.trans (L3.trans (L4.trans L5)))) (by rw [hh]; exact hV2) (t1 := t15) (t2 := t21) (ha.trans ?_))
      have q1 : (start : Int) + 1 + ((digits b.length).length : Int) = ((start + (pHdr (.leaf b)).length : Nat) : Int) := by rw [hlen]; omega
      rw [q1]; rfl
  | node l =>
    have hn : (codes l).length < 65536 := hok.1
    by_cases hs : (codes l).length < 56
    · have hh : pHdr (.node l) = [UInt8.ofNat (192 + (codes l).length)] := by simp [pHdr, hdr, hs]
      have hb0 : (UInt8.ofNat (192 + (codes l).length)).toNat = 192 + (codes l).length := ofNat_toNat (by omega)
      refine W_execs_cons <| W_Assign_Name <| W_Subscript <| W_name nm .here <| W_name nm (.there .here) <| W_oct_item (Q0 (.refl _) (.refl _)) (by omega) (by omega) (nb0 hh) fun t0 => W_store nm (.there (.there .here)) ?_
      rw [hb0]
      refine W_execs_cons <| W_If <| W_isTrue_Compare <| W_name nm (.there (.there .here)) <| W_int fun t1 => W_lt <| W_truthy_bool ?_
      rw [if_neg (by simp; omega)]
      refine W_execs_cons <| W_If <| W_isTrue_Compare <| W_name nm (.there (.there .here)) <| W_gname (gl B he "SHORT_STRING" _ (e := rfl)) rfl rfl <| W_lt <| W_truthy_bool ?_
      rw [if_neg (by simp; omega)]
      refine W_execs_cons <| W_If <| W_isTrue_Compare <| W_name nm (.there (.there .here)) <| W_int fun t2 => W_lt <| W_truthy_bool ?_
      rw [if_neg (by simp; omega)]
      refine W_execs_cons <| W_If <| W_isTrue_Compare <| W_name nm (.there (.there .here)) <| W_BinOp <| W_int fun t3 => W_int fun t4 => W_add fun t4' => W_lt <| W_truthy_bool ?_
      rw [if_pos (by simp; omega)]
      refine W_retR <| W_Tuple <| W_items_cons <| W_cut <| W_name nm .here <| W_name nm (.there .here) <| W_BinOp <| W_name nm (.there .here) <| W_int fun t5 => W_add fun t6 => ⟨lv, o, start, start + 1, _, _, _, _, Q0 (.refl _) (.refl _), rfl, rfl, rfl, s1, hz', fun F1 p U1 L1 hN => ?_⟩
      rw [show (o.drop start).take (start + 1 - start) = pHdr (.node l) from cut (i := 0) (j := 1) (by rw [hh]; rfl) (by rw [hh]; rfl) (by rw [hh]; simp)] at hN
      refine W_items_cons <| W_gname (bl B he "list" (.type "list")) rfl rfl <| W_items_cons <| W_BinOp <| W_name nm (.there (.there .here)) <| W_int fun t7 => W_sub fun t8 => W_items_cons <| W_BinOp <| W_name nm (.there .here) <| W_int fun t9 => W_add fun t10 => W_items_nil ⟨by simp [sizeLine], fun a F2 L2 ha _ => ?_⟩
      refine (show RetQ fr (PfxP X lv (.node l) start ⟨fr, F, U⟩) (.ret _) _ from fin (L1.trans L2) hN (t1 := t8) (t2 := t10) (ha.trans ?_))
      rw [hh]
      have q1 : (((192 + (codes l).length : Nat) : Int) - 192) = (((pBody (.node l)).length : Nat) : Int) := by simp [pBody]; omega
      rw [q1, s1]; rfl
    · have hh : pHdr (.node l) = UInt8.ofNat (192 + 55 + (digits (codes l).length).length) :: digits (codes l).length := by simp [pHdr, hdr, hs]
      have hdl := digits_len hn
      have hdp := digits_ne (n := (codes l).length) (by omega)
      have hb0 : (UInt8.ofNat (192 + 55 + (digits (codes l).length).length)).toNat = 192 + 55 + (digits (codes l).length).length := ofNat_toNat (by omega)
      have hlen : (pHdr (.node l)).length = 1 + (digits (codes l).length).length := by rw [hh]; simp; omega
      obtain ⟨d0, dr, hd⟩ := List.exists_cons_of_ne_nil (l := digits (codes l).length) (fun q => by rw [q] at hdp; simp at hdp)
      have hd0 : d0 ≠ 0 := digits_head (n := (codes l).length) (by omega) d0 (by rw [hd]; rfl)
      refine W_execs_cons <| W_Assign_Name <| W_Subscript <| W_name nm .here <| W_name nm (.there .here) <| W_oct_item (Q0 (.refl _) (.refl _)) (by omega) (by omega) (nb0 hh) fun t0 => W_store nm (.there (.there .here)) ?_
      rw [hb0]
      refine W_execs_cons <| W_If <| W_isTrue_Compare <| W_name nm (.there (.there .here)) <| W_int fun t1 => W_lt <| W_truthy_bool ?_
      rw [if_neg (by simp; omega)]
      refine W_execs_cons <| W_If <| W_isTrue_Compare <| W_name nm (.there (.there .here)) <| W_gname (gl B he "SHORT_STRING" _ (e := rfl)) rfl rfl <| W_lt <| W_truthy_bool ?_
      rw [if_neg (by simp; omega)]
      refine W_execs_cons <| W_If <| W_isTrue_Compare <| W_name nm (.there (.there .here)) <| W_int fun t2 => W_lt <| W_truthy_bool ?_
      rw [if_neg (by simp; omega)]
      refine W_execs_cons <| W_If <| W_isTrue_Compare <| W_name nm (.there (.there .here)) <| W_BinOp <| W_int fun v3 => W_int fun v4 => W_add fun v5 => W_lt <| W_truthy_bool ?_
      rw [if_neg (by simp; omega)]
      -- ll
      refine W_execs_cons <| W_Assign_Name <| W_BinOp <| W_BinOp <| W_BinOp <| W_name nm (.there (.there .here)) <| W_int fun t3 => W_sub fun t3' => W_int fun t3'' => W_sub fun t4' => W_int fun t4'' => W_add fun t4 => W_store nm (.there (.there (.there .here))) ?_
      have ell : ((192 + 55 + (digits (codes l).length).length : Nat) : Int) - 192 - 56 + 1 = (((digits (codes l).length).length : Nat) : Int) := by omega
      rw [ell]
      -- rlp[start + 1:start + 2] == b'\x00'
      refine W_execs_cons <| W_If <| W_isTrue_Compare <| W_cut <| W_name nm .here <| W_BinOp <| W_name nm (.there .here) <| W_int fun t5 => W_add fun t6 => W_BinOp <| W_name nm (.there .here) <| W_int fun t7 => W_add fun t8 =>
        ⟨lv, o, start + 1, start + 2, _, _, _, _, Q0 (.refl _) (.refl _), rfl, rfl, s1, by omega, hz', fun F1 p U1 L1 hN => ?_⟩
      rw [show (o.drop (start + 1)).take (start + 2 - (start + 1)) = [d0] from cut (i := 1) (j := 2) (by rw [hh, hd]; rfl) rfl (by rw [hlen, hd]; simp only [List.length_cons]; omega)] at hN
      refine W_const_bytes fun t9 => W_oct_eq hN.oct hr.u <| W_truthy_bool ?_
      rw [if_neg (by simp [hd0])]
      refine W_execs_nil <| W_dropU hN.le ?_
      -- len_prefix
      refine W_execs_cons <| W_Assign_Name <| W_cut <| W_name nm .here <| W_BinOp <| W_name nm (.there .here) <| W_int fun t10 => W_add fun t11 => W_BinOp <| W_BinOp <| W_name nm (.there .here) <| W_int fun t12 => W_add fun t13 => W_name nm (.there (.there (.there .here))) <| W_add fun t14 =>
        ⟨lv, o, start + 1, start + (1 + (digits (codes l).length).length), _, _, _, _, Q0 (.refl _) L1, rfl, rfl, s1, by omega, hz', fun F2 lp U2 L2 hL => ?_⟩
      rw [show (o.drop (start + 1)).take (start + (1 + (digits (codes l).length).length) - (start + 1)) = digits (codes l).length from cut (i := 1) (j := 1 + (digits (codes l).length).length) (by rw [hh]; simp [List.drop_eq_nil_of_le, Nat.add_comm 1]) rfl (by omega)] at hL
      refine W_store nm (.there (.there (.there (.there .here)))) ?_
      -- l
      refine W_execs_cons <| W_Assign_Name <| W_Call_Name <| W_gname (gl B he "big_endian_to_int" (.ref 62)) rfl rfl <| W_callWith B (by kernel_rfl) <| W_items_cons <| W_name nm (.there (.there (.there (.there .here)))) <| W_items_nil ?_
      refine W.mono (c_big B hr (hL.oct (fr := _ :: fr) (F := F2)) (by omega)) fun w σ' ⟨⟨F3, (L3 : Le F2 F3), e3⟩, t15, hw⟩ => ?_
      subst e3 hw
      rw [num_digits]
      refine W_store nm (.there (.there (.there (.there (.there .here))))) ?_
      refine W_execs_cons <| W_If <| W_isTrue_Compare <| W_name nm (.there (.there (.there (.there (.there .here))))) <| W_int fun t16 => W_lt <| W_truthy_bool ?_
      rw [if_neg (by simp; omega)]
      -- the tuple
      refine W_execs_nil <| W_retR <| W_shrink <| W_Tuple <| W_items_cons <| W_BinOp <| W_cut <| W_name nm .here <| W_name nm (.there .here) <| W_BinOp <| W_name nm (.there .here) <| W_int fun t17 => W_add fun t18 =>
        ⟨lv, o, start, start + 1, _, _, _, _, Q0 hL.le (L1.trans (L2.trans L3)), rfl, rfl, rfl, s1, hz', fun F4 q U3 L4 hq => ?_⟩
      rw [show (o.drop start).take (start + 1 - start) = [UInt8.ofNat (192 + 55 + (digits (codes l).length).length)] from cut (i := 0) (j := 1) (by rw [hh]; rfl) rfl (by omega)] at hq
      refine W_name nm (.there (.there (.there (.there .here)))) <| W_oct_add hq.oct ((hL.oct (fr := []) (F := F4)).leU (σ' := ⟨_, F4, U3⟩) hq.le (.refl _)) (by simp; omega) fun rr U4 hR => ?_
      have hR := hR.u
      obtain ⟨V, hV, lV⟩ := hq.swap hR
      obtain ⟨V2, hV2, lV2⟩ := hL.swap hV
      refine W_items_cons <| W_gname (bl B he "list" (.type "list")) rfl rfl <| W_items_cons <| W_name nm (.there (.there (.there (.there (.there .here))))) <| W_items_cons <| W_BinOp <| W_BinOp <| W_name nm (.there .here) <| W_int fun t19 => W_add fun t20 => W_name nm (.there (.there (.there .here))) <| W_add fun t21 =>
        W_items_nil ⟨by simp [sizeLine], fun a F5 L5 ha _ => ⟨V2, lV2.trans lV, ?_⟩⟩
      refine (show RetQ fr (PfxP X lv (.node l) start ⟨fr, F, U⟩) (.ret _) _ from fin (L1.trans (L2.trans (L3.trans (L4.trans L5)))) (by rw [hh]; exact hV2) (t1 := t15) (t2 := t21) (ha.trans ?_))
      have q1 : (start : Int) + 1 + ((digits (codes l).length).length : Int) = ((start + (pHdr (.node l)).length : Nat) : Int) := by rw [hlen]; omega
      rw [q1]; rfl
end
end Mine
end

section
open PySem PySem.W PyProof.Rows PySem.Calls
set_option Elab.async false
set_option maxRecDepth 100000
namespace Mine

/-- the entries of a namespace dict: names and values in order -/
inductive AttEs : List DictEntry → List (Str × Value) → Prop
  | nil : AttEs [] []
  | cons {h t x v es av} : AttEs es av → AttEs (⟨h, .str x t, v⟩ :: es) ((x, v) :: av)
def Att (av : List (Str × Value)) (o : Obj) : Prop := ∃ es n, o = dictOf es n ∧ AttEs es av
theorem isStr_eq (x y : Str) (t : Tok) : (Value.str y t).isStr x = (x == y) := by
  cases h : x == y with
  | true => have := eq_of_beq h; subst this; simp [Value.isStr]
  | false =>
    have : ¬ x = y := fun e => by subst e; simp at h
    simp [Value.isStr]
    first | exact this | exact fun e => this e.symm
theorem att_refKey : ∀ {es : List DictEntry} {av : List (Str × Value)}, AttEs es av → es.any (·.refKey) = false
  | _, _, .nil => rfl
  | _, _, .cons h => by rw [List.any_cons, att_refKey h]; rfl
theorem att_getL {x : Str} : ∀ {es : List DictEntry} {av : List (Str × Value)}, AttEs es av → getL x es = some (av.lookup x)
  | _, _, .nil => rfl
  | _, _, .cons (h := hh) (t := t) (x := y) (v := v) (es := es) (av := av) h => by
    have ih := att_getL (x := x) h
    unfold getL at ih ⊢
    rw [List.find?_cons]
    dsimp only
    rw [isStr_eq, List.lookup_cons]
    cases q : x == y with
    | true => rfl
    | false =>
      rw [List.any_cons, show DictEntry.refKey ⟨hh, .str y t, v⟩ = false from rfl, Bool.false_or]
      exact ih
/-- a name is stored: in its place, or behind -/
def putA (x : Str) (v : Value) : List (Str × Value) → List (Str × Value)
  | [] => [(x, v)]
  | (y, u) :: r => if x == y then (y, v) :: r else (y, u) :: putA x v r
theorem att_putL {x : Str} {hs : Int} {t : Tok} {v : Value} : ∀ {es : List DictEntry} {av : List (Str × Value)}, AttEs es av → AttEs (putL x hs (.str x t) v es) (putA x v av)
  | _, _, .nil => .cons .nil
  | _, _, .cons (x := y) h => by
    unfold putL putA
    simp only [isStr_eq]
    split
    · exact .cons h
    · exact .cons (att_putL h)
theorem putA_len (x : Str) (v : Value) : ∀ av : List (Str × Value), (putA x v av).length ≤ av.length + 1
  | [] => by simp [putA]
  | (y, u) :: r => by
    have := putA_len x v r
    unfold putA
    split
    · simp
    · simp only [List.length_cons]; omega
theorem att_len : ∀ {es : List DictEntry} {av : List (Str × Value)}, AttEs es av → es.length = av.length
  | _, _, .nil => rfl
  | _, _, .cons h => by simp [att_len h]

section
variable {P : Params} {X : Cx} {A : Around} {σ : St} {K : Frag} {C : Addr}

theorem instAt {h : Heap} {ia dx : Addr} {od : Obj} (h1 : h.get? ia = some (instObj C dx)) (h2 : h.get? dx = some od) : InstAt h ia (instObj C dx) C (some od) := ⟨h1, rfl, rfl, h2⟩

theorem W_getA (B : Base X K) {ia dx : Addr} {od : Obj} {av : List (Str × Value)} {x : Str} {v : Value} {expr : Bool} {Q : Value → St → Prop} (hI : Live X σ ia (instObj C dx)) (hD : Live X σ dx od) (hA : Att av od) (hl : av.lookup x = some v) (hv : handedIn v = true) (h : Q v σ)
    (hg : plainGet K C x = true := by kernel_rfl) (hh : hasDictIn K C = true := by kernel_rfl) (ha : findIn K (.ref C) x = some none := by kernel_rfl) : W X A σ (getAttr (.ref ia) x expr) Q := by
  intro s E O
  obtain ⟨es, n, rfl, hes⟩ := hA
  refine get_value (B.inK O) (instAt (O.live hI) (O.live hD)) (plainGet_of hg).1 (findObj_own hh ha rfl ?_) hv ⟨_, O.toks _, h⟩
  rw [lookIn_dict, att_getL hes, hl]

theorem osa_att {prog : Program} {w : World} {s : Shared} {ia dx : Addr} {od : Obj} {av : List (Str × Value)} {x : Str} {v : Value} {tk : Tok} {R : Result → Shared → Prop} (Xk : K.In s.heap) (hI : s.heap.get? ia = some (instObj C dx)) (hD : s.heap.get? dx = some od) (hA : Att av od) (hz : av.length ≤ 900)
    (hp : plainOver K C = true) (ht : takerIn K C x = some none) (hh : (clsIn K C).any (·.hasDict) = true)
    (h : ∀ h' tk od', h'.get? dx = some od' → Att (putA x v av) od' → Heap.SameBut dx s.heap h' → R (.ok (.ret .none)) { s with heap := h', toks := tk }) : codeAny (model prog w) A (.call (.builtin "object.__setattr__") ⟨[.ref ia, .str x tk, v], []⟩) R s := by
  refine osa_open Xk (instAt hI hD) hp ht fun b => ?_
  obtain ⟨cd, hc, hd'⟩ := any_some hh
  obtain ⟨es, n, rfl, hes⟩ := hA
  refine wpAny_bind (wpAny_pure (wpAny_bind (wpAny_bind (wpAny_loadPart hI (wpAny_bind ((looks_clsIn Xk hc).here ?_))))))
  rw [hd']
  refine wpAny_pure (a := some dx) (wpAny_bind (wpAny_pure (wpAny_bind ?_)))
  unfold nsSet
  refine wpAny_bind (wpAny_bind (wpAny_askSetting (wpAny_pure (wpAny_bind (wpAny_mkText (wpAny_bind (wpAny_loadPart hD ?_)))))))
  have c : (!es.toArray.any (·.key.isStr x) && es.toArray.any (·.refKey)) = false := by
    rw [← Array.any_toList, ← Array.any_toList]
    rw [show es.toArray.toList = es from rfl, att_refKey hes, Bool.and_false]
  dsimp only
  rw [aRefKeyMayBeTheName_at, c]
  have hu : (s.heap.update dx (Obj.putName x (PyData.keyHash w.params x) (.str x s.toks) v)).get? dx = some (dictOf (putL x (PyData.keyHash w.params x) (.str x s.toks) v es) (putN x es n)) := by
    refine (Heap.get?_update_self _ hD ?_).trans ?_
    · rw [putName_dict]; rfl
    · rw [putName_dict]
  refine wpAny_updatePart hD ?_
  have hl := att_len (att_putL (x := x) (hs := PyData.keyHash w.params x) (t := s.toks) (v := v) hes)
  have hl2 := putA_len x v av
  refine wpAny_bind (wpAny_lookBehind hu (pastItsLine_dict (by rw [List.size_toArray, sizeLine_eq]; omega)) ?_)
  exact wpAny_pure (h _ _ _ hu ⟨_, _, rfl, att_putL hes⟩ (Heap.SameBut.update ..))
theorem set_att {prog : Program} {w : World} {E : Value → Shared → Prop} {s : Shared} {ia dx : Addr} {od : Obj} {av : List (Str × Value)} {x : Str} {v : Value} {Q : Unit → Shared → Prop} (Xk : K.In s.heap) (hI : s.heap.get? ia = some (instObj C dx)) (hD : s.heap.get? dx = some od) (hA : Att av od) (hz : av.length ≤ 900)
    (hs : findIn K (.ref C) "__setattr__" = some (some (.builtin "object.__setattr__"))) (hp : plainOver K C = true) (ht : takerIn K C x = some none) (hh : (clsIn K C).any (·.hasDict) = true)
    (h : ∀ h' tk od', h'.get? dx = some od' → Att (putA x v av) od' → Heap.SameBut dx s.heap h' → Q () { s with heap := h', toks := tk }) : wpAny (model prog w) A (setAttr (.ref ia) x v) Q E s :=
  set_plain Xk (instAt hI hD) hs (osa_att (s := { s with toks := s.toks + 1 }) Xk hI hD hA hz hp ht hh fun h' tk od' g ha sb => h h' tk od' g ha sb)
theorem W_setA (B : Base X K) {ia dx : Addr} {od : Obj} {av : List (Str × Value)} {x : Str} {v : Value} {Q : Unit → St → Prop} (hI : Live X σ ia (instObj C dx)) (hD : σ.U dx = some od) (hA : Att av od) (hz : av.length ≤ 900)
    (h : ∀ od', Att (putA x v av) od' → Q () ⟨σ.fr, σ.F, upd σ.U dx od'⟩)
    (hs : findIn K (.ref C) "__setattr__" = some (some (.builtin "object.__setattr__")) := by kernel_rfl) (hp : plainOver K C = true := by kernel_rfl) (ht : takerIn K C x = some none := by kernel_rfl) (hh : (clsIn K C).any (·.hasDict) = true := by kernel_rfl) : W X A σ (setAttr (.ref ia) x v) Q :=
  fun _ _ O => set_att (B.inK O) (O.live hI) (O.mts _ _ hD) hA hz hs hp ht hh fun _ _ od' g ha sb => ⟨_, O.setU hD g sb, h od' ha⟩

/-- o.name(args) of an object of a class: the method of the class -/
theorem W_CallM (B : Base X K) {env : Env} {o : Expr} {name : Str} {apos pos : Pos} {args : List Expr} {Q : Value → St → Prop} {f : Addr}
    (h : W X A σ (eval o env) fun ov σ₁ => ∃ ia dx od av, ov = .ref ia ∧ Live X σ₁ ia (instObj C dx) ∧ Live X σ₁ dx od ∧ Att av od ∧ av.lookup name = none ∧ W X A σ₁ (callWith pos (.ref f) [ov] (backTo pos (starEach args env)) []) Q) {pl : Sem Bool}
    (hg : plainGet K C name = true := by kernel_rfl) (hf : findIn K (.ref C) name = some (some (.ref f)) := by kernel_rfl) (ht : isFn K (.ref f) = true := by kernel_rfl)
    (heq : eval (.Call (.Attribute o name apos) args [] pos) env = (do
      let ov ← eval o env
      standAt apos.atName
      let (f, first) ← holding [ov] (getMethod ov name pl)
      callWith pos f first (backTo pos (starEach args env)) (backToKw pos (keywordEach [] env))) := by rfl) :
    W X A σ (eval (.Call (.Attribute o name apos) args [] pos) env) Q := by
  intro s E O
  refine methodCall_KW (pl := pl) (he := heq) (h.go O fun ov s₁ σ₁ O₁ q₁ => ?_)
  obtain ⟨ia, dx, od, av, rfl, hI, hD, ⟨es, n, rfl, hes⟩, hl, hq⟩ := q₁
  refine method_fn (B.inK O₁) (instAt (O₁.live hI) (O₁.live hD)) (plainGet_of hg).1 (plainGet_of hg).2 hf (beq_iff_eq.mp ht) ?_ (hq s₁ E O₁)
  show (lookIn name (dictOf es n)).map _ = _
  rw [lookIn_dict, att_getL hes, hl]; rfl
end
end Mine
end

section
open PySem PySem.W PyProof.Rows PySem.Calls
set_option Elab.async false
set_option maxRecDepth 100000
namespace Mine

section
variable {X : Cx} {K : Frag} {A : Around} {σ : St}

theorem enter_code (B : Base X K) {s : Shared} (O : Own X.s₁ σ s) {f : Addr} {oc : Value} {od : Option Addr} {osl : Array (Option Value)} {fd : FuncData} {body : List Stmt} {vals : List Value} {kws : List (Str × Value)} {R : Result → Shared → Prop}
    (ho : K.lookup f = some ⟨oc, od, .func fd, osl⟩) (hb : fd.body = .stmts body) (hcd : codeIn K fd.code fd.qualname = true) (hclo : fd.closure = [])
    (hcell : ∀ x ∈ fd.scope.names, x.2 ≠ .cell) (hroom : A.depth < recursionLimit)
    (hco : fd.scope.isCoroutine = false) (hgen : fd.scope.isGenerator = false) (hk : fd.scope.kind = .function)
    (hbind : wpAny (model X.prog X.w) A.in1 (bindArgs fd ⟨vals, kws⟩) (fun binds s' => ∃ σ', Own X.s₁ σ' s' ∧ (∀ x ∈ binds, fd.scope.names.lookup x.1 = some .local) ∧
      ∃ ns ws, (∀ (i : Nat) (x : Str) (v : Value), ns[i]? = some x → ws[i]? = some (some v) → binds.reverse.lookup x = some v) ∧
      ∀ env s'', EnvOf env fd → Own X.s₁ ⟨⟨env, ns, ws, true⟩ :: σ'.fr, σ'.F, σ'.U⟩ s'' →
        wpAny (model X.prog X.w) (A.deeper env) (execs body env) (fun fl s₃ => R (.ok (.ret (match fl with | .ret v => v | _ => .none))) s₃)
          (fun e s₃ => wpAny (model X.prog X.w) (A.deeper env) (leaving env e) (fun _ s₄ => R (.error e) s₄) (fun e' s₄ => R (.error e') s₄) s₃) s'') (fun e s' => R (.error e) s') s) :
    codeAny (model X.prog X.w) A (.call (.ref f) ⟨vals, kws⟩) R s := by
  have hK := B.inK O
  refine codeAny_call_function hroom (hK _ _ ho) rfl hco hgen hb (codeRec_of hK hcd) (wpAny_mono hbind (fun binds s' hq => ?_) fun _ _ e => e)
  obtain ⟨σ', O', hloc, ns, ws, hv, h⟩ := hq
  rw [hclo]
  refine wpAny_newFunctionEnv hcell hloc (fun h₀ hns hsb => ⟨(B.lim.keeps O'.ground).fresh _ hsb, codeAny_func ?_⟩) hk
  have O'' := O'.enter (env := newEnv fd.scope s'.heap.objs.size fd.globals [] (fd.qualname ++ ".<locals>.") (some f) fd.code none fd.builtins) (ns := ns) (vs := ws) (tk := s'.toks + binds.length) rfl rfl hk hns
    (fun b o e => hsb.extBut b o (Nat.ne_of_lt (Heap.lt_size e)) (Heap.get?_push_of_some _ e)) hv
  exact h _ _ ⟨rfl, rfl, rfl, rfl⟩ O''

/-- a def of the text is called; what its arguments are bound to is told by bindArgs -/
structure DefAt (K : Frag) (f : Addr) (fd : FuncData) (body : List Stmt) (ns : List Str) : Prop where
  at_ : ∃ oc od osl, K.lookup f = some ⟨oc, od, .func fd, osl⟩
  body : fd.body = .stmts body
  code : codeIn K fd.code fd.qualname = true
  clo : fd.closure = []
  cell : ∀ x ∈ fd.scope.names, x.2 ≠ .cell
  co : fd.scope.isCoroutine = false
  gen : fd.scope.isGenerator = false
  kind : fd.scope.kind = .function
  names : nmCheck fd.scope ns = true
/-- bindArgs lays the values behind the first names -/
def BindW (X : Cx) (A : Around) (σ : St) (fd : FuncData) (vals : List Value) (ns0 : List Str) (k : List Value → St → Prop) : Prop :=
  W X A.in1 σ (bindArgs fd ⟨vals, []⟩) fun binds σ' => ∃ vs, binds = ns0.zip vs ∧ ns0.length = vs.length ∧ k vs σ'

theorem enter_code2 (B : Base X K) {s : Shared} (O : Own X.s₁ σ s) {f : Addr} {fd : FuncData} {body : List Stmt} {vals : List Value} {ns0 ns : List Str} {R : Result → Shared → Prop} (d : DefAt K f fd body ns) (hroom : A.depth < recursionLimit) (hpre : ns0 <+: ns)
    (hbind : BindW X A σ fd vals ns0 fun vs σ' => ∃ ws, Binds vs ws ∧ ∀ env s'', EnvOf env fd → NmOk env ns → Own X.s₁ ⟨⟨env, ns, ws, true⟩ :: σ'.fr, σ'.F, σ'.U⟩ s'' →
        wpAny (model X.prog X.w) (A.deeper env) (execs body env) (fun fl s₃ => R (.ok (.ret (match fl with | .ret v => v | _ => .none))) s₃)
          (fun e s₃ => wpAny (model X.prog X.w) (A.deeper env) (leaving env e) (fun _ s₄ => R (.error e) s₄) (fun e' s₄ => R (.error e') s₄) s₃) s'') :
    codeAny (model X.prog X.w) A (.call (.ref f) ⟨vals, []⟩) R s := by
  obtain ⟨oc, od, osl, ho⟩ := d.at_
  obtain ⟨nd, hl⟩ := nmCheck_ok d.names
  obtain ⟨rest, rfl⟩ := hpre
  refine enter_code B O ho d.body d.code d.clo d.cell hroom d.co d.gen d.kind (W.go hbind O fun binds s' σ' O' q => ?_)
  obtain ⟨vs, rfl, hlen, ws, hws, h⟩ := q
  refine ⟨σ', O', fun x hx => (hl _ (List.mem_append_left _ (zip_mem hx))).1, ns0 ++ rest, ws, fun i x v h1 h2 => ?_, fun env s'' he O'' => h env s'' he (nmOk he d.names) O''⟩
  have h3 := hws.get h2
  have hi : i < vs.length := (List.getElem?_eq_some_iff.mp h3).1
  refine lookup_zip_rev (List.nodup_append.mp nd).1 i x v ?_ h3
  rwa [List.getElem?_append_left (by omega)] at h1
theorem W_callB (B : Base X K) {f : Addr} {fd : FuncData} {body : List Stmt} {vals : List Value} {ns0 ns : List Str} {Q : Value → St → Prop} (d : DefAt K f fd body ns) (hroom : A.depth < recursionLimit) (hpre : ns0 <+: ns)
    (hbind : BindW X A σ fd vals ns0 fun vs σ' => ∃ ws, Binds vs ws ∧ ∀ env, EnvOf env fd → NmOk env ns → W X (A.deeper env) ⟨⟨env, ns, ws, true⟩ :: σ'.fr, σ'.F, σ'.U⟩ (execs body env) (RetQ σ'.fr Q)) :
    W X A σ (call (.ref f) vals) Q := by
  intro s E O
  refine wpAny_call (enter_code2 B O d hroom hpre (W.mono hbind fun binds σ' ⟨vs, e, hl, ws, hws, h⟩ => ⟨vs, e, hl, ws, hws, fun env s'' he nm O'' => (h env he nm).go O'' fun fl s₃ σ₃ O₃ q₃ => ?_⟩))
  obtain ⟨g, hfr, hq⟩ := q₃
  obtain ⟨fr3, F3, U3⟩ := σ₃
  dsimp only at hfr; subst hfr
  exact ⟨_, O₃.pop, hq⟩
/-- a class of the text is called: the new object, and its __init__ -/
theorem W_make (B : Base X K) {C fI : Addr} {fd : FuncData} {body : List Stmt} {vals : List Value} {ns0 ns : List Str} {Q : Value → St → Prop} (hm : makesIn K C = true) (hi : findIn K (.ref C) "__init__" = some (some (.ref fI))) (hf : typeIn K (.ref fI) = some (.type "function"))
    (d : DefAt K fI fd body ns) (hroom : (A.under (.builtin "type.__call__" ⟨.ref C :: vals, []⟩)).depth < recursionLimit) (hpre : ns0 <+: ns)
    (hbind : ∀ ia dx F', Le σ.F F' → F' ia = some (instObj C dx) → σ.U dx = none → Frsh X.s₁ σ dx → Frsh X.s₁ σ ia →
      BindW X (A.under (.builtin "type.__call__" ⟨.ref C :: vals, []⟩)) ⟨σ.fr, F', upd σ.U dx emptyDict⟩ fd (.ref ia :: vals) ns0 fun vs σ' => ∃ ws, Binds vs ws ∧ ∀ env, EnvOf env fd → NmOk env ns →
        W X ((A.under (.builtin "type.__call__" ⟨.ref C :: vals, []⟩)).deeper env) ⟨⟨env, ns, ws, true⟩ :: σ'.fr, σ'.F, σ'.U⟩ (execs body env) (RetQ σ'.fr fun v σ'' => v = .none ∧ Q (.ref ia) σ'')) :
    W X A σ (call (.ref C) vals) Q := by
  intro s E O
  obtain ⟨hh, g, dd, t, os⟩ := s
  refine wpAny_call (make_core (makes_of (B.inK O) hm) (looks_findIn (B.inK O) hi) (fun self => bind_fn (B.inK O) self hf) (.inl rfl) ?_)
  have hsz : (hh.push emptyDict).objs.size = hh.objs.size + 1 := Heap.size_push ..
  obtain ⟨f1, O1⟩ := O.pushU emptyDict rfl
  obtain ⟨f2, O2⟩ := O1.pushF (instObj C hh.objs.size) rfl
  have e2 : ({ (⟨hh, g, dd, t, os⟩ : Shared) with heap := hh.push emptyDict } : Shared).heap.objs.size = hh.objs.size + 1 := hsz
  rw [e2] at O2 f2
  dsimp only at f1
  have nF : σ.F (hh.objs.size + 1) = none := f2.nF
  have fia : Frsh X.s₁ σ (hh.objs.size + 1) := ⟨nF, (upd_ne (m := σ.U) (a := hh.objs.size) (o := emptyDict) (Nat.succ_ne_self _)).symm.trans f2.nU, f2.nL, f2.high⟩
  refine enter_code2 B O2 d hroom hpre (W.mono (hbind _ _ _ (le_upd nF) (upd_same ..) f1.nU f1 fia) fun binds σ' ⟨vs, e, hl, ws, hws, h⟩ => ⟨vs, e, hl, ws, hws, fun env s'' he nm O'' => (h env he nm).go O'' fun fl s₃ σ₃ O₃ q₃ => ?_⟩)
  obtain ⟨g', hfr, hv, hq⟩ := q₃
  obtain ⟨fr3, F3, U3⟩ := σ₃
  dsimp only at hfr; subst hfr
  exact ⟨hv, _, O₃.pop, hq⟩
end
end Mine
end

section
open PySem PySem.W PyProof.Rows PySem.Calls
set_option Elab.async false
set_option maxRecDepth 100000
namespace Mine

theorem Room.made {A : Around} {n : Nat} {C : Addr} {vals : List Value} (r : Room A (n + 1)) : Room (A.under (.builtin "type.__call__" ⟨.ref C :: vals, []⟩)) n := by
  have hw : (Code.builtin "type.__call__" ⟨.ref C :: vals, []⟩).weight = 1 := by rfl
  have hu : (Code.builtin "type.__call__" ⟨.ref C :: vals, []⟩).cUnits = 1 := by rfl
  refine ⟨?_, ?_, r.calm⟩
  · show A.depth + (Code.builtin "type.__call__" ⟨.ref C :: vals, []⟩).weight + n ≤ 900
    have := r.depth; omega
  · show A.units + (Code.builtin "type.__call__" ⟨.ref C :: vals, []⟩).cUnits + 8 * n ≤ 9000
    have := r.units; omega

abbrev rowAv (r : Value) (s e i : Int) (t1 t2 t3 : Tok) (el : Addr) (lv : Value) (kd : Addr) : List (Str × Value) :=
  [("rlp", r), ("start", .int s t1), ("end", .int e t2), ("index", .int i t3), ("_elements", .ref el), ("_len", lv), ("sedes", .none), ("sedes_kwargs", .ref kd)]
/-- a new LazyList -/
def NewRow (U U' F' : Mp) (ia : Addr) (r : Value) (s e : Nat) : Prop :=
  ∃ dx el od m t1 t2 t3 kd, U' = upd (upd U dx od) el (lstO [] m) ∧ U dx = none ∧ U el = none ∧ dx ≠ el ∧ F' ia = some (instObj 152 dx) ∧ Att (rowAv r s e s t1 t2 t3 el .none kd) od

abbrev initNs : List Str := ["self", "rlp", "start", "end", "sedes", "sedes_kwargs"]
section
variable {P : Params} {X : Cx} {A : Around} {σ : St}

theorem defInit : ∃ fd body, DefAt (Mine.hd.heap_39 P) 128 fd body initNs ∧ (∀ {X : Cx} {A : Around} {σ : St} {v r s e : Value}, Base X (Mine.hd.heap_39 P) → BindW X A σ fd [v, r, s, e] initNs fun vs σ' => ∃ kd F', Le σ.F F' ∧ σ' = ⟨σ.fr, F', σ.U⟩ ∧ vs = [v, r, s, e, .none, .ref kd]) ∧
    ∀ {X : Cx} {A : Around} {fr : List Fram} {F U : Mp} {env : Env} {ia dx kd : Addr} {r : Value} {s e : Nat} {ts te : Tok} {Q : Value → St → Prop}, Base X (Mine.hd.heap_39 P) → EnvOf env fd → NmOk env initNs → F ia = some (instObj 152 dx) → U dx = none →
      (∀ el od m t1 t2 t3, U el = none → dx ≠ el → Att (rowAv r s e s t1 t2 t3 el .none kd) od → Q .none ⟨fr, F, upd (upd U dx od) el (lstO [] m)⟩) →
      W X A ⟨⟨env, initNs, [some (.ref ia), some r, some (.int s ts), some (.int e te), some .none, some (.ref kd)], true⟩ :: fr, F, upd U dx emptyDict⟩ (execs body env) (RetQ fr Q) := by
  refine ⟨_, _, ⟨⟨_, _, _, by rfl⟩, by rfl, by kernel_rfl, by rfl, by decide +kernel, by rfl, by rfl, by rfl, by decide +kernel⟩, ?_, ?_⟩
  · intro X A σ v r s e B st E O
    have h121 := (B.inK O) 121 _ (by rfl)
    refine (show wpAny _ _ (seqItems? (.ref 121) >>= _) _ _ _ from ?_)
    refine wpAny_bind (wpAny_seqItems h121 rfl ?_)
    refine (show wpAny _ _ (alloc { cls := .type "dict", data := .dict #[] } >>= fun d => pure [(("self" : Str), v), (("rlp" : Str), r), (("start" : Str), s), (("end" : Str), e), (("sedes" : Str), .none), (("sedes_kwargs" : Str), .ref d)]) _ _ _ from ?_)
    refine wpAny_bind (wpAny_alloc (wpAny_pure ?_))
    obtain ⟨f1, O1⟩ := O.pushF emptyDict rfl
    exact ⟨_, O1, _, rfl, rfl, _, _, le_upd f1.nF, rfl, rfl⟩
  · intro X A fr F U env ia dx kd r s e ts te Q B he nm hia hdx h
    have hI : ∀ {U' : Mp} {vs : List (Option Value)}, Live X ⟨⟨env, initNs, vs, true⟩ :: fr, F, U'⟩ ia (instObj 152 dx) := .inr (.inl hia)
    have A0 : Att [] emptyDict := ⟨[], 0, rfl, .nil⟩
    refine W_execs_cons <| W_Assign_Attribute <| W_name nm (.there .here) <| W_name nm .here <| W_setA B (C := 152) (dx := dx) hI (upd_same ..) A0 (by simp) fun o1 (A1 : Att [(("rlp" : Str), r)] o1) => ?_
    rw [upd_upd]
    refine W_execs_cons <| W_Assign_Attribute <| W_name nm (.there (.there .here)) <| W_name nm .here <| W_setA B (C := 152) (dx := dx) hI (upd_same ..) A1 (by simp) fun o2 (A2 : Att [(("rlp" : Str), r), (("start" : Str), .int s ts)] o2) => ?_
    rw [upd_upd]
    refine W_execs_cons <| W_Assign_Attribute <| W_name nm (.there (.there (.there .here))) <| W_name nm .here <| W_setA B (C := 152) (dx := dx) hI (upd_same ..) A2 (by simp) fun o3 (A3 : Att [(("rlp" : Str), r), (("start" : Str), .int s ts), (("end" : Str), .int e te)] o3) => ?_
    rw [upd_upd]
    refine W_execs_cons <| W_Assign_Attribute <| W_name nm (.there (.there .here)) <| W_name nm .here <| W_setA B (C := 152) (dx := dx) hI (upd_same ..) A3 (by simp) fun o4 (A4 : Att [(("rlp" : Str), r), (("start" : Str), .int s ts), (("end" : Str), .int e te), (("index" : Str), .int s ts)] o4) => ?_
    rw [upd_upd]
    refine W_execs_cons <| W_Assign_Attribute <| W_List <| W_items_nil ⟨by simp, fun el fel => ?_⟩
    have hne : dx ≠ el := fel.ne (b := dx) (upd_same ..)
    have hel : U el = none := (upd_ne hne.symm).symm.trans fel.nU
    refine W_name nm .here <| W_setA B (C := 152) (dx := dx) hI ((upd_ne hne).trans (upd_same ..)) A4 (by simp) fun o5 (A5 : Att [(("rlp" : Str), r), (("start" : Str), .int s ts), (("end" : Str), .int e te), (("index" : Str), .int s ts), (("_elements" : Str), .ref el)] o5) => ?_
    refine W_execs_cons <| W_Assign_Attribute <| W_none <| W_name nm .here <| W_setA B (C := 152) (dx := dx) hI (upd_same ..) A5 (by simp) fun o6 (A6 : Att [(("rlp" : Str), r), (("start" : Str), .int s ts), (("end" : Str), .int e te), (("index" : Str), .int s ts), (("_elements" : Str), .ref el), (("_len" : Str), .none)] o6) => ?_
    rw [upd_upd]
    refine W_execs_cons <| W_Assign_Attribute <| W_name nm (.there (.there (.there (.there .here)))) <| W_name nm .here <| W_setA B (C := 152) (dx := dx) hI (upd_same ..) A6 (by simp) fun o7 (A7 : Att [(("rlp" : Str), r), (("start" : Str), .int s ts), (("end" : Str), .int e te), (("index" : Str), .int s ts), (("_elements" : Str), .ref el), (("_len" : Str), .none), (("sedes" : Str), .none)] o7) => ?_
    rw [upd_upd]
    refine W_execs_cons <| W_Assign_Attribute <| W_name nm (.there (.there (.there (.there (.there .here))))) <| W_name nm .here <| W_setA B (C := 152) (dx := dx) hI (upd_same ..) A7 (by simp) fun o8 A8 => ?_
    rw [upd_upd]
    refine W_execs_nil <| retQ_next ?_
    have e1 : upd (upd (upd U dx o4) el (lstO [] 0)) dx o8 = upd (upd U dx o8) el (lstO [] 0) := by rw [upd_comm hne.symm, upd_upd]
    rw [e1]
    exact h el o8 0 ts te ts hel hne A8

theorem c_lazy (B : Base X (Mine.hd.heap_39 P)) {r : Value} {s e : Nat} {ts te : Tok} (rm : Room A 2) :
    W X A σ (call (.ref 152) [r, .int (s : Nat) ts, .int (e : Nat) te]) fun w σ' => ∃ ia F' U', w = .ref ia ∧ Le σ.F F' ∧ σ' = ⟨σ.fr, F', U'⟩ ∧ NewRow σ.U U' F' ia r s e := by
  obtain ⟨fd, body, d, bind, run⟩ := defInit (P := P)
  refine W_make B (C := 152) (fI := 128) (by kernel_rfl) (by kernel_rfl) (by kernel_rfl) d (rm.made (n := 1)).d (List.prefix_refl _) fun ia dx F' L hia hdx _ _ => ?_
  refine W.mono (bind B) fun binds σ' ⟨vs, e1, hl, kd, F2, L2, e2, e3⟩ => ⟨vs, e1, hl, [some (.ref ia), some r, some (.int s ts), some (.int e te), some .none, some (.ref kd)], ?_, fun env he nm => ?_⟩
  · rw [e3]; exact .cons (.cons (.cons (.cons (.cons (.cons .nil)))))
  · subst e2
    refine run B he nm (L2 _ _ hia) hdx fun el od m t1 t2 t3 h1 h2 h3 => ⟨rfl, ia, F2, _, rfl, L.trans L2, rfl, dx, el, od, m, t1, t2, t3, kd, rfl, hdx, h1, h2, L2 _ _ hia, h3⟩
end
end Mine
end

section
open PySem PySem.W PyProof.Rows PySem.Calls
set_option Elab.async false
set_option maxRecDepth 100000
namespace Mine

theorem digits_len' (n : Nat) : (digits n).length ≤ n := by
  induction n using Nat.strongRecOn with
  | ind n ih =>
    by_cases h : n = 0
    · subst h; simp [digits_zero]
    · rw [digits_pos (by omega)]
      have := ih (n / 256) (by omega)
      simp; omega
theorem hdr_len' (b n : Nat) : (hdr b n).length ≤ n + 1 := by
  unfold hdr; split
  · simp
  · have := digits_len' n; simp; omega
section
variable {α : Type} {P : Params} {X : Cx} {A : Around} {σ : St}
/-- a new octet value is frozen -/
theorem W_frzO {t : Sem α} {Q : α → St → Prop} {lv : Bool} {v : Value} {o : List UInt8} {U₀ : Mp} (hO : OctU lv v o U₀ σ.U) (h : ∀ F', Le σ.F F' → OctF F' lv v o → W X A ⟨σ.fr, F', U₀⟩ t Q) : W X A σ t Q := by
  cases lv with
  | false =>
    obtain ⟨h1, h2⟩ := hO
    have := h σ.F (.refl _) h1
    rw [← h2] at this
    exact this
  | true =>
    obtain ⟨a, rfl, n, e⟩ := hO
    have hU : σ.U a = some (baO o) := by rw [e, upd_same]
    refine W_frz hU fun nF => ?_
    have := h _ (le_upd (o := baO o) nF) ⟨a, rfl, upd_same ..⟩
    rw [e, era_upd n]
    exact this
theorem Live.frz {fr fr' : List Fram} {F F' U : Mp} {a : Addr} {o : Obj} (h : Live X ⟨fr, F, U⟩ a o) (hF : Le F F') : Live X ⟨fr', F', U⟩ a o := h.le rfl hF

abbrev payNs : List Str := ["rlp", "prefix", "start", "type_", "length", "item", "items", "per_item_rlp", "list_rlp", "next_item_start", "end", "p", "t", "l", "s", "item_rlp"]
/-- what consume_payload tells of octets -/
def PayP (X : Cx) (lv : Bool) (u : T) (e : Nat) (σ : St) (w : Value) (σ' : St) : Prop :=
  ∃ a F' item ls q m rest t, w = .ref a ∧ Le σ.F F' ∧ σ' = ⟨σ.fr, F', σ.U⟩ ∧ F' a = some (tupO [item, .ref ls, .int (e : Nat) t]) ∧ IsD lv F' u item ∧ F' ls = some (lstO (q :: rest) m) ∧ OctF F' lv q (code u)

theorem c_payB (B : Base X (Mine.hd.heap_39 P)) {lv : Bool} {v p : Value} {o pre post b : List UInt8} {start : Nat} {tk tn : Tok} (r : Room A 1) (ho : Oct X σ lv v o) (hz : o.length ≤ 1000000) (hp : Oct X σ lv p (hdr 128 b.length))
    (e : o = pre ++ b ++ post) (hs : pre.length = start) : W X A σ (call (.ref 83) [v, p, .int (start : Nat) tk, .type "bytes", .int (b.length : Nat) tn]) (PayP X lv (.leaf b) (start + b.length) σ) := by
  obtain ⟨fr, F, U⟩ := σ
  refine W_callP B ["rlp", "prefix", "start", "type_", "length"] payNs [some v, some p, some (.int (start : Nat) tk), some (.type "bytes"), some (.int (b.length : Nat) tn), none, none, none, none, none, none, none, none, none, none, none] r.d (by rfl) fun env he nm => ?_
  have hol := congrArg List.length e
  simp only [List.length_append] at hol
  refine W_execs_cons <| W_If <| W_isTrue_Compare <| W_name nm (.there (.there (.there .here))) <| W_gname (bl B he "bytes" (.type "bytes")) rfl rfl <| W_is_plain (by decide +kernel) <| W_truthy_bool ?_
  rw [if_pos (by decide +kernel)]
  refine W_execs_cons <| W_Assign_Name <| W_cut <| W_name nm .here <| W_name nm (.there (.there .here)) <| W_BinOp <| W_name nm (.there (.there .here)) <| W_name nm (.there (.there (.there (.there .here)))) <| W_add fun t1 =>
    ⟨lv, o, start, start + b.length, _, _, _, _, ho.leU (.refl _) (.refl _), rfl, rfl, rfl, by omega, by omega, fun F1 item U1 L1 hN => ?_⟩
  rw [cut_mid e hs rfl] at hN
  refine W_frzO (σ := ⟨_ :: fr, F1, U1⟩) hN fun F2 L2 hI => ?_
  refine W_store nm (.there (.there (.there (.there (.there .here))))) ?_
  refine W_retR <| W_Tuple <| W_items_cons <| W_name nm (.there (.there (.there (.there (.there .here))))) <| W_items_cons <| W_List <| W_items_cons <| W_BinOp <| W_name nm (.there .here) <| W_name nm (.there (.there (.there (.there (.there .here))))) <|
    W_oct_add (hp.leU (.refl _) (L1.trans L2)) hI.oct ?_ fun q U2 hR => W_frzO (σ := ⟨_ :: fr, F2, U2⟩) hR.u fun F3 L3 hQ => W_items_nil ⟨by simp [sizeLine], fun ls fls => ?_⟩
  · have := hdr_pos 128 b.length
    have h4 := hdr_len' 128 b.length
    omega
  refine W_frz (a := ls) (upd_same ..) fun nF => ?_
  refine W_items_cons <| W_BinOp <| W_name nm (.there (.there .here)) <| W_name nm (.there (.there (.there (.there .here)))) <| W_add fun t2 => W_items_nil ⟨by simp [sizeLine], fun a F4 L4 ha _ => ?_⟩
  have eU : era (upd U ls (lstO [q] 0)) ls = U := era_upd fls.nU
  refine Then.ret <| retM ⟨_, rfl, a, F4, item, ls, q, 0, [], t2, rfl, L1.trans (L2.trans (L3.trans ((le_upd nF).trans L4))), ?_, ?_, ?_, L4 _ _ (upd_same ..), ?_⟩
  · show (⟨fr, F4, era (upd U ls (lstO [q] 0)) ls⟩ : St) = _
    rw [eU]
  · rw [ha]; push_cast; rfl
  · unfold IsD; exact hI.le (L3.trans ((le_upd nF).trans L4))
  · exact hQ.le ((le_upd nF).trans L4)
end
end Mine
end

section
open PySem PySem.W PyProof.Rows PySem.Calls
set_option Elab.async false
set_option maxRecDepth 100000
namespace Mine

theorem ty_bb : PySem.plainIs (.type "bytes") (.type "bytes") = true := by decide +kernel
theorem ty_lb : PySem.plainIs (.type "list") (.type "bytes") = true := by decide +kernel
theorem ty_ll : PySem.plainIs (.type "list") (.type "list") = true := by decide +kernel
theorem eq_bb : (Value.type "bytes" == Value.type "bytes") = true := by decide +kernel
theorem eq_ll : (Value.type "list" == Value.type "list") = true := by decide +kernel
theorem ne_lb : ¬ (Value.type "list" == Value.type "bytes") = true := by decide +kernel
section
variable {P : Params} {X : Cx} {A : Around} {σ : St}

abbrev lazyNs : List Str := ["rlp", "start", "p", "t", "l", "s", "item", "_", "end"]
/-- the item that is read: octets, or a new LazyList -/
def LzI (lv : Bool) (r : Value) (u : T) (start : Nat) (F' U U' : Mp) (item : Value) : Prop := match u with
  | .leaf b => U' = U ∧ OctF F' lv item b
  | .node l => ∃ ia, item = .ref ia ∧ NewRow U U' F' ia r (start + (hdr 192 (codes l).length).length) (start + (code (.node l)).length)
theorem NewRow.le {U U' F F' : Mp} {ia : Addr} {r : Value} {s e : Nat} (h : NewRow U U' F ia r s e) (k : Le F F') : NewRow U U' F' ia r s e := by
  obtain ⟨dx, el, od, m, t1, t2, t3, kd, h1, h2, h3, h4, h5, h6⟩ := h
  exact ⟨dx, el, od, m, t1, t2, t3, kd, h1, h2, h3, h4, k _ _ h5, h6⟩
theorem LzI.le {lv : Bool} {r : Value} {u : T} {start : Nat} {F F' U U' : Mp} {item : Value} (h : LzI lv r u start F U U' item) (k : Le F F') : LzI lv r u start F' U U' item := by
  cases u with
  | leaf b => exact ⟨h.1, h.2.le k⟩
  | node l => obtain ⟨ia, e, h⟩ := h; exact ⟨ia, e, h.le k⟩
def LzP (lv : Bool) (r : Value) (u : T) (start : Nat) (σ : St) (w : Value) (σ' : St) : Prop :=
  ∃ a F' U' item t, w = .ref a ∧ Le σ.F F' ∧ σ' = ⟨σ.fr, F', U'⟩ ∧ F' a = some (tupO [item, .int ((start + (code u).length : Nat) : Int) t]) ∧ LzI lv r u start F' σ.U U' item

theorem c_itemlazy (B : Base X (Mine.hd.heap_39 P)) {lv : Bool} {v : Value} {o pre post : List UInt8} {u : T} {start : Nat} {tk : Tok} (r : Room A 4) (ho : Oct X σ lv v o) (hz : o.length ≤ 1000000) (hok : Ok u)
    (e : o = pre ++ code u ++ post) (hp : pre.length = start) : W X A σ (call (.ref 113) [v, .int (start : Nat) tk]) (LzP lv v u start σ) := by
  obtain ⟨fr, F, U⟩ := σ
  refine W_callP B ["rlp", "start"] lazyNs [some v, some (.int (start : Nat) tk), none, none, none, none, none, none, none] r.d (by rfl) fun env he nm => ?_
  have hr : Room (A.deeper env) 3 := r.deeper env
  have hol := congrArg List.length e
  have hcl : (code u).length = (pHdr u).length + (pBody u).length := by rw [code_eq]; simp
  simp only [List.length_append] at hol
  refine W_execs_cons <| W_Assign_Tuple <| W_Call_Name <| W_gname (gl B he "consume_length_prefix" (.ref 76)) rfl rfl <| W_callWith B (by kernel_rfl) <| W_items_cons <| W_name nm .here <| W_items_cons <| W_name nm (.there .here) <| W_items_nil ?_
  refine W.mono (c_prefix B (σ := ⟨_ :: fr, F, U⟩) (hr.le (by omega)) (ho.leU (.refl _) (.refl _)) hz hok e hp) fun w σ' ⟨a, F1, U1, p, t1, t2, ew, (L1 : Le F F1), e1, hN, hF1⟩ => ?_
  subst ew e1
  refine W_assign_Tuple hr.calm (.inr (.inl hF1)) rfl rfl <| W_inOrder_cons <| W_assign_Name nm (.there (.there .here)) <| W_inOrder_cons <| W_assign_Name nm (.there (.there (.there .here))) <| W_inOrder_cons <| W_assign_Name nm (.there (.there (.there (.there .here)))) <|
    W_inOrder_cons <| W_assign_Name nm (.there (.there (.there (.there (.there .here))))) <| W_inOrder_nil ?_
  refine W_execs_cons <| W_If <| W_isTrue_Compare <| W_name nm (.there (.there (.there .here))) <| W_gname (bl B he "bytes" (.type "bytes")) rfl rfl <| W_is_plain ?_ <| W_truthy_bool ?_
  · cases u
    · exact ty_bb
    · exact ty_lb
  cases u with
  | leaf b =>
    rw [if_pos (by exact eq_bb)]
    refine W_execs_cons <| W_Assign_Tuple <| W_Call_Name <| W_gname (gl B he "consume_payload" (.ref 83)) rfl rfl <| W_callWith B (by kernel_rfl) <| W_items_cons <| W_name nm .here <| W_items_cons <| W_name nm (.there (.there .here)) <|
      W_items_cons <| W_name nm (.there (.there (.there (.there (.there .here))))) <| W_items_cons <| W_gname (bl B he "bytes" (.type "bytes")) rfl rfl <| W_items_cons <| W_name nm (.there (.there (.there (.there .here)))) <| W_items_nil ?_
    refine W.mono (c_payB B (σ := ⟨_ :: fr, F1, U1⟩) (b := b) (start := start + (hdr 128 b.length).length) (pre := pre ++ hdr 128 b.length) (post := post) (hr.le (by omega)) (ho.leU hN.le L1) hz hN.oct ?_ (by simp [hp])) fun w σ' ⟨a2, F2, item, ls, q, m, rest, t3, ew, (L2 : Le F1 F2), e2, hF2, hI, _⟩ => ?_
    · rw [e, code_eq]; simp [pHdr, pBody]
    subst ew e2
    refine W_assign_Tuple hr.calm (.inr (.inl hF2)) rfl rfl <| W_inOrder_cons <| W_assign_Name nm (.there (.there (.there (.there (.there (.there .here)))))) <| W_inOrder_cons <| W_assign_Name nm (.there (.there (.there (.there (.there (.there (.there .here))))))) <|
      W_inOrder_cons <| W_assign_Name nm (.there (.there (.there (.there (.there (.there (.there (.there .here)))))))) <| W_inOrder_nil ?_
    refine W_retR <| W_shrink <| W_Tuple <| W_items_cons <| W_name nm (.there (.there (.there (.there (.there (.there .here)))))) <| W_items_cons <| W_name nm (.there (.there (.there (.there (.there (.there (.there (.there .here)))))))) <| W_items_nil ⟨by simp [sizeLine], fun a3 F3 L3 ha3 _ => ?_⟩
    refine ⟨U, hN.le, Then.ret <| retM ⟨_, rfl, a3, F3, U, item, t3, rfl, L1.trans (L2.trans L3), rfl, ?_, rfl, ?_⟩⟩
    · rw [ha3, hcl, ← Nat.add_assoc]; rfl
    · unfold IsD at hI; exact hI.le L3
  | node l =>
    rw [if_neg (by exact ne_lb)]
    refine W_dropU hN.le ?_
    refine W_execs_cons <| W_Assert <| W_isTrue_Compare <| W_name nm (.there (.there (.there .here))) <| W_gname (bl B he "list" (.type "list")) rfl rfl <| W_is_plain (by exact ty_ll) <| W_truthy_bool ⟨by exact eq_ll, ?_⟩
    refine W_retR <| W_Tuple <| W_items_cons <| W_Call_Name <| W_gname (gl B he "LazyList" (.ref 152)) rfl rfl <| W_callWith B (by kernel_rfl) <| W_items_cons <| W_name nm .here <| W_items_cons <| W_name nm (.there (.there (.there (.there (.there .here))))) <|
      W_items_cons <| W_BinOp <| W_name nm (.there (.there (.there (.there (.there .here))))) <| W_name nm (.there (.there (.there (.there .here)))) <| W_add fun t4 => W_items_nil ?_
    have ee : ((start + (pHdr (.node l)).length : Nat) : Int) + ((pBody (.node l)).length : Int) = ((start + (code (.node l)).length : Nat) : Int) := by rw [hcl]; omega
    rw [ee]
    refine W.mono (c_lazy B (σ := ⟨_ :: fr, F1, U⟩) (s := start + (pHdr (.node l)).length) (hr.le (by omega))) fun w σ' ⟨ia, F2, U2, ew, (L2 : Le F1 F2), e2, hR⟩ => ?_
    subst ew e2
    refine W_items_cons <| W_BinOp <| W_name nm (.there (.there (.there (.there (.there .here))))) <| W_name nm (.there (.there (.there (.there .here)))) <| W_add fun t5 => W_items_nil ⟨by simp [sizeLine], fun a3 F3 L3 ha3 _ => ?_⟩
    rw [ee] at ha3
    refine (show RetQ fr (LzP lv v (.node l) start ⟨fr, F, U⟩) (.ret _) _ from retM ⟨_, rfl, a3, F3, U2, .ref ia, t5, rfl, L1.trans (L2.trans L3), rfl, ha3, ia, rfl, hR.le L3⟩)
end
end Mine
end

section
open PySem PySem.W PyProof.Rows PySem.Calls
set_option Elab.async false
set_option maxRecDepth 100000
namespace Mine

/-- an exception without a traceback -/
structure Md (base : Heap) (l : List Env) (e : Addr) (T : String) (c : Value) (h : Heap) : Prop where
  stays : base.StaysIn h
  new : base.get? e = none
  frames : h.FunFrames base l
  made : ∃ oe vs, h.get? e = some oe ∧ oe.cls = .type T ∧ oe.data = .fields vs ∧ vs[1]? = some .none ∧ vs[2]? = some c
/-- an exception with a traceback; fl tells where it flies -/
structure Tr (base : Heap) (l : List Env) (e : Addr) (T : String) (c fl : Value) (h : Heap) : Prop where
  stays : base.StaysIn h
  new : base.get? e = none
  frames : h.FunFrames base l
  tr : ∃ oe vs b ob ts, h.get? e = some oe ∧ oe.cls = .type T ∧ oe.data = .fields vs ∧ vs[1]? = some (.ref b) ∧ vs[2]? = some c ∧ base.get? b = none ∧ b ≠ e ∧ h.get? b = some ob ∧ ob.data = .fields ts ∧ ts[3]? = some fl
theorem Tr.ty {base : Heap} {l : List Env} {e : Addr} {T : String} {c fl : Value} {s : Shared} (x : Tr base l e T c fl s.heap) : s.TypeIs (.ref e) T := by
  obtain ⟨oe, _, _, _, _, h1, h2, _⟩ := x.tr
  exact ⟨oe, h1, h2⟩

section
variable {M : Model} {A : Around} {E : Value → Shared → Prop} {s : Shared} {base : Heap} {env : Env} {outer l : List Env} {L e : Addr} {T : String} {c fl : Value} {Q : Unit → Shared → Prop}

theorem not_fields {h : Heap} {b : Addr} {o oe : Obj} {vs : Array Value} (he : h.get? e = some oe) (hd : oe.data = .fields vs) (hb : h.get? b = some o) (hn : ∀ ws, o.data ≠ .fields ws) : b ≠ e := fun q => by
  rw [q, he] at hb; cases hb; exact hn _ hd

theorem entry_new {head : Value} {hadNext : Bool} {oe : Obj} {vs : Array Value} (hfr : A.frames = some (env :: outer)) (hf : env.frame = some L) (hl : s.heap.FunFrames base (env :: outer)) (hkb : base.StaysIn s.heap) (hen : base.get? e = none)
    (he : s.heap.get? e = some oe) (hcl : oe.cls = .type T) (hd : oe.data = .fields vs) (hsz : 1 < vs.size) (h2 : vs[2]? = some c)
    (k : ∀ h', Tr base (env :: outer) e T c (rawInt L) h' → s.heap.UpToSlots h' → Q () { s with heap := h' }) :
    wpAny M A (do let a ← frameOf env; let pl ← entryPlaceOf L hadNext; let b ← EntryCells.newEntry head a .none (rawInt L) .none pl; setField (.ref e) 1 b) Q E s := by
  have ein : e ∉ (env :: outer).filterMap (·.frame) := fun hm => by
    obtain ⟨_, o, ho, hn⟩ := hl.mem hm
    rw [he] at ho; cases ho; exact hn vs hd
  refine wpAny_bind (wpAny_frameOf_fun hfr hl hf fun h₁ hs => ?_)
  refine wpAny_bind (wpAny_entryPlaceOf fun pl hpl => ?_)
  unfold EntryCells.newEntry newFields
  refine wpAny_bind (wpAny_newObj_type ?_ (hpl.sizeOk5 _ _ _ _ _))
  have he1 : h₁.get? e = some oe := (hs.2.1 e ein).trans he
  have kb : base.StaysIn h₁ := fun b o hb => (hs.2.1 b fun hm => by rw [(hl.mem hm).1] at hb; cases hb).trans (hkb b o hb)
  generalize hob : ({ cls := .type "traceback", dict := none, data := .fields ([head, .ref L, .none, rawInt L, .none] ++ (if pl.isEmpty then List.replicate 6 Value.none else pl)).toArray } : Obj) = ob
  have hbd : ob.data = .fields ([head, .ref L, .none, rawInt L, .none] ++ (if pl.isEmpty then List.replicate 6 Value.none else pl)).toArray := by rw [← hob]
  have hbf : ob.isFreed = false := Obj.isFreed_of_fields hbd
  have he2 := Heap.get?_push_of_some (h := h₁) ob he1
  refine wpAny_setField he2 hd hsz (k _ ?_ ?_)
  all_goals
    have hbe : h₁.objs.size ≠ e := Nat.ne_of_gt (Heap.lt_size he1)
    have hde := Obj.data_mapFields hd (·.setIfInBounds 1 (Value.ref h₁.objs.size))
    have he3 := Heap.get?_update_self (Obj.mapFields (·.setIfInBounds 1 (Value.ref h₁.objs.size))) he2 (Obj.isFreed_of_fields hde)
    have hb3 := (Heap.get?_update_other (h₁.push ob) (Obj.mapFields (·.setIfInBounds 1 (Value.ref h₁.objs.size))) (Ne.symm hbe)).trans (Heap.get?_push_size h₁ hbf)
    have keep : ∀ b o, b ≠ e → h₁.get? b = some o → ((h₁.push ob).update e (Obj.mapFields (·.setIfInBounds 1 (Value.ref h₁.objs.size)))).get? b = some o := fun b o hne hb =>
      (Heap.get?_update_other _ _ (Ne.symm hne)).trans (Heap.get?_push_of_some _ hb)
  · refine ⟨fun b o hb => keep b o (fun q => by rw [q, hen] at hb; cases hb) (kb b o hb), hen, hl.of_keeps fun b o hb hn => ?_, _, _, h₁.objs.size, ob, _, he3, (Obj.cls_mapFields _ _).trans hcl, hde, by simp [hsz], ?_, kb.fresh, hbe, hb3, hbd, ?_⟩
    · obtain ⟨sl, h'⟩ := hs.2.2 b o hb
      exact ⟨_, keep b _ (not_fields he hd hb hn) h', rfl⟩
    · rw [Array.getElem?_setIfInBounds_ne (by decide)]; exact h2
    · simp
  · intro b o hb hn
    obtain ⟨sl, h'⟩ := hs.2.2 b o hb
    exact ⟨sl, keep b _ (not_fields he hd hb hn) h'⟩

theorem note_made (hfr : A.frames = some (env :: outer)) (hf : env.frame = some L) (x : Md base (env :: outer) e T c s.heap)
    (k : ∀ h', Tr base (env :: outer) e T c (rawInt L) h' → s.heap.UpToSlots h' → Q () { s with heap := h' }) : wpAny M A (noteFrame (.ref e) env) Q E s := by
  obtain ⟨k1, k2, k3, oe, vs, he, hc, hd, h1, h2⟩ := x
  unfold noteFrame
  simp only [hf]
  refine wpAny_bind (wpAny_field he hd h1 ?_)
  rw [if_neg (by decide)]
  exact entry_new hfr hf k3 k1 k2 he hc hd (Array.getElem?_eq_some_iff.mp h1).1 h2 k
theorem note_again (hf : env.frame = some L) (x : Tr base l e T c (rawInt L) s.heap) (k : Q () s) : wpAny M A (noteFrame (.ref e) env) Q E s := by
  obtain ⟨_, _, _, oe, vs, b, ob, ts, he, hc, hd, h1, _, _, _, hb, hbd, h3⟩ := x
  unfold noteFrame
  simp only [hf]
  refine wpAny_bind (wpAny_field he hd h1 ?_)
  rw [if_pos (show (Value.ref b != Value.none) = true from by simp)]
  refine wpAny_bind (wpAny_field hb hbd h3 ?_)
  rw [if_pos (show (rawInt L == rawInt L) = true from by simp)]
  exact wpAny_pure k
theorem set_flight {f : Option Addr} (x : Tr base l e T c fl s.heap) (k : ∀ h', Tr base l e T c (f.elim .none fun f => rawInt f) h' → s.heap.UpToSlots h' → Q () { s with heap := h' }) : wpAny M A (setFlight (.ref e) f) Q E s := by
  obtain ⟨k1, k2, k3, oe, vs, b, ob, ts, he, hc, hd, h1, h2, hbn, hbe, hb, hbd, h3⟩ := x
  have hsz : 3 < ts.size := (Array.getElem?_eq_some_iff.mp h3).1
  have other : ∀ a, a ≠ b → (s.heap.update b (Obj.mapFields (·.setIfInBounds 3 (f.elim Value.none fun f => rawInt f)))).get? a = s.heap.get? a := fun a ha => Heap.get?_update_other _ _ (Ne.symm ha)
  unfold setFlight
  refine wpAny_bind (wpAny_field he hd h1 ?_)
  rw [if_pos (show (Value.ref b != Value.none) = true from by simp)]
  refine wpAny_setField hb hbd hsz (k _ ⟨fun a o ha => (other a fun q => by rw [q, hbn] at ha; cases ha).trans (k1 a o ha), k2, k3.of_keeps fun a o ha hn => ⟨o, (other a (not_fields hb hbd ha hn)).trans ha, rfl⟩, oe, vs, b, _, _, (other e (Ne.symm hbe)).trans he, hc, hd, h1, h2, hbn, hbe,
    Heap.get?_update_self _ hb (Obj.isFreed_of_fields (Obj.data_mapFields hbd _)), Obj.data_mapFields hbd _, by simp [hsz]⟩ fun a o ha hn => ⟨o.slots, (other a (not_fields hb hbd ha hn)).trans ha⟩)
theorem note_on (hfr : A.frames = some (env :: outer)) (hf : env.frame = some L) (x : Tr base (env :: outer) e T c .none s.heap)
    (k : ∀ h', Tr base (env :: outer) e T c (rawInt L) h' → s.heap.UpToSlots h' → Q () { s with heap := h' }) : wpAny M A (noteFrame (.ref e) env) Q E s := by
  obtain ⟨k1, k2, k3, oe, vs, b, ob, ts, he, hc, hd, h1, h2, hbn, hbe, hb, hbd, h3⟩ := x
  have hsz : 3 < ts.size := (Array.getElem?_eq_some_iff.mp h3).1
  unfold noteFrame
  simp only [hf]
  refine wpAny_bind (wpAny_field he hd h1 ?_)
  rw [if_pos (show (Value.ref b != Value.none) = true from by simp)]
  refine wpAny_bind (wpAny_field hb hbd h3 ?_)
  rw [if_neg (show ¬ ((Value.none == rawInt L) = true) from by simp [rawInt])]
  refine wpAny_bind (wpAny_setField hb hbd hsz ?_)
  have other : ∀ a, a ≠ b → (s.heap.update b (Obj.mapFields (·.setIfInBounds 3 Value.none))).get? a = s.heap.get? a := fun a ha => Heap.get?_update_other _ _ (Ne.symm ha)
  refine entry_new (s := { s with heap := _ }) hfr hf (k3.of_keeps fun a o ha hn => ⟨o, (other a (not_fields hb hbd ha hn)).trans ha, rfl⟩) (fun a o ha => (other a fun q => by rw [q, hbn] at ha; cases ha).trans (k1 a o ha)) k2
    ((other e (Ne.symm hbe)).trans he) hc hd (Array.getElem?_eq_some_iff.mp h1).1 h2 fun h' x u => k h' x ?_
  exact Heap.UpToSlots.trans (fun a o ha hn => ⟨o.slots, (other a (not_fields hb hbd ha hn)).trans ha⟩) u
end
end Mine
end

section
open PySem PySem.W PyProof.Rows PySem.Calls
set_option Elab.async false
set_option maxRecDepth 100000
namespace Mine

abbrev envs (fr : List Fram) : List Env := fr.map (·.env)
structure Lined (A : Around) (fr : List Fram) : Prop where
  lin : A.frames = some (envs fr)
  real : ∀ f ∈ fr, f.real = true
theorem Lined.deeper {A : Around} {fr : List Fram} {env : Env} {ns : List Str} {vs : List (Option Value)} (x : Lined A fr) : Lined (A.deeper env) (⟨env, ns, vs, true⟩ :: fr) :=
  ⟨by show A.frames.map _ = _; rw [x.lin]; rfl, fun f hf => by
    rcases List.mem_cons.mp hf with rfl | hf
    · rfl
    · exact x.real f hf⟩
theorem Lined.vars {A : Around} {fr : List Fram} {env : Env} {ns : List Str} {vs ws : List (Option Value)} {b : Bool} (x : Lined A (⟨env, ns, vs, b⟩ :: fr)) : Lined A (⟨env, ns, ws, b⟩ :: fr) :=
  ⟨x.lin, fun f hf => by
    rcases List.mem_cons.mp hf with rfl | hf
    · exact x.real ⟨env, ns, vs, b⟩ (.head _)
    · exact x.real f (.tail _ hf)⟩
theorem Lined.mark {A : Around} {fr : List Fram} (x : Lined A fr) (h : Option Value) : Lined (A.mark h) fr := ⟨x.lin, x.real⟩

/-- what is owned, but for the frames -/
def Keep (X : Cx) (σ : St) (base : Heap) : Prop := ∀ b o, (X.s₁.heap.get? b = some o ∨ σ.F b = some o ∨ σ.U b = some o) → base.get? b = some o
/-- an exception in the air, seen from the first frame of σ -/
def Air (X : Cx) (σ : St) (e : Addr) (T : String) (c : Value) (s : Shared) : Prop :=
  ∃ base, Own X.s₁ σ s ∧ Keep X σ base ∧ (Md base (envs σ.fr) e T c s.heap ∨ Tr base (envs σ.fr) e T c .none s.heap ∨ ∃ f r, σ.fr = f :: r ∧ Tr base (envs σ.fr) e T c (rawInt f.env.locals) s.heap)

section
variable {X : Cx} {A : Around} {σ : St} {s : Shared} {M : Model} {E : Value → Shared → Prop} {Q : Unit → Shared → Prop} {e : Addr} {T : String} {c : Value} {base h' : Heap}

theorem Own.slots (O : Own X.s₁ σ s) (k : Keep X σ base) (st : base.StaysIn h') (u : s.heap.UpToSlots h') : Own X.s₁ σ { s with heap := h' } := by
  obtain ⟨⟨h, tk, rfl⟩, _, _, _, d, e, f, g⟩ := O
  exact ⟨⟨h', tk, rfl⟩, fun b o x => st b o (k b o (.inl x)), fun b o x => st b o (k b o (.inr (.inl x))), fun b o x => st b o (k b o (.inr (.inr x))), d, e, fun y hy => let ⟨m, hn, q⟩ := f y hy; ⟨m, u.ns hn, q⟩, g⟩
theorem Air.own (x : Air X σ e T c s) : Own X.s₁ σ s := let ⟨_, O, _⟩ := x; O

theorem funFrames_own {h : Heap} : ∀ {fr : List Fram}, (∀ f ∈ fr, f.real = true) → (∀ f ∈ fr, FrOk X.s₁.heap σ.F σ.U f) → (∀ f ∈ fr, LocOk h f) → (∀ f ∈ fr, base.get? f.env.locals = none) → h.FunFrames base (envs fr)
  | [], _, _, _, _ => trivial
  | f :: r, h1, h2, h3, h4 => by
    refine ⟨?_, ⟨f.env.locals, ?_⟩, funFrames_own (fun x hx => h1 x (.tail _ hx)) (fun x hx => h2 x (.tail _ hx)) (fun x hx => h3 x (.tail _ hx)) fun x hx => h4 x (.tail _ hx)⟩
    · rw [(h2 f (.head _)).kind]; decide
    · obtain ⟨m, ⟨o, es, ep, ho, hd, _⟩, _⟩ := h3 f (.head _)
      exact ⟨o, (h2 f (.head _)).frame (h1 f (.head _)), h4 f (.head _), ho, fun vs q => by rw [hd] at q; cases q⟩

/-- an exception that has just been made -/
theorem air_made (O : Own X.s₁ σ s) (hl : Lined A σ.fr) (hk : ∀ b o, s.heap.get? b = some o → h'.get? b = some o) (hn : s.heap.get? e = none)
    (he : ∃ oe vs, h'.get? e = some oe ∧ oe.cls = .type T ∧ oe.data = .fields vs ∧ vs[1]? = some .none ∧ vs[2]? = some c) {tk : Nat} : Air X σ e T c { s with heap := h', toks := tk } := by
  have O' := O.ext hk (tk := tk)
  refine ⟨hideAll s.heap (σ.fr.map (·.env.locals)), O', fun b o x => hideAll_get _ ?_ ?_, .inl ⟨fun b o x => hk _ _ (of_hideAll _ x), ?_, ?_, he⟩⟩
  · rcases x with x | x | x
    · exact O.ground _ _ x
    · exact O.frz _ _ x
    · exact O.mts _ _ x
  · intro hm
    obtain ⟨f, hf, rfl⟩ := List.mem_map.mp hm
    rcases x with x | x | x
    · rw [(O.frs f hf).high] at x; cases x
    · rw [(O.frs f hf).nF] at x; cases x
    · rw [(O.frs f hf).nU] at x; cases x
  · cases q : (hideAll s.heap (σ.fr.map (·.env.locals))).get? e with
    | none => rfl
    | some o => rw [of_hideAll _ q] at hn; cases hn
  · exact funFrames_own hl.real O'.frs O'.loc fun f hf => hideAll_none _ (List.mem_map.mpr ⟨f, hf, rfl⟩)

theorem air_note {f : Fram} {r : List Fram} {F U : Mp} (x : Air X ⟨f :: r, F, U⟩ e T c s) (hl : Lined A (f :: r))
    (k : ∀ base h', Own X.s₁ ⟨f :: r, F, U⟩ { s with heap := h' } → Keep X ⟨f :: r, F, U⟩ base → Tr base (envs (f :: r)) e T c (rawInt f.env.locals) h' → Q () { s with heap := h' }) : wpAny M A (noteFrame (.ref e) f.env) Q E s := by
  obtain ⟨base, O, K, x⟩ := x
  have hf : f.env.frame = some f.env.locals := (O.frs f (.head _)).frame (hl.real f (.head _))
  rcases x with x | x | ⟨f', r', q, x⟩
  · exact note_made hl.lin hf x fun h' y u => k base h' (O.slots K y.stays u) K y
  · exact note_on hl.lin hf x fun h' y u => k base h' (O.slots K y.stays u) K y
  · cases q
    exact note_again hf x (k base s.heap O K x)

theorem air_leave {f : Fram} {r : List Fram} {F U : Mp} (x : Air X ⟨f :: r, F, U⟩ e T c s) (hl : Lined A (f :: r)) (k : ∀ s', Air X ⟨r, F, U⟩ e T c s' → Q () s') : wpAny M A (leaving f.env (.ref e)) Q E s := by
  unfold leaving
  refine wpAny_bind (air_note x hl fun base h' O K y => ?_)
  refine set_flight y fun h'' z u => ?_
  obtain ⟨a, b, ⟨_, _, d⟩, t⟩ := z
  exact k _ ⟨base, (O.slots K a u).pop, K, .inr (.inl ⟨a, b, d, t⟩)⟩

/-- the exception is caught -/
theorem air_catch {prog : Program} {w : World} {f : Fram} {r : List Fram} {F U : Mp} {T' : String} {x : Str} {np pos : Pos} {b₀ : Stmt} {suite : List Stmt} {Q : Flow → Shared → Prop} (a : Air X ⟨f :: r, F, U⟩ e T c s) (hl : Lined A (f :: r))
    (hx : GName X f.env x (.type T')) (hexc : isSubtype (.type T') (.type "BaseException") = pure true) (hnt : isSubtype (.type ((Manifest.find? T').elim "type" fun y => y.metatype)) (.type "tuple") = pure false) (hsub : isSubtype (.type T) (.type T') = pure true)
    (k : ∀ s' oe vs, Own X.s₁ ⟨f :: r, upd F e oe, U⟩ s' → Le F (upd F e oe) → oe.data = .fields vs → vs[2]? = some c →
      wpAny (model prog w) (A.mark (some (.ref e))) (execs (b₀ :: suite) f.env) Q (notedBy (model prog w) (A.mark (some (.ref e))) f.env (cameBackBy (model prog w) A f.env E)) s') :
    wpAny (model prog w) A (noteFrame (.ref e) f.env) (fun _ s₂ => wpAny (model prog w) A (setFlight (.ref e) none) (fun _ s₃ =>
      wpAny (model prog w) A (handleBy (.ref e) f.env [.ExceptHandler (some (.Name x np)) none (b₀ :: suite) pos]) Q E s₃) E s₂) E s := by
  refine air_note a hl fun base h' O K y => ?_
  refine set_flight y fun h'' z u => ?_
  have O2 := O.slots K z.stays u
  refine wpAny_handleBy_builtin (X := T) (T := T') (b := true) hexc hnt hsub ?_
  have hk : f.env.scope.kind = .function := (O2.frs f (.head _)).kind
  have fin : wpAny (model prog w) (A.mark (some (.ref e))) (setFlight (.ref e) none) (fun _ s₂ => wpAny (model prog w) (A.mark (some (.ref e))) (execs (b₀ :: suite) f.env) Q (notedBy (model prog w) (A.mark (some (.ref e))) f.env (cameBackBy (model prog w) A f.env E)) s₂)
      (notedBy (model prog w) (A.mark (some (.ref e))) f.env (cameBackBy (model prog w) A f.env E)) { s with heap := h'' } := by
    refine set_flight (s := { s with heap := h'' }) z fun h₃ z3 u3 => ?_
    have O3 := O2.slots K z3.stays u3
    obtain ⟨st, en, _, oe, vs, b, ob, ts, h1, _, h3, _, h5, _⟩ := z3
    have nF : F e = none := by
      cases q : F e with
      | none => rfl
      | some o => rw [K e o (.inr (.inl q))] at en; cases en
    have nU : U e = none := by
      cases q : U e with
      | none => rfl
      | some o => rw [K e o (.inr (.inr q))] at en; cases en
    have ne : ∀ y ∈ f :: r, y.env.locals ≠ e := fun y hy q => by
      obtain ⟨m, ⟨o, es, ep, ho, hd, _⟩, _⟩ := O3.loc y hy
      rw [q] at ho
      cases ho.symm.trans h1
      rw [h3] at hd; cases hd
    refine k _ oe vs ?_ (le_upd nF) h3 h5
    refine ⟨O3.same, O3.ground, fun b' o x => ?_, O3.mts, fun b' o x => ⟨?_, (O3.sep b' o x).2⟩, fun y hy => ?_, O3.loc, O3.apart⟩
    · by_cases q : b' = e
      · subst q
        have x' : upd F b' oe b' = some o := x
        rw [upd_same] at x'; cases x'; exact h1
      · have x' : upd F e oe b' = some o := x
        rw [upd_ne q] at x'; exact O3.frz b' o x'
    · have : b' ≠ e := by rintro rfl; have x' : U b' = some o := x; rw [nU] at x'; cases x'
      show upd F e oe b' = none
      rw [upd_ne this]; exact (O3.sep b' o x).1
    · obtain ⟨a1, a2, a3, a4, a5⟩ := O3.frs y hy
      exact ⟨a1, a2, a3, by show upd F e oe _ = none; rw [upd_ne (ne y hy)]; exact a4, a5⟩
  obtain ⟨mg, hns, hv⟩ := hx.val
  have hns' := hns.keeps O2.ground
  rcases hv with hv | ⟨hno, mb, hb, hv⟩
  · exact Calls.Name_function_global hk hx.kind (Calls.loadGlobal_global hns' hv ⟨rfl, z.ty (s := { s with heap := h'' }), fin⟩) hx.nd
  · exact Calls.Name_function_global hk hx.kind (Calls.loadGlobal_builtin hns' hno (hb.keeps O2.ground) hv ⟨rfl, z.ty (s := { s with heap := h'' }), fin⟩) hx.nd

/-- an exception that is raised while another is handled -/
theorem air_again {f : Fram} {r : List Fram} {F U : Mp} {m : Option Value} (a : Air X ⟨f :: r, F, U⟩ e T c s) (hl : Lined A (f :: r)) (k : ∀ s', Air X ⟨f :: r, F, U⟩ e T c s' → E (.ref e) s') :
    notedBy M (A.mark m) f.env (cameBackBy M A f.env E) (.ref e) s := by
  refine air_note a (hl.mark m) fun base h' O K y => ?_
  have hf : f.env.frame = some f.env.locals := (O.frs f (.head _)).frame (hl.real f (.head _))
  obtain ⟨st, en, fs, oe, vs, b, ob, ts, h1, h2, h3, h4, h5⟩ := y
  show wpAny M A (do
    if (← field (.ref e) 1) == .none then unsupported "frame.own-activation:exception-without-traceback"
    setFlight (.ref e) f.env.frame) (fun _ s'' => E (.ref e) s'') E _
  refine wpAny_bind (wpAny_field (s := { s with heap := h' }) h1 h3 h4 ?_)
  rw [if_neg (by simp)]
  rw [hf]
  refine set_flight (s := { s with heap := h' }) ⟨st, en, fs, oe, vs, b, ob, ts, h1, h2, h3, h4, h5⟩ fun h'' z u => ?_
  exact k _ ⟨base, O.slots K z.stays u, K, .inr (.inr ⟨f, r, rfl, z⟩)⟩
end
end Mine
end

section
open PySem PySem.W PyProof.Rows PySem.Calls
set_option Elab.async false
set_option maxRecDepth 100000
namespace Mine
namespace SI
theorem notType : (Value.type "StopIteration" == Value.type "type") = false := by decide +kernel
theorem canNew : (((Manifest.find? "StopIteration").bind (·.mro.findSome? fun (t : String) => (Manifest.find? t).bind fun b => if b.noNew then some true else if b.attrs.any (·.1 == "__new__") then some false else none)).getD false) = false := by decide +kernel
theorem typeCall : checkTypeCall "StopIteration" ⟨[], []⟩ = pure () := by kernel_rfl
theorem mroFast : (fastBuiltinMro "StopIteration").map (·.isEmpty) = some false := by kernel_rfl
theorem mro : ∃ l, mroOf (.type "StopIteration") = pure l ∧ l.isEmpty = false := by
  have h := mroFast
  rw [mroOf_type]
  cases hm : fastBuiltinMro "StopIteration" with
  | none => rw [hm] at h; cases h
  | some l => rw [hm] at h; exact ⟨l, rfl, by simpa using h⟩
theorem madeBy : Bind.madeBy (.type "StopIteration") = pure (some "Exception.__new__") := by kernel_rfl
theorem newCheck : checkBuiltinCall "Exception.__new__" ⟨.type "StopIteration" :: [], []⟩ = pure () := by kernel_rfl
theorem newEntry : entryFor table "Exception.__new__" = some Builtin.«BaseException.__new__» := entryFor_alias (id' := "BaseException.__new__") (by kernel_rfl) (by first | rfl | (unfold String.splitOn; simp +decide [String.splitOnAux])) (by decide +kernel) (by kernel_rfl)
theorem newPlain : plainId "Exception.__new__" = true := by decide +kernel
theorem newEnds : "Exception.__new__".endsWith ".__new__" = true := by decide +kernel
theorem subOwner : isSubtype (.type "StopIteration") (.type ("Exception.__new__".dropRight 8)) = pure true := by rw [isSubtype_type]; kernel_rfl
theorem madeHere : Bind.madeHere "BaseException.__new__" (.type "StopIteration") = pure () := by kernel_rfl
theorem notAttr : isSubtype (.type "StopIteration") (.type "AttributeError") = pure false := by rw [isSubtype_type]; kernel_rfl
theorem notName : isSubtype (.type "StopIteration") (.type "NameError") = pure false := by rw [isSubtype_type]; kernel_rfl
theorem self : isSubtype (.type "StopIteration") (.type "StopIteration") = pure true := by rw [isSubtype_type]; kernel_rfl
theorem init : Slot "StopIteration" "__init__" "StopIteration.__init__" :=
  .of (owner := "StopIteration") (n := "__init__") (by rw [typeLookup_type, builtinLookup_eq_fast]; kernel_rfl) (by decide +kernel) (by decide +kernel) (by decide +kernel)
    (by first | exact .inl (by decide +kernel) | exact .inr (by decide +kernel)) (by rw [isSubtype_type]; kernel_rfl)
theorem initEntry : entryFor table "StopIteration.__init__" = some Builtin.«StopIteration.__init__» := entryFor_of_tree (by kernel_rfl)
theorem baseEntry : entryFor table "BaseException.__init__" = some Builtin.«BaseException.__init__» := entryFor_of_tree (by kernel_rfl)
theorem initKind : builtinKind "StopIteration.__init__" = some .slot := by decide +kernel
theorem initSplit : splitId "StopIteration.__init__" = some ("StopIteration", "__init__") := by decide +kernel
theorem initSig : Manifest.signature? "StopIteration.__init__" = some ⟨.positional, "*", "StopIteration", .self, [⟨"args", .varPos, false⟩]⟩ := by kernel_rfl
theorem notStar : ("StopIteration" != "*") = true := by decide +kernel
theorem base : isSubtype (.type "StopIteration") (.type "BaseException") = pure true := by rw [isSubtype_type]; kernel_rfl
theorem metaType : (Value.type ((Manifest.find? "StopIteration").elim "type" (·.metatype)) == Value.type "type") = true := by decide +kernel

section
variable {prog : Program} {w : World} {A : Around} {E : Value → Shared → Prop} {s : Shared}
theorem new {Q : Value → Shared → Prop}
    (h : ∀ h', (∀ b o, s.heap.get? b = some o → h'.get? b = some o) → h'.get? (s.heap.objs.size + 1) = some { cls := .type "StopIteration", data := .fields #[.ref s.heap.objs.size, .none, .none, .none, .bool false, .none] } → Q (.ref (s.heap.objs.size + 1)) { s with heap := h' }) :
    wpAny (model prog w) A (call (.builtin "Exception.__new__") [.type "StopIteration"]) Q E s := by
  refine call_builtin_at newPlain newEntry newCheck ?_
  unfold Builtin.«BaseException.__new__»
  refine PyProof.Rows.wpAt_bind (wpAt_owner rfl newEnds (wpAt_of_any ?_))
  dsimp only
  refine wpAny_bind (m := isType _) (wpAny_of_eq (a := true) rfl ?_)
  simp only [Bool.not_true, Bool.false_eq_true, if_false]
  refine wpAny_bind (wpAny_of_eq subOwner ?_)
  simp only [Bool.not_true, Bool.false_eq_true, if_false]
  refine wpAny_bind (wpAny_of_eq madeHere ?_)
  refine wpAny_bind (wpAny_of_eq (a := 0) ?own ?_)
  case own =>
    show (do
      if ← isSubtype (.type "StopIteration") (.type "AttributeError") then return 2
      if ← isSubtype (.type "StopIteration") (.type "NameError") then return 1
      return 0 : Sem Nat) = pure 0
    simp only [notAttr, notName, pure_bind, Bool.false_eq_true, if_false]
  unfold newTuple
  refine wpAny_bind (wpAny_newObj_type (wpAny_bind (wpAny_newObj_type (wpAny_pure ⟨_, rfl, ?_⟩) (by size_fits))) (by size_fits))
  have e : (s.heap.push { cls := Value.type "tuple", data := Data.seq ([] : List Value).toArray }).objs.size = s.heap.objs.size + 1 := by simp
  rw [e]
  refine h _ (fun b o hb => Heap.get?_push_of_some _ (Heap.get?_push_of_some _ hb)) ?_
  exact Heap.get?_push_at e.symm rfl

theorem check_in {M : Model} {self : Value} {Q : Unit → Shared → Prop} (hT : s.TypeIs self "StopIteration") (hQ : Q () s) : wpAny M A (checkBuiltinCall "StopIteration.__init__" ⟨[self], []⟩) Q E s := by
  simp only [checkBuiltinCall, initKind, initSplit, initSig]
  refine wpAny_bind (wpAny_isInstance hT SI.self ?_)
  simp only [Bool.not_true, Bool.false_eq_true, if_false]
  unfold Bind.checkArgs
  dsimp only
  refine wpAny_bind (m := Bind.printed "*" true _ _) (printed_star (self := self) rfl hT fun full => ?_)
  refine wpAny_bind (m := Bind.printed "StopIteration" false _ _) (printed_name notStar ?_)
  show wpAny M A (Sem.onRaise (Bind.check _ full "StopIteration" _ []) _) Q E s
  rw [check_varPos]
  exact wpAny_pure hQ

theorem run_init {e : Addr} {t : Addr} {Q : Value → Shared → Prop} (he : s.heap.get? e = some { cls := .type "StopIteration", data := .fields #[.ref t, .none, .none, .none, .bool false, .none] })
    (h : ∀ h' t', (∀ b o, b ≠ e → s.heap.get? b = some o → h'.get? b = some o) → h'.get? e = some { cls := .type "StopIteration", data := .fields #[.ref t', .none, .none, .none, .bool false, .none] } → Q .none { s with heap := h' }) :
    wpAny (model prog w) A (call (.builtin "StopIteration.__init__") [.ref e]) Q E s := by
  refine wpAny_call (codeAny_call_builtin init.plain initEntry (check_in ⟨_, he, rfl⟩ ?_))
  unfold Builtin.«StopIteration.__init__»
  dsimp only
  refine wpAny_bind (wpAny_runValue (codeAny_builtin baseEntry ?_))
  unfold Builtin.«BaseException.__init__»
  dsimp only
  rw [if_neg (by simp)]
  unfold newTuple Builtin.BaseException.bexcPut
  have he1 := Heap.get?_push_of_some (h := s.heap) { cls := .type "tuple", data := .seq ([] : List Value).toArray } he
  refine wpAny_bind (wpAny_newObj_type (wpAny_bind (wpAny_bind (wpAny_field he1 rfl (x := .ref t) rfl (wpAny_bind (wpAny_setField he1 rfl (by simp) ?_))))) (by size_fits))
  refine wpAny_letGo (wpAny_pure ?_)
  have he2 := Heap.get?_update_self (Obj.mapFields (·.setIfInBounds 0 (.ref s.heap.objs.size))) he1 rfl
  show wpAny (model prog w) _ (Builtin.Exceptions.excPut (.ref e) 5 .none >>= _) _ _ _
  unfold Builtin.Exceptions.excPut
  refine wpAny_bind (wpAny_bind (wpAny_field he2 rfl (x := .none) rfl (wpAny_bind (wpAny_setField he2 rfl (by simp) (wpAny_pure ?_)))))
  have he3 := Heap.get?_update_self (Obj.mapFields (·.setIfInBounds 5 .none)) he2 rfl
  refine wpAny_bind (wpAny_setField he3 rfl (by simp) ?_)
  have he4 := Heap.get?_update_self (Obj.mapFields (·.setIfInBounds 5 (([] : List Value).headD .none))) he3 rfl
  refine wpAny_pure (h _ s.heap.objs.size (fun b o hne hb => ?_) ?_)
  · rw [Heap.get?_update_other _ _ (Ne.symm hne), Heap.get?_update_other _ _ (Ne.symm hne), Heap.get?_update_other _ _ (Ne.symm hne)]
    exact Heap.get?_push_of_some _ hb
  · exact he4
theorem call_it {Q : Value → Shared → Prop}
    (h : ∀ h' e t, (∀ b o, s.heap.get? b = some o → h'.get? b = some o) → s.heap.get? e = none → h'.get? e = some { cls := .type "StopIteration", data := .fields #[.ref t, .none, .none, .none, .bool false, .none] } → Q (.ref e) { s with heap := h' }) :
    wpAny (model prog w) A (call (.type "StopIteration") []) Q E s := by
  refine wpAny_call (codeAny_of_tree ?_)
  show wpAny _ _ (callAny (.type "StopIteration") ⟨[], []⟩) _ _ s
  simp only [callAny]
  refine wpAny_pure ⟨Code.quiet_builtin _ (by decide +kernel), codeAny_builtin entry_type_call ?_⟩
  rw [Around.under_plain (weight_type_call "StopIteration" _ _) (by first | rfl | kernel_rfl | decide +kernel)]
  unfold Builtin.«type.__call__»
  dsimp only
  rw [if_neg (by rw [notType]; exact Bool.false_ne_true), if_neg (by rw [canNew]; exact Bool.false_ne_true)]
  obtain ⟨l, hl, hle⟩ := mro
  refine wpAny_bind (wpAny_of_eq typeCall (wpAny_bind (wpAny_of_eq hl ?_)))
  rw [if_neg (by rw [hle]; exact Bool.false_ne_true)]
  refine wpAny_bind (wpAny_of_eq madeBy ?_)
  dsimp only
  refine wpAny_bind (wpAny_pure (wpAny_bind (wpAny_holding (new fun h₁ k1 he => ?_))))
  refine wpAny_bind (wpAny_isInstance (T := "StopIteration") ⟨_, he, rfl⟩ self ?_)
  simp only [Bool.not_true, Bool.false_eq_true, if_false]
  refine wpAny_bind (wpAny_holding (wpAny_callSpecial?_slot (name := Str.ofString "__init__") (T := "StopIteration") ⟨_, he, rfl⟩ init (run_init (s := { s with heap := h₁ }) he fun h₂ t' k2 he2 => ?_)))
  dsimp only
  rw [if_neg (by simp)]
  refine wpAny_pure (h _ _ t' (fun b o hb => k2 b o ?_ (k1 b o hb)) ?_ he2)
  · exact Nat.ne_of_lt (Nat.lt_succ_of_lt (Heap.lt_size hb))
  · exact Heap.get?_none_of_le (Nat.le_succ _)

theorem issub : Meets (Builtin.«issubclass» ⟨[.type "StopIteration", .type "StopIteration"], []⟩) (fun _ R s => R (.ok (.ret (.bool true))) s) :=
  fun _ _ _ _ _ hs => issubclass_outer (by
    have hm := metaType
    have hself := self
    generalize hk : rawInt 0 = k
    repeat (any_goals (first | assumption | (rw [if_pos hm]) | (rw [hself]) | (subst hk) | wp_step)))

theorem raise_it {env : Env} {x : Str} {np pos : Pos} {Q : Flow → Shared → Prop} (hh : A.handled = none)
    (hx : wpAny (model prog w) A (eval (.Name x np) env) (fun v s₁ => v = .type "StopIteration" ∧ s₁ = s) E s)
    (h : ∀ h' e t, (∀ b o, s.heap.get? b = some o → h'.get? b = some o) → s.heap.get? e = none → h'.get? e = some { cls := .type "StopIteration", data := .fields #[.ref t, .none, .none, .none, .bool false, .none] } → E (.ref e) { s with heap := h' }) :
    wpAny (model prog w) A (exec (.Raise (some (.Name x np)) none pos) env) Q E s := by
  show wpAny (model prog w) A (do standAt pos; raiseStmt env (some (do let v ← eval (.Name x np) env; standAt pos; pure v)) none) Q E s
  refine wpAny_bind (wpAny_standAt ?_)
  unfold raiseStmt
  dsimp only
  refine wpAny_bind (wpAny_bind (wpAny_mono hx (fun v s₁ h₁ => wpAny_bind (wpAny_standAt (wpAny_pure ?_))) fun _ _ e => e))
  obtain ⟨rfl, hs₁⟩ := h₁
  subst s₁
  refine wpAny_bind (wpAny_pure ?_)
  dsimp only
  refine wpAny_bind (wpAny_holding ?_)
  unfold excFromValue isExcClass
  refine wpAny_bind (wpAny_bind (wpAny_pure ?_))
  simp only [if_true]
  rw [base]
  refine wpAny_pure ?_
  simp only [if_true]
  refine wpAny_bind (call_it fun h' e t hk hn he => ?_)
  have hT : ({ s with heap := h' } : Shared).TypeIs (.ref e) "StopIteration" := ⟨_, he, rfl⟩
  refine wpAny_bind (wpAny_isInstance hT base ?_)
  simp only [Bool.not_true, Bool.false_eq_true, if_false]
  refine wpAny_pure ?_
  first | (refine wpAny_bind (m := isType (.type "StopIteration")) (wpAny_pure ?_)) | (refine wpAny_bind (wpAny_pure ?_))
  first | (rw [if_pos rfl]) | (simp only [if_true]) | dsimp only
  refine wpAny_bind (wpAny_holding ?_)
  unfold raisedFor
  first | (simp only [Bool.false_eq_true, if_false]) | (rw [if_neg (by decide)]) | skip
  first | (refine wpAny_bind (wpAny_typeOf hT ?_)) | (refine wpAny_bind ?_; refine wpAny_bind (wpAny_typeOf hT ?_))
  refine wpAny_bind (call_issubclass issub ?_)
  first | (refine wpAny_bind (wpAny_truthy_bool ?_)) | (refine wpAny_truthy_bool ?_) | (dsimp only [wants]; first | (refine wpAny_bind (wpAny_truthy_bool ?_)) | (refine wpAny_truthy_bool ?_))
  first | (rw [if_pos rfl]) | (simp only [if_true]) | skip
  refine wpAny_pure ?_
  unfold setFlight raiseNew
  refine wpAny_bind (wpAny_bind (wpAny_field (i := 1) (x := Value.none) he rfl rfl ?_))
  rw [if_neg (by decide)]
  refine wpAny_pure (wpAny_bind (wpAny_handled ?_))
  rw [hh]
  first
    | exact wpAny_throw (h h' e t hk hn he)
    | exact wpAny_bind (wpAny_pure (wpAny_throw (h h' e t hk hn he)))
end
end SI
end Mine
end

section
open PySem PySem.W PyProof.Rows PySem.Calls
set_option Elab.async false
set_option maxRecDepth 100000
namespace Mine

/-- as W, with an end for exceptions -/
def WE {α : Type} (X : Cx) (A : Around) (σ : St) (t : Sem α) (Q : α → St → Prop) (E : Value → Shared → Prop) : Prop :=
  ∀ s : Shared, Own X.s₁ σ s → wpAny (model X.prog X.w) A t (fun a s' => ∃ σ', Own X.s₁ σ' s' ∧ Q a σ') E s
/-- an exception is in the air -/
def Up (X : Cx) (T : String) (C : Value → Prop) (R : St → Prop) (v : Value) (s : Shared) : Prop := ∃ e σ' c, v = .ref e ∧ C c ∧ Air X σ' e T c s ∧ R σ'
/-- within the frame of a def -/
def InF (env : Env) (ns : List Str) (fr : List Fram) (R : List (Option Value) → Mp → Mp → Prop) (σ : St) : Prop := ∃ vs, σ.fr = ⟨env, ns, vs, true⟩ :: fr ∧ R vs σ.F σ.U

section
variable {α β : Type} {X : Cx} {K : Frag} {A : Around} {σ : St} {env : Env} {E : Value → Shared → Prop} {ns : List Str} {fr : List Fram} {T : String} {c : Value → Prop}

theorem W.e {t : Sem α} {Q : α → St → Prop} (h : W X A σ t Q) : WE X A σ t Q E := fun s O => h s E O
theorem W_of_WE {t : Sem α} {Q : α → St → Prop} (h : ∀ E, WE X A σ t Q E) : W X A σ t Q := fun s E O => h E s O
theorem WE.go {t : Sem α} {Q : α → St → Prop} {s : Shared} {P : α → Shared → Prop} (h : WE X A σ t Q E) (O : Own X.s₁ σ s)
    (k : ∀ a s' σ', Own X.s₁ σ' s' → Q a σ' → P a s') : wpAny (model X.prog X.w) A t P E s :=
  wpAny_mono (h s O) (fun a s' ⟨σ', O', q⟩ => k a s' σ' O' q) fun _ _ e => e
theorem WE.mono {t : Sem α} {Q Q' : α → St → Prop} {E' : Value → Shared → Prop} (h : WE X A σ t Q E) (k : ∀ a σ', Q a σ' → Q' a σ') (k' : ∀ e s, E e s → E' e s) : WE X A σ t Q' E' :=
  fun s O => wpAny_mono (h s O) (fun a _ ⟨σ', O', q⟩ => ⟨σ', O', k a σ' q⟩) k'
theorem Up.mono {R R' : St → Prop} (k : ∀ σ, R σ → R' σ) {v : Value} {s : Shared} (h : Up X T c R v s) : Up X T c R' v s := let ⟨e, σ', c, a, b, d, q⟩ := h; ⟨e, σ', c, a, b, d, k _ q⟩

def ThenE (X : Cx) (A : Around) (rest : List Stmt) (env : Env) (Q : Flow → St → Prop) (E : Value → Shared → Prop) (f : Flow) (σ : St) : Prop :=
  match f with
  | .next => WE X A σ (execs rest env) Q E
  | .brk => Q .brk σ
  | .cont => Q .cont σ
  | .ret v => Q (.ret v) σ
theorem WE_execs_cons {st : Stmt} {rest : List Stmt} {Q : Flow → St → Prop} (h : WE X A σ (exec st env) (ThenE X A rest env Q E) E) : WE X A σ (execs (st :: rest) env) Q E := by
  intro s O
  refine wpAny_execs_cons (h.go O fun f s' σ' O' q => ?_)
  cases f with
  | next => exact q s' O'
  | brk => exact ⟨σ', O', q⟩
  | cont => exact ⟨σ', O', q⟩
  | ret v => exact ⟨σ', O', q⟩
theorem WE_execs_nil {Q : Flow → St → Prop} (h : Q .next σ) : WE X A σ (execs [] env) Q E := fun _ O => wpAny_execs_nil ⟨σ, O, h⟩
theorem WE_If {test : Expr} {body orelse : List Stmt} {pos : Pos} {Q : Flow → St → Prop}
    (h : W X A σ (isTrue test env (eval test env)) fun b σ' => if b = true then WE X A σ' (execs body env) Q E else WE X A σ' (execs orelse env) Q E) : WE X A σ (exec (.If test body orelse pos) env) Q E := by
  intro s O
  refine wpAny_If (h.go O fun b s' σ' O' q => ?_)
  cases b
  · exact q s' O'
  · exact q s' O'
theorem WE_Expr {e : Expr} {pos : Pos} {Q : Flow → St → Prop} (h : WE X A σ (eval e env) (fun _ => Q .next) E)
    (hi : interactive env = false := by rfl) (hs : swapsWith e none pos.line env = pure false := by rfl) : WE X A σ (exec (.Expr e pos) env) Q E :=
  fun s O => wpAny_Expr_any (h s O) hi hs
theorem WE_Assign_Name {x : Str} {p pos : Pos} {value : Expr} {Q : Flow → St → Prop}
    (h : WE X A σ (eval value env) (fun v σ' => W X A σ' (storeName env x v) fun _ => Q .next) E) (hs : swapsWith value (some (.Name x p)) pos.line env = pure false := by rfl) :
    WE X A σ (exec (.Assign [.Name x p] value pos) env) Q E :=
  fun s O => wpAny_Assign_Name (h.go O fun v s' σ' O' q => q s' E O') hs
theorem WE_Return {e : Expr} {pos : Pos} {Q : Flow → St → Prop} (h : WE X A σ (eval e env) (fun v => Q (.ret v)) E) : WE X A σ (exec (.Return (some e) pos) env) Q E :=
  fun s O => wpAny_Return_some (h s O)

/-- within a def, an exception passes a loop or a handler -/
theorem up_again {A' : Around} {R : List (Option Value) → Mp → Mp → Prop} {v : Value} {s : Shared} (hl : ∀ vs, Lined A (⟨env, ns, vs, true⟩ :: fr)) (hm : ∃ m, A' = A.mark m) (h : Up X T c (InF env ns fr R) v s) (hE : ∀ v s, Up X T c (InF env ns fr R) v s → E v s) :
    notedBy (model X.prog X.w) A' env (cameBackBy (model X.prog X.w) A env E) v s := by
  obtain ⟨m, rfl⟩ := hm
  obtain ⟨e, σ', x, rfl, cx, a, vs, hfr, r⟩ := h
  obtain ⟨fr', F, U⟩ := σ'
  dsimp only at hfr; subst hfr
  exact air_again (f := ⟨env, ns, vs, true⟩) (r := fr) a (hl vs) fun s' b => hE _ _ ⟨e, _, x, rfl, cx, b, vs, rfl, r⟩
theorem WE_While {test : Expr} {body : List Stmt} {pos : Pos} {Q : Flow → St → Prop} {R : List (Option Value) → Mp → Mp → Prop} (hl : ∀ vs, Lined A (⟨env, ns, vs, true⟩ :: fr)) (I : Nat → St → Prop) (n : Nat) (h0 : I n σ)
    (turn : ∀ n σ, I n σ → W X A σ (isTrue test env (eval test env)) fun b σ' => if b = true then WE X A σ' (execs body env) (Turn (fun σ'' => ∃ m, m < n ∧ I m σ'') Q) (Up X T c (InF env ns fr R)) else Q .next σ') :
    WE X A σ (exec (.While test body [] pos) env) Q (Up X T c (InF env ns fr R)) := by
  intro s O
  refine wpAny_While (codeAny_whileLoop (fun k s' => ∃ σ', Own X.s₁ σ' s' ∧ I k σ') ?_ n ⟨σ, O, h0⟩)
  rintro k s' ⟨σ', O', hi⟩
  refine (turn k σ' hi).go O' fun b s₂ σ₂ O₂ q₂ => ?_
  cases b
  · exact wpAny_execs_nil ⟨σ₂, O₂, q₂⟩
  · refine wpAny_mono (q₂ s₂ O₂) (fun f s₃ ⟨σ₃, O₃, q₃⟩ => ?_) fun v s₃ h => up_again hl ⟨none, rfl⟩ h fun _ _ x => x
    cases f with
    | next => obtain ⟨m, hm, q⟩ := q₃; exact ⟨m, hm, σ₃, O₃, q⟩
    | cont => obtain ⟨m, hm, q⟩ := q₃; exact ⟨m, hm, σ₃, O₃, q⟩
    | brk => exact ⟨σ₃, O₃, q₃⟩
    | ret v => exact ⟨σ₃, O₃, q₃⟩

/-- what stands behind the try -/
def Tried (X : Cx) (A : Around) (orelse : List Stmt) (env : Env) (Q : Flow → St → Prop) (E : Value → Shared → Prop) (f : Flow) (σ : St) : Prop :=
  match f with
  | .next => WE X A σ (execs orelse env) Q E
  | f => Q f σ
theorem WE_Try {body orelse : List Stmt} {x : Str} {T' : String} {np hp pos : Pos} {b₀ : Stmt} {suite : List Stmt} {Q : Flow → St → Prop} (hl : ∀ vs, Lined A (⟨env, ns, vs, true⟩ :: fr))
    (hx : GName X env x (.type T')) (hexc : isSubtype (.type T') (.type "BaseException") = pure true) (hnt : isSubtype (.type ((Manifest.find? T').elim "type" fun y => y.metatype)) (.type "tuple") = pure false) (hsub : isSubtype (.type T) (.type T') = pure true)
    (h : WE X A σ (execs body env) (Tried X A orelse env Q E) (Up X T c fun σ' => ∃ vs, σ'.fr = ⟨env, ns, vs, true⟩ :: fr ∧ ∀ e oe ws, Le σ'.F (upd σ'.F e oe) → oe.data = .fields ws → (∃ x, ws[2]? = some x ∧ c x) →
      WE X (A.mark (some (.ref e))) ⟨⟨env, ns, vs, true⟩ :: fr, upd σ'.F e oe, σ'.U⟩ (execs (b₀ :: suite) env) Q (notedBy (model X.prog X.w) (A.mark (some (.ref e))) env (cameBackBy (model X.prog X.w) A env E)))) :
    WE X A σ (exec (.Try body [.ExceptHandler (some (.Name x np)) none (b₀ :: suite) hp] orelse [] pos) env) Q E := by
  intro s O
  refine wpAny_Try_except (wpAny_mono (h s O) (fun f s₁ ⟨σ₁, O₁, q⟩ => ?_) fun v s₁ ⟨e, σ₁, x, ev, cx, a, vs, hfr, q⟩ => ?_)
  · cases f with
    | next => exact q s₁ O₁
    | brk => exact ⟨σ₁, O₁, q⟩
    | cont => exact ⟨σ₁, O₁, q⟩
    | ret v => exact ⟨σ₁, O₁, q⟩
  · subst ev
    obtain ⟨fr', F, U⟩ := σ₁
    dsimp only at hfr; subst hfr
    exact air_catch (f := ⟨env, ns, vs, true⟩) (r := fr) a (hl vs) hx hexc hnt hsub fun s' oe ws O' L hd h2 => q e oe ws L hd ⟨x, h2, cx⟩ s' O'

/-! calls -/
theorem WE_callP (B : Base X K) {f : Addr} {oc : Value} {od : Option Addr} {osl : Array (Option Value)} {fd : FuncData} {body : List Stmt} {vals : List Value} (ns0 ns : List Str) (ws : List (Option Value)) {Q : Value → St → Prop} {R : St → Prop}
    (hroom : A.depth < recursionLimit) (ho : K.lookup f = some ⟨oc, od, .func fd, osl⟩) (hl : Lined A σ.fr)
    (h : ∀ env, EnvOf env fd → NmOk env ns → (∀ vs, Lined (A.deeper env) (⟨env, ns, vs, true⟩ :: σ.fr)) → WE X (A.deeper env) ⟨⟨env, ns, ws, true⟩ :: σ.fr, σ.F, σ.U⟩ (execs body env) (RetQ σ.fr Q) (Up X T c (InF env ns σ.fr fun _ F U => R ⟨σ.fr, F, U⟩)))
    (hb : fd.body = .stmts body := by rfl) (hcd : codeIn K fd.code fd.qualname = true := by kernel_rfl) (hclo : fd.closure = [] := by rfl)
    (hcell : ∀ x ∈ fd.scope.names, x.2 ≠ .cell := by decide +kernel)
    (hco : fd.scope.isCoroutine = false := by rfl) (hgen : fd.scope.isGenerator = false := by rfl) (hk : fd.scope.kind = .function := by rfl)
    (hbind : bindArgs fd ⟨vals, []⟩ = pure (ns0.zip vals) := by rfl) (hnm : nmCheck fd.scope ns = true := by decide +kernel) (hpre : ns0 <+: ns := by exact ⟨_, rfl⟩)
    (hws : Binds vals ws := by repeat constructor) (hlen : ns0.length = vals.length := by rfl) :
    WE X A σ (call (.ref f) vals) Q (Up X T c R) := by
  obtain ⟨nd, hlk⟩ := nmCheck_ok hnm
  obtain ⟨rest, rfl⟩ := hpre
  intro s O
  refine enter_call B O ho hb hcd hclo hcell hroom hco hgen hk ?_
  rw [hbind]
  refine wpAny_pure ⟨σ, O, fun x hx => (hlk _ (List.mem_append_left _ (zip_mem hx))).1, ns0 ++ rest, ws, fun i x v h1 h2 => ?_, fun env s'' he O'' => ?_⟩
  · have h3 := hws.get h2
    have hi : i < vals.length := (List.getElem?_eq_some_iff.mp h3).1
    refine lookup_zip_rev (List.nodup_append.mp nd).1 i x v ?_ h3
    rwa [List.getElem?_append_left (by omega)] at h1
  · refine wpAny_mono (h env he (nmOk he hnm) (fun vs => hl.deeper) s'' O'') (fun fl s₃ ⟨σ₃, O₃, q₃⟩ => ?_) fun v s₃ ⟨e, σ₃, x, ev, cx, a, vs, hfr, r⟩ => ?_
    · obtain ⟨g, hfr, hq⟩ := q₃
      obtain ⟨fr3, F3, U3⟩ := σ₃
      dsimp only at hfr; subst hfr
      exact ⟨_, O₃.pop, hq⟩
    · subst ev
      obtain ⟨fr3, F3, U3⟩ := σ₃
      dsimp only at hfr; subst hfr
      exact air_leave (f := ⟨env, ns0 ++ rest, vs, true⟩) a hl.deeper fun s' b => ⟨e, _, x, rfl, cx, b, r⟩

theorem WE_CallM {C : Addr} (B : Base X K) {env : Env} {o : Expr} {name : Str} {apos pos : Pos} {Q : Value → St → Prop} {f : Addr}
    (h : W X A σ (eval o env) fun ov σ₁ => ∃ ia dx od av, ov = .ref ia ∧ Live X σ₁ ia (instObj C dx) ∧ Live X σ₁ dx od ∧ Att av od ∧ av.lookup name = none ∧ WE X A σ₁ (call (.ref f) [ov]) Q E) {pl : Sem Bool}
    (hg : plainGet K C name = true := by kernel_rfl) (hf : findIn K (.ref C) name = some (some (.ref f)) := by kernel_rfl) (ht : isFn K (.ref f) = true := by kernel_rfl) (hk : keepIn K (.ref f) = true := by kernel_rfl)
    (heq : eval (.Call (.Attribute o name apos) [] [] pos) env = (do
      let ov ← eval o env
      standAt apos.atName
      let (f, first) ← holding [ov] (getMethod ov name pl)
      callWith pos f first (backTo pos (starEach [] env)) (backToKw pos (keywordEach [] env))) := by rfl) :
    WE X A σ (eval (.Call (.Attribute o name apos) [] [] pos) env) Q E := by
  intro s O
  refine methodCall_KW (pl := pl) (he := heq) (h.go O fun ov s₁ σ₁ O₁ q₁ => ?_)
  obtain ⟨ia, dx, od, av, rfl, hI, hD, ⟨es, n, rfl, hes⟩, hl, hq⟩ := q₁
  refine method_fn (B.inK O₁) (instAt (O₁.live hI) (O₁.live hD)) (plainGet_of hg).1 (plainGet_of hg).2 hf (beq_iff_eq.mp ht) ?_ ?_
  · show (lookIn name (dictOf es n)).map _ = _
    rw [lookIn_dict, att_getL hes, hl]; rfl
  · exact callWith_K0 (B.inK O₁) hk (hq s₁ O₁)

/-- row[k] -/
theorem WE_item {C f ia dx : Addr} (B : Base X K) {value slice : Expr} {i : Value} {od : Obj} {Q : Value → St → Prop} (hI : Live X σ ia (instObj C dx)) (hD : Live X σ dx od)
    (h : WE X A.in1 σ (call (.ref f) [.ref ia, i]) Q E) (hs : findIn K (.ref C) "__getitem__" = some (some (.ref f)) := by kernel_rfl) (hf : fnIn K f = true := by kernel_rfl) (hfn : isFn K (.ref f) = true := by kernel_rfl)
    (hsl : subscripted slice true (.ref ia) i = runValue (.builtin "lifetime.subscript" ⟨[.ref ia, i], []⟩) := by with_unfolding_all rfl) :
    WE X A σ (subscriptTail value slice (.ref ia) i) Q E := by
  intro s O
  have Xk := B.inK O
  have I := instAt (O.live hI) (O.live hD)
  unfold fnIn at hf
  split at hf
  · rename_i e
    unfold subscriptTail getitemInPython
    refine wpAny_bind (wpAny_bind (wpAny_bind (I.type.here ((looks_findIn Xk hs).here ?_))))
    dsimp only
    refine wpAny_bind (wpAny_load (Xk _ _ e) (wpAny_pure ?_))
    dsimp only
    rw [hsl]
    refine wpAny_bind (wpAny_runValue (codeAny_builtin entry_sub ?_))
    unfold Builtin.«lifetime.subscript»
    refine wpAny_bind (special_fn Xk I hs (beq_iff_eq.mp hfn) (wpAny_mono (h s O) (fun v s' z => ?_) fun _ _ z => z))
    refine wpAny_pure ?_
    show wpAny _ A (letTemporaryGo value (.ref ia) v >>= fun _ => pure v) _ E s'
    exact wpAny_bind (wpAny_letTemporaryGo (wpAny_pure z))
  · cases hf
/-- len(row) -/
theorem W_len_inst {C f ia dx : Addr} (B : Base X K) {od : Obj} {Q : Value → St → Prop} (hI : Live X σ ia (instObj C dx)) (hD : Live X σ dx od)
    (h : W X A.in1 σ (call (.ref f) [.ref ia]) fun v σ' => ∃ (n : Nat) (t : Tok), v = .int n t ∧ n < 2 ^ 62 ∧ ∀ t, Q (.int n t) σ') (hs : findIn K (.ref C) "__len__" = some (some (.ref f)) := by kernel_rfl) (hfn : isFn K (.ref f) = true := by kernel_rfl) :
    W X A σ (call (.builtin "len") [.ref ia]) Q := by
  intro s E O
  refine Calls.call_function_entry kind_len plain_len entry_len (args_len1 _) ?_
  unfold Builtin.«len»
  refine wpAny_bind (m := oneArg "len" _) (wpAny_pure ?_)
  refine wpAny_bind (m := callSpecial? (.ref ia) (Str.ofString "__len__")) (special_fn (B.inK O) (instAt (O.live hI) (O.live hD)) hs (beq_iff_eq.mp hfn) (h.go O fun r s' σ' O' hr => ?_))
  obtain ⟨n, u, rfl, hn, hq⟩ := hr
  refine wpAny_bind (wpAny_holding (wpAny_pure ?_))
  refine wpAny_bind (wpAny_letGo ?_)
  show wpAny _ _ (if (n : Int) < 0 then _ else _) _ _ _
  rw [if_neg (by omega)]
  show wpAny _ _ (if (n : Int) ≥ 2 ^ 63 then _ else _) _ _ _
  rw [if_neg (by omega)]
  exact wpAny_bind (wpAny_mkInt (wpAny_pure ⟨_, rfl, σ', O'.toks _, hq _⟩))
/-- isinstance(row, its class) -/
theorem W_isi_inst {C ia dx : Addr} (B : Base X K) {od : Obj} {Q : Value → St → Prop} (hI : Live X σ ia (instObj C dx)) (hD : Live X σ dx od) (h : Q (.bool true) σ) (e : isIn K (.ref C) C = true := by kernel_rfl) :
    W X A σ (call (.builtin "isinstance") [.ref ia, .ref C]) Q :=
  fun _ _ O => isi_call (B.inK O) (fun _ => (instAt (O.live hI) (O.live hD)).type) e (by intro x; cases x) ⟨σ, O, h⟩
end
end Mine
end

section
open PySem PySem.W PyProof.Rows PySem.Calls
set_option Elab.async false
set_option maxRecDepth 100000
namespace Mine

theorem entry_unchain : entryFor table "proto.unchain" = some Builtin.«proto.unchain» := entryFor_of_tree (by kernel_rfl)
section
variable {prog : Program} {w : World} {A : Around} {E : Value → Shared → Prop} {s : Shared}

/-- an exception is raised while another one, which has no context, is handled -/
theorem raise_new {α : Type} {e h0 : Addr} {o0 oe : Obj} {vs0 ve : Array Value} {Q : α → Shared → Prop} (hh : A.handled = some (.ref h0)) (hne : h0 ≠ e) (h1 : s.heap.get? h0 = some o0) (d1 : o0.data = .fields vs0) (c1 : vs0[2]? = some .none)
    (he : s.heap.get? e = some oe) (de : oe.data = .fields ve) (hz : 2 < ve.size) (h : E (.ref e) { s with heap := s.heap.update e (Obj.mapFields (·.setIfInBounds 2 (.ref h0))) }) : wpAny (model prog w) A (raiseNew (.ref e) : Sem α) Q E s := by
  unfold raiseNew
  refine wpAny_bind (wpAny_handled ?_)
  rw [hh]
  dsimp only
  rw [if_pos (by simp [hne])]
  refine wpAny_bind (wpAny_holding (wpAny_runValue (codeAny_builtin entry_unchain ?_)))
  unfold Builtin.«proto.unchain»
  dsimp only
  refine wpAny_bind (wpAny_field h1 d1 c1 ?_)
  rw [if_pos (by decide)]
  refine wpAny_bind (wpAny_pure (wpAny_pure ?_))
  dsimp only
  unfold updateField
  refine wpAny_bind (wpAny_bind (wpAny_load he ?_))
  rw [de]
  dsimp only
  rw [if_pos hz]
  exact wpAny_update he (wpAny_throw h)

theorem raiseStmt_new {cls : String} (F : ExcRaiseFacts cls) {env : Env} {x : Sem Value} {h0 : Addr} {Q : Flow → Shared → Prop} (hh : A.handled = some (.ref h0))
    (h : wpAny (model prog w) A x (fun v s₁ => ∃ e t o0 vs0, v = .ref e ∧ s₁.heap.get? e = some { cls := .type cls, data := .fields #[.ref t, .none, .none, .none, .bool false, .none] } ∧ h0 ≠ e ∧ s₁.heap.get? h0 = some o0 ∧ o0.data = .fields vs0 ∧ vs0[2]? = some .none ∧
      E (.ref e) { s₁ with heap := s₁.heap.update e (Obj.mapFields (·.setIfInBounds 2 (.ref h0))) }) E s) :
    wpAny (model prog w) A (raiseStmt env (some x) none) Q E s := by
  unfold raiseStmt
  refine wpAny_bind (wpAny_mono h (fun v s₁ h₁ => ?_) fun _ _ x => x)
  obtain ⟨e, t, o0, vs0, rfl, he, hne, g0, d0, c0, hE⟩ := h₁
  have hT : s₁.TypeIs (.ref e) cls := ⟨_, he, rfl⟩
  refine wpAny_bind (wpAny_pure ?_)
  dsimp only
  refine wpAny_bind (wpAny_holding ?_)
  unfold excFromValue isExcClass
  refine wpAny_bind (wpAny_bind ?_)
  unfold isType
  refine wpAny_bind (wpAny_load he (wpAny_pure (wpAny_pure ?_)))
  simp only [Bool.false_eq_true, if_false]
  refine wpAny_bind (wpAny_isInstance hT F.isExc ?_)
  simp only [if_true]
  refine wpAny_pure ?_
  refine wpAny_bind (wpAny_bind (wpAny_load he (wpAny_pure ?_)))
  simp only [Bool.false_eq_true, if_false]
  unfold raisedInstance
  refine wpAny_bind (wpAny_bind (wpAny_typeOf hT (wpAny_bind (wpAny_pure ?_))))
  rw [if_pos F.plainMeta]
  refine wpAny_pure ?_
  unfold setFlight
  refine wpAny_bind (wpAny_bind (wpAny_field (i := 1) (x := Value.none) he rfl rfl ?_))
  rw [if_neg (by decide)]
  exact wpAny_pure (raise_new hh hne g0 d0 c0 he rfl (by simp) hE)
end
end Mine
end

section
open PySem PySem.W PyProof.Rows PySem.Calls
set_option Elab.async false
set_option maxRecDepth 100000
namespace Mine

/-- a row: its object, its dict, its list -/
structure RowAt (F U : Mp) (ia dx el : Addr) (r : Value) (e idx : Nat) (els : List Value) (lv : Value) : Prop where
  inst : F ia = some (instObj 152 dx)
  ne : dx ≠ el
  dict : ∃ od s t1 t2 t3 kd, U dx = some od ∧ Att (rowAv r s (e : Int) (idx : Int) t1 t2 t3 el lv kd) od
  list : ∃ m, U el = some (lstO els m)
/-- all but two objects stay -/
def Fre (dx el : Addr) (U U' : Mp) : Prop := ∀ a o, a ≠ dx → a ≠ el → U a = some o → U' a = some o
/-- what a row has read: octets, or a new row -/
def ItemOk (lvb : Bool) (rv : Value) (u : T) (p : Nat) (F U U' : Mp) (w : Value) : Prop := match u with
  | .leaf b => OctF F lvb w b
  | .node l => ∃ ia dx el, w = .ref ia ∧ RowAt F U' ia dx el rv (p + (code (.node l)).length) (p + (hdr 192 (codes l).length).length) [] .none ∧ U dx = none ∧ U el = none
structure Pull1 (lvb : Bool) (rv : Value) (u : T) (ia dx el : Addr) (e idx : Nat) (els : List Value) (lv : Value) (F U F' U' : Mp) (w : Value) : Prop where
  le : Le F F'
  fre : Fre dx el U U'
  row : RowAt F' U' ia dx el rv e (idx + (code u).length) (els ++ [w]) lv
  item : ItemOk lvb rv u idx F' U U' w

section
variable {P : Params} {X : Cx} {A : Around} {σ : St}
theorem LzI.mono {lv : Bool} {r : Value} {u : T} {start : Nat} {F U U' : Mp} {item : Value} (h : LzI lv r u start F U U' item) : Le U U' := by
  cases u with
  | leaf b => rw [h.1]; exact .refl _
  | node l =>
    obtain ⟨ia, _, dx, el, od, m, t1, t2, t3, kd, rfl, h1, h2, h3, _⟩ := h
    exact (le_upd h1).trans (le_upd (by rw [upd_ne h3.symm]; exact h2))
theorem Live.ofU {fr : List Fram} {F U : Mp} {a : Addr} {o : Obj} (h : U a = some o) : Live X ⟨fr, F, U⟩ a o := .inl h
theorem Live.ofF {fr : List Fram} {F U : Mp} {a : Addr} {o : Obj} (h : F a = some o) : Live X ⟨fr, F, U⟩ a o := .inr (.inl h)

abbrev nextNs : List Str := ["self", "item", "end"]
set_option maxHeartbeats 4000000 in
theorem c_pull1 (B : Base X (Mine.hd.heap_39 P)) {lvb : Bool} {rv lv : Value} {o pre post : List UInt8} {u : T} {ia dx el : Addr} {e idx : Nat} {els : List Value} (r : Room A 5) (hrow : RowAt σ.F σ.U ia dx el rv e idx els lv)
    (ho : Oct X σ lvb rv o) (hz : o.length ≤ 1000000) (hok : Ok u) (heq : o = pre ++ code u ++ post) (hp : pre.length = idx) (hlt : idx < e) (hlen : els.length ≤ 1000000) :
    W X A σ (call (.ref 135) [.ref ia]) fun w σ' => ∃ F' U', σ' = ⟨σ.fr, F', U'⟩ ∧ Pull1 lvb rv u ia dx el e idx els lv σ.F σ.U F' U' w := by
  obtain ⟨fr, F, U⟩ := σ
  obtain ⟨hI, hne, ⟨od, s, t1, t2, t3, kd, hD, hA⟩, m, hE⟩ := hrow
  have hrv : handedIn rv = true := by
    cases lvb with
    | false => obtain ⟨t, rfl⟩ := ho; rfl
    | true => obtain ⟨a, rfl, _⟩ := ho; rfl
  refine W_callP B ["self"] nextNs [some (.ref ia), none, none] r.d (by rfl) fun env he nm => ?_
  have hr : Room (A.deeper env) 4 := r.deeper env
  refine W_execs_cons <| W_If <| W_isTrue_Compare <| W_Attribute <| W_name nm .here <| W_getA B (.ofF hI) (.ofU hD) hA rfl rfl <| W_Attribute <| W_name nm .here <| W_getA B (.ofF hI) (.ofU hD) hA rfl rfl <| W_eq <| W_truthy_bool ?_
  rw [if_neg (by simp; omega)]
  refine W_execs_nil ?_
  refine W_execs_cons <| W_Assert <| W_isTrue_Compare <| W_Attribute <| W_name nm .here <| W_getA B (.ofF hI) (.ofU hD) hA rfl rfl <| W_Attribute <| W_name nm .here <| W_getA B (.ofF hI) (.ofU hD) hA rfl rfl <| W_lt <| W_truthy_bool ⟨by simp; omega, ?_⟩
  refine W_execs_cons <| W_Assign_Tuple <| W_Call_Name <| W_gname (gl B he "consume_item_lazy" (.ref 113)) rfl rfl <| W_callWith B (by kernel_rfl) <| W_items_cons <| W_Attribute <| W_name nm .here <| W_getA B (.ofF hI) (.ofU hD) hA rfl hrv <|
    W_items_cons <| W_Attribute <| W_name nm .here <| W_getA B (.ofF hI) (.ofU hD) hA rfl rfl <| W_items_nil ?_
  refine W.mono (c_itemlazy B (σ := ⟨_ :: fr, F, U⟩) (u := u) (start := idx) hr (ho.leU (.refl _) (.refl _)) hz hok heq hp) fun w σ' ⟨a, F1, U1, item, t4, ew, (L1 : Le F F1), e1, hF1, hI1⟩ => ?_
  subst ew e1
  have hU1 : Le U U1 := hI1.mono
  refine W_assign_Tuple hr.calm (.inr (.inl hF1)) rfl rfl <| W_inOrder_cons <| W_assign_Name nm (.there .here) <| W_inOrder_cons <| W_assign_Name nm (.there (.there .here)) <| W_inOrder_nil ?_
  refine W_execs_cons <| W_Assign_Attribute <| W_name nm (.there (.there .here)) <| W_name nm .here <| W_setA B (C := 152) (dx := dx) (.ofF (L1 _ _ hI)) (hU1 _ _ hD) hA (by simp) fun o1 A1 => ?_
  refine W_execs_cons <| W_If <| W_isTrue_val <| W_Attribute <| W_name nm .here <| W_getA B (.ofF (L1 _ _ hI)) (.ofU (upd_same ..)) A1 rfl rfl <| W_truthy_none ?_
  rw [if_neg (by simp)]
  refine W_execs_nil ?_
  have hE1 : upd U1 dx o1 el = some (lstO els m) := (upd_ne hne.symm).trans (hU1 _ _ hE)
  refine W_execs_cons <| W_Expr (hi := inter he) <| W_append <| W_Attribute <| W_name nm .here <| W_getA B (.ofF (L1 _ _ hI)) (.ofU (upd_same ..)) A1 rfl rfl ⟨el, rfl, ⟨_, _, hE1⟩, W_name nm (.there .here) ⟨els, m, hE1, by unfold sizeLine; omega, fun m' => ?_⟩⟩
  refine W_ret <| W_name nm (.there .here) ⟨_, rfl, F1, _, rfl, L1, fun b ob h1 h2 hb => ?_, ⟨L1 _ _ hI, hne, ⟨o1, s, t1, t2, t4, kd, (upd_ne hne).trans (upd_same ..), ?_⟩, m', upd_same ..⟩, ?_⟩
  · show upd (upd U1 dx o1) el _ b = _
    rw [upd_ne h2, upd_ne h1]; exact hU1 _ _ hb
  · exact A1
  · cases u with
    | leaf b => exact hI1.2
    | node l =>
      obtain ⟨ia', ew, dx', el', od', m2, s1, s2, s3, kd', h0, h1, h2, h3, h4, h5⟩ := hI1
      subst h0
      have n1 : dx' ≠ dx := fun q => by rw [q, hD] at h1; cases h1
      have n2 : dx' ≠ el := fun q => by rw [q, hE] at h1; cases h1
      have n3 : el' ≠ dx := fun q => by rw [q, hD] at h2; cases h2
      have n4 : el' ≠ el := fun q => by rw [q, hE] at h2; cases h2
      refine ⟨ia', dx', el', ew, ⟨h4, h3, ⟨od', _, s1, s2, s3, kd', ?_, h5⟩, m2, ?_⟩, h1, h2⟩
      · show upd (upd _ dx o1) el _ dx' = _
        rw [upd_ne n2, upd_ne n1]
        show upd (upd U dx' od') el' (lstO [] m2) dx' = _
        rw [upd_ne h3, upd_same]
      · show upd (upd _ dx o1) el _ el' = _
        rw [upd_ne n4, upd_ne n3]
        show upd (upd U dx' od') el' (lstO [] m2) el' = _
        rw [upd_same]
end
end Mine
end

section
open PySem PySem.W PyProof.Rows PySem.Calls
set_option Elab.async false
set_option maxRecDepth 100000
namespace Mine

section
variable {α : Type} {X : Cx} {K : Frag} {A : Around} {σ : St} {env : Env} {E : Value → Shared → Prop}

theorem WE_raise_stop {f : Fram} {x : Str} {np pos : Pos} {Q : Flow → St → Prop} (hh : A.handled = none) (hg : GName X env x (.type "StopIteration")) (hf : σ.fr.head? = some f) (he : f.env = env) (hl : Lined A σ.fr) :
    WE X A σ (exec (.Raise (some (.Name x np)) none pos) env) Q (Up X "StopIteration" (· = .none) (· = σ)) := by
  intro s O
  have hf' : f ∈ σ.fr := List.mem_of_mem_head? hf
  have hk : env.scope.kind = .function := he ▸ (O.frs f hf').kind
  refine SI.raise_it hh ?_ fun h' e t hkeep hn he' => ⟨e, σ, .none, rfl, rfl, air_made O hl hkeep hn ⟨_, _, he', rfl, rfl, rfl, rfl⟩ (tk := s.toks), rfl⟩
  obtain ⟨mg, hns, hv⟩ := hg.val
  have hns' := hns.keeps O.ground
  rcases hv with hv | ⟨hno, mb, hb, hv⟩
  · exact Calls.Name_function_global hk hg.kind (Calls.loadGlobal_global hns' hv ⟨rfl, rfl⟩) hg.nd
  · exact Calls.Name_function_global hk hg.kind (Calls.loadGlobal_builtin hns' hno (hb.keeps O.ground) hv ⟨rfl, rfl⟩) hg.nd

theorem WE_raise_index {x : Str} {np cpos pos : Pos} {a : Expr} {h0 : Addr} {o0 : Obj} {ws : Array Value} {Q : Flow → St → Prop} {R : St → Prop} (hh : A.handled = some (.ref h0)) (d0 : o0.data = .fields ws) (c0 : ws[2]? = some .none)
    (h : W X A σ (eval (.Name x np) env) fun f σ₁ => f = .type "IndexError" ∧ W X A σ₁ (spliced (backTo cpos (starEach [a] env))) fun vs σ₂ => vs.length ≤ sizeLine ∧ σ₂.F h0 = some o0 ∧ Lined A σ₂.fr ∧ R σ₂)
    (he : starEach [a] env = [(false, eval a env)] := by rfl) :
    WE X A σ (exec (.Raise (some (.Call (.Name x np) [a] [] cpos)) none pos) env) Q (Up X "IndexError" (fun _ => True) R) := by
  intro s O
  show wpAny (model X.prog X.w) A (do standAt pos; raiseStmt env (some (do let v ← eval (.Call (.Name x np) [a] [] cpos) env; standAt pos; pure v)) none) _ _ s
  refine wpAny_bind (wpAny_standAt (raiseStmt_new PySem.F.excRaise_IndexError hh (wpAny_bind ?_)))
  refine wpAny_mono (wpAny_Call_ofName (h.go O fun f s₁ σ₁ O₁ q₁ => ?_)) (fun v s₁ h₁ => wpAny_bind (wpAny_standAt (wpAny_pure h₁))) fun _ _ x => x
  obtain ⟨rfl, q₁⟩ := q₁
  rw [he] at q₁ ⊢
  refine callWith_excType rfl (evalArgs_plain (q₁.go O₁ fun vs s₂ σ₂ O₂ q₂ => ?_))
  obtain ⟨hz, hF, hl, hR⟩ := q₂
  obtain ⟨hp, g, d, tk, os⟩ := s₂
  refine wpAny_call_exc PySem.F.excCall_IndexError (hrest := by simpa using hz) fun h' e hm => ?_
  obtain ⟨t, ht, _, _⟩ := hm.there
  have hne : h0 ≠ e := fun q => by
    have := O₂.frz _ _ hF
    rw [q] at this
    rw [hm.new] at this; cases this
  refine ⟨e, t, o0, ws, rfl, ht, hne, hm.keeps _ _ (O₂.frz _ _ hF), d0, c0, e, σ₂, .ref h0, rfl, trivial, ?_, hR⟩
  refine air_made (s := ⟨hp, g, d, tk, os⟩) O₂ hl (h' := h'.update e (Obj.mapFields (·.setIfInBounds 2 (.ref h0)))) (fun b o hb => ?_) hm.new ⟨_, _, Heap.get?_update_self _ ht rfl, rfl, rfl, rfl, rfl⟩ (tk := tk)
  rw [Heap.get?_update_other _ _ (fun q => by subst q; rw [hm.new] at hb; cases hb)]
  exact hm.keeps _ _ hb
theorem W_percent {S S' : Str} {T : Int → Str} {n : Int} {t u : Tok} {Q : Value → St → Prop} (hX : S = S') (hn0 : 0 ≤ n) (hn1 : n < 10 ^ 10)
    (hm : ∀ i : Int, 0 ≤ i → i < 10 ^ 10 → i.natAbs.log2 < 1920 → ((i.natAbs : Nat) : Int).natAbs.log2 < 1920 → Meets (Builtin.«str.__mod__» ⟨[.str S' t, .int i u], []⟩) (fun _ R s => ∀ t' k, R (.ok (.ret (.str (T i) t'))) { s with toks := k }))
    (h : ∀ t, Q (.str (T n) t) σ) : W X A σ (binaryOp .Mod (.str S t) (.int n u)) Q := fun _ _ O => KPc.mod_int hX hn0 hn1 hm fun t' k => ⟨σ, O.toks k, h t'⟩
end

section
variable {P : Params} {X : Cx} {A : Around} {σ : St}
theorem c_stop (B : Base X (Mine.hd.heap_39 P)) {rv lv : Value} {ia dx el : Addr} {e : Nat} {els : List Value} {Q : Value → St → Prop} (r : Room A 2) (hl : Lined A σ.fr) (hrow : RowAt σ.F σ.U ia dx el rv e e els lv) (hlen : els.length ≤ 1000000) :
    WE X A σ (call (.ref 135) [.ref ia]) Q (Up X "StopIteration" (· = .none) fun σ' => ∃ U' t, σ' = ⟨σ.fr, σ.F, U'⟩ ∧ Fre dx el σ.U U' ∧ RowAt σ.F U' ia dx el rv e e els (.int els.length t)) := by
  obtain ⟨fr, F, U⟩ := σ
  obtain ⟨hI, hne, ⟨od, s, t1, t2, t3, kd, hD, hA⟩, m, hE⟩ := hrow
  refine WE_callP B ["self"] nextNs [some (.ref ia), none, none] r.d (by rfl) hl fun env he nm hl' => ?_
  have hr : Room (A.deeper env) 1 := r.deeper env
  refine WE_execs_cons <| WE_If <| W_isTrue_Compare <| W_Attribute <| W_name nm .here <| W_getA B (.ofF hI) (.ofU hD) hA rfl rfl <| W_Attribute <| W_name nm .here <| W_getA B (.ofF hI) (.ofU hD) hA rfl rfl <| W_eq <| W_truthy_bool ?_
  rw [if_pos (by simp)]
  refine WE_execs_cons <| W.e <| W_Assign_Attribute <| W_Call_Name <| W_gname (bl B he "len" (.builtin "len")) rfl rfl <| W_callWith_b <| W_items_cons <| W_Attribute <| W_name nm .here <| W_getA B (.ofF hI) (.ofU hD) hA rfl rfl <| W_items_nil <|
    W_len_list (.ofU hE) (by omega) fun t => W_name nm .here <| W_setA B (C := 152) (dx := dx) (.ofF hI) hD hA (by simp) fun o1 A1 => ?_
  refine WE_execs_cons <| (WE_raise_stop (hr.calm) (bl B he "StopIteration" (.type "StopIteration")) rfl rfl (hl' _)).mono (fun _ _ q => q) fun v s' h => h.mono fun σ' q => ?_
  subst q
  refine ⟨_, rfl, _, t, rfl, fun b ob h1 h2 hb => (upd_ne h1).trans hb, hI, hne, ⟨o1, s, t1, t2, t3, kd, upd_same .., A1⟩, m, (upd_ne hne.symm).trans hE⟩
end
end Mine
end

section
open PySem PySem.W PyProof.Rows PySem.Calls
set_option Elab.async false
set_option maxRecDepth 100000
namespace Mine

/-- a row reads some parts -/
inductive Pulls (lvb : Bool) (rv : Value) (ia dx el : Addr) (e : Nat) (lv : Value) (F U : Mp) (idx : Nat) (els : List Value) : List T → Mp → Mp → Nat → List Value → Prop
  | nil : Pulls lvb rv ia dx el e lv F U idx els [] F U idx els
  | snoc {us : List T} {u : T} {F1 U1 F2 U2 : Mp} {idx1 : Nat} {els1 : List Value} {w : Value} : Pulls lvb rv ia dx el e lv F U idx els us F1 U1 idx1 els1 → Pull1 lvb rv u ia dx el e idx1 els1 lv F1 U1 F2 U2 w →
      Pulls lvb rv ia dx el e lv F U idx els (us ++ [u]) F2 U2 (idx1 + (code u).length) (els1 ++ [w])
section
variable {lvb : Bool} {rv lv : Value} {ia dx el : Addr} {e idx idx' : Nat} {F U F' U' : Mp} {els els' : List Value} {us : List T}
theorem Fre.refl : Fre dx el U U := fun _ _ _ _ h => h
theorem Fre.trans {V : Mp} (h : Fre dx el U V) (k : Fre dx el V U') : Fre dx el U U' := fun a o h1 h2 x => k a o h1 h2 (h a o h1 h2 x)
theorem Pulls.le (h : Pulls lvb rv ia dx el e lv F U idx els us F' U' idx' els') : Le F F' := by
  induction h with
  | nil => exact .refl _
  | snoc _ p ih => exact ih.trans p.le
theorem Pulls.fre (h : Pulls lvb rv ia dx el e lv F U idx els us F' U' idx' els') : Fre dx el U U' := by
  induction h with
  | nil => exact .refl
  | snoc _ p ih => exact ih.trans p.fre
theorem Pulls.row (h0 : RowAt F U ia dx el rv e idx els lv) (h : Pulls lvb rv ia dx el e lv F U idx els us F' U' idx' els') : RowAt F' U' ia dx el rv e idx' els' lv := by
  induction h with
  | nil => exact h0
  | snoc _ p ih => exact p.row
theorem Pulls.sums (h : Pulls lvb rv ia dx el e lv F U idx els us F' U' idx' els') : idx' = idx + (codes us).length ∧ els'.length = els.length + us.length := by
  induction h with
  | nil => simp [codes]
  | snoc _ p ih => rw [codes_append]; simp [codes, ih.1, ih.2]; omega
theorem RowAt.le {F' : Mp} (h : RowAt F U ia dx el rv e idx els lv) (k : Le F F') : RowAt F' U ia dx el rv e idx els lv := ⟨k _ _ h.inst, h.ne, h.dict, h.list⟩
/-- the octets that a row reads are none of its own objects -/
theorem oct_apart {X : Cx} {fr fr' : List Fram} {o : List UInt8} (h : RowAt F U ia dx el rv e idx els lv) (ho : Oct X ⟨fr, F, U⟩ lvb rv o) (k : Fre dx el U U') (L : Le F F') : Oct X ⟨fr', F', U'⟩ lvb rv o := by
  cases lvb with
  | false => exact ho
  | true =>
    obtain ⟨a, rfl, hl⟩ := ho
    refine ⟨a, rfl, ?_⟩
    rcases hl with hl | hl | hl
    · obtain ⟨od, s, t1, t2, t3, kd, hD, es, n, rfl, _⟩ := h.dict
      obtain ⟨m, hE⟩ := h.list
      refine .inl (k a _ (fun q => ?_) (fun q => ?_) hl)
      · rw [q] at hl
        have : some (dictOf es n) = some (baO o) := hD.symm.trans hl
        exact absurd (Value.type.inj (congrArg Obj.cls (Option.some.inj this))) (by decide)
      · rw [q] at hl
        have : some (lstO els m) = some (baO o) := hE.symm.trans hl
        exact absurd (Value.type.inj (congrArg Obj.cls (Option.some.inj this))) (by decide)
    · exact .inr (.inl (L _ _ hl))
    · exact .inr (.inr hl)
theorem codes_split (us : List T) (j : Nat) : (codes us).length = (codes (us.take j)).length + (codes (us.drop j)).length := by
  have := congrArg codes (List.take_append_drop j us)
  rw [codes_append] at this
  rw [← this]; simp
end

theorem codes_cons' (t : T) (l : List T) : codes (t :: l) = code t ++ codes l := rfl
theorem SI.notTuple : isSubtype (.type ((Manifest.find? "StopIteration").elim "type" fun y => y.metatype)) (.type "tuple") = pure false := by rw [isSubtype_type]; kernel_rfl
theorem WE.monoE {α : Type} {X : Cx} {A : Around} {σ : St} {t : Sem α} {Q : α → St → Prop} {E E' : Value → Shared → Prop} (h : WE X A σ t Q E) (k' : ∀ e s, E e s → E' e s) : WE X A σ t Q E' := h.mono (fun _ _ q => q) k'
section
variable {P : Params} {X : Cx} {A : Around} {σ : St}
abbrev itemNs : List Str := ["self", "i", "start", "stop"]
theorem inF_mono {env : Env} {ns : List Str} {fr : List Fram} {R R' : List (Option Value) → Mp → Mp → Prop} (k : ∀ vs F U, R vs F U → R' vs F U) {σ : St} (h : InF env ns fr R σ) : InF env ns fr R' σ := let ⟨vs, a, b⟩ := h; ⟨vs, a, k _ _ _ b⟩

set_option maxHeartbeats 4000000 in
theorem c_getitem (B : Base X (Mine.hd.heap_39 P)) {lvb : Bool} {rv lv : Value} {o pre post : List UInt8} {us : List T} {ia dx el : Addr} {e idx : Nat} {els : List Value} {i : Nat} {tk : Tok} (r : Room A 6) (hl : Lined A σ.fr)
    (hrow : RowAt σ.F σ.U ia dx el rv e idx els lv) (ho : Oct X σ lvb rv o) (hz : o.length ≤ 1000000) (hok : ∀ u ∈ us, Ok u) (heq : o = pre ++ codes us ++ post) (hp : pre.length = idx) (he : e = idx + (codes us).length)
    (hlen : els.length + us.length ≤ 1000000) (hi : i ≤ 1000000) :
    WE X A σ (call (.ref 142) [.ref ia, .int (i : Nat) tk])
      (fun w σ' => ∃ F' U' idx' els', i < els.length + us.length ∧ σ' = ⟨σ.fr, F', U'⟩ ∧ Pulls lvb rv ia dx el e lv σ.F σ.U idx els (us.take (i + 1 - els.length)) F' U' idx' els' ∧ els'[i]? = some w)
      (Up X "IndexError" (fun _ => True) fun σ' => els.length + us.length ≤ i ∧ ∃ F1 U1 F' U' idx' els' t, σ' = ⟨σ.fr, F', U'⟩ ∧ Pulls lvb rv ia dx el e lv σ.F σ.U idx els us F1 U1 idx' els' ∧ Le F1 F' ∧ Fre dx el U1 U' ∧ RowAt F' U' ia dx el rv e e els' (.int els'.length t)) := by
  obtain ⟨fr, F, U⟩ := σ
  refine WE_callP B ["self", "i"] itemNs [some (.ref ia), some (.int (i : Nat) tk), none, none] r.d (by rfl) hl fun env he' nm hl' => ?_
  have hr : Room (A.deeper env) 5 := r.deeper env
  refine WE_execs_cons <| W.e <| W_Assign_Name <| W_name nm (.there .here) <| W_store nm (.there (.there .here)) ?_
  refine WE_execs_cons <| W.e <| W_Assign_Name <| W_BinOp <| W_name nm (.there .here) <| W_int fun t1 => W_add fun t2 => W_store nm (.there (.there (.there .here))) ?_
  have key : ∀ j ≤ us.length, ∀ F1 U1 idx1 els1, Pulls lvb rv ia dx el e lv F U idx els (us.take j) F1 U1 idx1 els1 → RowAt F1 U1 ia dx el rv e idx1 els1 lv ∧ els1.length = els.length + j ∧ idx1 = idx + (codes (us.take j)).length ∧ ∀ fr', Oct X ⟨fr', F1, U1⟩ lvb rv o := by
    intro j hj F1 U1 idx1 els1 p
    refine ⟨p.row hrow, by rw [p.sums.2, List.length_take, Nat.min_eq_left hj], p.sums.1, fun fr' => oct_apart hrow ho p.fre p.le⟩
  refine WE_execs_cons <| WE_Try (T := "StopIteration") (c := (· = .none)) hl' (bl B he' "StopIteration" (.type "StopIteration")) SI.base SI.notTuple SI.self ?_
  refine WE_execs_cons <| (WE_While (T := "StopIteration") (c := (· = .none)) (R := fun vs F' U' => vs = [some (.ref ia), some (.int (i : Nat) tk), some (.int (i : Nat) tk), some (.int ((i : Int) + 1) t2)] ∧ els.length + us.length ≤ i ∧ ∃ F1 U1 idx' els' t, Pulls lvb rv ia dx el e lv F U idx els us F1 U1 idx' els' ∧ Le F1 F' ∧ Fre dx el U1 U' ∧ RowAt F' U' ia dx el rv e e els' (.int els'.length t))
    hl' (fun n σ => ∃ j F1 U1 idx1 els1, n = i + 1 - els1.length ∧ j ≤ us.length ∧ (0 < j → els1.length ≤ i + 1) ∧ Pulls lvb rv ia dx el e lv F U idx els (us.take j) F1 U1 idx1 els1 ∧ σ = ⟨⟨env, itemNs, [some (.ref ia), some (.int (i : Nat) tk), some (.int (i : Nat) tk), some (.int ((i : Int) + 1) t2)], true⟩ :: fr, F1, U1⟩)
    (i + 1 - els.length) ⟨0, F, U, idx, els, rfl, Nat.zero_le _, fun h => absurd h (Nat.lt_irrefl _), .nil, rfl⟩ ?turn).monoE ?exc
  case turn =>
    rintro n _ ⟨j, F1, U1, idx1, els1, hn, hj, hle, p, rfl⟩
    obtain ⟨hrow1, hlen1, hidx1, ho1⟩ := key j hj _ _ _ _ p
    obtain ⟨od, s, s1, s2, s3, kd, hD, hA⟩ := hrow1.dict
    obtain ⟨m, hE⟩ := hrow1.list
    refine W_isTrue_Compare <| W_Call_Name <| W_gname (bl B he' "len" (.builtin "len")) rfl rfl <| W_callWith_b <| W_items_cons <| W_Attribute <| W_name nm .here <| W_getA B (.ofF hrow1.inst) (.ofU hD) hA rfl rfl <| W_items_nil <|
      W_len_list (.ofU hE) (by omega) fun t => W_name nm (.there (.there (.there .here))) <| W_lt <| W_truthy_bool ?_
    by_cases hlt : els1.length < i + 1
    · rw [if_pos (by simp; omega)]
      refine WE_execs_cons <| WE_Expr (hi := inter he') <| WE_CallM B (C := 152) (f := 135) <| W_name nm .here ⟨ia, dx, od, _, rfl, .ofF hrow1.inst, .ofU hD, hA, rfl, ?_⟩
      by_cases hj2 : j < us.length
      · have hu : us[j]? = some us[j] := List.getElem?_eq_getElem hj2
        have hsp := codes_split us j
        refine (W.mono (c_pull1 B (σ := ⟨_ :: fr, F1, U1⟩) (u := us[j]) (pre := pre ++ codes (us.take j)) (post := codes (us.drop (j + 1)) ++ post) hr hrow1 (ho1 _) hz (hok _ (List.getElem_mem hj2)) ?_ ?_ ?_ (by omega)) fun w σ' ⟨F2, U2, e2, q⟩ => ?_).e
        · rw [heq, List.append_assoc, List.append_assoc, List.append_assoc, ← List.append_assoc (code _), ← codes_cons', ← List.drop_eq_getElem_cons hj2, ← List.append_assoc (codes _), ← codes_append, List.take_append_drop]
        · simp [hp, hidx1]
        · have := codes_split us j
          rw [List.drop_eq_getElem_cons hj2, codes_cons', List.length_append] at this
          have := code_pos us[j]
          omega
        · subst e2
          have q' : Pulls lvb rv ia dx el e lv F U idx els (us.take (j + 1)) F2 U2 (idx1 + (code us[j]).length) (els1 ++ [w]) := by rw [take_succ_some hu]; exact .snoc p q
          show WE _ _ _ (execs [] env) _ _
          refine WE_execs_nil ⟨i + 1 - (els1 ++ [w]).length, by simp; omega, j + 1, F2, U2, _, _, rfl, hj2, fun _ => by simp; omega, q', rfl⟩
      · obtain rfl : j = us.length := by omega
        rw [List.take_length] at p hidx1
        obtain rfl : idx1 = e := by omega
        refine (c_stop B (σ := ⟨_ :: fr, F1, U1⟩) (hr.le (by omega)) (hl' _) hrow1 (by omega)).monoE fun v s h => h.mono fun σ' ⟨U2, t3, e2, k1, k2⟩ => ?_
        subst e2
        exact ⟨_, rfl, rfl, by omega, F1, U1, idx1, els1, t3, p, .refl _, k1, k2⟩
    · rw [if_neg (by simp; omega)]
      have ej : us.take j = us.take (i + 1 - els.length) := by
        rcases Nat.eq_zero_or_pos j with h0 | h0
        · subst h0
          rw [show i + 1 - els.length = 0 by omega]
        · have := hle h0
          rw [show i + 1 - els.length = j by omega]
      have hil : i < els1.length := by omega
      rw [ej] at p
      show WE _ _ _ (execs [] env) _ _
      refine WE_execs_nil ?_
      show WE _ _ _ (execs [] env) _ _
      refine WE_execs_nil ?_
      obtain ⟨w, hw⟩ : ∃ w, els1[i]? = some w := ⟨_, List.getElem?_eq_getElem hil⟩
      refine WE_execs_cons <| W.e <| W_Return <| W_Subscript <| W_Attribute <| W_name nm .here <| W_getA B (.ofF hrow1.inst) (.ofU hD) hA rfl rfl <| W_name nm (.there (.there .here)) <| W_item_list (.ofU hE) (by omega) (by omega) (by simpa using hw) ?_
      exact ⟨_, rfl, F1, U1, idx1, els1, by omega, rfl, p, hw⟩
  case exc =>
    refine fun v s h => h.mono fun σ' ⟨vs, hfr, hvs, hi', F1, U1, idx', els', t, p, L1, k1, k2⟩ => ⟨vs, hfr, fun e0 oe ws L0 d0 ⟨x, c0, hx⟩ => ?_⟩
    obtain ⟨fr', F2, U2⟩ := σ'
    dsimp only at hfr; subst hfr hvs hx
    have k3 := k2.le L0
    obtain ⟨od, s, s1, s2, s3, kd, hD, hA⟩ := k3.dict
    refine WE_execs_cons <| W.e <| W_Assert <| W_isTrue_Compare <| W_Attribute <| W_name nm .here <| W_getA B (.ofF k3.inst) (.ofU hD) hA rfl rfl <| W_Attribute <| W_name nm .here <| W_getA B (.ofF k3.inst) (.ofU hD) hA rfl rfl <| W_eq <| W_truthy_bool ⟨by simp, ?_⟩
    refine WE_execs_cons <| (WE_raise_index (h0 := e0) (o0 := oe) (R := InF env itemNs fr fun _ F' U' => els.length + us.length ≤ i ∧ ∃ F1 U1 F'' U'' idx' els' t, (⟨fr, F', U'⟩ : St) = ⟨fr, F'', U''⟩ ∧ Pulls lvb rv ia dx el e lv F U idx els us F1 U1 idx' els' ∧ Le F1 F'' ∧ Fre dx el U1 U'' ∧ RowAt F'' U'' ia dx el rv e e els' (.int els'.length t)) rfl d0 c0 <|
      W_gname (bl B he' "IndexError" (.type "IndexError")) rfl rfl ⟨rfl, W_items_cons <| W_BinOp <| W_str fun t1 => W_name nm (.there .here) <| W_percent (by kpc_eq) (by omega) (by omega) (by kpc_run) fun t2 => W_items_nil ⟨by simp [sizeLine], upd_same .., (hl' _).mark _, _, rfl, hi', F1, U1, _, _, idx', els', t, rfl, p, L1.trans L0, k1, k3⟩⟩).monoE fun v s h => up_again hl' ⟨some (.ref e0), rfl⟩ h fun _ _ x => x
end
end Mine
end

section
open PySem PySem.W PyProof.Rows PySem.Calls
set_option Elab.async false
set_option maxRecDepth 100000
namespace Mine

section
variable {P : Params} {X : Cx} {A : Around} {σ : St}
set_option maxHeartbeats 4000000 in
theorem c_len (B : Base X (Mine.hd.heap_39 P)) {lvb : Bool} {rv lv : Value} {o pre post : List UInt8} {us : List T} {ia dx el : Addr} {e idx : Nat} {els : List Value} (r : Room A 6) (hl : Lined A σ.fr)
    (hrow : RowAt σ.F σ.U ia dx el rv e idx els lv) (ho : Oct X σ lvb rv o) (hz : o.length ≤ 1000000) (hok : ∀ u ∈ us, Ok u) (heq : o = pre ++ codes us ++ post) (hp : pre.length = idx) (he : e = idx + (codes us).length)
    (hlen : els.length + us.length ≤ 1000000) (hlv : lv = .none ∨ ∃ t, lv = .int els.length t ∧ us = []) :
    W X A σ (call (.ref 149) [.ref ia])
      (fun w σ' => ∃ F1 U1 F' U' idx' els' t, w = .int els'.length t ∧ σ' = ⟨σ.fr, F', U'⟩ ∧ Pulls lvb rv ia dx el e lv σ.F σ.U idx els us F1 U1 idx' els' ∧ Le F1 F' ∧ Fre dx el U1 U' ∧ RowAt F' U' ia dx el rv e e els' (.int els'.length t)) := by
  obtain ⟨fr, F, U⟩ := σ
  refine W_of_WE fun E => (WE_callP (T := "StopIteration") (c := (· = .none)) (R := fun _ => False) B ["self"] ["self"] [some (.ref ia)] r.d (by rfl) hl fun env he' nm hl' => ?_).monoE fun v s ⟨_, _, _, _, _, _, h⟩ => h.elim
  have hr : Room (A.deeper env) 5 := r.deeper env
  obtain ⟨od, s, t1, t2, t3, kd, hD, hA⟩ := hrow.dict
  have hv : handedIn lv = true := by rcases hlv with rfl | ⟨t, rfl, _⟩ <;> rfl
  obtain ⟨b, hb, ht⟩ : ∃ b, (b = true → ∃ t, lv = .int els.length t ∧ us = []) ∧ ∀ (A' : Around) σ' (Q' : Bool → St → Prop), Q' b σ' → W X A' σ' (truthy lv) Q' := by
    rcases hlv with rfl | ⟨t, rfl, hu⟩
    · exact ⟨false, ⟨fun h => absurd h Bool.false_ne_true, fun _ _ _ q => W_truthy_none q⟩⟩
    · exact ⟨_, fun _ => ⟨t, rfl, hu⟩, fun _ _ _ q => W_truthy_int q⟩
  refine WE_execs_cons <| WE_If <| W_isTrue_Not <| W_isTrue_val <| W_Attribute <| W_name nm .here <| W_getA B (.ofF hrow.inst) (.ofU hD) hA rfl hv <| ht _ _ _ ?_
  cases b with
  | true =>
    rw [if_neg (by simp)]
    obtain ⟨t, rfl, rfl⟩ := hb rfl
    simp only [codes, List.length_nil, Nat.add_zero] at he
    subst he
    refine WE_execs_nil ?_
    refine WE_execs_cons <| W.e <| W_Return <| W_Attribute <| W_name nm .here <| W_getA B (.ofF hrow.inst) (.ofU hD) hA rfl hv ?_
    exact ⟨_, rfl, F, U, F, U, e, els, t, rfl, rfl, .nil, .refl _, .refl, hrow⟩
  | false =>
    rw [if_pos (by simp)]
    have key : ∀ j ≤ us.length, ∀ F1 U1 idx1 els1, Pulls lvb rv ia dx el e lv F U idx els (us.take j) F1 U1 idx1 els1 → RowAt F1 U1 ia dx el rv e idx1 els1 lv ∧ els1.length = els.length + j ∧ idx1 = idx + (codes (us.take j)).length ∧ ∀ fr', Oct X ⟨fr', F1, U1⟩ lvb rv o := by
      intro j hj F1 U1 idx1 els1 p
      refine ⟨p.row hrow, by rw [p.sums.2, List.length_take, Nat.min_eq_left hj], p.sums.1, fun fr' => oct_apart hrow ho p.fre p.le⟩
    refine WE_execs_cons <| WE_Try (T := "StopIteration") (c := (· = .none)) hl' (bl B he' "StopIteration" (.type "StopIteration")) SI.base SI.notTuple SI.self ?_
    refine WE_execs_cons <| (WE_While (T := "StopIteration") (c := (· = .none)) (R := fun vs F' U' => vs = [some (.ref ia)] ∧ ∃ F1 U1 idx' els' t, Pulls lvb rv ia dx el e lv F U idx els us F1 U1 idx' els' ∧ Le F1 F' ∧ Fre dx el U1 U' ∧ RowAt F' U' ia dx el rv e e els' (.int els'.length t))
      hl' (fun n σ => ∃ j F1 U1 idx1 els1, n = us.length - j ∧ j ≤ us.length ∧ Pulls lvb rv ia dx el e lv F U idx els (us.take j) F1 U1 idx1 els1 ∧ σ = ⟨⟨env, ["self"], [some (.ref ia)], true⟩ :: fr, F1, U1⟩)
      us.length ⟨0, F, U, idx, els, rfl, Nat.zero_le _, .nil, rfl⟩ ?turn).monoE ?exc
    case turn =>
      rintro n _ ⟨j, F1, U1, idx1, els1, hn, hj, p, rfl⟩
      obtain ⟨hrow1, hlen1, hidx1, ho1⟩ := key j hj _ _ _ _ p
      obtain ⟨od, s, s1, s2, s3, kd, hD, hA⟩ := hrow1.dict
      refine W_isTrue_val <| W_bool <| W_truthy_bool ?_
      rw [if_pos rfl]
      refine WE_execs_cons <| WE_Expr (hi := inter he') <| WE_CallM B (C := 152) (f := 135) <| W_name nm .here ⟨ia, dx, od, _, rfl, .ofF hrow1.inst, .ofU hD, hA, rfl, ?_⟩
      by_cases hj2 : j < us.length
      · have hu : us[j]? = some us[j] := List.getElem?_eq_getElem hj2
        refine (W.mono (c_pull1 B (σ := ⟨_ :: fr, F1, U1⟩) (u := us[j]) (pre := pre ++ codes (us.take j)) (post := codes (us.drop (j + 1)) ++ post) hr hrow1 (ho1 _) hz (hok _ (List.getElem_mem hj2)) ?_ ?_ ?_ (by omega)) fun w σ' ⟨F2, U2, e2, q⟩ => ?_).e
        · rw [heq, List.append_assoc, List.append_assoc, List.append_assoc, ← List.append_assoc (code _), ← codes_cons', ← List.drop_eq_getElem_cons hj2, ← List.append_assoc (codes _), ← codes_append, List.take_append_drop]
        · simp [hp, hidx1]
        · have := codes_split us j
          rw [List.drop_eq_getElem_cons hj2, codes_cons', List.length_append] at this
          have := code_pos us[j]
          omega
        · subst e2
          have q' : Pulls lvb rv ia dx el e lv F U idx els (us.take (j + 1)) F2 U2 (idx1 + (code us[j]).length) (els1 ++ [w]) := by rw [take_succ_some hu]; exact .snoc p q
          show WE _ _ _ (execs [] env) _ _
          refine WE_execs_nil ⟨us.length - (j + 1), by omega, j + 1, F2, U2, _, _, rfl, hj2, q', rfl⟩
      · obtain rfl : j = us.length := by omega
        rw [List.take_length] at p hidx1
        obtain rfl : idx1 = e := by omega
        refine (c_stop B (σ := ⟨_ :: fr, F1, U1⟩) (hr.le (by omega)) (hl' _) hrow1 (by omega)).monoE fun v s h => h.mono fun σ' ⟨U2, t3, e2, k1, k2⟩ => ?_
        subst e2
        exact ⟨_, rfl, rfl, F1, U1, idx1, els1, t3, p, .refl _, k1, k2⟩
    case exc =>
      refine fun v s h => h.mono fun σ' ⟨vs, hfr, hvs, F1, U1, idx', els', t, p, L1, k1, k2⟩ => ⟨vs, hfr, fun e0 oe ws L0 d0 ⟨x, c0, hx⟩ => ?_⟩
      obtain ⟨fr', F2, U2⟩ := σ'
      dsimp only at hfr; subst hfr hvs
      have k3 := k2.le L0
      obtain ⟨od, s, s1, s2, s3, kd, hD, hA⟩ := k3.dict
      obtain ⟨m, hE⟩ := k3.list
      have hln := p.sums.2
      have hcs := p.sums.1
      refine WE_execs_cons <| W.e <| W_Assign_Attribute <| W_Call_Name <| W_gname (bl B he' "len" (.builtin "len")) rfl rfl <| W_callWith_b <| W_items_cons <| W_Attribute <| W_name nm .here <| W_getA B (.ofF k3.inst) (.ofU hD) hA rfl rfl <| W_items_nil <|
        W_len_list (.ofU hE) (by omega) fun t => W_name nm .here <| W_setA B (C := 152) (dx := dx) (.ofF k3.inst) hD hA (by simp) fun o1 A1 => ?_
      refine WE_execs_nil ?_
      show WE _ _ _ (execs _ env) _ _
      refine WE_execs_nil ?_
      show WE _ _ _ (execs _ env) _ _
      refine WE_execs_cons <| W.e <| W_Return <| W_Attribute <| W_name nm .here <| W_getA B (.ofF k3.inst) (.ofU (upd_same ..)) A1 rfl rfl ?_
      exact ⟨_, rfl, F1, U1, _, _, idx', els', t, rfl, rfl, p, L1.trans L0, fun b ob h1 h2 hb => (upd_ne h1).trans (k1 b ob h1 h2 hb), k3.inst, k3.ne, ⟨o1, _, _, _, _, kd, upd_same .., A1⟩, m, (upd_ne k3.ne.symm).trans hE⟩
end
end Mine
end

section
open PySem PySem.W PyProof.Rows PySem.Calls
set_option Elab.async false
set_option maxRecDepth 100000
namespace Mine

section
variable {P : Params} {X : Cx} {A : Around} {σ : St}
abbrev dlNs : List Str := ["rlp", "sedes", "sedes_kwargs", "item", "end"]
set_option maxHeartbeats 4000000 in
theorem defLazy (B : Base X (Mine.hd.heap_39 P)) {lv : Bool} {v : Value} {l : List T} (r : Room A 5) (ho : Oct X σ lv v (code (.node l))) (hz : (code (.node l)).length ≤ 1000000) (hok : Ok (.node l)) :
    W X A σ (call (.ref 106) [v]) fun w σ' => ∃ ia dx el F' U', w = .ref ia ∧ Le σ.F F' ∧ Le σ.U U' ∧ σ' = ⟨σ.fr, F', U'⟩ ∧ σ.U dx = none ∧ σ.U el = none ∧ RowAt F' U' ia dx el v (code (.node l)).length (hdr 192 (codes l).length).length [] .none := by
  obtain ⟨fr, F, U⟩ := σ
  refine W_callB B (f := 106) (ns0 := ["rlp", "sedes", "sedes_kwargs"]) (ns := dlNs) (body := _) ⟨⟨_, _, _, by rfl⟩, by rfl, by kernel_rfl, by rfl, by decide +kernel, by rfl, by rfl, by rfl, by decide +kernel⟩ r.d ⟨_, rfl⟩ ?_
  intro s E O
  have h99 := (B.inK O) 99 _ (by rfl)
  refine (show wpAny _ _ (seqItems? (.ref 99) >>= _) _ _ _ from ?_)
  refine wpAny_bind (wpAny_seqItems h99 rfl ?_)
  refine (show wpAny _ _ (alloc { cls := .type "dict", data := .dict #[] } >>= fun d => pure [(("rlp" : Str), v), (("sedes" : Str), .none), (("sedes_kwargs" : Str), .ref d)]) _ _ _ from ?_)
  refine wpAny_bind (wpAny_alloc (wpAny_pure ?_))
  obtain ⟨f1, O1⟩ := O.pushF emptyDict rfl
  refine ⟨_, O1, _, rfl, rfl, [some v, some .none, some (.ref _), none, none], .cons (.cons (.cons (.none (.none .nil)))), fun env he nm => ?_⟩
  have hr : Room (A.deeper env) 4 := r.deeper env
  generalize s.heap.objs.size = kd at f1 ⊢
  have L0 : Le F (upd F kd emptyDict) := le_upd f1.nF
  generalize upd F kd emptyDict = F0 at L0
  refine W_execs_cons <| W_Assign_Tuple <| W_Call_Name <| W_gname (gl B he "consume_item_lazy" (.ref 113)) rfl rfl <| W_callWith B (by kernel_rfl) <| W_items_cons <| W_name nm .here <| W_items_cons <| W_int fun t0 => W_items_nil ?_
  refine W.mono (c_itemlazy B (σ := ⟨_ :: fr, F0, U⟩) (u := .node l) (start := 0) (pre := []) (post := []) hr (ho.leU (.refl _) L0) hz hok (by simp) rfl) fun w σ' ⟨a, F1, U1, item, t4, ew, (L1 : Le F0 F1), e1, hF1, hI1⟩ => ?_
  subst ew e1
  have hU1 : Le U U1 := hI1.mono
  obtain ⟨ia, rfl, dx, el, od, m, t1, t2, t3, kd', h0, h1, h2, h3, h4, h5⟩ := hI1
  have h1' : U dx = none := h1
  have h2' : U el = none := h2
  have eU : U1 = upd (upd U dx od) el (lstO [] m) := h0
  subst eU
  refine W_assign_Tuple hr.calm (.inr (.inl hF1)) rfl rfl <| W_inOrder_cons <| W_assign_Name nm (.there (.there (.there .here))) <| W_inOrder_cons <| W_assign_Name nm (.there (.there (.there (.there .here)))) <| W_inOrder_nil ?_
  refine W_execs_cons <| W_If <| W_isTrue_Compare <| W_name nm (.there (.there (.there (.there .here)))) <| W_Call_Name <| W_gname (bl B he "len" (.builtin "len")) rfl rfl <| W_callWith_b <| W_items_cons <| W_name nm .here <| W_items_nil <|
    W_len_oct (ho.leU hU1 (L0.trans L1)) (by omega) fun t => W_ne <| W_truthy_bool ?_
  rw [if_neg (by simp)]
  refine W_execs_nil ?_
  have hdU : upd (upd U dx od) el (lstO [] m) dx = some od := (upd_ne h3).trans (upd_same ..)
  refine W_execs_cons <| W_If <| W_isTrue_val <| W_Call_Name <| W_gname (bl B he "isinstance" (.builtin "isinstance")) rfl rfl <| W_callWith_b <| W_items_cons <| W_name nm (.there (.there (.there .here))) <| W_items_cons <| W_gname (gl B he "LazyList" (.ref 152)) rfl rfl <| W_items_nil <|
    W_isi_inst B (.ofF h4) (.ofU hdU) ?_
  refine W_truthy_bool ?_
  rw [if_pos rfl]
  refine W_execs_cons <| W_Assign_Attribute <| W_name nm (.there .here) <| W_name nm (.there (.there (.there .here))) <| W_setA B (C := 152) (dx := dx) (.ofF h4) hdU h5 (by simp) fun o1 A1 => ?_
  refine W_execs_cons <| W_Assign_Attribute <| W_name nm (.there (.there .here)) <| W_name nm (.there (.there (.there .here))) <| W_setA B (C := 152) (dx := dx) (.ofF h4) (upd_same ..) A1 (Nat.le_trans (putA_len _ _ _) (by simp)) fun o2 A2 => ?_
  refine W_retR <| W_name nm (.there (.there (.there .here))) <| Then.ret <| retM ⟨_, rfl, ia, dx, el, F1, upd (upd (upd (upd U dx od) el (lstO [] m)) dx o1) dx o2, rfl, L0.trans L1, fun b ob hb => ?_, rfl, h1', h2', h4, h3, ⟨o2, ((hdr 192 (codes l).length).length : Nat), t1, t2, t3, kd, upd_same .., ?_⟩, m, ?_⟩
  · have hb : U b = some ob := hb
    have n1 : b ≠ dx := fun q => by subst q; rw [h1'] at hb; cases hb
    have n2 : b ≠ el := fun q => by subst q; rw [h2'] at hb; cases hb
    show upd (upd (upd (upd U dx od) el (lstO [] m)) dx o1) dx o2 b = _
    rw [upd_ne n1, upd_ne n1, upd_ne n2, upd_ne n1]; exact hb
  · have e0 : ((0 + (hdr 192 (codes l).length).length : Nat) : Int) = ((hdr 192 (codes l).length).length : Nat) := by simp
    have e1 : ((0 + (code (.node l)).length : Nat) : Int) = ((code (.node l)).length : Nat) := by simp
    rw [e0, e1] at A2
    exact A2
  · show upd (upd (upd (upd U dx od) el (lstO [] m)) dx o1) dx o2 el = _
    rw [upd_ne h3.symm, upd_ne h3.symm, upd_same]
end
end Mine
end

section
open PySem PySem.W PyProof.Rows PySem.Calls
set_option Elab.async false
set_option maxRecDepth 100000
namespace Mine

/-- as W, but only around stacks where no builtin lends a buffer -/
def WR {α : Type} (X : Cx) (A : Around) (σ : St) (t : Sem α) (Q : α → St → Prop) : Prop :=
  ∀ (s : Shared) (E : Value → Shared → Prop), Own X.s₁ σ s → wpC (model X.prog X.w) A t (fun a s' => ∃ σ', Own X.s₁ σ' s' ∧ Q a σ') E s

section
variable {α β : Type} {X : Cx} {K : Frag} {A : Around} {σ : St} {env : Env}

theorem W.r {t : Sem α} {Q : α → St → Prop} (h : W X A σ t Q) : WR X A σ t Q := fun s E O => wpC_of (h s E O)
theorem WR.go {t : Sem α} {Q : α → St → Prop} {s : Shared} {E : Value → Shared → Prop} {P : α → Shared → Prop} (h : WR X A σ t Q) (O : Own X.s₁ σ s)
    (k : ∀ a s' σ', Own X.s₁ σ' s' → Q a σ' → P a s') : wpC (model X.prog X.w) A t P E s :=
  wpC_mono (h s E O) (fun a s' ⟨σ', O', q⟩ => k a s' σ' O' q) fun _ _ e => e
theorem WR.mono {t : Sem α} {Q Q' : α → St → Prop} (h : WR X A σ t Q) (k : ∀ a σ', Q a σ' → Q' a σ') : WR X A σ t Q' :=
  fun _ _ O => h.go O fun a _ σ' O' q => ⟨σ', O', k a σ' q⟩
theorem W.goC {t : Sem α} {Q : α → St → Prop} {s : Shared} {E : Value → Shared → Prop} {P : α → Shared → Prop} (h : W X A σ t Q) (O : Own X.s₁ σ s)
    (k : ∀ a s' σ', Own X.s₁ σ' s' → Q a σ' → P a s') : wpC (model X.prog X.w) A t P E s := wpC_of (h.go O k)

def ThenR (X : Cx) (A : Around) (rest : List Stmt) (env : Env) (Q : Flow → St → Prop) (f : Flow) (σ : St) : Prop :=
  match f with
  | .next => WR X A σ (execs rest env) Q
  | .brk => Q .brk σ
  | .cont => Q .cont σ
  | .ret v => Q (.ret v) σ
theorem WR_execs_nil {Q : Flow → St → Prop} (h : Q .next σ) : WR X A σ (execs [] env) Q := (W_execs_nil h).r
theorem WR_execs_cons {st : Stmt} {rest : List Stmt} {Q : Flow → St → Prop} (h : WR X A σ (exec st env) (ThenR X A rest env Q)) : WR X A σ (execs (st :: rest) env) Q := by
  intro s E O
  rw [execs_cons]
  refine wpC_bind (h.go O fun f s' σ' O' q => ?_)
  cases f with
  | next => exact q s' E O'
  | brk => exact wpC_pure ⟨σ', O', q⟩
  | cont => exact wpC_pure ⟨σ', O', q⟩
  | ret v => exact wpC_pure ⟨σ', O', q⟩
theorem WR_If {test : Expr} {body orelse : List Stmt} {pos : Pos} {Q : Flow → St → Prop}
    (h : W X A σ (isTrue test env (eval test env)) fun b σ' => if b = true then WR X A σ' (execs body env) Q else WR X A σ' (execs orelse env) Q) : WR X A σ (exec (.If test body orelse pos) env) Q := by
  intro s E O
  rw [exec_If]
  refine wpC_standAt (wpC_bind (h.goC O fun b s' σ' O' q => ?_))
  cases b
  · exact q s' E O'
  · exact q s' E O'
theorem WR_Assign_Name {x : Str} {p pos : Pos} {value : Expr} {Q : Flow → St → Prop}
    (h : WR X A σ (eval value env) fun v σ' => W X A σ' (storeName env x v) fun _ => Q .next) (hs : swapsWith value (some (.Name x p)) pos.line env = pure false := by rfl) :
    WR X A σ (exec (.Assign [.Name x p] value pos) env) Q := by
  intro s E O
  rw [exec_Assign_Name env x p value pos hs]
  refine wpC_standAt (wpC_bind (h.go O fun v s' σ' O' q => ?_))
  refine wpC_standAt (wpC_of (wpAny_bind (wpAny_bindName (W.go q O' fun _ s₂ σ₂ O₂ q₂ => wpAny_pure ⟨σ₂, O₂, q₂⟩))))
theorem WR_Assign_Tuple {elts : List Expr} {k : Nat} {tpos pos : Pos} {value : Expr} {Q : Flow → St → Prop}
    (h : WR X A σ (eval value env) fun v σ' => W X A σ' (assign (.Tuple elts k tpos) env v) fun _ => Q .next)
    (hs : swapsWithSole [.Tuple elts k tpos] value pos.line env = pure false := by rfl) (hw : swappedStores [.Tuple elts k tpos] value env = pure none := by rfl) :
    WR X A σ (exec (.Assign [.Tuple elts k tpos] value pos) env) Q := by
  intro s E O
  rw [exec_Assign]
  refine wpC_standAt ?_
  rw [hs]
  refine wpC_bind (wpC_pure ?_)
  rw [if_neg (by decide)]
  refine wpC_bind (h.go O fun v s₁ σ₁ O₁ q => ?_)
  rw [hw]
  refine wpC_bind (wpC_pure ?_)
  show wpC _ A (do assignAll v [assign (.Tuple elts k tpos) env]; pure Flow.next) _ E s₁
  exact wpC_bind (W.goC q O₁ fun _ s₂ σ₂ O₂ q₂ => wpC_pure ⟨σ₂, O₂, q₂⟩)
theorem WR_AugAssign_Name {x : Str} {p pos : Pos} {op : Operator} {value : Expr} {Q : Flow → St → Prop}
    (h : W X A σ (loadName env x) fun old σ₁ => W X A σ₁ (eval value env) fun v σ₂ => WR X A σ₂ (inplaceOp op old v) fun r σ₃ => W X A σ₃ (storeName env x r) fun _ => Q .next) :
    WR X A σ (exec (.AugAssign (.Name x p) op value pos) env) Q := by
  intro s E O Γ q hΓ k l
  simp only [exec_AugAssign_Name, Sem.wp_bind', Sem.wp_holding, Sem.wp_cmd_standAt, Sem.wp_operate, Sem.wp_bindName, Sem.wp_pure']
  exact Sem.wp_mono _ Γ _ (fun old p₁ s₁ ⟨σ₁, O₁, h₁⟩ => Sem.wp_mono _ Γ _ (fun v _ s₂ ⟨σ₂, O₂, h₂⟩ => Sem.wp_mono _ Γ _ (fun r _ s₃ ⟨σ₃, O₃, h₃⟩ => h₃ _ E O₃ Γ _ hΓ)
    (fun _ _ _ h' => h') _ _ (h₂ s₂ E O₂ Γ _ hΓ k l)) (fun _ _ _ h' => h') _ _ (h₁ s₁ E O₁ Γ p₁ hΓ)) (fun _ _ _ h' => h') _ _ (h s E O Γ _ hΓ)
theorem WR_Return {e : Expr} {pos : Pos} {Q : Flow → St → Prop} (h : WR X A σ (eval e env) fun v => Q (.ret v)) : WR X A σ (exec (.Return (some e) pos) env) Q := by
  intro s E O
  rw [exec_Return_some]
  exact wpC_standAt (wpC_bind (h.go O fun v s' σ' O' q => wpC_pure ⟨σ', O', q⟩))
theorem WR_runOwn {c : Code} {Q : Flow → St → Prop} (h : ∀ s, Own X.s₁ σ s → codeC (model X.prog X.w) A c (fun r s' => match r with | .ok f => ∃ σ', Own X.s₁ σ' s' ∧ Q f σ' | .error _ => False) s) : WR X A σ (runOwn c env) Q := by
  intro s E O
  unfold runOwn
  refine wpC_onRaise (wpC_run (codeC_mono (h s O) fun r s' h' => ?_))
  cases r with
  | ok f => exact h'
  | error e => exact h'.elim
theorem WR_noted {m : Sem α} {Q : α → St → Prop} (h : WR X A σ m Q) {k : Value → Sem Unit} : WR X A σ (m.onRaise k) Q :=
  fun s _ O => wpC_onRaise (wpC_mono (h s (fun _ _ => False) O) (fun _ _ q => q) fun _ _ f => f.elim)
theorem codeC_block {stmts : List Stmt} {s : Shared} {Q : Flow → St → Prop} (O : Own X.s₁ σ s) (h : WR X A σ (execs stmts env) Q) :
    codeC (model X.prog X.w) A (.block stmts env) (fun r s' => match r with | .ok f => ∃ σ', Own X.s₁ σ' s' ∧ Q f σ' | .error _ => False) s := by
  refine codeC_of_tree rfl ?_
  show wpC _ A (do return Fin.done (← (execs stmts env).onRaise (fun x => do noteFrame x env; theTreesLotGoes x))) _ _ s
  exact wpC_bind ((WR_noted h).go O fun f s' σ' O' q => wpC_pure ⟨σ', O', q⟩)
theorem WR_While {test : Expr} {body : List Stmt} {pos : Pos} {Q : Flow → St → Prop} (I : Nat → St → Prop) (n : Nat) (h0 : I n σ)
    (turn : ∀ n σ, I n σ → W X A σ (isTrue test env (eval test env)) fun b σ' => if b = true then WR X A σ' (execs body env) (Turn (fun σ'' => ∃ m, m < n ∧ I m σ'') Q) else Q .next σ') :
    WR X A σ (exec (.While test body [] pos) env) Q := by
  intro s E O
  rw [exec_While]
  refine wpC_standAt (WR_runOwn (fun s O => ?_) s E O)
  refine codeC_loop rfl rfl (fun k s' => ∃ σ', Own X.s₁ σ' s' ∧ I k σ') ?_ n ⟨σ, O, h0⟩
  rintro k s' ⟨σ', O', hi⟩
  show wpC _ A ((whileTurn test body [] env).onRaise (fun x => do noteFrame x env; theTreesLotGoes x)) _ _ s'
  refine wpC_onRaise ?_
  simp only [whileTurn]
  refine wpC_bind ((turn k σ' hi).goC O' fun b s₂ σ₂ O₂ q₂ => ?_)
  cases b
  · simp only [Bool.false_eq_true, if_false] at q₂ ⊢
    exact wpC_bind (wpC_of (wpAny_execs_nil (wpC_pure ⟨σ₂, O₂, q₂⟩)))
  · simp only [if_true] at q₂ ⊢
    refine wpC_bind (WR.go q₂ O₂ fun f s₃ σ₃ O₃ q₃ => ?_)
    cases f with
    | next => obtain ⟨m, hm, q⟩ := q₃; exact wpC_pure ⟨rfl, m, hm, σ₃, O₃, q⟩
    | cont => obtain ⟨m, hm, q⟩ := q₃; exact wpC_pure ⟨rfl, m, hm, σ₃, O₃, q⟩
    | brk => exact wpC_pure ⟨σ₃, O₃, q₃⟩
    | ret v => exact wpC_pure ⟨σ₃, O₃, q₃⟩
end
end Mine
end

section
open PySem PySem.W PyProof.Rows PySem.Calls
set_option Elab.async false
set_option maxRecDepth 100000
namespace Mine

section
variable {M : Model} {A : Around} {s : Shared} {R : Result → Shared → Prop}
theorem codeC_loop' {c : Code} (hc : okC c = true) (hq : c.quiet = true) (I : Nat → Shared → Prop)
    (turn : ∀ n s, I n s → wpC M (A.under c) (M.den c)
      (fun fin s' => match fin with | .done f => R (.ok f) s' | .again c' => (c' = c ∧ ∃ m, m < n ∧ I m s') ∨ (c'.quiet = true ∧ codeC M A c' R s')) (fun e s' => R (.error e) s') s)
    (n : Nat) (h : I n s) : codeC M A c R s := by
  induction n using Nat.strongRecOn generalizing s with
  | ind n ih =>
    refine codeC_of_tree hc (wpC_mono (turn n s h) (fun fin s' hf => ?_) fun _ _ h' => h')
    cases fin with
    | done f => exact hf
    | again c' =>
      rcases hf with ⟨rfl, m, hm, hI⟩ | hf
      · exact ⟨hq, ih m hm hI⟩
      · exact hf
end

section
variable {α β : Type} {X : Cx} {K : Frag} {A : Around} {σ : St} {env : Env}
theorem WR_For {target iter : Expr} {body : List Stmt} {pos : Pos} {Q : Flow → St → Prop}
    (h : W X A σ (eval iter env) fun x σ₁ => W X A σ₁ (pyIter x) fun itv σ₂ => ∃ (it : Addr) (io : Nat → Obj → Prop) (n : Nat) (src : St → Prop) (item : Nat → Value → Prop) (I : Nat → St → Prop), itv = .ref it ∧ ItOk X A io n src item ∧ I 0 σ₂ ∧
      (∀ i σ, I i σ → (∃ o, σ.U it = some o ∧ io i o) ∧ src σ) ∧
      (∀ i σ o v, I i σ → i < n → item i v → io (i + 1) o → W X A { σ with U := upd σ.U it o } (assign target env v) fun _ σ' => WR X A σ' (execs body env) (Turn (I (i + 1)) Q)) ∧
      (∀ σ, I n σ → Q .next { σ with U := era σ.U it }))
    (hs : ∀ x, foldedSetIterable iter env x = pure x := by intro _; rfl) (ht : ∀ it v, letOwnedTupleGo target it v = pure () := by intro _ _; rfl) : WR X A σ (exec (.For target iter body [] pos) env) Q := by
  intro s E O
  rw [exec_For]
  refine wpC_standAt (wpC_bind (h.goC O fun x s₁ σ₁ O₁ q₁ => ?_))
  rw [hs x]
  refine wpC_bind (wpC_pure (wpC_standAt (wpC_bind (wpC_holding (W.goC q₁ O₁ fun itv s₂ σ₂ O₂ q₂ => ?_)))))
  obtain ⟨it, io, n, src, item, I, rfl, ok, h0, hI, turn, fin⟩ := q₂
  refine WR_runOwn (fun s₂ O₂ => ?_) s₂ E O₂
  refine codeC_loop' rfl rfl (fun k s' => ∃ i σ', k = n - i ∧ i ≤ n ∧ Own X.s₁ σ' s' ∧ I i σ') ?_ n ⟨0, _, by omega, by omega, O₂, h0⟩
  rintro k s' ⟨i, σ', rfl, hi, O', hi'⟩
  show wpC _ A ((forTurn target (.ref it) body [] env).onRaise (fun x => do noteFrame x env; theTreesLotGoes x)) _ _ s'
  refine wpC_onRaise ?_
  simp only [forTurn]
  obtain ⟨⟨o, hu, ho⟩, hsrc⟩ := hI i σ' hi'
  by_cases hlt : i < n
  · refine wpC_standAt (wpC_bind (wpC_onRaise ((ok.step hlt hu ho hsrc).goC O' fun r s₃ σ₃ O₃ q₃ => ?_)))
    obtain ⟨v, o', rfl, hv, ho', rfl⟩ := q₃
    dsimp only
    rw [ht]
    refine wpC_bind (wpC_pure (wpC_bind ((turn i σ' o' v hi' hlt hv ho').goC O₃ fun _ s₄ σ₄ O₄ q₄ => wpC_bind (WR.go q₄ O₄ fun f s₅ σ₅ O₅ q₅ => ?_))))
    cases f with
    | next => exact wpC_pure (.inl ⟨rfl, n - (i + 1), by omega, i + 1, σ₅, rfl, hlt, O₅, q₅⟩)
    | cont => exact wpC_pure (.inl ⟨rfl, n - (i + 1), by omega, i + 1, σ₅, rfl, hlt, O₅, q₅⟩)
    | brk => exact wpC_pure ⟨σ₅, O₅, q₅⟩
    | ret v => exact wpC_pure ⟨σ₅, O₅, q₅⟩
  · obtain rfl : i = n := by omega
    refine wpC_standAt (wpC_bind (wpC_onRaise ((ok.stop hu ho hsrc).goC O' fun r s₃ σ₃ O₃ q₃ => ?_)))
    obtain ⟨rfl, rfl⟩ := q₃
    exact wpC_pure (.inr ⟨rfl, codeC_block O₃ (WR_execs_nil (fin _ hi'))⟩)

/-- a try whose body does not raise -/
theorem WR_Try {body orelse : List Stmt} {hs : List ExceptHandler} {pos : Pos} {Q : Flow → St → Prop} (h : WR X A σ (execs body env) (ThenR X A orelse env Q)) : WR X A σ (exec (.Try body hs orelse [] pos) env) Q := by
  intro s E O
  rw [arm_exec_Try]
  refine wpC_standAt ?_
  unfold tryStmt
  simp only [List.isEmpty_nil, if_true]
  refine wpC_bind (wpC_attempt (wpC_mono (h s (fun _ _ => False) O) (fun f s₁ ⟨σ₁, O₁, q⟩ => ?_) fun _ _ f => f.elim))
  cases f with
  | next => exact q s₁ E O₁
  | brk => exact wpC_pure ⟨σ₁, O₁, q⟩
  | cont => exact wpC_pure ⟨σ₁, O₁, q⟩
  | ret v => exact wpC_pure ⟨σ₁, O₁, q⟩

/-! calls -/
theorem codeC_func {body : List Stmt} {s : Shared} {fr : List Fram} {Q : Value → St → Prop} {R : Result → Shared → Prop} (hR : ∀ v σ' s', Own X.s₁ σ' s' → Q v σ' → R (.ok (.ret v)) s') (O : Own X.s₁ σ s) (h : WR X (A.deeper env) σ (execs body env) (RetQ fr Q)) :
    codeC (model X.prog X.w) A (.func body env) R s := by
  refine codeC_of_tree rfl ?_
  show wpC _ (A.deeper env) (do point; match ← (execs body env).onRaise (leaving env) with | .ret v => ret v | _ => ret .none) _ _ s
  refine wpC_bind (wpC_of (wpAny_point (wpC_bind ((WR_noted h).go O fun f s' σ' O' q => ?_))))
  obtain ⟨g, hfr, hq⟩ := q
  obtain ⟨fr3, F3, U3⟩ := σ'
  dsimp only at hfr; subst hfr
  cases f <;> exact wpC_pure (hR _ _ _ O'.pop hq)

theorem codeC_callG (B : Base X K) {s : Shared} (O : Own X.s₁ σ s) {f : Addr} {oc : Value} {od : Option Addr} {osl : Array (Option Value)} {fd : FuncData} {body : List Stmt} {vals : List Value} {kws : List (Str × Value)} {Q : Value → St → Prop} {R : Result → Shared → Prop}
    (hR : ∀ v σ' s', Own X.s₁ σ' s' → Q v σ' → R (.ok (.ret v)) s')
    (ho : K.lookup f = some ⟨oc, od, .func fd, osl⟩) (hb : fd.body = .stmts body) (hcd : codeIn K fd.code fd.qualname = true) (hclo : fd.closure = [])
    (hcell : ∀ x ∈ fd.scope.names, x.2 ≠ .cell) (hroom : A.depth < recursionLimit)
    (hco : fd.scope.isCoroutine = false) (hgen : fd.scope.isGenerator = false) (hk : fd.scope.kind = .function)
    (hbind : W X A.in1 σ (bindArgs fd ⟨vals, kws⟩) fun binds σ' => (∀ x ∈ binds, fd.scope.names.lookup x.1 = some .local) ∧
      ∃ ns ws, (∀ (i : Nat) (x : Str) (v : Value), ns[i]? = some x → ws[i]? = some (some v) → binds.reverse.lookup x = some v) ∧
      ∀ env, EnvOf env fd → WR X (A.deeper env) ⟨⟨env, ns, ws, true⟩ :: σ'.fr, σ'.F, σ'.U⟩ (execs body env) (RetQ σ'.fr Q)) :
    codeC (model X.prog X.w) A (.call (.ref f) ⟨vals, kws⟩) R s := by
  have hK := B.inK O
  refine codeC_of_tree rfl (wpC_of ?_)
  show wpAny _ A.in1 (callAny (.ref f) ⟨vals, kws⟩) _ _ s
  simp only [callAny]
  refine wpAny_bind (wpAny_load (hK _ _ ho) ?_)
  obtain ⟨c, oc, vs, tq, hc, hoc, hdc, hq⟩ := codeRec_of hK hcd
  simp only [callFunction, hco, hgen, hb, hc]
  refine wpAny_bind (m := field (.ref c) 1) (wpAny_field hoc hdc hq (wpAny_bind (wpAny_pure ?_)))
  refine wpAny_bind (hbind.go O fun binds s' σ' O' q => ?_)
  obtain ⟨hloc, ns, ws, hv, h⟩ := q
  rw [hclo]
  refine wpAny_bind (wpAny_newFunctionEnv hcell hloc (fun h₀ hns hsb => ?_) hk)
  have O'' := O'.enter (env := newEnv fd.scope s'.heap.objs.size fd.globals [] (fd.qualname ++ ".<locals>.") (some f) (.ref c) none fd.builtins) (ns := ns) (vs := ws) (tk := s'.toks + binds.length) rfl rfl hk hns
    (fun b o e => hsb.extBut b o (Nat.ne_of_lt (Heap.lt_size e)) (Heap.get?_push_of_some _ e)) hv
  refine wpAny_bind (wpAny_enterFrame ((B.lim.keeps O'.ground).fresh _ hsb) hroom (wpAny_pure ⟨rfl, codeC_func hR O'' (h _ ⟨rfl, rfl, rfl, rfl⟩)⟩))
end
end Mine
end

section
open PySem PySem.W PyProof.Rows PySem.Calls
set_option Elab.async false
set_option maxRecDepth 100000
namespace Mine

section
variable {α β : Type} {M : Model} {X : Cx} {K : Frag} {A : Around} {σ : St} {env : Env}
theorem wpC_keep {vs : List Value} {m : Sem α} {Q : α → Shared → Prop} {E : Value → Shared → Prop} {s : Shared} (h : wpC M A m Q E s) : wpC M A (m.keep vs) Q E s := fun Γ p hΓ k l => by rw [Sem.wp_keep]; exact h Γ p hΓ k l
theorem WR_Call_Name {x : Str} {p pos : Pos} {args : List Expr} {Q : Value → St → Prop}
    (h : W X A σ (eval (.Name x p) env) fun f σ₁ => WR X A σ₁ (callWith pos f [] (backTo pos (starEach args env)) []) Q) : WR X A σ (eval (.Call (.Name x p) args [] pos) env) Q := by
  intro s E O
  show wpC _ A (do callWith pos (← eval (.Name x p) env) [] (backTo pos (starEach args env)) (backToKw pos (keywordEach [] env))) _ E s
  exact wpC_bind (h.goC O fun f s₁ σ₁ O₁ q₁ => q₁ s₁ E O₁)
theorem WR_callWith (B : Base X K) {f : Value} {first : List Value} {pos : Pos} {e : Expr} {rest : List Expr} {Q : Value → St → Prop} (hk : keepIn K f = true)
    (h : W X A σ (spliced (backTo pos (starEach (e :: rest) env))) fun vs σ₁ => WR X A σ₁ (call f (first ++ vs)) Q)
    (he : starEach (e :: rest) env = (false, eval e env) :: starEach rest env := by rfl) (hplain : (backTo pos (starEach rest env)).any (·.1) = false := by rfl) :
    WR X A σ (callWith pos f first (backTo pos (starEach (e :: rest) env)) []) Q := by
  intro s E O
  rw [he] at h ⊢
  have hpl : (((false, eval e env) :: backTo pos (starEach rest env)).any (·.1) || ([] : List (Option Str × Sem Value)).any (·.1.isNone)) = false := by
    show ((false || (backTo pos (starEach rest env)).any (·.1)) || false) = false
    rw [hplain]; rfl
  unfold callWith
  refine wpC_bind (wpC_holding (wpC_of (evalArgs_plain (h.go O fun vs s₁ σ₁ O₁ q₁ => wpC_standAt ?_))))
  obtain ⟨k, hk', L⟩ := keeps_K (M := model X.prog X.w) hk _ (B.inK O₁)
  have hpl' : ((backTo pos ((false, eval e env) :: starEach rest env)).any (·.1) || ([] : List (Option Str × Sem Value)).any (·.1.isNone)) = false := hpl
  simp only [hpl']
  refine wpC_bind (wpC_of (L.here ?_))
  have tail : ∀ {t : Sem Value}, wpC (model X.prog X.w) A t (fun a s' => ∃ σ', Own X.s₁ σ' s' ∧ Q a σ') E s₁ → wpC (model X.prog X.w) A (t >>= fun r => holding [r] point >>= fun _ => pure r) (fun a s' => ∃ σ', Own X.s₁ σ' s' ∧ Q a σ') E s₁ :=
    fun ht => wpC_bind (wpC_mono ht (fun r s₂ hr => wpC_bind (wpC_holding (wpC_of (wpAny_point (wpC_pure hr))))) fun _ _ x => x)
  have marked (mk : Value) : wpC (model X.prog X.w) A (callMarked mk f (first ++ vs) []) (fun a s' => ∃ σ', Own X.s₁ σ' s' ∧ Q a σ') E s₁ := by unfold callMarked; exact wpC_keep (q₁ s₁ E O₁)
  rcases hk' with rfl | rfl | rfl <;> dsimp only <;> first | exact tail (q₁ s₁ E O₁) | (split <;> first | exact tail (q₁ s₁ E O₁) | exact tail (marked _))
/-- bytearray(..), bytes(..) in the text -/
theorem WR_callWith_t {T : String} {pos : Pos} {e : Expr} {rest : List Expr} {Q : Value → St → Prop}
    (h : W X A σ (spliced (backTo pos (starEach (e :: rest) env))) fun vs σ₁ => WR X A σ₁ (call (.type T) vs) Q)
    (he : starEach (e :: rest) env = (false, eval e env) :: starEach rest env := by rfl) (hplain : (backTo pos (starEach rest env)).any (·.1) = false := by rfl) :
    WR X A σ (callWith pos (.type T) [] (backTo pos (starEach (e :: rest) env)) []) Q := by
  intro s E O
  rw [he] at h ⊢
  unfold callWith
  refine wpC_bind (wpC_holding (wpC_of (evalArgs_plain (h.go O fun vs s₁ σ₁ O₁ q₁ => wpC_standAt ?_))))
  have hpl' : ((backTo pos ((false, eval e env) :: starEach rest env)).any (·.1) || ([] : List (Option Str × Sem Value)).any (·.1.isNone)) = false := by
    show ((false || (backTo pos (starEach rest env)).any (·.1)) || false) = false
    rw [hplain]; rfl
  simp only [hpl']
  refine wpC_bind (wpC_pure ?_)
  exact wpC_bind (wpC_mono (q₁ s₁ E O₁) (fun r s₂ hr => wpC_bind (wpC_holding (wpC_of (wpAny_point (wpC_pure hr))))) fun _ _ x => x)

theorem WR_callP (B : Base X K) {f : Addr} {oc : Value} {od : Option Addr} {osl : Array (Option Value)} {fd : FuncData} {body : List Stmt} {vals : List Value} (ns0 ns : List Str) (ws : List (Option Value)) {Q : Value → St → Prop}
    (hroom : A.depth < recursionLimit) (ho : K.lookup f = some ⟨oc, od, .func fd, osl⟩)
    (h : ∀ env, EnvOf env fd → NmOk env ns → WR X (A.deeper env) ⟨⟨env, ns, ws, true⟩ :: σ.fr, σ.F, σ.U⟩ (execs body env) (RetQ σ.fr Q))
    (hb : fd.body = .stmts body := by rfl) (hcd : codeIn K fd.code fd.qualname = true := by kernel_rfl) (hclo : fd.closure = [] := by rfl)
    (hcell : ∀ x ∈ fd.scope.names, x.2 ≠ .cell := by decide +kernel)
    (hco : fd.scope.isCoroutine = false := by rfl) (hgen : fd.scope.isGenerator = false := by rfl) (hk : fd.scope.kind = .function := by rfl)
    (hbind : bindArgs fd ⟨vals, []⟩ = pure (ns0.zip vals) := by rfl) (hnm : nmCheck fd.scope ns = true := by decide +kernel) (hpre : ns0 <+: ns := by exact ⟨_, rfl⟩)
    (hws : Binds vals ws := by repeat constructor) (hlen : ns0.length = vals.length := by rfl) :
    WR X A σ (call (.ref f) vals) Q := by
  obtain ⟨nd, hl⟩ := nmCheck_ok hnm
  obtain ⟨rest, rfl⟩ := hpre
  intro s E O
  refine wpC_call (codeC_callG B O (fun v σ' s' O' q => ⟨σ', O', q⟩) ho hb hcd hclo hcell hroom hco hgen hk ?_)
  rw [hbind]
  refine W_pure ⟨fun x hx => (hl _ (List.mem_append_left _ (zip_mem hx))).1, ns0 ++ rest, ws, fun i x v h1 h2 => ?_, fun env he => h env he (nmOk he hnm)⟩
  have h3 := hws.get h2
  have hi : i < vals.length := (List.getElem?_eq_some_iff.mp h3).1
  refine lookup_zip_rev (List.nodup_append.mp nd).1 i x v ?_ h3
  rwa [List.getElem?_append_left (by omega)] at h1
theorem WR_callB (B : Base X K) {f : Addr} {fd : FuncData} {body : List Stmt} {vals : List Value} {ns0 ns : List Str} {Q : Value → St → Prop} (d : DefAt K f fd body ns) (hroom : A.depth < recursionLimit) (hpre : ns0 <+: ns)
    (hbind : BindW X A σ fd vals ns0 fun vs σ' => ∃ ws, Binds vs ws ∧ ∀ env, EnvOf env fd → NmOk env ns → WR X (A.deeper env) ⟨⟨env, ns, ws, true⟩ :: σ'.fr, σ'.F, σ'.U⟩ (execs body env) (RetQ σ'.fr Q)) :
    WR X A σ (call (.ref f) vals) Q := by
  obtain ⟨oc, od, osl, ho⟩ := d.at_
  obtain ⟨nd, hl⟩ := nmCheck_ok d.names
  obtain ⟨rest, rfl⟩ := hpre
  intro s E O
  refine wpC_call (codeC_callG B O (fun v σ' s' O' q => ⟨σ', O', q⟩) ho d.body d.code d.clo d.cell hroom d.co d.gen d.kind (W.mono hbind fun binds σ' q => ?_))
  obtain ⟨vs, rfl, hlen, ws, hws, h⟩ := q
  refine ⟨fun x hx => (hl _ (List.mem_append_left _ (zip_mem hx))).1, ns0 ++ rest, ws, fun i x v h1 h2 => ?_, fun env he => h env he (nmOk he d.names)⟩
  have h3 := hws.get h2
  have hi : i < vs.length := (List.getElem?_eq_some_iff.mp h3).1
  refine lookup_zip_rev (List.nodup_append.mp nd).1 i x v ?_ h3
  rwa [List.getElem?_append_left (by omega)] at h1
end
end Mine
end

section
open PySem PySem.W PyProof.Rows PySem.Calls PySem.Builtin
set_option Elab.async false
set_option maxRecDepth 100000
namespace Mine

section
variable {α : Type} {prog : Program} {w : World} {A : Around} {E : Value → Shared → Prop} {s : Shared} {R : Result → Shared → Prop}
theorem codeC_builtin {id : String} {args : Args} {b : Builtin} (hid : lendIds.contains id = false) (hb : entryFor table id = some b)
    (h : wpC (model prog w) (A.under (.builtin id args)) (b args) (fun fin s' => match fin with | .done f => R (.ok f) s' | .again c' => c'.quiet = true ∧ codeC (model prog w) A c' R s') (fun e s' => R (.error e) s') s) :
    codeC (model prog w) A (.builtin id args) R s := by
  refine codeC_of_tree (by show (!lendIds.contains id) = true; rw [hid]; rfl) ?_
  show wpC _ _ (match entryFor table id with | some b => b args | none => unsupported ((withoutEnding? id "#data").getD id)) _ _ s
  rw [hb]; exact h
/-- a method of a type of the machine, called at a clean stack -/
theorem wpC_call_entry {T : String} {name : Str} {id : String} {b : Builtin} {self : Value} {rest : List Value} {Q : Value → Shared → Prop} (h : Slot T name id) (hid : lendIds.contains id = false) (hT : s.TypeIs self T)
    (hb : entryFor table id = some b) (ha : argsOk id ⟨self :: rest, []⟩)
    (hc : wpC (model prog w) A.in1 (b ⟨self :: rest, []⟩) (fun fin s' => ∃ v, fin = .done (.ret v) ∧ Q v s') E s) : wpC (model prog w) A (call (.builtin id) (self :: rest)) Q E s := by
  refine wpC_call (codeC_of_tree rfl ?_)
  show wpC _ A.in1 (do checkBuiltinCall id ⟨self :: rest, []⟩; again (.builtin id ⟨self :: rest, []⟩)) _ _ s
  refine wpC_bind (wpC_of ?_)
  refine h.check _ _ _ _ _ _ _ _ hT ha ?_
  refine wpC_pure ⟨plainId_quiet h.plain _, codeC_builtin hid hb ?_⟩
  rw [Around.under_plainId h.plain _]
  refine wpC_mono hc (fun fin s' h' => ?_) fun _ _ h' => h'
  obtain ⟨v, rfl, hv⟩ := h'; exact hv

theorem wpC_not_exported {a : Addr} {b : List UInt8} {Q : Bool → Shared → Prop} (h : s.heap.get? a = some (baO b)) (k : Q false s) :
    wpC (model prog w) A (Bytes.exported (.ref a) <||> (do return (← Bytes.exportsOf (.ref a)) > 0)) Q E s := by
  unfold orM
  refine wpC_bind (wpC_exported ?_)
  show wpC (model prog w) A (do return decide ((← Bytes.exportsOf (.ref a)) > 0)) Q E s
  refine wpC_of ?_
  unfold Bytes.exportsOf
  exact wpAny_bind (wpAny_bind (wpAny_load h (wpAny_pure (wpAny_pure k))))
theorem ba_write {a : Addr} {b : List UInt8} {f : Array UInt8 → Array UInt8} {Q : Unit → Shared → Prop} (h : s.heap.get? a = some (baO b)) (hz : (f b.toArray).size ≤ 16777216)
    (k : ∀ h', h'.get? a = some (baO (f b.toArray).toList) → Heap.SameBut a s.heap h' → Q () { s with heap := h' }) : wpAny (model prog w) A (Bytes.write (.ref a) f) Q E s := by
  unfold Bytes.write updateBytearray
  refine wpAny_bind (wpAny_load h ?_)
  show wpAny _ _ (update a (Obj.mapBytearray f) >>= fun _ => lookBehind a) _ _ _
  refine wpAny_bind (wpAny_update h ?_)
  have h2 : (s.heap.update a (Obj.mapBytearray f)).get? a = some (baO (f b.toArray).toList) := (Heap.get?_update_self (Obj.mapBytearray f) h rfl).trans (by simp [Obj.mapBytearray])
  refine wpAny_lookBehind h2 ?_ (k _ h2 (Heap.SameBut.update ..))
  show (if ((f b.toArray).toList.toArray).size > sizeLine then some "bytearray:memory" else none) = none
  rw [if_neg]
  rw [sizeLine_eq]; simp; omega
theorem ba_take {id : String} {d : Addr} {c : List UInt8} {Q : Option (Array UInt8 × Option Value) → Shared → Prop} (h : s.heap.get? d = some (baO c)) (k : Q (some (c.toArray, none)) s) : wpAny (model prog w) A (Bytes.takeBufferQuiet? id (.ref d) 0) Q E s := by
  unfold Bytes.takeBufferQuiet?
  refine wpAny_bind (wpAny_attempt ?_)
  unfold Bytes.takeBuffer?
  refine wpAny_bind (wpAny_specialOf (ba_ty h) BA.look_buffer ?_)
  dsimp only
  refine wpAny_bind (ba_own h BA.look_buffer (by decide +kernel) (by decide +kernel) ?_)
  refine wpAny_bind (wpAny_specialOf (ba_ty h) BA.look_buffer ?_)
  refine wpAny_bind (ba_buffer h (wpAny_pure (wpAny_pure ?_)))
  exact k
theorem ba_iadd_run {a d : Addr} {b c : List UInt8} {Q : Value → Shared → Prop} (ha : s.heap.get? a = some (baO b)) (hd : s.heap.get? d = some (baO c)) (hne : a ≠ d) (hz : b.length + c.length ≤ 1000000)
    (k : ∀ h', h'.get? a = some (baO (b ++ c)) → Heap.SameBut a s.heap h' → Q (.ref a) { s with heap := h' }) :
    wpC (model prog w) A («bytearray.__iadd__» ⟨[.ref a, .ref d], []⟩) (fun fin s' => ∃ v, fin = .done (.ret v) ∧ Q v s') E s := by
  unfold «bytearray.__iadd__»
  refine wpC_bind (wpC_pure ?_)
  dsimp only
  refine wpC_of_bind (ba_take hd ?_)
  dsimp only
  show wpC _ _ (Bytes.thenGiveBack none _) _ _ _
  unfold Bytes.thenGiveBack
  dsimp only
  have rest : wpC (model prog w) A (do
      if Bytes.tooLong ((← Bytes.payload (.ref a)).size + c.toArray.size) then unsupported "bytearray.__iadd__:memory"
      Bytes.write (.ref a) (· ++ c.toArray)
      ret (.ref a)) (fun fin s' => ∃ v, fin = .done (.ret v) ∧ Q v s') E s := by
    refine wpC_of_bind (ba_payload ha ?_)
    rw [if_neg (by rw [KBy.tooLong_not (by simpa using (by omega : b.length + c.length ≤ 16777216))]; exact Bool.false_ne_true)]
    refine wpC_of (wpAny_bind (ba_write ha (by simp; omega) fun h' g sb => wpAny_pure ⟨_, rfl, k h' ?_ sb⟩))
    simpa using g
  by_cases hc : c = []
  · subst hc
    exact rest
  · have e : (!c.toArray.isEmpty) = true := by cases c with | nil => exact absurd rfl hc | cons _ _ => rfl
    rw [if_pos e]
    rw [if_neg (by show ¬ (a == d) = true; simp [hne])]
    unfold Bytes.checkResize
    refine wpC_bind (wpC_bind (wpC_not_exported ha ?_))
    rw [if_neg (by simp)]
    exact wpC_pure rest
end
end Mine
end

section
open PySem PySem.W PyProof.Rows PySem.Calls PySem.Builtin
set_option Elab.async false
set_option maxRecDepth 100000
namespace Mine
namespace BA
theorem seq_iadd : seqSlot? (.type "bytearray") (dunderI "add") = pure (some (.builtin "bytearray.__iadd__")) := PySem.seqSlot_of slot_iadd.lookup (by decide +kernel)
theorem noFill_iadd : fillsInplaceSlot (.type "bytearray") "add" (Operator.Add == .Add) = pure false := by
  unfold fillsInplaceSlot
  show (typeLookup (.type "bytearray") (dunderI "add") >>= fun fi => pure (fi.isSome && !isSeqSlot fi)) = pure false
  rw [slot_iadd.lookup]; kernel_rfl
theorem lend_iadd : lendIds.contains "bytearray.__iadd__" = false := by decide +kernel
theorem lend_init : lendIds.contains "bytearray.__init__" = false := by decide +kernel
theorem called : TypeCalled "bytearray" "bytearray.__new__" "bytearray.__init__" :=
  ⟨by decide +kernel, by decide +kernel, ⟨_, _, mro⟩, madeBy_type mro look_new (by decide +kernel), by decide +kernel, sub_self, slot_init⟩
theorem typeCall (a : Value) : checkTypeCall "bytearray" ⟨[a], []⟩ = pure () := by kernel_rfl
theorem newCall (a : Value) : checkBuiltinCall "bytearray.__new__" ⟨[.type "bytearray", a], []⟩ = pure () := by kernel_rfl
theorem entry_new : entryFor table "bytearray.__new__" = some Builtin.«list.__new__» := entryFor_alias (id' := "list.__new__") (by kernel_rfl) (by first | rfl | (unfold String.splitOn; simp +decide [String.splitOnAux])) (by decide +kernel) (by kernel_rfl)
theorem plain_new : plainId "bytearray.__new__" = true := by decide +kernel
set_option maxRecDepth 1000000 in
set_option maxHeartbeats 4000000 in
theorem owner_new : ("bytearray.__new__".splitOn ".__new__").headD "" = "bytearray" := by simp +decide [String.splitOn, String.splitOnAux]
end BA
section
variable {prog : Program} {w : World} {A : Around} {E : Value → Shared → Prop} {s : Shared}
theorem ba_iadd {a d : Addr} {b c : List UInt8} {Q : Value → Shared → Prop} (ha : s.heap.get? a = some (baO b)) (hd : s.heap.get? d = some (baO c)) (hne : a ≠ d) (hz : b.length + c.length ≤ 1000000)
    (k : ∀ h', h'.get? a = some (baO (b ++ c)) → Heap.SameBut a s.heap h' → Q (.ref a) { s with heap := h' }) : wpC (model prog w) A (inplaceOp .Add (.ref a) (.ref d)) Q E s := by
  unfold inplaceOp
  refine wpC_holding (wpC_of_bind (wpAny_typeOf (ba_ty ha) ?_))
  refine wpC_of_bind (wpAny_of_eq BA.noFill_iadd ?_)
  show wpC _ A (if false = true then _ else _) Q E s
  rw [if_neg Bool.false_ne_true]
  refine wpC_of_bind (wpAny_binaryOp1_none (nm := "add") (ba_ty ha) (ba_ty hd) BA.noFill_add ?_)
  refine wpC_of_bind (wpAny_of_eq BA.seq_iadd ?_)
  exact wpC_of_bind (wpAny_rule (wpC_call_entry BA.slot_iadd BA.lend_iadd (ba_ty ha) BA.entry_iadd (BA.args_iadd _ _) (ba_iadd_run ha hd hne hz k)))
theorem ba_new (a : Value) {Q : Value → Shared → Prop} (h : Q (.ref s.heap.objs.size) { s with heap := s.heap.push (baO []) }) :
    codeAny (model prog w) A (.call (.builtin "bytearray.__new__") ⟨[.type "bytearray", a], []⟩) (wants Q E) s := by
  refine codeAny_of_tree ?_
  show wpAny _ A.in1 (do checkBuiltinCall "bytearray.__new__" ⟨[.type "bytearray", a], []⟩; again (.builtin "bytearray.__new__" ⟨[.type "bytearray", a], []⟩)) _ _ s
  refine wpAny_bind (wpAny_of_eq (BA.newCall a) (wpAny_pure ⟨plainId_quiet BA.plain_new _, codeAny_builtin_stack BA.entry_new rfl fun p st => ?_⟩))
  rw [Around.under_plainId BA.plain_new _]
  have hsub := BA.sub_self
  have hown := BA.owner_new
  obtain ⟨hp, g, d, tk, os⟩ := s
  simp only [hown]
  wp_walk
  exact h
theorem ba_init_run {a : Addr} {b : List UInt8} {t : Tok} {Q : Value → Shared → Prop} (ha : s.heap.get? a = some (baO [])) (hz : b.length ≤ 1000000)
    (k : ∀ h', h'.get? a = some (baO b) → Heap.SameBut a s.heap h' → Q .none { s with heap := h' }) :
    wpC (model prog w) A («bytearray.__init__» ⟨[.ref a, .bytes b.toArray t], []⟩) (fun fin s' => ∃ v, fin = .done (.ret v) ∧ Q v s') E s := by
  unfold «bytearray.__init__»
  dsimp only
  refine wpC_of_bind (ba_release ha ?_)
  rw [if_neg Bool.false_ne_true]
  refine wpC_of_bind (wpAny_of_eq (a := [some (.bytes b.toArray t), none, none]) (by kernel_rfl) ?_)
  dsimp only
  refine wpC_of_bind (wpAny_of_eq (a := ()) rfl ?_)
  refine wpC_of_bind (wpAny_of_eq (a := ()) rfl ?_)
  refine wpC_bind (wpC_not_exported ha ?_)
  rw [if_neg Bool.false_ne_true]
  refine wpC_of_bind (ba_write ha (by simp) fun h1 g1 sb1 => ?_)
  refine wpC_of_bind (wpAny_of_eq (a := none) rfl ?_)
  rw [if_neg (by simp)]
  refine wpC_of_bind (wpAny_of_eq (a := ()) rfl ?_)
  refine wpC_of_bind (wpAny_specialOf (T := "bytes") rfl BA.b_index ?_)
  rw [if_neg (by simp)]
  have hb : Bytes.buffer? "bytearray.__init__" (.bytes b.toArray t) true = pure (some b.toArray) := by
    unfold Bytes.buffer?
    rw [KBy.special_eq KBy.look_buffer, KBy.own_buffer, KBy.own_release]
    kernel_rfl
  refine wpC_of_bind (wpAny_of_eq hb ?_)
  dsimp only
  refine wpC_of_bind (wpAny_rule ?_)
  refine wpC_of_bind (ba_write (s := { s with heap := h1 }) (b := []) (f := fun _ => b.toArray) (by simpa using g1) (by simp; omega) fun h2 g2 sb2 => ?_)
  exact wpC_pure ⟨_, rfl, k h2 (by simpa using g2) (sb1.trans sb2)⟩
theorem call_ba {b : List UInt8} {t : Tok} {Q : Value → Shared → Prop} (hz : b.length ≤ 1000000)
    (k : ∀ h', h'.get? s.heap.objs.size = some (baO b) → (∀ x o, s.heap.get? x = some o → h'.get? x = some o) → Q (.ref s.heap.objs.size) { s with heap := h' }) :
    wpC (model prog w) A (call (.type "bytearray") [.bytes b.toArray t]) Q E s := by
  refine wpC_call (codeC_of_tree rfl ?_)
  show wpC _ _ (again (.builtin "type.__call__" ⟨[.type "bytearray", .bytes b.toArray t], []⟩)) _ _ s
  refine wpC_pure ⟨Code.quiet_builtin _ (by decide +kernel), codeC_builtin (by decide +kernel) F.entry_type_call ?_⟩
  rw [Around.under_plain (weight_type_call_type "bytearray" [.bytes b.toArray t] []) rfl]
  unfold Builtin.«type.__call__»
  dsimp only
  rw [if_neg (by rw [BA.called.notType]; exact Bool.false_ne_true), if_neg (by rw [BA.called.canCreate]; exact Bool.false_ne_true)]
  refine wpC_of_bind (wpAny_of_eq (BA.typeCall _) (wpC_of_bind (wpAny_of_eq BA.mro ?_)))
  rw [if_neg (by simp)]
  refine wpC_of_bind (wpAny_of_eq BA.called.made ?_)
  dsimp only
  refine wpC_bind (wpC_pure (wpC_of_bind (wpAny_holding (wpAny_call (ba_new _ ?_)))))
  have g0 : (s.heap.push (baO [])).get? s.heap.objs.size = some (baO []) := Heap.get?_push_size _ rfl
  refine wpC_of_bind (wpAny_isInstance (s := { s with heap := s.heap.push (baO []) }) (ba_ty g0) BA.sub_self ?_)
  simp only [Bool.not_true, Bool.false_eq_true, if_false]
  refine wpC_bind (wpC_holding ?_)
  have special : wpC (model prog w) A.in1 (callSpecial? (.ref s.heap.objs.size) "__init__" [.bytes b.toArray t] []) (fun r s' => r = some .none ∧ ∃ h', s' = { s with heap := h' } ∧ h'.get? s.heap.objs.size = some (baO b) ∧ (∀ x o, s.heap.get? x = some o → h'.get? x = some o)) (fun e s' => wants Q E (.error e) s') { s with heap := s.heap.push (baO []) } := by
    unfold callSpecial?
    refine wpC_of_bind (wpAny_specialOf (s := { s with heap := s.heap.push (baO []) }) (ba_ty g0) BA.slot_init.lookup ?_)
    dsimp only
    refine wpC_holding (wpC_of_bind (wpAny_of_eq (BA.slot_init.bind _) ?_))
    refine wpC_bind (wpC_call_entry BA.slot_init BA.lend_init (s := { s with heap := s.heap.push (baO []) }) (ba_ty g0) BA.entry_init (BA.args_init _ _) (ba_init_run (s := { s with heap := s.heap.push (baO []) }) g0 hz fun h' g sb => wpC_pure ⟨rfl, h', rfl, g, fun x o hx => ?_⟩))
    refine (sb.2 x ?_).trans (Heap.get?_push_of_some _ hx)
    exact Nat.ne_of_lt (Heap.lt_size hx)
  refine wpC_mono special (fun r s' ⟨hr, h', e, g, kk⟩ => ?_) fun _ _ h => h
  subst hr e
  dsimp only
  rw [if_neg (by simp)]
  exact wpC_pure (k h' g kk)
end
section
variable {X : Cx} {K : Frag} {A : Around} {σ : St} {env : Env}
/-- bytearray += bytearray: the left one is one of the mutable ones -/
theorem WR_iadd {a : Addr} {v : Value} {b c : List UInt8} {Q : Value → St → Prop} (ha : σ.U a = some (baO b)) (hv : Oct X σ true v c) (hne : v ≠ .ref a) (hz : b.length + c.length ≤ 1000000) (h : Q (.ref a) { σ with U := upd σ.U a (baO (b ++ c)) }) :
    WR X A σ (inplaceOp .Add (.ref a) v) Q := by
  obtain ⟨d, rfl, hd⟩ := hv
  exact fun s E O => ba_iadd (O.mts _ _ ha) (O.live hd) (fun e => hne (by rw [e])) hz fun h' g sb => ⟨_, O.setU ha g sb, h⟩
theorem WR_bytearray {b : List UInt8} {t : Tok} {Q : Value → St → Prop} (hz : b.length ≤ 1000000) (h : ∀ a, Frsh X.s₁ σ a → Q (.ref a) { σ with U := upd σ.U a (baO b) }) : WR X A σ (call (.type "bytearray") [.bytes b.toArray t]) Q := by
  intro s E O
  refine call_ba hz fun h' g kk => ?_
  have fr := O.fresh (get_size s.heap)
  have O' := O.ext kk (tk := s.toks)
  refine ⟨{ σ with U := upd σ.U s.heap.objs.size (baO b) }, ⟨O'.same, O'.ground, O'.frz, fun x o e => ?_, fun x o e => ?_, fun f hf => ?_, O'.loc, O'.apart⟩, h _ fr⟩
  · by_cases q : x = s.heap.objs.size
    · subst q
      have e' : upd σ.U s.heap.objs.size (baO b) s.heap.objs.size = some o := e
      rw [upd_same] at e'; cases e'; exact g
    · have e' : upd σ.U s.heap.objs.size (baO b) x = some o := e
      rw [upd_ne q] at e'; exact O'.mts _ _ e'
  · by_cases q : x = s.heap.objs.size
    · subst q; exact ⟨fr.nF, fr.high⟩
    · have e' : upd σ.U s.heap.objs.size (baO b) x = some o := e
      rw [upd_ne q] at e'; exact O'.sep _ _ e'
  · obtain ⟨a1, a2, a3, a4, a5⟩ := O'.frs f hf
    exact ⟨a1, a2, a3, a4, by show upd σ.U _ _ _ = none; rw [upd_ne (fr.nL f hf)]; exact a5⟩
end
end Mine
end

section
open PySem PySem.W PyProof.Rows PySem.Calls
set_option Elab.async false
set_option maxRecDepth 100000
namespace Mine

section
variable {α : Type} {X : Cx} {A : Around} {σ : St}
theorem WR_sep {t : Sem α} {Q : α → St → Prop} (h : (∀ b o o', σ.U b = some o → σ.F b = some o' → False) → WR X A σ t Q) : WR X A σ t Q :=
  fun s E O => h (fun b o o' h1 h2 => by rw [(O.sep b o h1).1] at h2; cases h2) s E O
theorem WR_dropU {t : Sem α} {Q : α → St → Prop} {U' : Mp} (k : Le U' σ.U) (h : WR X A { σ with U := U' } t Q) : WR X A σ t Q := fun s E O => h s E (O.dropU k)
theorem le_era {U0 U : Mp} {a : Addr} (h : Le U0 U) (n : U0 a = none) : Le U0 (era U a) := fun b o e => by
  have : b ≠ a := fun q => by subst q; rw [n] at e; cases e
  show (if b = a then none else U b) = _
  rw [if_neg this]; exact h b o e
theorem le_upd_none {U0 U : Mp} {a : Addr} {o : Obj} (h : Le U0 U) (n : U0 a = none) : Le U0 (upd U a o) := fun b o' e => by
  have : b ≠ a := fun q => by subst q; rw [n] at e; cases e
  rw [upd_ne this]; exact h b o' e
end
theorem depth_mem {l : List T} {t : T} (h : t ∈ l) : depth t + 1 ≤ depth (.node l) := by
  have := depths_mem h
  simp only [depth]; omega

section
variable {P : Params} {X : Cx}
set_option maxHeartbeats 8000000 in
theorem c_payR (B : Base X (Mine.hd.heap_39 P)) (n : Nat) : ∀ (u : T) {A : Around} {fr : List Fram} {F U0 : Mp} {pa d : Addr} {o pre post : List UInt8} {start : Nat} {tk tn : Tok}, depth u ≤ n → Room A (n + 3) → U0 d = some (baO o) → o.length ≤ 100000 → U0 pa = none → Ok u →
    o = pre ++ pBody u ++ post → pre.length = start →
    WR X A ⟨fr, F, upd U0 pa (baO (pHdr u))⟩ (call (.ref 83) [.ref d, .ref pa, .int (start : Nat) tk, .type (pTy u), .int ((pBody u).length : Nat) tn]) (PayP X true u (start + (pBody u).length) ⟨fr, F, U0⟩) := by
  induction n with
  | zero =>
    intro u A fr F U0 pa d o pre post start tk tn hu r ho hz hpa hok e hs
    have hdp : d ≠ pa := fun q => by rw [q, hpa] at ho; cases ho
    cases u with
    | leaf b =>
      refine (W_shrink (W.mono (c_payB B (σ := ⟨fr, F, upd U0 pa (baO (pHdr (.leaf b)))⟩) (lv := true) (v := .ref d) (p := .ref pa) (r.le (by omega)) ⟨d, rfl, .inl ((upd_ne hdp).trans ho)⟩ (by omega) ⟨pa, rfl, .inl (upd_same ..)⟩ e hs) fun w σ' ⟨a, F', item, ls, q, m, rest, t, ew, L, e1, h1, h2, h3, h4⟩ => ?_)).r
      subst e1
      exact ⟨U0, le_upd hpa, a, F', item, ls, q, m, rest, t, ew, L, rfl, h1, h2, h3, h4⟩
    | node l => exact absurd hu (by simp only [depth]; omega)
  | succ n ih =>
  intro u A fr F U0 pa d o pre post start tk tn hu r ho hz hpa hok e hs
  have hdp : d ≠ pa := fun q => by rw [q, hpa] at ho; cases ho
  cases u with
  | leaf b =>
    refine (W_shrink (W.mono (c_payB B (σ := ⟨fr, F, upd U0 pa (baO (pHdr (.leaf b)))⟩) (lv := true) (v := .ref d) (p := .ref pa) (r.le (by omega)) ⟨d, rfl, .inl ((upd_ne hdp).trans ho)⟩ (by omega) ⟨pa, rfl, .inl (upd_same ..)⟩ e hs) fun w σ' ⟨a, F', item, ls, q, m, rest, t, ew, L, e1, h1, h2, h3, h4⟩ => ?_)).r
    subst e1
    exact ⟨U0, le_upd hpa, a, F', item, ls, q, m, rest, t, ew, L, rfl, h1, h2, h3, h4⟩
  | node l =>
    refine WR_callP B ["rlp", "prefix", "start", "type_", "length"] payNs [some (.ref d), some (.ref pa), some (.int (start : Nat) tk), some (.type "list"), some (.int ((pBody (.node l)).length : Nat) tn), none, none, none, none, none, none, none, none, none, none, none] r.d (by rfl) fun env he nm => ?_
    have hr : Room (A.deeper env) (n + 3) := r.deeper env
    have hol := congrArg List.length e
    simp only [List.length_append] at hol
    have hbl : pBody (.node l) = codes l := rfl
    rw [hbl] at e hol
    have hll := kids_len l
    have hoks : Oks l := by have := hok; unfold Ok at this; exact this.2
    refine WR_execs_cons <| WR_If <| W_isTrue_Compare <| W_name nm (.there (.there (.there .here))) <| W_gname (bl B he "bytes" (.type "bytes")) rfl rfl <| W_is_plain ty_lb <| W_truthy_bool ?_
    rw [if_neg ne_lb]
    refine WR_execs_cons <| WR_If <| W_isTrue_Compare <| W_name nm (.there (.there (.there .here))) <| W_gname (bl B he "list" (.type "list")) rfl rfl <| W_is_plain ty_ll <| W_truthy_bool ?_
    rw [if_pos eq_ll]
    refine WR_execs_cons <| W.r <| W_Assign_Name <| W_List <| W_items_nil ⟨by simp, fun ai fai => W_store nm (.there (.there (.there (.there (.there (.there .here)))))) ?_⟩
    refine WR_execs_cons <| W.r <| W_Assign_Name <| W_List <| W_items_nil ⟨by simp, fun ap fap => W_store nm (.there (.there (.there (.there (.there (.there (.there .here))))))) ?_⟩
    refine WR_execs_cons <| W.r <| W_Assign_Name <| W_name nm (.there .here) <| W_store nm (.there (.there (.there (.there (.there (.there (.there (.there .here)))))))) ?_
    refine WR_execs_cons <| W.r <| W_Assign_Name <| W_name nm (.there (.there .here)) <| W_store nm (.there (.there (.there (.there (.there (.there (.there (.there (.there .here))))))))) ?_
    refine WR_execs_cons <| W.r <| W_Assign_Name <| W_BinOp <| W_name nm (.there (.there (.there (.there (.there (.there (.there (.there (.there .here))))))))) <| W_name nm (.there (.there (.there (.there .here)))) <| W_add fun te => W_store nm (.there (.there (.there (.there (.there (.there (.there (.there (.there (.there .here)))))))))) ?_
    have n1 : ai ≠ pa := fun q => by have := fai.nU; rw [q] at this; exact absurd this (by show upd U0 pa _ pa ≠ none; rw [upd_same]; simp)
    have hai : U0 ai = none := (upd_ne (o := baO (pHdr (.node l))) n1).symm.trans fai.nU
    have n2 : ap ≠ ai := fun q => by have := fap.nU; rw [q] at this; exact absurd this (by show upd (upd U0 pa _) ai _ ai ≠ none; rw [upd_same]; simp)
    have hap' : upd U0 pa (baO (pHdr (.node l))) ap = none := (upd_ne (o := lstO [] 0) n2).symm.trans fap.nU
    have n3 : ap ≠ pa := fun q => by rw [q, upd_same] at hap'; cases hap'
    have hap : U0 ap = none := (upd_ne (o := baO (pHdr (.node l))) n3).symm.trans hap'
    have n4 : d ≠ ai := fun q => by rw [q, hai] at ho; cases ho
    have n5 : d ≠ ap := fun q => by rw [q, hap] at ho; cases ho
    have ee : ((start : Nat) : Int) + ((pBody (.node l)).length : Nat) = ((start + (codes l).length : Nat) : Int) := by rw [hbl]; omega
    rw [ee]
    refine WR_execs_cons <| WR_While (fun k σ => ∃ (j : Nat) (x0 x1 x2 x3 x4 x5 : Option Value) (t1 : Tok) (F1 U1 : Mp) (ivs pvs : List Value) (m1 m2 : Nat), k = l.length - j ∧ j ≤ l.length ∧ Le F F1 ∧ Le U0 U1 ∧ U1 pa = some (baO (pHdr (.node l) ++ codes (l.take j))) ∧ U1 ai = some (lstO ivs m1) ∧ U1 ap = some (lstO pvs m2) ∧
      IsDs true F1 (l.take j) ivs ∧ pvs.length = j ∧
      σ = ⟨⟨env, payNs, [some (.ref d), some (.ref pa), some (.int (start : Nat) tk), some (.type "list"), some (.int ((pBody (.node l)).length : Nat) tn), x0, some (.ref ai), some (.ref ap), some (.ref pa), some (.int ((start + (codes (l.take j)).length : Nat) : Int) t1), some (.int ((start + (codes l).length : Nat) : Int) te), x1, x2, x3, x4, x5], true⟩ :: fr, F1, U1⟩)
      l.length ⟨0, none, none, none, none, none, none, tk, F, upd (upd (upd U0 pa (baO (pHdr (.node l)))) ai (lstO [] 0)) ap (lstO [] 0), [], [], 0, 0, rfl, Nat.zero_le _, .refl _, ?_, ?_, ?_, upd_same .., ?_, rfl, ?_⟩ ?_
    · exact le_upd_none (le_upd_none (le_upd hpa) hai) hap
    · show upd (upd (upd U0 pa _) ai _) ap _ pa = _
      rw [upd_ne n3.symm, upd_ne n1.symm, upd_same]; simp [codes]
    · show upd (upd (upd U0 pa _) ai _) ap _ ai = _
      rw [upd_ne n2.symm, upd_same]
    · simp [IsDs]
    · simp [codes]
    rintro k _ ⟨j, x0, x1, x2, x3, x4, x5, t1, F1, U1, ivs, pvs, m1, m2, hk, hj, L1, LU, hp1, hi1, hq1, hD, hpl, rfl⟩
    refine W_isTrue_Compare <| W_name nm (.there (.there (.there (.there (.there (.there (.there (.there (.there .here))))))))) <| W_name nm (.there (.there (.there (.there (.there (.there (.there (.there (.there (.there .here)))))))))) <| W_lt <| W_truthy_bool ?_
    have hsp := codes_split l j
    by_cases hjl : j < l.length
    · rw [if_pos (by
        rw [List.drop_eq_getElem_cons hjl, codes_cons', List.length_append] at hsp
        have := code_pos l[j]
        simp; omega)]
      have hu' : l[j]? = some l[j] := List.getElem?_eq_getElem hjl
      have hmem : l[j] ∈ l := List.getElem_mem hjl
      have hcs := codes_take_succ hu'
      have hst := take_succ_some hu'
      have hd1 : U1 d = some (baO o) := LU _ _ ho
      have hcl : (code l[j]).length = (pHdr l[j]).length + (pBody l[j]).length := by rw [code_eq]; simp
      have hcc : codes l = codes (l.take j) ++ (code l[j] ++ codes (l.drop (j + 1))) := by
        rw [← codes_cons', ← List.drop_eq_getElem_cons hjl, ← codes_append, List.take_append_drop]
      have eo : o = (pre ++ codes (l.take j)) ++ code l[j] ++ (codes (l.drop (j + 1)) ++ post) := by
        rw [e, hcc]; simp only [List.append_assoc]
      refine WR_execs_cons <| W.r <| W_Assign_Tuple <| W_Call_Name <| W_gname (gl B he "consume_length_prefix" (.ref 76)) rfl rfl <| W_callWith B (by kernel_rfl) <| W_items_cons <| W_name nm .here <| W_items_cons <| W_name nm (.there (.there (.there (.there (.there (.there (.there (.there (.there .here))))))))) <| W_items_nil ?_
      refine W.mono (c_prefix B (σ := ⟨_ :: fr, F1, U1⟩) (lv := true) (v := .ref d) (u := l[j]) (start := start + (codes (l.take j)).length) (hr.le (by omega)) ⟨d, rfl, .inl hd1⟩ (by omega) (hoks.mem _ hmem) eo (by simp [hs])) fun w σ' ⟨a, F2, U2, p, t3, t4, ew, (L2 : Le F1 F2), e2, hN, hF2⟩ => ?_
      subst ew e2
      obtain ⟨pk, rfl, hpk, rfl⟩ := hN
      have hpk : U1 pk = none := hpk
      refine W_assign_Tuple hr.calm (.inr (.inl hF2)) rfl rfl <| W_inOrder_cons <| W_assign_Name nm (.there (.there (.there (.there (.there (.there (.there (.there (.there (.there (.there .here))))))))))) <| W_inOrder_cons <| W_assign_Name nm (.there (.there (.there (.there (.there (.there (.there (.there (.there (.there (.there (.there .here)))))))))))) <|
        W_inOrder_cons <| W_assign_Name nm (.there (.there (.there (.there (.there (.there (.there (.there (.there (.there (.there (.there (.there .here))))))))))))) <| W_inOrder_cons <| W_assign_Name nm (.there (.there (.there (.there (.there (.there (.there (.there (.there (.there (.there (.there (.there (.there .here)))))))))))))) <| W_inOrder_nil ?_
      refine WR_execs_cons <| WR_Assign_Tuple <| WR_Call_Name <| W_gname (gl B he "consume_payload" (.ref 83)) rfl rfl <| WR_callWith B (by kernel_rfl) <| W_items_cons <| W_name nm .here <| W_items_cons <| W_name nm (.there (.there (.there (.there (.there (.there (.there (.there (.there (.there (.there .here))))))))))) <|
        W_items_cons <| W_name nm (.there (.there (.there (.there (.there (.there (.there (.there (.there (.there (.there (.there (.there (.there .here)))))))))))))) <| W_items_cons <| W_name nm (.there (.there (.there (.there (.there (.there (.there (.there (.there (.there (.there (.there .here)))))))))))) <|
        W_items_cons <| W_name nm (.there (.there (.there (.there (.there (.there (.there (.there (.there (.there (.there (.there (.there .here))))))))))))) <| W_items_nil ?_
      refine WR.mono (ih l[j] (U0 := U1) (F := F2) (pa := pk) (d := d) (o := o) (pre := pre ++ codes (l.take j) ++ pHdr l[j]) (post := codes (l.drop (j + 1)) ++ post) (start := start + (codes (l.take j)).length + (pHdr l[j]).length) (by have := depth_mem hmem; omega) hr hd1 hz hpk (hoks.mem _ hmem) (by rw [eo, code_eq l[j]]; simp only [List.append_assoc]) (by simp only [List.length_append, hs])) fun w σ' ⟨a2, F3, item, ls, q, m3, rest, t5, ew, (L3 : Le F2 F3), e2, hF3, hI, hls, hq⟩ => ?_
      subst ew e2
      have en : start + (codes (l.take j)).length + (pHdr l[j]).length + (pBody l[j]).length = start + (codes (l.take (j + 1))).length := by rw [hcs, List.length_append, hcl]; omega
      rw [en] at hF3
      obtain ⟨dq, rfl, hdq⟩ := hq
      have hpz : (pHdr (.node l) ++ codes (l.take j)).length + (code l[j]).length ≤ 1000000 := by
        have h1 := hdr_len' 192 (codes l).length
        have h2 : (pHdr (.node l)).length = (hdr 192 (codes l).length).length := rfl
        rw [hcc] at h1
        rw [List.length_append, h2, hcc]
        rw [hcc] at hol
        simp only [List.length_append] at *
        omega
      refine W_assign_Tuple hr.calm (.inr (.inl hF3)) rfl rfl <| W_inOrder_cons <| W_assign_Name nm (.there (.there (.there (.there (.there .here))))) <| W_inOrder_cons <| W_assign_Name nm (.there (.there (.there (.there (.there (.there (.there (.there (.there (.there (.there (.there (.there (.there (.there .here))))))))))))))) <|
        W_inOrder_cons <| W_assign_Name nm (.there (.there (.there (.there (.there (.there (.there (.there (.there .here))))))))) <| W_inOrder_nil ?_
      refine WR_execs_cons <| W.r <| W_Expr (hi := inter he) <| W_append <| W_name nm (.there (.there (.there (.there (.there (.there (.there .here))))))) ⟨ap, rfl, ⟨_, _, hq1⟩, W_name nm (.there (.there (.there (.there (.there (.there (.there (.there (.there (.there (.there (.there (.there (.there (.there .here))))))))))))))) ⟨pvs, m2, hq1, by unfold sizeLine; omega, fun m4 => ?_⟩⟩
      have hp2 : upd U1 ap (lstO (pvs ++ [.ref ls]) m4) pa = some (baO (pHdr (.node l) ++ codes (l.take j))) := (upd_ne n3.symm).trans hp1
      refine WR_execs_cons <| WR_sep fun sep => WR_AugAssign_Name <| W_loadName nm (.there (.there (.there (.there (.there (.there (.there (.there .here)))))))) <| W_Subscript <| W_name nm (.there (.there (.there (.there (.there (.there (.there (.there (.there (.there (.there (.there (.there (.there (.there .here))))))))))))))) <| W_int fun t6 => W_item_list (.ofF hls) (by decide) (by decide) rfl <|
        WR_iadd hp2 ⟨dq, rfl, .ofF hdq⟩ (fun q => sep pa _ _ hp2 (by cases q; exact hdq)) hpz <| W_store nm (.there (.there (.there (.there (.there (.there (.there (.there .here)))))))) ?_
      have hi2 : upd (upd U1 ap (lstO (pvs ++ [.ref ls]) m4)) pa (baO (pHdr (.node l) ++ codes (l.take j) ++ code l[j])) ai = some (lstO ivs m1) := (upd_ne n1).trans ((upd_ne n2.symm).trans hi1)
      refine WR_execs_cons <| W.r <| W_Expr (hi := inter he) <| W_append <| W_name nm (.there (.there (.there (.there (.there (.there .here)))))) ⟨ai, rfl, ⟨_, _, hi2⟩, W_name nm (.there (.there (.there (.there (.there .here))))) ⟨ivs, m1, hi2, by have := hD.length; rw [List.length_take] at this; unfold sizeLine; omega, fun m5 => ?_⟩⟩
      refine WR_execs_nil ⟨l.length - (j + 1), by omega, j + 1, _, _, _, _, _, _, t5, F3, upd (upd (upd U1 ap (lstO (pvs ++ [.ref ls]) m4)) pa (baO (pHdr (.node l) ++ codes (l.take j) ++ code l[j]))) ai (lstO (ivs ++ [item]) m5), ivs ++ [item], pvs ++ [.ref ls], m5, m4, rfl, hjl, L1.trans (L2.trans L3), le_upd_none (le_upd_none (le_upd_none LU hap) hpa) hai, ?_, upd_same .., ?_, ?_, by simp [hpl], rfl⟩
      · show upd (upd (upd U1 ap _) pa _) ai _ pa = _
        rw [upd_ne n1.symm, upd_same, hcs, List.append_assoc]
      · show upd (upd (upd U1 ap _) pa _) ai _ ap = _
        rw [upd_ne n2, upd_ne n3, upd_same]
      · rw [hst]
        exact (hD.le (L2.trans L3)).snoc hI
    · obtain rfl : j = l.length := by omega
      rw [List.take_length] at *
      rw [if_neg (by simp)]
      refine WR_execs_cons <| W.r <| W_Expr (hi := inter he) <| W_insert0 <| W_name nm (.there (.there (.there (.there (.there (.there (.there .here))))))) ⟨ap, rfl, ⟨_, _, hq1⟩, W_name nm (.there (.there (.there (.there (.there (.there (.there (.there .here)))))))) ⟨pvs, m2, hq1, by unfold sizeLine; omega, fun m4 => ?_⟩⟩
      refine WR_execs_cons <| WR_If <| W_isTrue_Compare <| W_name nm (.there (.there (.there (.there (.there (.there (.there (.there (.there .here))))))))) <| W_name nm (.there (.there (.there (.there (.there (.there (.there (.there (.there (.there .here)))))))))) <| W_gt <| W_truthy_bool ?_
      rw [if_neg (by simp)]
      refine WR_execs_nil ?_
      refine W.r ?_
      refine W_frz (a := pa) ((upd_ne n3.symm).trans hp1) fun f1 => ?_
      have g2 : era (upd U1 ap (lstO (.ref pa :: pvs) m4)) pa ai = some (lstO ivs m1) := by
        show (if ai = pa then none else upd U1 ap _ ai) = _
        rw [if_neg n1, upd_ne n2.symm]; exact hi1
      refine W_frz (a := ai) g2 fun f2 => ?_
      have g3 : era (era (upd U1 ap (lstO (.ref pa :: pvs) m4)) pa) ai ap = some (lstO (.ref pa :: pvs) m4) := by
        show (if ap = ai then none else if ap = pa then none else upd U1 ap _ ap) = _
        rw [if_neg n2, if_neg n3, upd_same]
      refine W_frz (a := ap) g3 fun f3 => ?_
      have K1 := le_upd (o := baO (pHdr (.node l) ++ codes l)) f1
      have K2 := le_upd (o := lstO ivs m1) f2
      have K3 := le_upd (o := lstO (.ref pa :: pvs) m4) f3
      refine W_retR <| W_shrink <| W_Tuple <| W_items_cons <| W_name nm (.there (.there (.there (.there (.there (.there .here)))))) <| W_items_cons <| W_name nm (.there (.there (.there (.there (.there (.there (.there .here))))))) <| W_items_cons <| W_name nm (.there (.there (.there (.there (.there (.there (.there (.there (.there .here))))))))) <| W_items_nil ⟨by simp [sizeLine], fun a3 F4 L4 ha3 _ => ?_⟩
      refine ⟨U0, le_era (le_era (le_era (le_upd_none LU hap) hpa) hai) hap, retM ⟨_, rfl, a3, F4, .ref ai, ap, .ref pa, m4, pvs, t1, rfl, L1.trans (K1.trans (K2.trans (K3.trans L4))), rfl, ha3, ?_, L4 _ _ (upd_same ..), ?_⟩⟩
      · unfold IsD
        exact ⟨ai, ivs, m1, rfl, L4 _ _ (K3 _ _ (upd_same ..)), hD.le (K1.trans (K2.trans (K3.trans L4)))⟩
      · exact ⟨pa, rfl, L4 _ _ (K3 _ _ (K2 _ _ (upd_same ..)))⟩
end
end Mine
end

section
open PySem PySem.W PyProof.Rows PySem.Calls
set_option Elab.async false
set_option maxRecDepth 100000
namespace Mine

section
variable {P : Params} {X : Cx} {A : Around}
theorem le_all {U0 U : Mp} (h : U = U0) : Le U0 U := h ▸ .refl _
set_option maxHeartbeats 8000000 in
theorem c_item (B : Base X (Mine.hd.heap_39 P)) {fr : List Fram} {F U : Mp} {d : Addr} {u : T} {tk : Tok} (r : Room A 8) (ho : U d = some (baO (code u))) (hz : (code u).length ≤ 100000) (hok : Ok u) (hd : depth u ≤ 4) :
    WR X A ⟨fr, F, U⟩ (call (.ref 90) [.ref d, .int 0 tk]) (PayP X true u (code u).length ⟨fr, F, U⟩) := by
  refine WR_callP B ["rlp", "start"] ["rlp", "start", "p", "t", "l", "s"] [some (.ref d), some (.int 0 tk), none, none, none, none] r.d (by rfl) fun env he nm => ?_
  have hr : Room (A.deeper env) 7 := r.deeper env
  refine WR_execs_cons <| W.r <| W_Assign_Tuple <| W_Call_Name <| W_gname (gl B he "consume_length_prefix" (.ref 76)) rfl rfl <| W_callWith B (by kernel_rfl) <| W_items_cons <| W_name nm .here <| W_items_cons <| W_name nm (.there .here) <| W_items_nil ?_
  refine W.mono (c_prefix B (σ := ⟨_ :: fr, F, U⟩) (lv := true) (v := .ref d) (u := u) (start := 0) (pre := []) (post := []) (hr.le (by omega)) ⟨d, rfl, .inl ho⟩ (by omega) hok (by simp) rfl) fun w σ' ⟨a, F2, U2, p, t3, t4, ew, (L2 : Le F F2), e2, hN, hF2⟩ => ?_
  subst ew e2
  obtain ⟨pk, rfl, hpk, rfl⟩ := hN
  have hpk : U pk = none := hpk
  refine W_assign_Tuple hr.calm (.inr (.inl hF2)) rfl rfl <| W_inOrder_cons <| W_assign_Name nm (.there (.there .here)) <| W_inOrder_cons <| W_assign_Name nm (.there (.there (.there .here))) <| W_inOrder_cons <| W_assign_Name nm (.there (.there (.there (.there .here)))) <|
    W_inOrder_cons <| W_assign_Name nm (.there (.there (.there (.there (.there .here))))) <| W_inOrder_nil ?_
  refine WR_execs_cons <| WR_Return <| WR_Call_Name <| W_gname (gl B he "consume_payload" (.ref 83)) rfl rfl <| WR_callWith B (by kernel_rfl) <| W_items_cons <| W_name nm .here <| W_items_cons <| W_name nm (.there (.there .here)) <|
    W_items_cons <| W_name nm (.there (.there (.there (.there (.there .here))))) <| W_items_cons <| W_name nm (.there (.there (.there .here))) <| W_items_cons <| W_name nm (.there (.there (.there (.there .here)))) <| W_items_nil ?_
  have hcl : (code u).length = (pHdr u).length + (pBody u).length := by rw [code_eq]; simp
  refine WR.mono (c_payR B 4 u (U0 := U) (F := F2) (pa := pk) (d := d) (o := code u) (pre := pHdr u) (post := []) (start := 0 + (pHdr u).length) hd hr ho hz hpk hok (by rw [code_eq]; simp) (by simp)) fun w σ' ⟨a2, F3, item, ls, q, m3, rest, t5, ew, (L3 : Le F2 F3), e2, hF3, hI, hls, hq⟩ => ?_
  subst ew e2
  refine retM ⟨_, rfl, a2, F3, item, ls, q, m3, rest, t5, rfl, L2.trans L3, rfl, ?_, hI, hls, hq⟩
  rw [hF3, hcl]; simp

set_option maxHeartbeats 8000000 in
theorem c_raw (B : Base X (Mine.hd.heap_39 P)) {fr : List Fram} {F U : Mp} {d : Addr} {u : T} (r : Room A 9) (ho : U d = some (baO (code u))) (hz : (code u).length ≤ 100000) (hok : Ok u) (hd : depth u ≤ 4) :
    WR X A ⟨fr, F, U⟩ (call (.ref 69) [.ref d, .bool true, .bool false]) fun w σ' => ∃ a F' item ls, w = .ref a ∧ Le F F' ∧ σ' = ⟨fr, F', U⟩ ∧ F' a = some (tupO [item, .ref ls]) ∧ IsD true F' u item := by
  refine WR_callP B ["item", "strict", "_"] ["item", "strict", "_", "result", "per_item_rlp", "end", "msg"] [some (.ref d), some (.bool true), some (.bool false), none, none, none, none] r.d (by rfl) fun env he nm => ?_
  have hr : Room (A.deeper env) 8 := r.deeper env
  refine WR_execs_cons <| WR_Try <| WR_execs_cons <| WR_Assign_Tuple <| WR_Call_Name <| W_gname (gl B he "consume_item" (.ref 90)) rfl rfl <| WR_callWith B (by kernel_rfl) <| W_items_cons <| W_name nm .here <| W_items_cons <| W_int fun t0 => W_items_nil ?_
  refine WR.mono (c_item B (F := F) (U := U) hr ho hz hok hd) fun w σ' ⟨a2, F3, item, ls, q, m3, rest, t5, ew, (L3 : Le F F3), e2, hF3, hI, hls, hq⟩ => ?_
  subst ew e2
  refine W_assign_Tuple hr.calm (.inr (.inl hF3)) rfl rfl <| W_inOrder_cons <| W_assign_Name nm (.there (.there (.there .here))) <| W_inOrder_cons <| W_assign_Name nm (.there (.there (.there (.there .here)))) <|
    W_inOrder_cons <| W_assign_Name nm (.there (.there (.there (.there (.there .here))))) <| W_inOrder_nil ?_
  refine WR_execs_nil ?_
  refine WR_execs_nil ?_
  refine WR_execs_cons <| WR_If <| W_isTrue_And <| W_and_cons <| W_isTrue_Compare <| W_name nm (.there (.there (.there (.there (.there .here))))) <| W_Call_Name <| W_gname (bl B he "len" (.builtin "len")) rfl rfl <| W_callWith_b <| W_items_cons <| W_name nm .here <| W_items_nil <|
    W_len_oct (lv := true) ⟨d, rfl, .inl ho⟩ (by omega) fun t => W_ne <| W_truthy_bool ?_
  rw [if_neg (by simp)]
  rw [if_neg (by simp)]
  refine WR_execs_nil ?_
  refine W.r <| W_retR <| W_Tuple <| W_items_cons <| W_name nm (.there (.there (.there .here))) <| W_items_cons <| W_name nm (.there (.there (.there (.there .here)))) <| W_items_nil ⟨by simp [sizeLine], fun a F4 L4 ha _ => ?_⟩
  exact retM ⟨_, rfl, a, F4, item, ls, rfl, L3.trans L4, rfl, ha, hI.le L4⟩
end
end Mine
end

section
open PySem PySem.W PyProof.Rows PySem.Calls
set_option Elab.async false
set_option maxRecDepth 100000
namespace Mine

section
variable {P : Params} {X : Cx} {A : Around}
abbrev decNs : List Str := ["rlp", "sedes", "strict", "recursive_cache", "kwargs", "item", "per_item_rlp", "obj"]
set_option maxHeartbeats 8000000 in
theorem c_decode (B : Base X (Mine.hd.heap_39 P)) {fr : List Fram} {F U : Mp} {d : Addr} {u : T} (r : Room A 10) (ho : U d = some (baO (code u))) (hz : (code u).length ≤ 100000) (hok : Ok u) (hd : depth u ≤ 4) :
    WR X A ⟨fr, F, U⟩ (call (.ref 98) [.ref d]) fun w σ' => ∃ F', Le F F' ∧ σ' = ⟨fr, F', U⟩ ∧ IsD true F' u w := by
  refine WR_callB B (f := 98) (ns0 := ["rlp", "sedes", "strict", "recursive_cache", "kwargs"]) (ns := decNs) (body := _) ⟨⟨_, _, _, by rfl⟩, by rfl, by kernel_rfl, by rfl, by decide +kernel, by rfl, by rfl, by rfl, by decide +kernel⟩ r.d ⟨_, rfl⟩ ?_
  intro s E O
  have h91 := (B.inK O) 91 _ (by rfl)
  refine (show wpAny _ _ (seqItems? (.ref 91) >>= _) _ _ _ from ?_)
  refine wpAny_bind (wpAny_seqItems h91 rfl ?_)
  refine (show wpAny _ _ (alloc { cls := .type "dict", data := .dict #[] } >>= fun k => pure [(("rlp" : Str), Value.ref d), (("sedes" : Str), Value.none), (("strict" : Str), Value.bool true), (("recursive_cache" : Str), Value.bool false), (("kwargs" : Str), Value.ref k)]) _ _ _ from ?_)
  refine wpAny_bind (wpAny_alloc (wpAny_pure ?_))
  obtain ⟨f1, O1⟩ := O.pushF emptyDict rfl
  refine ⟨_, O1, _, rfl, rfl, [some (.ref d), some .none, some (.bool true), some (.bool false), some (.ref _), none, none, none], .cons (.cons (.cons (.cons (.cons (.none (.none (.none .nil))))))), fun env he nm => ?_⟩
  have hr : Room (A.deeper env) 9 := r.deeper env
  generalize s.heap.objs.size = kd at f1 ⊢
  have L0 : Le F (upd F kd emptyDict) := le_upd f1.nF
  refine (show WR X (A.deeper env) ⟨⟨env, decNs, _, true⟩ :: fr, upd F kd emptyDict, U⟩ _ (RetQ fr _) from ?_)
  generalize upd F kd emptyDict = F0 at L0
  refine WR_execs_cons <| WR_If <| W_isTrue_Not <| W_isTrue_val <| W_Call_Name <| W_gname (gl B he "is_bytes" (.ref 55)) rfl rfl <| W_callWith B (by kernel_rfl) <| W_items_cons <| W_name nm .here <| W_items_nil ?_
  refine W.mono (c_isbytes B (σ := ⟨_ :: fr, F0, U⟩) (v := .ref d) (o := code u) (hr.le (by omega)) ⟨d, rfl, .inl ho⟩) fun w σ' ⟨hg, ew⟩ => ?_
  obtain ⟨F1, g2, e1⟩ := hg
  subst ew e1
  refine W_truthy_bool ?_
  rw [if_neg (by simp)]
  refine WR_execs_nil ?_
  refine WR_execs_cons <| WR_Assign_Tuple <| WR_Call_Name <| W_gname (gl B he "decode_raw" (.ref 69)) rfl rfl <| WR_callWith B (by kernel_rfl) <| W_items_cons <| W_name nm .here <| W_items_cons <| W_name nm (.there (.there .here)) <| W_items_cons <| W_name nm (.there (.there (.there .here))) <| W_items_nil ?_
  refine WR.mono (c_raw B (F := F1) hr ho hz hok hd) fun w σ' ⟨a, F3, item, ls, ew, L3, e2, hF3, hI⟩ => ?_
  subst ew e2
  refine W_assign_Tuple hr.calm (.inr (.inl hF3)) rfl rfl <| W_inOrder_cons <| W_assign_Name nm (.there (.there (.there (.there (.there .here))))) <| W_inOrder_cons <| W_assign_Name nm (.there (.there (.there (.there (.there (.there .here)))))) <| W_inOrder_nil ?_
  refine WR_execs_cons <| WR_If <| W_isTrue_val <| W_name nm (.there .here) <| W_truthy_none ?_
  rw [if_neg (by simp)]
  refine W.r <| W_retR <| W_name nm (.there (.there (.there (.there (.there .here))))) ?_
  exact (show RetQ fr (fun w σ' => ∃ F', Le F F' ∧ σ' = ⟨fr, F', U⟩ ∧ IsD true F' u w) (.ret item) _ from retM ⟨_, rfl, F3, L0.trans (g2.trans L3), rfl, hI⟩)
end
end Mine
end

section
open PySem PySem.W PyProof.Rows PySem.Calls
set_option Elab.async false
set_option maxRecDepth 100000
namespace Mine

section
variable {P : Params} {X : Cx}
theorem c_map (B : Base X (Mine.hd.heap_39 P)) : ∀ (d : Nat) {t : T}, depth t ≤ d → Ok t → MapC X t (3 * d + 5)
  | 0, t, h, hok => map_of (d := 0) (n := 4) B hok h (by omega) fun l e => by subst e; simp [depth] at h
  | d + 1, t, h, hok => by
    have kids : ∀ l, t = .node l → ∀ t' ∈ l, MapC X t' (3 * d + 7) := fun l e t' ht => by
      subst e
      have hok' : Oks l := by unfold Ok at hok; exact hok.2
      have hd : depth t' ≤ d := by
        have := depths_mem ht
        simp only [depth] at h; omega
      intro A σ v p tk sp ss m S r
      exact c_map B d hd (hok'.mem _ ht) (r.le (by omega))
    have h1 : MapC X t (3 * d + 7 + 1) := map_of (d := d + 1) (n := 3 * d + 7) B hok h (by omega) kids
    exact fun r => h1 (r.le (by omega))
end
end Mine
end

section
open PySem PySem.W PyProof.Rows PySem.Calls
set_option Elab.async false
set_option maxRecDepth 100000
namespace Mine

/-! the law's ghost: who owns each mutable object -/
inductive Role
  | oc | nw | hd | kp
  | en (h : Nat) | sv (h : Nat) | dx (h : Nat) | el (h : Nat) | ud (h j : Nat) | ue (h j : Nat)

abbrev Tag := Addr → Option Role
def put (g : Tag) (a : Addr) (r : Role) : Tag := fun b => if b = a then some r else g b
theorem put_same (g : Tag) (a : Addr) (r : Role) : put g a r a = some r := by simp [put]
theorem put_ne {g : Tag} {a b : Addr} {r : Role} (h : b ≠ a) : put g a r b = g b := by simp [put, h]
/-- the roles of one entry -/
def Role.of (h : Nat) : Role → Prop
  | .en k => k = h | .sv k => k = h | .dx k => k = h | .el k => k = h | .ud k _ => k = h | .ue k _ => k = h
  | _ => False

inductive Src
  | live
  | copy (tc : T) (tk : Tok) (sa : Addr)
/-- a held entry -/
structure En where
  e : Addr
  s : Addr
  ia : Addr
  dx : Addr
  el : Addr
  nd : Value
  l : List T
  q : Nat
  els : List Value
  lv : Value
  sv : List Value
  cnt : Nat
  src : Src
/-- what stays: the octets, their ints -/
structure Co where
  oa : Addr
  na : Addr
  t0 : T
def rvOf (C : Co) : Src → Value
  | .live => .ref C.oa
  | .copy tc tk _ => .bytes (code tc).toArray tk
def scOf (C : Co) : Src → Value
  | .live => .ref C.na
  | .copy _ _ sa => .ref sa
def lbOf : Src → Bool
  | .live => true
  | .copy .. => false
/-- the tree that a source shows now -/
def trOf (t : T) : Src → T
  | .live => t
  | .copy tc _ _ => tc
def SrcOk (C : Co) (F : Mp) : Src → Prop
  | .live => True
  | .copy tc _ sa => skel tc = skel C.t0 ∧ ∃ vs m, F sa = some (lstO vs m) ∧ IntsAre vs (octs (code tc))

def posK (q : Nat) (l : List T) (j : Nat) : Nat := q + (hdr 192 (codes l).length).length + (codes (l.take j)).length
/-- a row that nobody has told yet -/
def Untold (C : Co) (F U : Mp) (g : Tag) (h j : Nat) (E : En) (ia : Addr) (l : List T) : Prop :=
  ∃ dx el, g dx = some (.ud h j) ∧ g el = some (.ue h j) ∧ RowAt F U ia dx el (rvOf C E.src) (posK E.q E.l j + (code (.node l)).length) (posK E.q E.l j + (hdr 192 (codes l).length).length) [] .none
def Settled (C : Co) (F U : Mp) (g : Tag) (H : List En) (h : Nat) (E : En) (j : Nat) : Prop := match E.l[j]? with
  | none => True
  | some (.leaf _) => ∃ w c tk, E.els[j]? = some w ∧ OctF F (lbOf E.src) w c ∧ c.length ≤ 100000 ∧ E.sv[j]? = some (.bytes c.toArray tk)
  | some (.node l) => ∃ ia, E.els[j]? = some (.ref ia) ∧ ((E.sv[j]? = some .none ∧ Untold C F U g h j E ia l) ∨ ∃ (h' : Nat) (E' : En) (tk : Tok), E.sv[j]? = some (.int (h' : Nat) tk) ∧ H[h']? = some E' ∧ E'.ia = ia)
def Pending (C : Co) (F U : Mp) (g : Tag) (lc : List T) (h : Nat) (E : En) (j : Nat) : Prop := match E.l[j]? with
  | none => True
  | some (.leaf _) => ∃ w c, E.els[j]? = some w ∧ lc[j]? = some (.leaf c) ∧ OctF F (lbOf E.src) w c ∧ E.sv[j]? = some .none
  | some (.node l) => ∃ ia, E.els[j]? = some (.ref ia) ∧ E.sv[j]? = some .none ∧ Untold C F U g h j E ia l
structure EnOk (C : Co) (F U : Mp) (g : Tag) (lc : List T) (H : List En) (h : Nat) (E : En) : Prop where
  te : g E.e = some (.en h)
  ts : g E.s = some (.sv h)
  td : g E.dx = some (.dx h)
  tl : g E.el = some (.el h)
  ent : ∃ tk m, U E.e = some (lstO [.ref E.ia, E.nd, .int (E.cnt : Nat) tk, .ref E.s, scOf C E.src] m)
  sav : ∃ m, U E.s = some (lstO E.sv m)
  svl : E.sv.length = E.l.length
  row : RowAt F U E.ia E.dx E.el (rvOf C E.src) (E.q + (code (.node E.l)).length) (posK E.q E.l E.els.length) E.els E.lv
  ell : E.els.length ≤ E.l.length
  lvk : E.lv = .none ∨ ∃ t, E.lv = .int (E.l.length : Nat) t ∧ E.els.length = E.l.length
  nod : IsN F (.node E.l) E.q E.nd
  loc : At C.t0 0 (.node E.l) E.q
  src : SrcOk C F E.src
  cle : E.cnt ≤ E.els.length
  old : ∀ j, j < E.cnt → Settled C F U g H h E j
  mid : ∀ j, E.cnt ≤ j → j < E.els.length → Pending C F U g lc h E j
  new : ∀ j, E.els.length ≤ j → j < E.l.length → E.sv[j]? = some .none

section
variable {C : Co} {F F' U U' : Mp} {g g' : Tag} {lc : List T} {H H' : List En} {h j : Nat} {E : En}
theorem SrcOk.le {s : Src} (k : Le F F') (x : SrcOk C F s) : SrcOk C F' s := by
  cases s with
  | live => exact x
  | copy tc tk sa => obtain ⟨a, vs, m, b, c⟩ := x; exact ⟨a, vs, m, k _ _ b, c⟩
/-- one entry's own objects stay -/
structure Stay (h : Nat) (F U F' U' : Mp) (g g' : Tag) : Prop where
  le : Le F F'
  tag : ∀ a r, r.of h → g a = some r → g' a = some r
  obj : ∀ a r o, r.of h → g a = some r → U a = some o → U' a = some o
structure StayU (h : Nat) (F U F' U' : Mp) (g g' : Tag) : Prop where
  le : Le F F'
  ud : ∀ a j, g a = some (.ud h j) → g' a = some (.ud h j) ∧ ∀ o, U a = some o → U' a = some o
  ue : ∀ a j, g a = some (.ue h j) → g' a = some (.ue h j) ∧ ∀ o, U a = some o → U' a = some o
theorem Stay.u (S : Stay h F U F' U' g g') : StayU h F U F' U' g g' :=
  ⟨S.le, fun a j ha => ⟨S.tag a (.ud h j) rfl ha, fun o => S.obj a (.ud h j) o rfl ha⟩, fun a j ha => ⟨S.tag a (.ue h j) rfl ha, fun o => S.obj a (.ue h j) o rfl ha⟩⟩
theorem RowAt.stay {ia dx el : Addr} {rv lv : Value} {e idx : Nat} {els : List Value} (x : RowAt F U ia dx el rv e idx els lv) (k : Le F F') (h1 : ∀ o, U dx = some o → U' dx = some o) (h2 : ∀ o, U el = some o → U' el = some o) : RowAt F' U' ia dx el rv e idx els lv := by
  obtain ⟨a, b, ⟨od, s, t1, t2, t3, kd, c, d⟩, m, e⟩ := x
  exact ⟨k _ _ a, b, ⟨od, s, t1, t2, t3, kd, h1 _ c, d⟩, m, h2 _ e⟩
theorem Untold.stay {ia : Addr} {l : List T} (S : StayU h F U F' U' g g') (x : Untold C F U g h j E ia l) : Untold C F' U' g' h j E ia l := by
  obtain ⟨dx, el, a, b, c⟩ := x
  exact ⟨dx, el, (S.ud _ _ a).1, (S.ue _ _ b).1, c.stay S.le (S.ud _ _ a).2 (S.ue _ _ b).2⟩
theorem Settled.stay (S : StayU h F U F' U' g g') (hH : ∀ (h' : Nat) (E' : En), H[h']? = some E' → ∃ E'' : En, H'[h']? = some E'' ∧ E''.ia = E'.ia) (x : Settled C F U g H h E j) : Settled C F' U' g' H' h E j := by
  unfold Settled at x ⊢
  split at x
  · trivial
  · obtain ⟨w, c, tk, a, b, z, d⟩ := x; exact ⟨w, c, tk, a, b.le S.le, z, d⟩
  · obtain ⟨ia, a, b⟩ := x
    refine ⟨ia, a, ?_⟩
    rcases b with ⟨b, c⟩ | ⟨h', E', tk, b, c, d⟩
    · exact .inl ⟨b, c.stay S⟩
    · obtain ⟨E'', e1, e2⟩ := hH _ _ c
      exact .inr ⟨h', E'', tk, b, e1, e2.trans d⟩
theorem Pending.stay (S : StayU h F U F' U' g g') (x : Pending C F U g lc h E j) : Pending C F' U' g' lc h E j := by
  unfold Pending at x ⊢
  split at x
  · trivial
  · obtain ⟨w, c, a, b, z, d⟩ := x; exact ⟨w, c, a, b, z.le S.le, d⟩
  · obtain ⟨ia, a, b, c⟩ := x
    exact ⟨ia, a, b, c.stay S⟩
theorem EnOk.stay (S : Stay h F U F' U' g g') (hH : ∀ (h' : Nat) (E' : En), H[h']? = some E' → ∃ E'' : En, H'[h']? = some E'' ∧ E''.ia = E'.ia) (x : EnOk C F U g lc H h E) : EnOk C F' U' g' lc H' h E := by
  obtain ⟨te, ts, td, tl, ⟨tk, m, ent⟩, ⟨m2, sav⟩, svl, row, ell, lvk, nod, loc, src, cle, old, mid, new⟩ := x
  exact ⟨S.tag _ (.en h) rfl te, S.tag _ (.sv h) rfl ts, S.tag _ (.dx h) rfl td, S.tag _ (.el h) rfl tl, ⟨tk, m, S.obj _ (.en h) _ rfl te ent⟩, ⟨m2, S.obj _ (.sv h) _ rfl ts sav⟩, svl,
    row.stay S.le (fun o => S.obj _ (.dx h) o rfl td) (fun o => S.obj _ (.el h) o rfl tl), ell, lvk, nod.le S.le, loc, src.le S.le, cle, fun j a => Settled.stay S.u hH (old j a), fun j a b => Pending.stay S.u (mid j a b), new⟩
end
end Mine
end

section
open PySem PySem.W PyProof.Rows PySem.Calls
set_option Elab.async false
set_option maxRecDepth 100000
namespace Mine

def TagU (g : Tag) (U : Mp) : Prop := ∀ a r, g a = some r → ∃ o, U a = some o
theorem Role.of_ne {h h' : Nat} {r : Role} (a : r.of h) (b : r.of h') : h = h' := by
  cases r <;> simp_all [Role.of]
theorem skels_get {l m : List T} (h : skels l = skels m) {j : Nat} {u : T} (hu : l[j]? = some u) : ∃ v, m[j]? = some v ∧ skel u = skel v := by
  have e : (skels l)[j]? = (skels m)[j]? := by rw [h]
  rw [skels_eq, skels_eq, List.getElem?_map, List.getElem?_map, hu] at e
  cases q : m[j]? with
  | none => rw [q] at e; cases e
  | some v => rw [q] at e; exact ⟨v, rfl, by simpa using e⟩
theorem skels_take {l m : List T} (h : skels l = skels m) (j : Nat) : skels (l.take j) = skels (m.take j) := by
  rw [skels_eq, skels_eq, List.map_take, List.map_take, ← skels_eq, ← skels_eq, h]
theorem posK_succ {q : Nat} {l : List T} {j : Nat} {u : T} (h : l[j]? = some u) : posK q l (j + 1) = posK q l j + (code u).length := by
  unfold posK; rw [codes_take_succ h, List.length_append]; omega

section
variable {C : Co} {F F' U U' : Mp} {g g' : Tag} {lc : List T} {H H' : List En} {h j : Nat} {E : En} {u : T} {w : Value}
theorem EnOk.ne {h' : Nat} (x : EnOk C F U g lc H h E) (hn : h' ≠ h) : ∀ a r, r.of h' → g a = some r → a ≠ E.e ∧ a ≠ E.s ∧ a ≠ E.dx ∧ a ≠ E.el := by
  intro a r hr ha
  refine ⟨fun q => ?_, fun q => ?_, fun q => ?_, fun q => ?_⟩
  · rw [q, x.te] at ha; cases ha; exact hn hr.symm
  · rw [q, x.ts] at ha; cases ha; exact hn hr.symm
  · rw [q, x.td] at ha; cases ha; exact hn hr.symm
  · rw [q, x.tl] at ha; cases ha; exact hn hr.symm

/-- the other entries do not see a pull -/
theorem EnOk.others {h' : Nat} (x : EnOk C F U g lc H h E) (hn : h' ≠ h) (le : Le F F') (fr : Fre E.dx E.el U U') (tg : ∀ a r, g a = some r → g' a = some r) : Stay h' F U F' U' g g' :=
  ⟨le, fun a r _ h => tg a r h, fun a r o hr ha ho => fr a o (x.ne hn a r hr ha).2.2.1 (x.ne hn a r hr ha).2.2.2 ho⟩
theorem tag_ne {a b : Addr} {r s : Role} (h1 : g a = some r) (h2 : g b = some s) (hn : r ≠ s) : a ≠ b := fun q => by rw [q, h2] at h1; cases h1; exact hn rfl
theorem RowAt.grow {ia dx el a b : Addr} {rv lv : Value} {e idx : Nat} {els : List Value} (x : RowAt F U ia dx el rv e idx els lv) (le : Le F F') (fr : Fre a b U U') (h1 : dx ≠ a) (h2 : dx ≠ b) (h3 : el ≠ a) (h4 : el ≠ b) : RowAt F' U' ia dx el rv e idx els lv :=
  x.stay le (fun o => fr _ o h1 h2) (fun o => fr _ o h3 h4)

/-- the own untold rows do not see a pull -/
theorem EnOk.own (x : EnOk C F U g lc H h E) (le : Le F F') (fr : Fre E.dx E.el U U') (tg : ∀ a r, g a = some r → g' a = some r) : StayU h F U F' U' g g' :=
  ⟨le, fun a j ha => ⟨tg _ _ ha, fun o ho => fr a o (tag_ne ha x.td (by simp)) (tag_ne ha x.tl (by simp)) ho⟩, fun a j ha => ⟨tg _ _ ha, fun o ho => fr a o (tag_ne ha x.td (by simp)) (tag_ne ha x.tl (by simp)) ho⟩⟩
theorem getElem?_snoc {α : Type} {l : List α} {w x : α} {j : Nat} (h : l[j]? = some x) : (l ++ [w])[j]? = some x := by
  have hj := (List.getElem?_eq_some_iff.mp h).1
  rw [List.getElem?_append_left hj]; exact h
theorem Settled.more {ws : Value} (x : Settled C F U g H h E j) : Settled C F U g H h { E with els := E.els ++ [ws] } j := by
  unfold Settled at x ⊢
  dsimp only at x ⊢
  split at x
  · trivial
  · obtain ⟨w, c, tk, a, b⟩ := x; exact ⟨w, c, tk, getElem?_snoc a, b⟩
  · obtain ⟨ia, a, b⟩ := x; exact ⟨ia, getElem?_snoc a, b⟩
theorem Pending.more {ws : Value} (x : Pending C F U g lc h E j) : Pending C F U g lc h { E with els := E.els ++ [ws] } j := by
  unfold Pending at x ⊢
  dsimp only at x ⊢
  split at x
  · trivial
  · obtain ⟨w, c, a, b⟩ := x; exact ⟨w, c, getElem?_snoc a, b⟩
  · obtain ⟨ia, a, b⟩ := x; exact ⟨ia, getElem?_snoc a, b⟩

/-- a row reads its next part -/
theorem EnOk.pull (tu : TagU g U) (x : EnOk C F U g lc H h E) (hs : skels lc = skels E.l) (hu : lc[E.els.length]? = some u)
    (p : Pull1 (lbOf E.src) (rvOf C E.src) u E.ia E.dx E.el (E.q + (code (.node E.l)).length) (posK E.q E.l E.els.length) E.els E.lv F U F' U' w) :
    ∃ g', TagU g' U' ∧ (∀ a r, g a = some r → g' a = some r) ∧ (∀ a r, g' a = some r → g a = some r ∨ r.of h) ∧ EnOk C F' U' g' lc H h { E with els := E.els ++ [w] } := by
  obtain ⟨v, hv, hsk⟩ := skels_get hs hu
  have hk : E.els.length < E.l.length := (List.getElem?_eq_some_iff.mp hv).1
  have hlv : E.lv = .none := by
    rcases x.lvk with e | ⟨t, _, e⟩
    · exact e
    · omega
  have keepU : ∀ a o, U a = some o → ∃ o', U' a = some o' := fun a o ha => by
    by_cases h1 : a = E.dx
    · subst h1; obtain ⟨od, _, _, _, _, _, hd, _⟩ := p.row.dict; exact ⟨od, hd⟩
    · by_cases h2 : a = E.el
      · subst h2; obtain ⟨m, hd⟩ := p.row.list; exact ⟨_, hd⟩
      · exact ⟨o, p.fre a o h1 h2 ha⟩
  have hpos : posK E.q E.l (E.els.length + 1) = posK E.q E.l E.els.length + (code u).length := by rw [posK_succ hv, code_len hsk]
  have main : ∀ g', (∀ a r, g a = some r → g' a = some r) → Pending C F' U' g' lc h { E with els := E.els ++ [w] } E.els.length → EnOk C F' U' g' lc H h { E with els := E.els ++ [w] } := by
    intro g' tg hlast
    have S := x.own p.le p.fre tg
    obtain ⟨te, ts, td, tl, ⟨tk, m, ent⟩, ⟨m2, sav⟩, svl, row, ell, lvk, nod, loc, src, cle, old, mid, new⟩ := x
    refine ⟨tg _ _ te, tg _ _ ts, tg _ _ td, tg _ _ tl, ⟨tk, m, p.fre _ _ (tag_ne te td (by simp)) (tag_ne te tl (by simp)) ent⟩, ⟨m2, p.fre _ _ (tag_ne ts td (by simp)) (tag_ne ts tl (by simp)) sav⟩, svl, ?_, ?_, ?_, nod.le p.le, loc, src.le p.le, ?_, ?_, ?_, ?_⟩
    · have := p.row
      show RowAt F' U' E.ia E.dx E.el _ _ (posK E.q E.l (E.els ++ [w]).length) (E.els ++ [w]) E.lv
      rw [List.length_append, List.length_singleton, hpos]; exact this
    · show (E.els ++ [w]).length ≤ _; simp; omega
    · exact .inl hlv
    · show E.cnt ≤ (E.els ++ [w]).length; simp; omega
    · exact fun j hj => Settled.more (Settled.stay S (fun h' E' e => ⟨E', e, rfl⟩) (old j hj))
    · intro j h1 h2
      have h2 : j < (E.els ++ [w]).length := h2
      rw [List.length_append, List.length_singleton] at h2
      by_cases hj : j < E.els.length
      · exact Pending.more (Pending.stay S (mid j h1 hj))
      · obtain rfl : j = E.els.length := by omega
        exact hlast
    · intro j h1 h2
      have h1 : (E.els ++ [w]).length ≤ j := h1
      rw [List.length_append, List.length_singleton] at h1
      exact new j (by omega) h2
  have hnew := x.new E.els.length (Nat.le_refl _) hk
  have hw : (E.els ++ [w])[E.els.length]? = some w := by simp
  cases v with
  | leaf b =>
    obtain ⟨c, rfl, hc⟩ := skel_leaf hsk
    refine ⟨g, fun a r ha => let ⟨o, ho⟩ := tu a r ha; keepU a o ho, fun _ _ h => h, fun _ _ h => .inl h, main g (fun _ _ h => h) ?_⟩
    unfold Pending
    dsimp only
    rw [hv]
    exact ⟨w, c, hw, hu, p.item, hnew⟩
  | node l' =>
    obtain ⟨m, rfl, hm⟩ := skel_node hsk
    obtain ⟨ia, dx, el, rfl, hr, hd, he⟩ := p.item
    have gd : g dx = none := by
      cases q : g dx with
      | none => rfl
      | some r => obtain ⟨o, ho⟩ := tu _ _ q; rw [hd] at ho; cases ho
    have ge : g el = none := by
      cases q : g el with
      | none => rfl
      | some r => obtain ⟨o, ho⟩ := tu _ _ q; rw [he] at ho; cases ho
    have tg : ∀ a r, g a = some r → put (put g dx (.ud h E.els.length)) el (.ue h E.els.length) a = some r := fun a r ha => by
      have n1 : a ≠ el := fun q => by rw [q, ge] at ha; cases ha
      have n2 : a ≠ dx := fun q => by rw [q, gd] at ha; cases ha
      rw [put_ne n1, put_ne n2]; exact ha
    refine ⟨put (put g dx (.ud h E.els.length)) el (.ue h E.els.length), fun a r ha => ?_, tg, fun a r ha => ?_, main _ tg ?_⟩
    · by_cases q : a = el
      · subst q; obtain ⟨m, h⟩ := hr.list; exact ⟨_, h⟩
      · rw [put_ne q] at ha
        by_cases q : a = dx
        · subst q; obtain ⟨od, _, _, _, _, _, h, _⟩ := hr.dict; exact ⟨od, h⟩
        · rw [put_ne q] at ha
          obtain ⟨o, ho⟩ := tu _ _ ha; exact keepU a o ho
    · by_cases q : a = el
      · subst q; rw [put_same] at ha; cases ha; exact .inr rfl
      · rw [put_ne q] at ha
        by_cases q : a = dx
        · subst q; rw [put_same] at ha; cases ha; exact .inr rfl
        · rw [put_ne q] at ha; exact .inl ha
    · unfold Pending
      rw [hv]
      refine ⟨ia, hw, hnew, dx, el, by rw [put_ne hr.ne, put_same], put_same .., ?_⟩
      have e1 : (code (.node m)).length = (code (.node l')).length := code_len hsk
      have e2 : (codes m).length = (codes l').length := codes_len hm
      rw [e1, e2] at hr
      exact hr
end
end Mine
end

section
open PySem PySem.W PyProof.Rows PySem.Calls
set_option Elab.async false
set_option maxRecDepth 100000
namespace Mine

section
variable {C : Co} {F F' U U' : Mp} {g g' : Tag} {lc : List T} {H H' : List En} {h j : Nat} {E : En} {u : T} {w : Value}
theorem EnOk.pulls (tu : TagU g U) (x : EnOk C F U g lc H h E) (hs : skels lc = skels E.l) {us : List T} {idx' : Nat} {els' : List Value} (hus : ∀ i u, us[i]? = some u → lc[E.els.length + i]? = some u)
    (p : Pulls (lbOf E.src) (rvOf C E.src) E.ia E.dx E.el (E.q + (code (.node E.l)).length) E.lv F U (posK E.q E.l E.els.length) E.els us F' U' idx' els') :
    ∃ g', TagU g' U' ∧ (∀ a r, g a = some r → g' a = some r) ∧ (∀ a r, g' a = some r → g a = some r ∨ r.of h) ∧ EnOk C F' U' g' lc H h { E with els := els' } ∧ idx' = posK E.q E.l els'.length := by
  induction p with
  | nil => exact ⟨g, tu, fun _ _ h => h, fun _ _ h => .inl h, x, rfl⟩
  | @snoc us u F1 U1 F2 U2 idx1 els1 w p q ih =>
    obtain ⟨g1, tu1, k1, k2, x1, hidx⟩ := ih fun i v hv => hus i v (getElem?_snoc hv)
    have hlen : els1.length = E.els.length + us.length := p.sums.2
    have hu : lc[els1.length]? = some u := by
      rw [hlen]; exact hus us.length u (by simp)
    subst hidx
    obtain ⟨g2, tu2, m1, m2, x2⟩ := x1.pull tu1 hs hu q
    refine ⟨g2, tu2, fun a r ha => m1 a r (k1 a r ha), fun a r ha => ?_, x2, ?_⟩
    · rcases m2 a r ha with e | e
      · exact k2 a r e
      · exact .inr e
    · obtain ⟨v, hv, hsk⟩ := skels_get hs hu
      rw [List.length_append, List.length_singleton, posK_succ hv, code_len hsk]
end
end Mine
end

section
open PySem PySem.W PyProof.Rows PySem.Calls
set_option Elab.async false
set_option maxRecDepth 100000
namespace Mine

section
variable {C : Co} {F F' U U' : Mp} {g g' : Tag} {t : T} {lc : List T} {H H' : List En} {h j : Nat} {E : En} {P : Params} {X : Cx} {A : Around}
theorem Settled.sv {sv' : List Value} {k : Nat} (x : Settled C F U g H h E j) (e : sv'[j]? = E.sv[j]?) : Settled C F U g H h { E with cnt := k, sv := sv' } j := by
  unfold Settled at x ⊢
  dsimp only at x ⊢
  split at x
  · trivial
  · obtain ⟨w, c, tk, a, b, z, d⟩ := x; exact ⟨w, c, tk, a, b, z, e.trans d⟩
  · obtain ⟨ia, a, b⟩ := x
    refine ⟨ia, a, ?_⟩
    rcases b with ⟨b, c⟩ | ⟨h', E', tk, b, c⟩
    · exact .inl ⟨e.trans b, c⟩
    · exact .inr ⟨h', E', tk, e.trans b, c⟩
/-- the saved values of a pull -/
structure SvUp (lc : List T) (lo hi : Nat) (sv sv' : List Value) : Prop where
  len : sv'.length = sv.length
  leaf : ∀ j c, lo ≤ j → j < hi → lc[j]? = some (.leaf c) → ∃ tk, sv'[j]? = some (.bytes c.toArray tk)
  rest : ∀ j, (j < lo ∨ hi ≤ j ∨ ∃ l, lc[j]? = some (.node l)) → sv'[j]? = sv[j]?
theorem SvUp.refl {lo : Nat} {sv : List Value} : SvUp lc lo lo sv sv := ⟨rfl, fun j c a b => by omega, fun _ _ => rfl⟩
theorem SvUp.node {lo hi : Nat} {sv sv' : List Value} {l : List T} (x : SvUp lc lo hi sv sv') (hk : lc[hi]? = some (.node l)) : SvUp lc lo (hi + 1) sv sv' := by
  refine ⟨x.len, fun j c a b e => ?_, fun j a => x.rest j ?_⟩
  · by_cases q : j = hi
    · subst q; rw [hk] at e; cases e
    · exact x.leaf j c a (by omega) e
  · rcases a with a | a | a
    · exact .inl a
    · exact .inr (.inl (by omega))
    · exact .inr (.inr a)
theorem SvUp.put {lo hi : Nat} {sv sv' : List Value} {c : List UInt8} {tk : Tok} (x : SvUp lc lo hi sv sv') (hlo : lo ≤ hi) (hk : lc[hi]? = some (.leaf c)) (hl : hi < sv.length) : SvUp lc lo (hi + 1) sv (sv'.set hi (.bytes c.toArray tk)) := by
  refine ⟨by rw [List.length_set]; exact x.len, fun j d a b e => ?_, fun j a => ?_⟩
  · by_cases q : j = hi
    · subst q; rw [hk] at e; cases e
      exact ⟨tk, by rw [List.getElem?_set_self (by rw [x.len]; exact hl)]⟩
    · obtain ⟨t, e'⟩ := x.leaf j d a (by omega) e
      exact ⟨t, by rw [List.getElem?_set_ne (fun z => q z.symm)]; exact e'⟩
  · have q : j ≠ hi := by
      rintro rfl
      rcases a with a | a | ⟨l, a⟩
      · omega
      · omega
      · rw [hk] at a; cases a
    rw [List.getElem?_set_ne (fun z => q z.symm)]
    refine x.rest j ?_
    rcases a with a | a | a
    · exact .inl a
    · exact .inr (.inl (by omega))
    · exact .inr (.inr a)

/-- what a pull of the law's leaves -/
theorem EnOk.settle {sv' : List Value} (x : EnOk C F U g lc H h E) (hs : skels lc = skels E.l) (hz : ∀ (j : Nat) (c : List UInt8), lc[j]? = some (.leaf c) → c.length ≤ 100000) (le : Le F F') (fr : Fre E.e E.s U U') (up : SvUp lc E.cnt E.els.length E.sv sv')
    (he : ∃ tk m, U' E.e = some (lstO [.ref E.ia, E.nd, .int (E.els.length : Nat) tk, .ref E.s, scOf C E.src] m)) (hsv : ∃ m, U' E.s = some (lstO sv' m)) : EnOk C F' U' g lc H h { E with cnt := E.els.length, sv := sv' } := by
  have S : StayU h F U F' U' g g := ⟨le, fun a j ha => ⟨ha, fun o ho => fr a o (tag_ne ha x.te (by simp)) (tag_ne ha x.ts (by simp)) ho⟩, fun a j ha => ⟨ha, fun o ho => fr a o (tag_ne ha x.te (by simp)) (tag_ne ha x.ts (by simp)) ho⟩⟩
  obtain ⟨te, ts, td, tl, _, _, svl, row, ell, lvk, nod, loc, src, cle, old, mid, new⟩ := x
  refine ⟨te, ts, td, tl, he, hsv, by rw [← svl]; exact up.len, row.grow le fr (tag_ne td te (by simp)) (tag_ne td ts (by simp)) (tag_ne tl te (by simp)) (tag_ne tl ts (by simp)), ell, lvk, nod.le le, loc, src.le le, Nat.le_refl _, fun j hj => ?_, fun j h1 h2 => absurd h2 (by show ¬ j < E.els.length; have h1 : E.els.length ≤ j := h1; omega), fun j h1 h2 => ?_⟩
  · have hj : j < E.els.length := hj
    by_cases q : j < E.cnt
    · exact Settled.sv (Settled.stay S (fun h' E' e => ⟨E', e, rfl⟩) (old j q)) (up.rest j (.inl q))
    · have p := Pending.stay S (mid j (by omega) hj)
      obtain ⟨v, hv⟩ : ∃ v, E.l[j]? = some v := ⟨_, List.getElem?_eq_getElem (by omega)⟩
      unfold Pending at p
      unfold Settled
      dsimp only
      rw [hv] at p ⊢
      cases v with
      | leaf b =>
        obtain ⟨w, c, p1, p2, p3, p4⟩ := p
        obtain ⟨tk, e⟩ := up.leaf j c (by omega) hj p2
        exact ⟨w, c, tk, p1, p3, hz _ _ p2, e⟩
      | node l =>
        obtain ⟨ia, p1, p2, p3⟩ := p
        obtain ⟨l', hl', hsk⟩ := skels_get hs.symm hv
        obtain ⟨m, rfl, _⟩ := skel_node hsk.symm
        exact ⟨ia, p1, .inl ⟨(up.rest j (.inr (.inr ⟨m, hl'⟩))).trans p2, p3⟩⟩
  · exact (up.rest j (.inr (.inl h1))).trans (new j h1 h2)

abbrev pullNs : List Str := ["entry", "upto", "j"]
set_option maxHeartbeats 4000000 in
theorem c_pullL (B : Base X (Mine.hd.heap_39 P)) {fr : List Fram} {sl : Addr} {vs : List Value} {m : Nat} {tk : Tok} {upn : Nat} (r : Room A 4) (x : EnOk C F U g lc H h E) (hup : max E.cnt upn = E.els.length) (hs : skels lc = skels E.l) (hat : At (trOf t E.src) 0 (.node lc) E.q) (hok : Ok (.node lc))
    (hz : (code (trOf t E.src)).length ≤ 100000) (hn : E.l.length ≤ 100000) (hsl : scOf C E.src = .ref sl) (hI : IntsAre vs (octs (code (trOf t E.src))))
    (hlv : ∀ fr' F' U', Le F F' → (∀ a o, a ≠ E.e → a ≠ E.s → U a = some o → U' a = some o) → Live X ⟨fr', F', U'⟩ sl (lstO vs m)) :
    W X A ⟨fr, F, U⟩ (call (.ref 215) [.ref E.e, .int (upn : Nat) tk]) fun w σ' => ∃ F' U' sv', w = .none ∧ σ' = ⟨fr, F', U'⟩ ∧ Le F F' ∧ Fre E.e E.s U U' ∧ EnOk C F' U' g lc H h { E with cnt := E.els.length, sv := sv' } := by
  refine W_callP B ["entry", "upto"] pullNs [some (.ref E.e), some (.int (upn : Nat) tk), none] r.d (by rfl) fun env he nm => ?_
  have hr : Room (A.deeper env) 3 := r.deeper env
  obtain ⟨te, me, hE⟩ := x.ent
  obtain ⟨ms, hS⟩ := x.sav
  have hell := x.ell
  have hcle := x.cle
  have hes : E.e ≠ E.s := tag_ne x.te x.ts (by simp)
  obtain ⟨na, ks, mk, hnd, hna, hks⟩ : ∃ a ks n, E.nd = .ref a ∧ F a = some (lstO ks n) ∧ IsNs F lc (E.q + (hdr 192 (codes lc).length).length) ks := by
    have := IsN.of_skel (t := .node lc) (by simp [skel, hs]) x.nod
    unfold IsN at this
    exact this
  have hkl := hks.length
  have hll : lc.length = E.l.length := by have := congrArg List.length hs; simpa [skels_length] using this
  have hcz : ∀ (j : Nat) (c : List UInt8), lc[j]? = some (.leaf c) → c.length ≤ 100000 := fun j c e => by
    have := (hok.2.mem _ (List.mem_of_getElem? e)).2; omega
  refine W_execs_cons <| W_For <| W_Call_Name <| W_gname (bl B he "range" (.type "range")) rfl rfl <| W_callWith_t <| W_items_cons <| W_Subscript <| W_name nm .here <| W_int fun t1 =>
    W_item_list (k := 2) (.inl hE) (by decide) (by decide) rfl <| W_items_cons <| W_name nm (.there .here) <| W_items_nil <| W_range2 fun rg ta tb tc U1 frg eU => ?_
  subst eU
  refine W_iter_range (.inl (upd_same ..)) (by omega) (by omega) (by omega) (by omega) fun it o hf ho => ?_
  have ez : ((upn : Int) - (E.cnt : Int)).toNat = E.els.length - E.cnt := by omega
  rw [ez] at ho
  have nre : E.e ≠ rg := frg.ne hE
  have nrs : E.s ≠ rg := frg.ne hS
  generalize hV : upd U rg _ = V at hf ho ⊢
  have hVe : V E.e = some (lstO [.ref E.ia, E.nd, .int (E.cnt : Nat) te, .ref E.s, scOf C E.src] me) := by rw [← hV, upd_ne nre]; exact hE
  have hVs : V E.s = some (lstO E.sv ms) := by rw [← hV, upd_ne nrs]; exact hS
  have hVU : ∀ a o, U a = some o → V a = some o := fun a o ha => by rw [← hV, upd_ne (frg.ne ha)]; exact ha
  have nie : E.e ≠ it := hf.ne hVe
  have nis : E.s ≠ it := hf.ne hVs
  refine ⟨it, rngIt (E.cnt : Int) ((E.els.length - E.cnt : Nat) : Int), E.els.length - E.cnt, fun _ => True, fun i v => ∃ t, v = .int ((E.cnt : Int) + i) t,
    fun i σ => ∃ pv o F1 sv1, rngIt (E.cnt : Int) ((E.els.length - E.cnt : Nat) : Int) i o ∧ Le F F1 ∧ SvUp lc E.cnt (E.cnt + i) E.sv sv1 ∧ σ = ⟨⟨env, pullNs, [some (.ref E.e), some (.int (upn : Nat) tk), pv], true⟩ :: fr, F1, upd (upd V E.s (lstO sv1 ms)) it o⟩,
    rfl, itOk_range hr.calm, ⟨none, o, F, E.sv, ho, .refl _, SvUp.refl, ?_⟩, ?_, ?_, ?_⟩
  · have : upd V E.s (lstO E.sv ms) = V := by funext a; by_cases q : a = E.s
                                              · subst q; rw [upd_same, hVs]
                                              · rw [upd_ne q]
    rw [this]
  · rintro i σ ⟨pv, o, F1, sv1, ho, L, up, rfl⟩
    exact ⟨⟨o, upd_same .., ho⟩, trivial⟩
  · rintro i σ o' v ⟨pv, o, F1, sv1, ho, L, up, rfl⟩ hi ⟨tv, rfl⟩ ho'
    refine W_assign_Name nm (.there (.there .here)) ?_
    rw [upd_upd]
    have ej : ((E.cnt : Int) + (i : Int)).toNat = E.cnt + i := by omega
    have hjlt : E.cnt + i < ks.length := by omega
    have hle : ∀ fr' F' sv1 o', Live X ⟨fr', F', upd (upd V E.s (lstO sv1 ms)) it o'⟩ E.e (lstO [.ref E.ia, E.nd, .int (E.cnt : Nat) te, .ref E.s, scOf C E.src] me) := fun _ _ _ _ => .inl ((upd_ne nie).trans ((upd_ne hes).trans hVe))
    obtain ⟨u, hu, hku⟩ := hks.at (List.getElem?_eq_getElem hjlt)
    refine W_execs_cons <| W_If <| W_isTrue_val <| W_Call_Name <| W_gname (bl B he "isinstance" (.builtin "isinstance")) rfl rfl <| W_callWith_b <| W_items_cons <| W_Subscript <| W_Subscript <| W_name nm .here <| W_int fun t2 =>
      W_item_list (k := 1) (hle _ _ _ _) (by decide) (by decide) rfl ?_
    rw [hnd]
    refine W_name nm (.there (.there .here)) <| W_item_list (x := ks[E.cnt + i]) (.inr (.inl (L _ _ hna))) (by omega) (by omega) (by rw [ej]; exact List.getElem?_eq_getElem hjlt) <| W_items_cons <| W_gname (bl B he "tuple" (.type "tuple")) rfl rfl <| W_items_nil ?_
    cases u with
    | node l =>
      unfold IsN at hku
      obtain ⟨a, vs', mm, e, ha, _⟩ := hku
      rw [e]
      refine W_isi_list_tuple (.inr (.inl (L _ _ ha))) <| W_truthy_bool ?_
      rw [if_neg (by simp)]
      exact W_execs_nil <| W_execs_nil ⟨_, o', F1, sv1, ho', L, up.node hu, rfl⟩
    | leaf c =>
      have hku0 := hku
      unfold IsN at hku
      obtain ⟨a, t3, t4, e, ha⟩ := hku
      rw [e] at hku0 ⊢
      refine W_isi_tuple (.inr (.inl (L _ _ ha))) <| W_truthy_bool ?_
      rw [if_pos rfl]
      refine W_execs_cons <| W_Assign_Subscript <| W_Call_Name <| W_gname (gl B he "_law_now" (.ref 201)) rfl rfl <| W_callWith B (by kernel_rfl) <| W_items_cons <| W_Subscript <| W_Subscript <| W_name nm .here <| W_int fun t5 =>
        W_item_list (k := 1) (hle _ _ _ _) (by decide) (by decide) rfl ?_
      rw [hnd]
      refine W_name nm (.there (.there .here)) <| W_item_list (x := .ref a) (.inr (.inl (L _ _ hna))) (by omega) (by omega) (by rw [ej, List.getElem?_eq_getElem hjlt, e]) <| W_items_cons <| W_Subscript <| W_name nm .here <| W_int fun t6 =>
        W_item_list (k := 4) (hle _ _ _ _) (by decide) (by decide) rfl <| W_items_nil ?_
      rw [hsl]
      obtain ⟨pre, post, hcut, hpre⟩ := (hat.trans (At.nth hu)).cut
      refine W.mono (c_now B 0 (t := .leaf c) (by simp [depth]) (A := A.deeper env) (σ := ⟨_ :: fr, F1, _⟩) (hr.le (by decide)) (hku0.le L) (hlv _ _ _ L fun b ob h1 h2 hb => ?_) hI (by omega) hcut (by omega)) fun w σ' ⟨F2, L2, e2, hw⟩ => ?_
      · rw [upd_ne (hf.ne (hVU _ _ hb)), upd_ne h2]; exact hVU _ _ hb
      · subst e2
        unfold IsD at hw
        obtain ⟨t7, rfl⟩ := hw
        refine W_Subscript <| W_name nm .here <| W_int fun t8 => W_item_list (k := 3) (hle _ _ _ _) (by decide) (by decide) rfl <| W_name nm (.there (.there .here)) <| W_setItem_list (vs := sv1) (n := ms) ((upd_ne nis).trans (upd_same ..)) (by omega) (by omega) (by rw [up.len, x.svl]; omega) ?_
        have q := up.put (tk := t7) (by omega) hu (by rw [x.svl]; omega)
        have eU : upd (upd (upd V E.s (lstO sv1 ms)) it o') E.s (lstO (sv1.set ((E.cnt : Int) + (i : Int)).toNat (.bytes c.toArray t7)) ms) = upd (upd V E.s (lstO (sv1.set (E.cnt + i) (.bytes c.toArray t7)) ms)) it o' := by
          rw [ej, upd_comm nis.symm, upd_upd]
        refine W_execs_nil <| W_execs_nil ?_
        exact ⟨some (.int ((E.cnt : Int) + (i : Int)) tv), o', F2, sv1.set (E.cnt + i) (.bytes c.toArray t7), ho', L.trans L2, q, congrArg (fun U => (⟨⟨env, pullNs, [some (.ref E.e), some (.int (upn : Nat) tk), some (.int ((E.cnt : Int) + (i : Int)) tv)], true⟩ :: fr, F2, U⟩ : St)) eU⟩
  · rintro σ ⟨pv, o, F1, sv1, ho, L, up, rfl⟩
    have e2 : era (upd (upd V E.s (lstO sv1 ms)) it o) it = upd V E.s (lstO sv1 ms) := era_upd (by rw [upd_ne nis.symm]; exact hf.nU)
    rw [e2]
    have e3 : E.cnt + (E.els.length - E.cnt) = E.els.length := by omega
    rw [e3] at up
    have hle : upd V E.s (lstO sv1 ms) E.e = some (lstO [.ref E.ia, E.nd, .int (E.cnt : Nat) te, .ref E.s, scOf C E.src] me) := by rw [upd_ne hes]; exact hVe
    refine W_execs_cons <| W_Assign_Subscript <| W_Call_Name <| W_gname (bl B he "max" (.builtin "max")) rfl rfl <| W_callWith_b <| W_items_cons <| W_Subscript <| W_name nm .here <| W_int fun t1 =>
      W_item_list (k := 2) (.inl hle) (by decide) (by decide) rfl <| W_items_cons <| W_name nm (.there .here) <| W_items_nil <| W_max hr.calm fun t2 => W_name nm .here <| W_int fun t3 => W_setItem_list hle (by decide) (by decide) (by simp) ?_
    have e4 : max (E.cnt : Int) (upn : Int) = ((E.els.length : Nat) : Int) := by omega
    rw [e4]
    refine W_execs_nil <| retQ_next ⟨F1, _, sv1, rfl, rfl, L, ?_, ?_⟩
    · intro a ob h1 h2 ha
      exact (upd_ne h1).trans ((upd_ne h2).trans (hVU _ _ ha))
    · refine x.settle hs hcz L (fun a ob h1 h2 ha => ?_) up ⟨t2, me, upd_same ..⟩ ⟨ms, (upd_ne hes.symm).trans (upd_same ..)⟩
      exact (upd_ne h1).trans ((upd_ne h2).trans (hVU _ _ ha))
end
end Mine
end

section
open PySem PySem.W PyProof.Rows PySem.Calls
set_option Elab.async false
set_option maxRecDepth 100000
namespace Mine

/-- the whole ghost of the law between two deeds -/
structure Glob (C : Co) (F U : Mp) (g : Tag) (t : T) (hda : Addr) (H : List En) : Prop where
  tu : TagU g U
  toc : g C.oa = some .oc
  tnw : g C.na = some .nw
  thd : g hda = some .hd
  oct : U C.oa = some (baO (code t))
  now : ∃ vs m, U C.na = some (lstO vs m) ∧ IntsAre vs (octs (code t))
  hld : ∃ m, U hda = some (lstO (H.map fun E => Value.ref E.e) m)
  shp : skel t = skel C.t0
  ok : Ok C.t0
  siz : (code C.t0).length ≤ 100000
  dep : depth C.t0 ≤ 4
  len : H.length ≤ 1000000
  ent : ∀ h E, H[h]? = some E → EnOk C F U g [] H h E ∧ E.cnt = E.els.length

/-- the other objects of the law stay -/
def KpStay (g g' : Tag) (U U' : Mp) : Prop := ∀ a o, g a = some .kp → U a = some o → g' a = some .kp ∧ U' a = some o
theorem KpStay.refl {g : Tag} {U : Mp} : KpStay g g U U := fun _ _ h k => ⟨h, k⟩
theorem KpStay.trans {g g1 g2 : Tag} {U U1 U2 : Mp} (h : KpStay g g1 U U1) (k : KpStay g1 g2 U1 U2) : KpStay g g2 U U2 := fun a o x y => let ⟨x1, y1⟩ := h a o x y; k a o x1 y1
/-- the held entries grow by at most one -/
def Ls (H : List En) : List (List T) := H.map (·.l)
def Grown (H H' : List En) (u : Option T) : Prop := Ls H' = Ls H ∨ ∃ l, u = some (.node l) ∧ Ls H' = Ls H ++ [l]

/-- no row reads -/
def Same (H H' : List En) : Prop := ∀ (i : Nat) (Ei : En), H[i]? = some Ei → ∃ Ej : En, H'[i]? = some Ej ∧ Ej.els = Ei.els
theorem Same.refl {H : List En} : Same H H := fun _ E h => ⟨E, h, rfl⟩

section
variable {C : Co} {F F' U U' : Mp} {g g' : Tag} {t : T} {lc : List T} {H H' : List En} {h j : Nat} {E E' : En} {hda : Addr}
theorem EnOk.relc (lc' : List T) (x : EnOk C F U g lc H h E) (hc : E.cnt = E.els.length) : EnOk C F U g lc' H h E := by
  obtain ⟨a1, a2, a3, a4, a5, a6, a7, a8, a9, a10, a11, a12, a13, a14, a15, _, a16⟩ := x
  exact ⟨a1, a2, a3, a4, a5, a6, a7, a8, a9, a10, a11, a12, a13, a14, a15, fun j p q => by omega, a16⟩

theorem Ls_set (hE : H[h]? = some E) (hl : E'.l = E.l) : Ls (H.set h E') = Ls H := by
  unfold Ls
  rw [List.map_set, hl]
  apply List.ext_getElem?
  intro i
  by_cases q : i = h
  · subst q
    have hi := (List.getElem?_eq_some_iff.mp hE).1
    rw [List.getElem?_set_self (by simpa using hi), List.getElem?_map, hE]; rfl
  · rw [List.getElem?_set_ne (fun z => q z.symm)]
theorem es_set (hE : H[h]? = some E) (hl : E'.e = E.e) : (H.set h E').map (fun E => Value.ref E.e) = H.map fun E => Value.ref E.e := by
  rw [List.map_set, hl]
  apply List.ext_getElem?
  intro i
  by_cases q : i = h
  · subst q
    have hi := (List.getElem?_eq_some_iff.mp hE).1
    rw [List.getElem?_set_self (by simpa using hi), List.getElem?_map, hE]; rfl
  · rw [List.getElem?_set_ne (fun z => q z.symm)]
theorem ia_set (hE : H[h]? = some E) (hl : E'.ia = E.ia) : ∀ (h' : Nat) (E1 : En), H[h']? = some E1 → ∃ E2 : En, (H.set h E')[h']? = some E2 ∧ E2.ia = E1.ia := by
  intro h' E1 e
  by_cases q : h' = h
  · subst q
    have hi := (List.getElem?_eq_some_iff.mp hE).1
    rw [hE] at e; cases e
    exact ⟨E', by rw [List.getElem?_set_self hi], hl⟩
  · exact ⟨E1, by rw [List.getElem?_set_ne (fun z => q z.symm)]; exact e, rfl⟩

/-- one entry's own objects change, the others stay -/
theorem Glob.upd (G : Glob C F U g t hda H) (hE : H[h]? = some E) (le : Le F F') (tu : TagU g' U') (tg : ∀ a r, g a = some r → g' a = some r) (fr : ∀ a o, a ≠ E.e → a ≠ E.s → a ≠ E.dx → a ≠ E.el → U a = some o → U' a = some o)
    (x : EnOk C F' U' g' lc H h E') (hc : E'.cnt = E'.els.length) (h1 : E'.e = E.e) (h2 : E'.ia = E.ia) : Glob C F' U' g' t hda (H.set h E') ∧ KpStay g g' U U' := by
  have x0 := (G.ent _ _ hE).1
  have out : ∀ a r o, g a = some r → ¬ r.of h → U a = some o → U' a = some o := fun a r o ha hr ho =>
    fr a o (fun q => hr (by rw [q, x0.te] at ha; cases ha; rfl)) (fun q => hr (by rw [q, x0.ts] at ha; cases ha; rfl)) (fun q => hr (by rw [q, x0.td] at ha; cases ha; rfl)) (fun q => hr (by rw [q, x0.tl] at ha; cases ha; rfl)) ho
  refine ⟨⟨tu, tg _ _ G.toc, tg _ _ G.tnw, tg _ _ G.thd, out _ _ _ G.toc id G.oct, ?_, ?_, G.shp, G.ok, G.siz, G.dep, by rw [List.length_set]; exact G.len, ?_⟩, fun a o ha ho => ⟨tg _ _ ha, out _ _ _ ha id ho⟩⟩
  · obtain ⟨vs, m, a, b⟩ := G.now; exact ⟨vs, m, out _ _ _ G.tnw id a, b⟩
  · obtain ⟨m, a⟩ := G.hld; exact ⟨m, by rw [es_set hE h1]; exact out _ _ _ G.thd id a⟩
  · intro h' E1 e
    have hia := ia_set (E' := E') hE h2
    have hi := (List.getElem?_eq_some_iff.mp hE).1
    by_cases q : h' = h
    · subst q
      rw [List.getElem?_set_self hi] at e; cases e
      exact ⟨((x.stay ⟨.refl _, fun _ _ _ k => k, fun _ _ _ _ _ k => k⟩ hia).relc [] hc), hc⟩
    · rw [List.getElem?_set_ne (fun z => q z.symm)] at e
      obtain ⟨y, yc⟩ := G.ent _ _ e
      exact ⟨y.stay ⟨le, fun a r _ k => tg a r k, fun a r o hr ha ho => out a r o ha (fun z => q (Role.of_ne hr z)) ho⟩ hia, yc⟩
/-- an untold row is told: a new entry -/
theorem Glob.tell {l : List T} {ia e' s' : Addr} {kv : Value} {tk tk2 : Tok} {m1 m2 m3 m4 : Nat} (G : Glob C F U g t hda H) (hE : H[h]? = some E) (hl : E.l[j]? = some (.node l)) (hels : E.els[j]? = some (.ref ia)) (un : Untold C F U g h j E ia l) (hkv : IsN F (.node l) (posK E.q E.l j) kv)
    (hlen : H.length < 1000000) (ne' : U e' = none) (ns' : U s' = none) (nes : e' ≠ s')
    (u1 : U' E.s = some (lstO (E.sv.set j (.int (H.length : Nat) tk)) m1)) (u2 : U' e' = some (lstO [.ref ia, kv, .int (0 : Nat) tk2, .ref s', scOf C E.src] m2)) (u3 : U' s' = some (lstO (List.replicate l.length .none) m3)) (u4 : U' hda = some (lstO ((H.map fun E => Value.ref E.e) ++ [.ref e']) m4))
    (fr : ∀ a o, a ≠ E.s → a ≠ hda → U a = some o → U' a = some o) :
    ∃ g' H', Glob C F U' g' t hda H' ∧ KpStay g g' U U' ∧ Ls H' = Ls H ++ [l] ∧ Same H H' := by
  obtain ⟨x0, hc0⟩ := G.ent _ _ hE
  have hi := (List.getElem?_eq_some_iff.mp hE).1
  obtain ⟨dx, el, hdx, hel, hrow⟩ := un
  have ge' : g e' = none := by
    cases q : g e' with
    | none => rfl
    | some r => obtain ⟨o, ho⟩ := G.tu _ _ q; rw [ne'] at ho; cases ho
  have gs' : g s' = none := by
    cases q : g s' with
    | none => rfl
    | some r => obtain ⟨o, ho⟩ := G.tu _ _ q; rw [ns'] at ho; cases ho
  have nd : dx ≠ e' := fun q => by rw [q, ge'] at hdx; cases hdx
  have nd2 : dx ≠ s' := fun q => by rw [q, gs'] at hdx; cases hdx
  have nl : el ≠ e' := fun q => by rw [q, ge'] at hel; cases hel
  have nl2 : el ≠ s' := fun q => by rw [q, gs'] at hel; cases hel
  have ndl : dx ≠ el := hrow.ne
  -- the new tags
  let g' : Tag := put (put (put (put g e' (.en H.length)) s' (.sv H.length)) dx (.dx H.length)) el (.el H.length)
  have old : ∀ a r, g a = some r → a ≠ dx → a ≠ el → g' a = some r := fun a r ha h1 h2 => by
    have n1 : a ≠ e' := fun q => by rw [q, ge'] at ha; cases ha
    have n2 : a ≠ s' := fun q => by rw [q, gs'] at ha; cases ha
    show put (put (put (put g e' _) s' _) dx _) el _ a = _
    rw [put_ne h2, put_ne h1, put_ne n2, put_ne n1]; exact ha
  have oldr : ∀ a r, g a = some r → r ≠ .ud h j → r ≠ .ue h j → g' a = some r := fun a r ha h1 h2 => old a r ha (tag_ne ha hdx h1) (tag_ne ha hel h2)
  have te' : g' e' = some (.en H.length) := by
    show put (put (put (put g e' _) s' _) dx _) el _ e' = _
    rw [put_ne nl.symm, put_ne nd.symm, put_ne nes, put_same]
  have ts' : g' s' = some (.sv H.length) := by
    show put (put (put (put g e' _) s' _) dx _) el _ s' = _
    rw [put_ne nl2.symm, put_ne nd2.symm, put_same]
  have td' : g' dx = some (.dx H.length) := by
    show put (put (put (put g e' _) s' _) dx _) el _ dx = _
    rw [put_ne ndl, put_same]
  have tl' : g' el = some (.el H.length) := put_same ..
  have hne0 : ∀ a r, g a = some r → r ≠ .sv h → r ≠ .hd → ∀ o, U a = some o → U' a = some o := fun a r ha h1 h2 o ho => fr a o (tag_ne ha x0.ts h1) (tag_ne ha G.thd h2) ho
  let En' : En := { e := e', s := s', ia := ia, dx := dx, el := el, nd := kv, l := l, q := posK E.q E.l j, els := [], lv := .none, sv := List.replicate l.length .none, cnt := 0, src := E.src }
  let E1 : En := { E with sv := E.sv.set j (.int (H.length : Nat) tk) }
  have hjl : j < E.sv.length := by rw [x0.svl]; exact (List.getElem?_eq_some_iff.mp hl).1
  have hH : ∀ (h' : Nat) (Ea : En), H[h']? = some Ea → ∃ Eb : En, (H.set h E1 ++ [En'])[h']? = some Eb ∧ Eb.ia = Ea.ia := fun h' Ea e => by
    obtain ⟨Eb, b1, b2⟩ := ia_set (E' := E1) hE rfl h' Ea e
    exact ⟨Eb, getElem?_snoc b1, b2⟩
  have hlast : (H.set h E1 ++ [En'])[H.length]? = some En' := by
    rw [List.getElem?_append_right (by rw [List.length_set]; exact Nat.le_refl _)]; simp
  refine ⟨g', H.set h E1 ++ [En'], ⟨?_, oldr _ _ G.toc (by simp) (by simp), oldr _ _ G.tnw (by simp) (by simp), oldr _ _ G.thd (by simp) (by simp), hne0 _ _ G.toc (by simp) (by simp) _ G.oct, ?_, ⟨m4, ?_⟩, G.shp, G.ok, G.siz, G.dep, by simp; omega, ?_⟩, fun a o ha ho => ⟨oldr _ _ ha (by simp) (by simp), hne0 _ _ ha (by simp) (by simp) _ ho⟩, ?_⟩
  · intro a r ha
    by_cases q : a = el
    · subst q; obtain ⟨m, z⟩ := hrow.list; exact ⟨_, hne0 _ _ hel (by simp) (by simp) _ z⟩
    · have ha : put (put (put (put g e' _) s' _) dx _) el _ a = some r := ha
      rw [put_ne q] at ha
      by_cases q : a = dx
      · subst q; obtain ⟨od, _, _, _, _, _, z, _⟩ := hrow.dict; exact ⟨od, hne0 _ _ hdx (by simp) (by simp) _ z⟩
      · rw [put_ne q] at ha
        by_cases q : a = s'
        · subst q; exact ⟨_, u3⟩
        · rw [put_ne q] at ha
          by_cases q : a = e'
          · subst q; exact ⟨_, u2⟩
          · rw [put_ne q] at ha
            by_cases q : a = E.s
            · subst q; exact ⟨_, u1⟩
            · by_cases q2 : a = hda
              · subst q2; exact ⟨_, u4⟩
              · obtain ⟨o, ho⟩ := G.tu _ _ ha; exact ⟨o, fr a o q q2 ho⟩
  · obtain ⟨vs, m, a, b⟩ := G.now; exact ⟨vs, m, hne0 _ _ G.tnw (by simp) (by simp) _ a, b⟩
  · rw [List.map_append, es_set (E' := E1) hE rfl]; exact u4
  · intro h' Ea e
    by_cases q : h' = H.length
    · subst q
      rw [hlast] at e; cases e
      refine ⟨⟨te', ts', td', tl', ⟨tk2, m2, u2⟩, ⟨m3, u3⟩, List.length_replicate .., ?_, Nat.zero_le _, .inl rfl, hkv, x0.loc.trans (At.nth hl), x0.src, Nat.le_refl _, fun j hj => absurd hj (Nat.not_lt_zero _), fun j _ hj => absurd hj (Nat.not_lt_zero _), fun i _ hi => ?_⟩, rfl⟩
      · have := hrow.stay (F' := F) (U' := U') (.refl _) (fun o => hne0 _ _ hdx (by simp) (by simp) o) (fun o => hne0 _ _ hel (by simp) (by simp) o)
        have e0 : posK (posK E.q E.l j) l 0 = posK E.q E.l j + (hdr 192 (codes l).length).length := by simp [posK, codes]
        show RowAt F U' ia dx el _ _ (posK (posK E.q E.l j) l 0) [] .none
        rw [e0]; exact this
      · show (List.replicate l.length Value.none)[i]? = _
        have hi : i < l.length := hi
        rw [List.getElem?_replicate, if_pos hi]
    · have hlt : h' < H.length := by
        have := (List.getElem?_eq_some_iff.mp e).1
        rw [List.length_append, List.length_set, List.length_singleton] at this; omega
      rw [List.getElem?_append_left (by rw [List.length_set]; exact hlt)] at e
      by_cases q2 : h' = h
      · subst q2
        rw [List.getElem?_set_self hi] at e; cases e
        refine ⟨?_, hc0⟩
        have nsh : E.s ≠ hda := tag_ne x0.ts G.thd (by simp)
        obtain ⟨te, ts, td, tl, ⟨tk0, m0, ent⟩, ⟨ms, sav⟩, svl, row, ell, lvk, nod, loc, src, cle, old', mid, new⟩ := x0
        refine ⟨oldr _ _ te (by simp) (by simp), oldr _ _ ts (by simp) (by simp), oldr _ _ td (by simp) (by simp), oldr _ _ tl (by simp) (by simp), ⟨tk0, m0, hne0 _ _ te (by simp) (by simp) _ ent⟩, ⟨m1, u1⟩, by simp [E1, svl],
          row.stay (.refl _) (fun o => hne0 _ _ td (by simp) (by simp) o) (fun o => hne0 _ _ tl (by simp) (by simp) o), ell, lvk, nod, loc, src, cle, fun i hic => ?_, fun i h1 h2 => absurd h2 (by show ¬ i < E.els.length; have h1 : E.cnt ≤ i := h1; omega), fun i h1 h2 => ?_⟩
        · have hic : i < E.cnt := hic
          by_cases qi : i = j
          · subst qi
            unfold Settled
            show match E.l[i]? with | none => True | some (.leaf _) => _ | some (.node l) => _
            rw [hl]
            exact ⟨ia, hels, .inr ⟨H.length, En', tk, by show (E.sv.set i _)[i]? = _; rw [List.getElem?_set_self hjl], hlast, rfl⟩⟩
          · have p := old' i hic
            unfold Settled at p ⊢
            show match E.l[i]? with | none => True | some (.leaf _) => _ | some (.node l) => _
            have esv : (E.sv.set j (.int (H.length : Nat) tk))[i]? = E.sv[i]? := List.getElem?_set_ne (fun z => qi z.symm)
            split at p
            · rename_i e1; (try rw [e1]); trivial
            · rename_i b e1
              try rw [e1]
              obtain ⟨w, c, t1, a1, a2, a3, a4⟩ := p
              exact ⟨w, c, t1, a1, a2, a3, esv.trans a4⟩
            · rename_i l2 e1
              try rw [e1]
              obtain ⟨ia2, a1, a2⟩ := p
              refine ⟨ia2, a1, ?_⟩
              rcases a2 with ⟨a2, dx2, el2, a3, a4, a5⟩ | ⟨h3, E3, t3, a2, a3, a4⟩
              · refine .inl ⟨esv.trans a2, dx2, el2, oldr _ _ a3 (by simp [qi]) (by simp), oldr _ _ a4 (by simp) (by simp [qi]), a5.stay (.refl _) (fun o => hne0 _ _ a3 (by simp) (by simp) o) (fun o => hne0 _ _ a4 (by simp) (by simp) o)⟩
              · obtain ⟨Eb, b1, b2⟩ := hH _ _ a3
                exact .inr ⟨h3, Eb, t3, esv.trans a2, b1, b2.trans a4⟩
        · have h1 : E.els.length ≤ i := h1
          show (E.sv.set j _)[i]? = _
          have : j < E.els.length := (List.getElem?_eq_some_iff.mp hels).1
          rw [List.getElem?_set_ne (by omega)]
          exact new i h1 h2
      · rw [List.getElem?_set_ne (fun z => q2 z.symm)] at e
        obtain ⟨y, yc⟩ := G.ent _ _ e
        refine ⟨y.stay ⟨.refl _, fun a r hr ha => oldr a r ha (fun z => q2 ?_) (fun z => q2 ?_), fun a r o hr ha ho => hne0 a r ha (fun z => q2 ?_) (fun z => ?_) o ho⟩ hH, yc⟩
        · subst z; exact hr.symm
        · subst z; exact hr.symm
        · subst z; exact hr.symm
        · subst z; exact hr
  · refine ⟨by unfold Ls; rw [List.map_append, show (H.set h E1).map (·.l) = H.map (·.l) from Ls_set hE rfl]; rfl, fun i Ei e => ?_⟩
    by_cases q : i = h
    · subst q
      rw [hE] at e; cases e
      exact ⟨E1, getElem?_snoc (List.getElem?_set_self hi), rfl⟩
    · exact ⟨Ei, getElem?_snoc (by rw [List.getElem?_set_ne (fun z => q z.symm)]; exact e), rfl⟩
end
end Mine
end

section
open PySem PySem.W PyProof.Rows PySem.Calls
set_option Elab.async false
set_option maxRecDepth 100000
namespace Mine

section
variable {C : Co} {F F' U U' : Mp} {g g' : Tag} {t : T} {lc : List T} {H H' : List En} {h j : Nat} {E E' : En} {hda : Addr} {P : Params} {X : Cx} {A : Around}
theorem W_ne_bool {σ : St} {a b : Bool} {Q : Value → St → Prop} (h : Q (.bool (a != b)) σ) : W X A σ (compareOp .NotEq (.bool a) (.bool b)) Q := fun s _ O => by
  refine compareOp_gives (op := .NotEq) (T := "bool") (s := s) (a := .bool a) (b := .bool b) rfl rfl F.slot_bool_ne F.entry_int_ne (F.args_int_ne_2 _ _) (SeqAt.int___ne___bool_bool_0 a b) (fun x => nomatch x) ?_
  cases a <;> cases b <;> exact ⟨_, O, h⟩
theorem W_sep {α : Type} {σ : St} {t : Sem α} {Q : α → St → Prop} (h : (∀ b o o', σ.U b = some o → σ.F b = some o' → False) → W X A σ t Q) : W X A σ t Q :=
  fun s E O => h (fun b o o' h1 h2 => by rw [(O.sep b o h1).1] at h2; cases h2) s E O

theorem ents_get {l : List En} {i : Nat} {E : En} (hE : l[i]? = some E) : (l.map fun E => Value.ref E.e)[i]? = some (.ref E.e) := by rw [List.getElem?_map, hE]; rfl
abbrev toldNs : List Str := ["held", "h", "j", "got", "now", "entry", "node"]
set_option maxHeartbeats 4000000 in
theorem c_told (B : Base X (Mine.hd.heap_39 P)) {fr : List Fram} {w : Value} {t1 t2 : Tok} (r : Room A 3) (G : Glob C F U g t hda H) (hE : H[h]? = some E) (hw : E.els[j]? = some w) (hlen : H.length < 1000000) (hel : E.l.length ≤ 100000) :
    W X A ⟨fr, F, U⟩ (call (.ref 222) [.ref hda, .int (h : Nat) t1, .int (j : Nat) t2, w, .ref C.na]) fun v σ' => v = .bool true ∧ ∃ U' g' H', σ' = ⟨fr, F, U'⟩ ∧ Glob C F U' g' t hda H' ∧ KpStay g g' U U' ∧ Grown H H' E.l[j]? ∧ Same H H' := by
  refine W_sep fun sep => ?_
  refine W_callP B ["held", "h", "j", "got", "now"] toldNs [some (.ref hda), some (.int (h : Nat) t1), some (.int (j : Nat) t2), some w, some (.ref C.na), none, none] r.d (by rfl) fun env he nm => ?_
  have hr : Room (A.deeper env) 2 := r.deeper env
  obtain ⟨x, hcnt⟩ := G.ent _ _ hE
  obtain ⟨mh, hH⟩ := G.hld
  obtain ⟨te, me, hEn⟩ := x.ent
  obtain ⟨ms, hS⟩ := x.sav
  have hhlt := (List.getElem?_eq_some_iff.mp hE).1
  have hell := x.ell
  have hjl : j < E.els.length := (List.getElem?_eq_some_iff.mp hw).1
  have hjl2 : j < E.l.length := by omega
  obtain ⟨na, ks, mk, hnd, hna, hks⟩ : ∃ a ks n, E.nd = .ref a ∧ F a = some (lstO ks n) ∧ IsNs F E.l (E.q + (hdr 192 (codes E.l).length).length) ks := by
    have := x.nod
    unfold IsN at this
    exact this
  have hkl := hks.length
  have eh : ((h : Nat) : Int).toNat = h := by omega
  have ejn : ((j : Nat) : Int).toNat = j := by omega
  have hkj : ks[j]? = some ks[j] := List.getElem?_eq_getElem (by omega)
  obtain ⟨u, hu, hku⟩ := hks.at hkj
  have hset := x.old j (by omega)
  unfold Settled at hset
  rw [hu] at hset ⊢
  have hlv : ∀ fr, Live X ⟨fr, F, U⟩ E.e _ := fun fr => .inl hEn
  refine W_execs_cons <| W_Assign_Name <| W_Subscript <| W_name nm .here <| W_name nm (.there .here) <| W_item_list (x := .ref E.e) (.inl hH) (by omega) (by omega) (by rw [eh]; exact ents_get hE) <| W_store nm (.there (.there (.there (.there (.there .here))))) ?_
  refine W_execs_cons <| W_Assign_Name <| W_Subscript <| W_Subscript <| W_name nm (.there (.there (.there (.there (.there .here))))) <| W_int fun t3 => W_item_list (k := 1) (hlv _) (by decide) (by decide) rfl ?_
  rw [hnd]
  refine W_name nm (.there (.there .here)) <| W_item_list (x := ks[j]) (.inr (.inl hna)) (by omega) (by omega) (by rw [ejn]; exact hkj) <| W_store nm (.there (.there (.there (.there (.there (.there .here)))))) ?_
  refine W_execs_cons <| W_If <| W_isTrue_val <| W_Call_Name <| W_gname (bl B he "isinstance" (.builtin "isinstance")) rfl rfl <| W_callWith_b <| W_items_cons <| W_name nm (.there (.there (.there (.there (.there (.there .here)))))) <| W_items_cons <|
    W_gname (bl B he "tuple" (.type "tuple")) rfl rfl <| W_items_nil ?_
  cases u with
  | leaf b =>
    unfold IsN at hku
    obtain ⟨a, t3, t4, e, ha⟩ := hku
    rw [e]
    refine W_isi_tuple (.inr (.inl ha)) <| W_truthy_bool ?_
    rw [if_pos rfl]
    obtain ⟨w', c, tk, e1, hO, hcz, esv⟩ := hset
    rw [hw] at e1; cases e1
    have fin : ∀ f, (∃ gg, f = (gg : Fram) :: fr) → RetQ fr (fun v σ' => v = .bool true ∧ ∃ U' g' H', σ' = ⟨fr, F, U'⟩ ∧ Glob C F U' g' t hda H' ∧ KpStay g g' U U' ∧ Grown H H' (some (.leaf b)) ∧ Same H H') (.ret (.bool (c == c))) ⟨f, F, U⟩ := by
      rintro f ⟨gg, rfl⟩
      exact retM ⟨_, rfl, by simp, U, g, H, rfl, G, KpStay.refl, .inl rfl, Same.refl⟩
    refine W_execs_cons <| W_If <| W_isTrue_Compare <| W_Subscript <| W_name nm (.there (.there (.there (.there (.there .here))))) <| W_int fun t3 => W_item_list (k := 4) (hlv _) (by decide) (by decide) rfl <| W_name nm (.there (.there (.there (.there .here)))) ?_
    cases hsrc : E.src with
    | live =>
      rw [hsrc] at hO
      obtain ⟨d, rfl, hd⟩ := hO
      refine W_is_same <| W_truthy_bool ?_
      rw [if_pos rfl]
      refine W_retR <| W_And2 <| W_Call_Name <| W_gname (bl B he "isinstance" (.builtin "isinstance")) rfl rfl <| W_callWith_b <| W_items_cons <| W_name nm (.there (.there (.there .here))) <| W_items_cons <|
        W_gname (bl B he "bytearray" (.type "bytearray")) rfl rfl <| W_items_nil <| W_isi_bytearray (.inr (.inl hd)) <| W_truthy_bool ?_
      rw [if_pos rfl]
      refine W_Compare <| W_Call_Name <| W_gname (bl B he "bytes" (.type "bytes")) rfl rfl <| W_callWith_t <| W_items_cons <| W_name nm (.there (.there (.there .here))) <| W_items_nil <| W_bytes_oct ⟨d, rfl, .inr (.inl hd)⟩ (by unfold sizeLine; omega) fun t5 =>
        W_Subscript <| W_Subscript <| W_name nm (.there (.there (.there (.there (.there .here))))) <| W_int fun t6 => W_item_list (k := 3) (hlv _) (by decide) (by decide) rfl <| W_name nm (.there (.there .here)) <| W_item_list (x := .bytes c.toArray tk) (.inl hS) (by omega) (by omega) (by rw [ejn]; exact esv) <| W_eq_bytes ?_
      exact Then.ret <| fin _ ⟨_, rfl⟩
    | copy tc tkc sa =>
      rw [hsrc] at hO
      obtain ⟨t8, rfl⟩ := hO
      have hsx := x.src
      rw [hsrc] at hsx
      obtain ⟨_, vsc, mc, hsa, _⟩ := hsx
      obtain ⟨vn, mn, hnw, _⟩ := G.now
      refine W_is_other (fun q => sep _ _ _ hnw (by rw [← q]; exact hsa)) (.inr (.inl hsa)) (.inl hnw) <| W_truthy_bool ?_
      rw [if_neg (by simp)]
      refine W_execs_nil <| W_retR <| W_And2 <| W_Call_Name <| W_gname (bl B he "isinstance" (.builtin "isinstance")) rfl rfl <| W_callWith_b <| W_items_cons <| W_name nm (.there (.there (.there .here))) <| W_items_cons <|
        W_gname (bl B he "bytes" (.type "bytes")) rfl rfl <| W_items_nil <| W_isi_bytes <| W_truthy_bool ?_
      rw [if_pos rfl]
      refine W_Compare <| W_name nm (.there (.there (.there .here))) <| W_Subscript <| W_Subscript <| W_name nm (.there (.there (.there (.there (.there .here))))) <| W_int fun t6 => W_item_list (k := 3) (hlv _) (by decide) (by decide) rfl <| W_name nm (.there (.there .here)) <| W_item_list (x := .bytes c.toArray tk) (.inl hS) (by omega) (by omega) (by rw [ejn]; exact esv) <| W_eq_bytes ?_
      exact Then.ret <| fin _ ⟨_, rfl⟩
  | node l =>
    have hkv := hku
    unfold IsN at hku
    obtain ⟨a, ks2, mk2, e, ha, hks2⟩ := hku
    rw [e] at hkv ⊢
    have hkl2 := hks2.length
    have hokl := ((x.loc.trans (At.nth hu)).ok G.ok).1
    have hkll := kids_len l
    refine W_isi_list_tuple (.inr (.inl ha)) <| W_truthy_bool ?_
    rw [if_neg (by simp)]
    obtain ⟨ia, e1, hset⟩ := hset
    rw [hw] at e1; cases e1
    have hinst : ∃ dx od, F ia = some (instObj 152 dx) ∧ U dx = some od := by
      rcases hset with ⟨_, dx, el, _, _, hrow⟩ | ⟨h', E', tk', _, hE', rfl⟩
      · obtain ⟨od, _, _, _, _, _, hd, _⟩ := hrow.dict; exact ⟨dx, od, hrow.inst, hd⟩
      · have hrow := (G.ent _ _ hE').1.row
        obtain ⟨od, _, _, _, _, _, hd, _⟩ := hrow.dict; exact ⟨_, od, hrow.inst, hd⟩
    obtain ⟨idx, iod, hii, hid⟩ := hinst
    refine W_execs_nil <| W_execs_cons <| W_If <| W_isTrue_Not <| W_isTrue_val <| W_Call_Name <| W_gname (bl B he "isinstance" (.builtin "isinstance")) rfl rfl <| W_callWith_b <| W_items_cons <| W_name nm (.there (.there (.there .here))) <| W_items_cons <|
      W_gname (gl B he "LazyList" (.ref 152)) rfl rfl <| W_items_nil <| W_isi_inst B (.ofF hii) (.ofU hid) <| W_truthy_bool ?_
    rw [if_neg (by simp)]
    refine W_execs_nil <| W_execs_cons <| W_If <| W_isTrue_Compare <| W_Subscript <| W_Subscript <| W_name nm (.there (.there (.there (.there (.there .here))))) <| W_int fun t6 => W_item_list (k := 3) (hlv _) (by decide) (by decide) rfl <| W_name nm (.there (.there .here)) ?_
    rcases hset with ⟨esv, un⟩ | ⟨h', E', tk', esv, hE', hia⟩
    · refine W_item_list (x := .none) (.inl hS) (by omega) (by omega) (by rw [ejn]; exact esv) <| W_none <| W_is_plain rfl <| W_truthy_bool ?_
      rw [if_pos (by decide)]
      refine W_execs_cons <| W_Assign_Subscript <| W_Call_Name <| W_gname (bl B he "len" (.builtin "len")) rfl rfl <| W_callWith_b <| W_items_cons <| W_name nm .here <| W_items_nil <| W_len_list (.inl hH) (by simp; omega) fun t7 =>
        W_Subscript <| W_name nm (.there (.there (.there (.there (.there .here))))) <| W_int fun t8 => W_item_list (k := 3) (hlv _) (by decide) (by decide) rfl <| W_name nm (.there (.there .here)) <| W_setItem_list hS (by omega) (by omega) (by rw [x.svl]; omega) ?_
      rw [ejn, List.length_map]
      have nsh : hda ≠ E.s := tag_ne G.thd x.ts (by simp)
      have nes : E.e ≠ E.s := tag_ne x.te x.ts (by simp)
      have hH2 : upd U E.s (lstO (E.sv.set j (.int (H.length : Nat) t7)) ms) hda = some (lstO (H.map fun E => Value.ref E.e) mh) := by rw [upd_ne nsh]; exact hH
      have hE2 : upd U E.s (lstO (E.sv.set j (.int (H.length : Nat) t7)) ms) E.e = some (lstO [.ref E.ia, E.nd, .int (E.cnt : Nat) te, .ref E.s, scOf C E.src] me) := by rw [upd_ne nes]; exact hEn
      have hS2 : upd U E.s (lstO (E.sv.set j (.int (H.length : Nat) t7)) ms) E.s = some (lstO (E.sv.set j (.int (H.length : Nat) t7)) ms) := upd_same ..
      have hU1 : ∀ a o, a ≠ E.s → U a = some o → upd U E.s (lstO (E.sv.set j (.int (H.length : Nat) t7)) ms) a = some o := fun a o h1 h2 => by rw [upd_ne h1]; exact h2
      have hN1 : ∀ a, upd U E.s (lstO (E.sv.set j (.int (H.length : Nat) t7)) ms) a = none → U a = none := fun a h1 => by
        by_cases q : a = E.s
        · subst q; rw [upd_same] at h1; cases h1
        · rwa [upd_ne q] at h1
      generalize upd U E.s (lstO (E.sv.set j (.int (H.length : Nat) t7)) ms) = U1 at hH2 hE2 hS2 hU1 hN1 ⊢
      refine W_execs_cons <| W_Expr (hi := inter he) <| W_append <| W_name nm .here ⟨hda, rfl, ⟨_, _, hH2⟩, ?_⟩
      refine W_List <| W_items_cons <| W_name nm (.there (.there (.there .here))) <| W_items_cons <| W_name nm (.there (.there (.there (.there (.there (.there .here)))))) <| W_items_cons <| W_int fun t9 => W_items_cons <| W_BinOp <| W_List <| W_items_cons <| W_none <| W_items_nil ⟨by decide, fun a1 f1 => ?_⟩
      refine W_Call_Name <| W_gname (bl B he "len" (.builtin "len")) rfl rfl <| W_callWith_b <| W_items_cons <| W_name nm (.there (.there (.there (.there (.there (.there .here)))))) <| W_items_nil <| W_len_list (.inr (.inl ha)) (by omega) fun t10 =>
        W_mul_list1 (.inl (upd_same ..)) (by omega) (by omega) fun a2 f2 => W_items_cons <| W_Subscript <| W_name nm (.there (.there (.there (.there (.there .here))))) <| W_int fun t11 => W_item_list (k := 4) (.inl ((upd_ne (f2.ne ((upd_ne (f1.ne hE2)).trans hE2))).trans ((upd_ne (f1.ne hE2)).trans hE2))) (by decide) (by decide) rfl <| W_items_nil ⟨show (5 : Nat) ≤ sizeLine by decide, fun a3 f3 => ?_⟩
      have g1 : ∀ b o, U1 b = some o → b ≠ a1 := fun b o hb => f1.ne hb
      have g2 : ∀ b o, U1 b = some o → b ≠ a2 := fun b o hb => f2.ne ((upd_ne (g1 b o hb)).trans hb)
      have g3 : ∀ b o, U1 b = some o → b ≠ a3 := fun b o hb => f3.ne ((upd_ne (g2 b o hb)).trans ((upd_ne (g1 b o hb)).trans hb))
      have n23 : a3 ≠ a2 := (f3.ne (upd_same ..)).symm
      have gg : ∀ b o x1 x2 x3, U1 b = some o → upd (upd (upd U1 a1 x1) a2 x2) a3 x3 b = some o := fun b o x1 x2 x3 hb => by rw [upd_ne (g3 b o hb), upd_ne (g2 b o hb), upd_ne (g1 b o hb)]; exact hb
      refine ⟨_, _, gg _ _ _ _ _ hH2, by simp; unfold sizeLine; omega, fun n' => ?_⟩
      have n2 : U a2 = none := hN1 _ (by
        have := f2.nU
        by_cases q : a2 = a1
        · subst q; exact f1.nU
        · rwa [show ({ fr := _, F := F, U := upd U1 a1 _ } : St).U a2 = U1 a2 from upd_ne q] at this)
      have n3 : U a3 = none := hN1 _ (by
        have := f3.nU
        by_cases q1 : a3 = a1
        · subst q1; exact f1.nU
        · by_cases q2 : a3 = a2
          · exact absurd q2 n23
          · rwa [show ({ fr := _, F := F, U := upd (upd U1 a1 _) a2 _ } : St).U a3 = upd (upd U1 a1 _) a2 _ a3 from rfl, upd_ne q2, upd_ne q1] at this)
      obtain ⟨g', H', G', kp, hls, hsame⟩ := G.tell (U' := upd (upd (upd (upd U1 a1 (lstO [.none] 0)) a2 (lstO (List.replicate ((ks2.length : Nat) : Int).toNat .none) 0)) a3 (lstO [.ref ia, .ref a, .int 0 t9, .ref a2, scOf C E.src] 0)) hda (lstO ((H.map fun E => Value.ref E.e) ++ [.ref a3]) n')) (e' := a3) (s' := a2) (kv := .ref a) (tk := t7) (tk2 := t9) (m1 := ms) (m2 := 0) (m3 := 0) (m4 := n')
        hE hu hw un (by simpa [posK] using hkv) hlen n3 n2 n23
        ((upd_ne nsh.symm).trans (gg _ _ _ _ _ hS2)) ((upd_ne (g3 _ _ hH2).symm).trans (upd_same ..)) ((upd_ne (g2 _ _ hH2).symm).trans ((upd_ne n23.symm).trans (by rw [upd_same, hkl2]; rfl))) (upd_same ..)
        (fun b o h1 h2 hb => (upd_ne h2).trans (gg _ _ _ _ _ (hU1 _ _ h1 hb)))
      exact W_retR <| W_bool <| Then.ret <| retM ⟨_, rfl, rfl, _, g', H', rfl, G', kp, .inr ⟨l, rfl, hls⟩, hsame⟩
    · refine W_item_list (x := .int (h' : Nat) tk') (.inl hS) (by omega) (by omega) (by rw [ejn]; exact esv) <| W_none <| W_is_plain rfl <| W_truthy_bool ?_
      rw [if_neg (by simp)]
      have hlt' := (List.getElem?_eq_some_iff.mp hE').1
      obtain ⟨te', me', hEn'⟩ := (G.ent _ _ hE').1.ent
      refine W_execs_nil <| W_retR <| W_Compare <| W_Subscript <| W_Subscript <| W_name nm .here <| W_Subscript <| W_Subscript <| W_name nm (.there (.there (.there (.there (.there .here))))) <| W_int fun t6 => W_item_list (k := 3) (hlv _) (by decide) (by decide) rfl <| W_name nm (.there (.there .here)) <|
        W_item_list (x := .int (h' : Nat) tk') (.inl hS) (by omega) (by omega) (by rw [ejn]; exact esv) <| W_item_list (x := .ref E'.e) (.inl hH) (by omega) (by omega) (by rw [show ((h' : Nat) : Int).toNat = h' by omega]; exact ents_get hE') <| W_int fun t7 =>
        W_item_list (k := 0) (x := .ref ia) (.inl hEn') (by decide) (by decide) (by rw [← hia]; rfl) <| W_name nm (.there (.there (.there .here))) <| W_is_same ?_
      exact retM ⟨_, rfl, rfl, U, g, H, rfl, G, KpStay.refl, .inl rfl, Same.refl⟩
end
end Mine
end

section
open PySem PySem.W PyProof.Rows PySem.Calls
set_option Elab.async false
set_option maxRecDepth 100000
namespace Mine

theorem IE.base : isSubtype (.type "IndexError") (.type "BaseException") = pure true := by rw [isSubtype_type]; kernel_rfl
theorem IE.notTuple : isSubtype (.type ((Manifest.find? "IndexError").elim "type" fun y => y.metatype)) (.type "tuple") = pure false := by rw [isSubtype_type]; kernel_rfl
theorem IE.self : isSubtype (.type "IndexError") (.type "IndexError") = pure true := by rw [isSubtype_type]; kernel_rfl
theorem Room.in1 {A : Around} {n : Nat} (r : Room A (n + 1)) : Room A.in1 n := ⟨by show A.depth + n ≤ 900; have := r.depth; omega, by show A.units + 1 + 8 * n ≤ 9000; have := r.units; omega, r.calm⟩
theorem Lined.in1 {A : Around} {fr : List Fram} (x : Lined A fr) : Lined A.in1 fr := ⟨x.lin, x.real⟩

section
variable {C : Co} {F F' U U' : Mp} {g g' : Tag} {t : T} {lc : List T} {H H' : List En} {h j k : Nat} {E E' : En} {hda : Addr} {P : Params} {X : Cx} {A : Around}
theorem WE_Subscript {σ : St} {env : Env} {Er : Value → Shared → Prop} {value slice : Expr} {pos : Pos} {Q : Value → St → Prop}
    (h : W X A σ (eval value env) fun o σ₁ => W X A σ₁ (eval slice env) fun i σ₂ => WE X A σ₂ (subscriptTail value slice o i) Q Er) : WE X A σ (eval (.Subscript value slice pos) env) Q Er :=
  fun s O => Subscript_ (h.go O fun o s₁ σ₁ O₁ q₁ => q₁.go O₁ fun i s₂ σ₂ O₂ q₂ => q₂ s₂ O₂)

/-- a row's length is known -/
theorem EnOk.stop {tk : Tok} (x : EnOk C F U g lc H h E) (full : E.els.length = E.l.length) (le : Le F F') (fr : Fre E.dx E.el U U')
    (row : RowAt F' U' E.ia E.dx E.el (rvOf C E.src) (E.q + (code (.node E.l)).length) (posK E.q E.l E.els.length) E.els (.int (E.els.length : Nat) tk)) : EnOk C F' U' g lc H h { E with lv := .int (E.els.length : Nat) tk } := by
  have S := x.own (g' := g) le fr fun _ _ h => h
  obtain ⟨te, ts, td, tl, ⟨tk0, m, ent⟩, ⟨m2, sav⟩, svl, _, ell, _, nod, loc, src, cle, old, mid, new⟩ := x
  exact ⟨te, ts, td, tl, ⟨tk0, m, fr _ _ (tag_ne te td (by simp)) (tag_ne te tl (by simp)) ent⟩, ⟨m2, fr _ _ (tag_ne ts td (by simp)) (tag_ne ts tl (by simp)) sav⟩, svl, row, ell, .inr ⟨tk, by rw [← full], full⟩, nod.le le, loc, src.le le, cle,
    fun j hj => Settled.stay S (fun h' E' e => ⟨E', e, rfl⟩) (old j hj), fun j h1 h2 => Pending.stay S (mid j h1 h2), new⟩

/-- what an entry's source shows -/
structure View (X : Cx) (C : Co) (F U : Mp) (g : Tag) (t : T) (E : En) (lc : List T) (o pre post : List UInt8) : Prop where
  sk : skels lc = skels E.l
  at' : At (trOf t E.src) 0 (.node lc) E.q
  ok : Ok (.node lc)
  siz : o.length ≤ 100000
  eo : o = code (trOf t E.src)
  oct : ∀ fr, Oct X ⟨fr, F, U⟩ (lbOf E.src) (rvOf C E.src) o
  cut : o = pre ++ codes (lc.drop E.els.length) ++ post
  pl : pre.length = posK E.q E.l E.els.length
  en : E.q + (code (.node E.l)).length = posK E.q E.l E.els.length + (codes (lc.drop E.els.length)).length
  len : lc.length = E.l.length
  few : E.l.length ≤ 100000
  now : ∃ sl vs m, scOf C E.src = .ref sl ∧ IntsAre vs (octs o) ∧ ∀ fr' F' U', Le F F' → (∀ a o, g a = some .nw → U a = some o → U' a = some o) → Live X ⟨fr', F', U'⟩ sl (lstO vs m)
theorem Glob.view (X : Cx) (G : Glob C F U g t hda H) (hE : H[h]? = some E) : ∃ lc o pre post, View X C F U g t E lc o pre post := by
  obtain ⟨x, hc⟩ := G.ent _ _ hE
  have hsk : skel (trOf t E.src) = skel C.t0 := by
    have := x.src
    cases hs : E.src with
    | live => exact G.shp
    | copy tc tk sa => rw [hs] at this; exact this.1
  obtain ⟨u', hat, hu⟩ := x.loc.skel hsk
  obtain ⟨lc, rfl, hlc⟩ := skel_node hu
  have hll : lc.length = E.l.length := by have := congrArg List.length hlc; simpa [skels_length] using this
  have hok : Ok (.node lc) := Ok.of_skel (by simp [skel, hlc]) (x.loc.ok G.ok)
  have hkl := kids_len lc
  have hok1 := hok.1
  obtain ⟨pre, post, hcut, hpre⟩ := hat.cut
  have ecl := codes_len hlc
  have e1 : codes lc = codes (lc.take E.els.length) ++ codes (lc.drop E.els.length) := by rw [← codes_append, List.take_append_drop]
  have e2 : (codes (lc.take E.els.length)).length = (codes (E.l.take E.els.length)).length := codes_len (skels_take hlc _)
  have e3 : code (.node lc) = hdr 192 (codes lc).length ++ codes lc := by simp [code]
  refine ⟨lc, _, pre ++ hdr 192 (codes lc).length ++ codes (lc.take E.els.length), post, hlc, hat, hok, by rw [code_len hsk]; exact G.siz, rfl, ?_, ?_, ?_, ?_, hll, by omega, ?_⟩
  · intro fr
    cases hs : E.src with
    | live => exact ⟨C.oa, rfl, .inl G.oct⟩
    | copy tc tk sa => exact ⟨tk, rfl⟩
  · rw [hcut, e3]
    generalize hdr 192 (codes lc).length = Hd
    rw [e1]
    simp only [List.append_assoc]
  · unfold posK
    rw [List.length_append, List.length_append, e2, ecl]; omega
  · unfold posK
    have e4 := congrArg List.length e1
    rw [List.length_append] at e4
    have e5 : (code (.node E.l)).length = (hdr 192 (codes E.l).length).length + (codes E.l).length := by simp [code]
    rw [e5, ← ecl]; omega
  · have hsx := x.src
    cases hs : E.src with
    | live =>
      obtain ⟨vs, m, a, b⟩ := G.now
      exact ⟨C.na, vs, m, rfl, b, fun fr' F' U' _ k => .inl (k _ _ G.tnw a)⟩
    | copy tc tk sa =>
      rw [hs] at hsx
      obtain ⟨_, vs, m, a, b⟩ := hsx
      exact ⟨sa, vs, m, rfl, b, fun fr' F' U' L _ => .inr (.inl (L _ _ a))⟩
theorem TagU.grow {a b : Addr} (tu : TagU g U) (fr : Fre a b U U') (ha : ∃ o, U' a = some o) (hb : ∃ o, U' b = some o) : TagU g U' := fun c r hc => by
  by_cases q : c = a
  · subst q; exact ha
  · by_cases q2 : c = b
    · subst q2; exact hb
    · obtain ⟨o, ho⟩ := tu _ _ hc; exact ⟨o, fr _ _ q q2 ho⟩
end
end Mine
end

section
open PySem PySem.W PyProof.Rows PySem.Calls
set_option Elab.async false
set_option maxRecDepth 100000
namespace Mine

section
variable {C : Co} {F F' U U' : Mp} {g g' : Tag} {t : T} {lc : List T} {H H' : List En} {h j k : Nat} {E E' : En} {hda : Addr} {P : Params} {X : Cx} {A : Around}
theorem Grown.set {u : Option T} (x : Grown (H.set h E') H' u) (hE : H[h]? = some E) (hl : E'.l = E.l) : Grown H H' u := by
  unfold Grown at x ⊢; rwa [Ls_set hE hl] at x
theorem set_get (hE : H[h]? = some E) : (H.set h E')[h]? = some E' := List.getElem?_set_self (List.getElem?_eq_some_iff.mp hE).1

/-- entry[1] -/
theorem EnOk.kids (x : EnOk C F U g lc H h E) : ∃ a ks n, E.nd = .ref a ∧ F a = some (lstO ks n) ∧ ks.length = E.l.length := by
  have := x.nod
  unfold IsN at this
  obtain ⟨a, ks, n, e, ha, hk⟩ := this
  exact ⟨a, ks, n, e, ha, hk.length⟩

abbrev placeNs : List Str := ["held", "h", "k", "now", "entry", "got", "came"]
set_option maxHeartbeats 4000000 in
theorem c_place (B : Base X (Mine.hd.heap_39 P)) {fr : List Fram} {t1 t2 : Tok} (r : Room A 9) (hl : Lined A fr) (G : Glob C F U g t hda H) (hE : H[h]? = some E) (hlen : H.length < 1000000) (hk : k ≤ 1000000) :
    W X A ⟨fr, F, U⟩ (call (.ref 229) [.ref hda, .int (h : Nat) t1, .int (k : Nat) t2, .ref C.na]) fun v σ' => v = .bool true ∧ ∃ F' U' g' H', σ' = ⟨fr, F', U'⟩ ∧ Le F F' ∧ Glob C F' U' g' t hda H' ∧ KpStay g g' U U' ∧ Grown H H' E.l[k]? ∧ ∃ E' : En, H'[h]? = some E' ∧ (k < E'.els.length ∨ E'.els.length = E.l.length) := by
  obtain ⟨lc, o, pre, post, V⟩ := G.view X hE
  obtain ⟨x, hcnt⟩ := G.ent _ _ hE
  have xl := x.relc lc hcnt
  obtain ⟨mh, hH⟩ := G.hld
  obtain ⟨te, me, hEn⟩ := x.ent
  obtain ⟨na, ks, mk, hnd, hna, hkl⟩ := x.kids
  have hhlt := (List.getElem?_eq_some_iff.mp hE).1
  have hell := x.ell
  have hVl := V.len
  have hfew := V.few
  have hsiz := V.siz
  have hul : (lc.drop E.els.length).length = E.l.length - E.els.length := by rw [List.length_drop, hVl]
  have hsmall := G.len
  obtain ⟨od, _, _, _, _, _, hD, _⟩ := x.row.dict
  obtain ⟨sl, vs, m, esl, hI, hlv⟩ := V.now
  have eh : ((h : Nat) : Int).toNat = h := by omega
  have ned := tag_ne x.te x.td (by simp)
  have nel := tag_ne x.te x.tl (by simp)
  refine W_of_WE fun E0 => (WE_callP (T := "IndexError") (c := fun _ => True) (R := fun _ => False) B ["held", "h", "k", "now"] placeNs [some (.ref hda), some (.int (h : Nat) t1), some (.int (k : Nat) t2), some (.ref C.na), none, none, none] r.d (by rfl) hl fun env he nm hl' => ?_).monoE fun v s ⟨_, _, _, _, _, _, hf⟩ => hf.elim
  have hr : Room (A.deeper env) 8 := r.deeper env
  refine WE_execs_cons <| W.e <| W_Assign_Name <| W_Subscript <| W_name nm .here <| W_name nm (.there .here) <| W_item_list (x := .ref E.e) (.inl hH) (by omega) (by omega) (by rw [eh]; exact ents_get hE) <| W_store nm (.there (.there (.there (.there .here)))) ?_
  refine WE_execs_cons <| WE_Try (T := "IndexError") (c := fun _ => True) hl' (bl B he "IndexError" (.type "IndexError")) IE.base IE.notTuple IE.self ?_
  refine WE_execs_cons <| WE_Assign_Name <| WE_Subscript <| W_Subscript <| W_name nm (.there (.there (.there (.there .here)))) <| W_int fun t3 => W_item_list (k := 0) (x := .ref E.ia) (.inl hEn) (by decide) (by decide) rfl <| W_name nm (.there (.there .here)) <|
    WE_item B (C := 152) (f := 142) (.ofF x.row.inst) (.ofU hD) ?_
  refine (c_getitem B (σ := ⟨_ :: fr, F, U⟩) (us := lc.drop E.els.length) (hr.le (m := 7) (by decide)).in1 (hl' _).in1 x.row (V.oct _) (by omega) (fun u hu => V.ok.2.mem _ (List.mem_of_mem_drop hu)) V.cut V.pl V.en (by omega) hk).mono (fun w σ' q => ?val) (fun v s hu => hu.mono fun σ' q => ?exc)
  case val =>
    obtain ⟨F1, U1, idx', els', hi, rfl, p, hw⟩ := q
    have pl := p.sums.2
    rw [List.length_take, hul] at pl
    obtain ⟨g1, tu1, k1, k2, x1, hidx⟩ := xl.pulls G.tu V.sk (fun i u hu => by
      rw [List.getElem?_take] at hu
      split at hu
      · rw [List.getElem?_drop] at hu; exact hu
      · cases hu) p
    have Le1 := p.le
    have fr1 := p.fre
    refine W_store nm (.there (.there (.there (.there (.there .here))))) ?_
    refine WE_execs_cons <| W.e <| W_Assign_Name <| W_bool <| W_store nm (.there (.there (.there (.there (.there (.there .here)))))) ?_
    show WE _ _ _ (execs [] env) _ _
    refine WE_execs_nil ?_
    show WE _ _ _ (execs [] env) _ _
    refine WE_execs_nil ?_
    show WE _ _ _ (execs _ env) _ _
    refine W.e ?_
    have hEn1 : U1 E.e = some (lstO [.ref E.ia, E.nd, .int (E.cnt : Nat) te, .ref E.s, scOf C E.src] me) := fr1 _ _ ned nel hEn
    refine W_execs_cons <| W_If <| W_isTrue_Compare <| W_name nm (.there (.there (.there (.there (.there (.there .here)))))) <| W_Compare <| W_name nm (.there (.there .here)) <| W_Call_Name <| W_gname (bl B he "len" (.builtin "len")) rfl rfl <| W_callWith_b <| W_items_cons <|
      W_Subscript <| W_name nm (.there (.there (.there (.there .here)))) <| W_int fun t5 => W_item_list (k := 1) (.inl hEn1) (by decide) (by decide) rfl ?_
    rw [hnd]
    refine W_items_nil <| W_len_list (.inr (.inl (Le1 _ _ hna))) (by omega) fun t6 => W_lt <| W_ne_bool <| W_truthy_bool ?_
    rw [if_neg (by simp; omega)]
    refine W_execs_nil <| W_execs_cons <| W_Expr (hi := inter he) <| W_Call_Name <| W_gname (gl B he "_law_pull" (.ref 215)) rfl rfl <| W_callWith B (by kernel_rfl) <| W_items_cons <| W_name nm (.there (.there (.there (.there .here)))) <| W_items_cons <| W_IfExp <| W_isTrue_val <|
      W_name nm (.there (.there (.there (.there (.there (.there .here)))))) <| W_truthy_bool ?_
    rw [if_pos rfl]
    refine W_BinOp <| W_name nm (.there (.there .here)) <| W_int fun t7 => W_add fun t8 => W_items_nil ?_
    rw [show (k : Int) + 1 = ((k + 1 : Nat) : Int) by omega]
    refine W.mono (c_pullL B (E := { E with els := els' }) (fr := _ :: fr) (upn := k + 1) (t := t) (hr.le (by decide)) x1 (by show max E.cnt (k + 1) = els'.length; omega) V.sk V.at' V.ok (by have := V.eo; show (code (trOf t E.src)).length ≤ 100000; rw [← this]; exact hsiz) hfew esl (by have := V.eo; show IntsAre vs (octs (code (trOf t E.src))); rw [← this]; exact hI) fun fr' F' U' L f => hlv _ _ _ (Le1.trans L) fun a ob ha ho => ?_) fun w2 σ2 ⟨F2, U2, sv2, ew, e2, L2, f2, x2⟩ => ?_
    · exact f a ob (tag_ne ha x.te (by simp)) (tag_ne ha x.ts (by simp)) (fr1 a ob (tag_ne ha x.td (by simp)) (tag_ne ha x.tl (by simp)) ho)
    · subst e2
      obtain ⟨_, _, z1⟩ := x2.ent
      obtain ⟨_, z2⟩ := x2.sav
      have tu2 : TagU g1 U2 := tu1.grow f2 ⟨_, z1⟩ ⟨_, z2⟩
      obtain ⟨G2, kp2⟩ := G.upd hE (Le1.trans L2) tu2 k1 (fun a ob n1 n2 n3 n4 ho => f2 a ob n1 n2 (fr1 a ob n3 n4 ho)) x2 rfl rfl rfl
      refine W_retR <| W_Or2 <| W_Not <| W_name nm (.there (.there (.there (.there (.there (.there .here)))))) <| W_truthy_bool <| W_truthy_bool ?_
      rw [if_neg (by simp)]
      refine W_Call_Name <| W_gname (gl B he "_law_told" (.ref 222)) rfl rfl <| W_callWith B (by kernel_rfl) <| W_items_cons <| W_name nm .here <| W_items_cons <| W_name nm (.there .here) <| W_items_cons <| W_name nm (.there (.there .here)) <| W_items_cons <|
        W_name nm (.there (.there (.there (.there (.there .here))))) <| W_items_cons <| W_name nm (.there (.there (.there .here))) <| W_items_nil ?_
      refine W.mono (c_told B (fr := _ :: fr) (hr.le (by decide)) G2 (set_get hE) hw (by rw [List.length_set]; exact hlen) hfew) fun v σ3 ⟨ev, U3, g3, H3, e3, G3, kp3, gr, sm⟩ => ?_
      subst e3
      obtain ⟨Ej, s1, s2⟩ := sm h _ (set_get hE)
      exact retM ⟨_, rfl, ev, F2, U3, g3, H3, rfl, Le1.trans L2, G3, kp2.trans kp3, gr.set hE rfl, Ej, s1, .inl (by rw [s2]; show k < els'.length; omega)⟩
  case exc =>
    obtain ⟨hi, F1, U1, F2, U2, idx', els', t4, rfl, p, L1, f1, row⟩ := q
    refine ⟨_, rfl, fun e oe ws L hd hx => ?_⟩
    have pl := p.sums.2
    rw [hul] at pl
    have pi := p.sums.1
    obtain ⟨g1, tu1, k1, k2, x1, hidx⟩ := xl.pulls G.tu V.sk (fun i u hu => by rw [List.getElem?_drop] at hu; exact hu) p
    have Le1 := p.le
    have fr1 := p.fre
    have LF : Le F1 (upd F2 e oe) := L1.trans L
    have epos : posK E.q E.l els'.length = E.q + (code (.node E.l)).length := by rw [← hidx, pi, ← V.en]
    have x2 := x1.stop (tk := t4) (by show els'.length = E.l.length; omega) LF f1 (by
      show RowAt (upd F2 e oe) U2 E.ia E.dx E.el (rvOf C E.src) (E.q + (code (.node E.l)).length) (posK E.q E.l els'.length) els' _
      rw [epos]
      exact row.stay L (fun _ h => h) (fun _ h => h))
    refine WE_execs_cons <| W.e <| W_Assign_Name <| W_bool <| W_store nm (.there (.there (.there (.there (.there (.there .here)))))) ?_
    show WE _ _ _ (execs [] env) _ _
    refine WE_execs_nil ?_
    show WE _ _ _ (execs _ env) _ _
    refine W.e ?_
    have fr2 : Fre E.dx E.el U U2 := fr1.trans f1
    have hEn1 : U2 E.e = some (lstO [.ref E.ia, E.nd, .int (E.cnt : Nat) te, .ref E.s, scOf C E.src] me) := fr2 _ _ ned nel hEn
    have hna2 := LF _ _ (Le1 _ _ hna)
    refine W_execs_cons <| W_If <| W_isTrue_Compare <| W_name nm (.there (.there (.there (.there (.there (.there .here)))))) <| W_Compare <| W_name nm (.there (.there .here)) <| W_Call_Name <| W_gname (bl B he "len" (.builtin "len")) rfl rfl <| W_callWith_b <| W_items_cons <|
      W_Subscript <| W_name nm (.there (.there (.there (.there .here)))) <| W_int fun t5 => W_item_list (k := 1) (.inl hEn1) (by decide) (by decide) rfl ?_
    rw [hnd]
    refine W_items_nil <| W_len_list (.inr (.inl hna2)) (by omega) fun t6 => W_lt <| W_ne_bool <| W_truthy_bool ?_
    rw [if_neg (by simp; omega)]
    refine W_execs_nil <| W_execs_cons <| W_Expr (hi := inter he) <| W_Call_Name <| W_gname (gl B he "_law_pull" (.ref 215)) rfl rfl <| W_callWith B (by kernel_rfl) <| W_items_cons <| W_name nm (.there (.there (.there (.there .here)))) <| W_items_cons <| W_IfExp <| W_isTrue_val <|
      W_name nm (.there (.there (.there (.there (.there (.there .here)))))) <| W_truthy_bool ?_
    rw [if_neg (by simp)]
    refine W_Call_Name <| W_gname (bl B he "len" (.builtin "len")) rfl rfl <| W_callWith_b <| W_items_cons <| W_Subscript <| W_name nm (.there (.there (.there (.there .here)))) <| W_int fun t7 => W_item_list (k := 1) (.inl hEn1) (by decide) (by decide) rfl ?_
    rw [hnd]
    refine W_items_nil <| W_len_list (.inr (.inl hna2)) (by omega) fun t8 => W_items_nil ?_
    have tu1' : TagU g1 U2 := by
      obtain ⟨od2, _, _, _, _, _, z1, _⟩ := x2.row.dict
      obtain ⟨_, z2⟩ := x2.row.list
      exact tu1.grow f1 ⟨_, z1⟩ ⟨_, z2⟩
    refine W.mono (c_pullL B (E := { E with els := els', lv := .int (els'.length : Nat) t4 }) (fr := _ :: fr) (upn := ks.length) (t := t) (hr.le (by decide)) x2 (by show max E.cnt ks.length = els'.length; omega) V.sk V.at' V.ok (by have := V.eo; show (code (trOf t E.src)).length ≤ 100000; rw [← this]; exact hsiz) hfew esl (by have := V.eo; show IntsAre vs (octs (code (trOf t E.src))); rw [← this]; exact hI) fun fr' F' U' L f => hlv _ _ _ ((Le1.trans LF).trans L) fun a ob ha ho => ?_) fun w2 σ2 ⟨F3, U3, sv2, ew, e2, L3, f3, x3⟩ => ?_
    · exact f a ob (tag_ne ha x.te (by simp)) (tag_ne ha x.ts (by simp)) (fr2 a ob (tag_ne ha x.td (by simp)) (tag_ne ha x.tl (by simp)) ho)
    · subst e2
      obtain ⟨_, _, z1⟩ := x3.ent
      obtain ⟨_, z2⟩ := x3.sav
      have tu2 : TagU g1 U3 := tu1'.grow f3 ⟨_, z1⟩ ⟨_, z2⟩
      obtain ⟨G2, kp2⟩ := G.upd hE ((Le1.trans LF).trans L3) tu2 k1 (fun a ob n1 n2 n3 n4 ho => f3 a ob n1 n2 (fr2 a ob n3 n4 ho)) x3 rfl rfl rfl
      refine W_retR <| W_Or2 <| W_Not <| W_name nm (.there (.there (.there (.there (.there (.there .here)))))) <| W_truthy_bool <| W_truthy_bool ?_
      rw [if_pos (by simp)]
      exact retM ⟨_, rfl, rfl, F3, U3, g1, _, rfl, (Le1.trans LF).trans L3, G2, kp2, .inl (Ls_set hE rfl), _, set_get hE, .inr (by show els'.length = _; omega)⟩
end
end Mine
end

section
open PySem PySem.W PyProof.Rows PySem.Calls
set_option Elab.async false
set_option maxRecDepth 100000
namespace Mine

theorem intsSet {k : Int} {t : Tok} : ∀ {vs : List Value} {ns : List Int}, IntsAre vs ns → ∀ i : Nat, IntsAre (vs.set i (.int k t)) (ns.set i k)
  | _, _, .nil, i => by simp; exact .nil
  | _, _, .cons _ _ h, 0 => .cons _ _ h
  | _, _, .cons _ _ h, i + 1 => .cons _ _ (intsSet h i)
theorem intsAt : ∀ {vs : List Value} {ns : List Int}, IntsAre vs ns → ∀ {i : Nat} {k : Int}, ns[i]? = some k → ∃ t, vs[i]? = some (.int k t)
  | _, _, .nil, i, k, h => by simp at h
  | _, _, .cons _ _ h, 0, k, e => by simp only [List.getElem?_cons_zero, Option.some.injEq] at e; subst e; exact ⟨_, rfl⟩
  | _, _, .cons _ _ h, i + 1, k, e => by simp only [List.getElem?_cons_succ] at e ⊢; exact intsAt h e

def del (g : Tag) (a : Addr) : Tag := fun b => if b = a then none else g b
theorem del_ne {g : Tag} {a b : Addr} (h : b ≠ a) : del g a b = g b := by simp [del, h]
theorem del_same {g : Tag} {a : Addr} : del g a a = none := by simp [del]

section
variable {C : Co} {F F' U U' : Mp} {g g' : Tag} {t : T} {lc : List T} {H H' : List En} {h j k : Nat} {E E' : En} {hda : Addr}
/-- all tagged objects but some of the law's own stay -/
theorem Glob.keep (G : Glob C F U g t hda H) (le : Le F F') (tu : TagU g' U') (tg : ∀ a r, g a = some r → r ≠ .kp → g' a = some r) (ob : ∀ a r o, g a = some r → r ≠ .kp → U a = some o → U' a = some o) : Glob C F' U' g' t hda H := by
  refine ⟨tu, tg _ _ G.toc (by simp), tg _ _ G.tnw (by simp), tg _ _ G.thd (by simp), ob _ _ _ G.toc (by simp) G.oct, ?_, ?_, G.shp, G.ok, G.siz, G.dep, G.len, fun h E e => ⟨(G.ent h E e).1.stay ⟨le, fun a r hr ha => tg a r ha ?_, fun a r o hr ha ho => ob a r o ha ?_ ho⟩ fun h' E' e => ⟨E', e, rfl⟩, (G.ent h E e).2⟩⟩
  · obtain ⟨vs, m, a, b⟩ := G.now; exact ⟨vs, m, ob _ _ _ G.tnw (by simp) a, b⟩
  · obtain ⟨m, a⟩ := G.hld; exact ⟨m, ob _ _ _ G.thd (by simp) a⟩
  · rintro rfl; exact hr
  · rintro rfl; exact hr
/-- more objects -/
theorem Glob.grow (G : Glob C F U g t hda H) (le : Le F F') (lu : Le U U') : Glob C F' U' g t hda H :=
  G.keep le (fun a r ha => let ⟨o, ho⟩ := G.tu a r ha; ⟨o, lu _ _ ho⟩) (fun _ _ ha _ => ha) fun a _ o _ _ ho => lu a o ho
/-- an object of the law's own: written -/
theorem Glob.kp {a : Addr} (G : Glob C F U g t hda H) (ha : g a = none ∨ g a = some .kp) (o : Obj) : Glob C F (Mine.upd U a o) (put g a .kp) t hda H := by
  have ne : ∀ b r, g b = some r → r ≠ .kp → b ≠ a := fun b r hb hr q => by
    subst q; rw [hb] at ha; rcases ha with ha | ha <;> cases ha; exact hr rfl
  refine G.keep (.refl _) (fun b r hb => ?_) (fun b r hb hr => by rw [put_ne (ne b r hb hr)]; exact hb) fun b r o' hb hr ho => by rw [upd_ne (ne b r hb hr)]; exact ho
  by_cases q : b = a
  · subst q; exact ⟨o, upd_same ..⟩
  · rw [put_ne q] at hb; rw [upd_ne q]; exact G.tu b r hb
theorem put_kp {a : Addr} (ha : g a = some .kp) : put g a .kp = g := by
  funext b
  by_cases q : b = a
  · subst q; rw [put_same, ha]
  · rw [put_ne q]
theorem Glob.kp' {a : Addr} (G : Glob C F U g t hda H) (ha : g a = some .kp) (o : Obj) : Glob C F (Mine.upd U a o) g t hda H := by
  have := G.kp (.inr ha) o; rwa [put_kp ha] at this
/-- forgotten -/
theorem Glob.era {a : Addr} (G : Glob C F U g t hda H) (ha : g a = none ∨ g a = some .kp) : Glob C F (Mine.era U a) (del g a) t hda H := by
  have ne : ∀ b r, g b = some r → r ≠ .kp → b ≠ a := fun b r hb hr q => by
    subst q; rw [hb] at ha; rcases ha with ha | ha <;> cases ha; exact hr rfl
  have er : ∀ b, b ≠ a → Mine.era U a b = U b := fun b hb => by simp [Mine.era, hb]
  refine G.keep (.refl _) (fun b r hb => ?_) (fun b r hb hr => by rw [del_ne (ne b r hb hr)]; exact hb) fun b r o' hb hr ho => by rw [er _ (ne b r hb hr)]; exact ho
  by_cases q : b = a
  · subst q; rw [del_same] at hb; cases hb
  · rw [del_ne q] at hb; rw [er _ q]; exact G.tu b r hb

theorem Glob.tag_none {a : Addr} (G : Glob C F U g t hda H) (ha : U a = none) : g a = none := by
  cases q : g a with
  | none => rfl
  | some r => obtain ⟨o, ho⟩ := G.tu _ _ q; rw [ha] at ho; cases ho
/-- an octet is changed -/
theorem Glob.store {t' : T} {vs : List Value} {m : Nat} (G : Glob C F U g t hda H) (ht : skel t' = skel t) (hI : IntsAre vs (octs (code t'))) : Glob C F (Mine.upd (Mine.upd U C.oa (baO (code t'))) C.na (lstO vs m)) g t' hda H := by
  have hne : C.oa ≠ C.na := tag_ne G.toc G.tnw (by simp)
  have ob : ∀ a r o, g a = some r → r ≠ .oc → r ≠ .nw → U a = some o → Mine.upd (Mine.upd U C.oa (baO (code t'))) C.na (lstO vs m) a = some o := fun a r o ha h1 h2 ho => by
    rw [upd_ne (tag_ne ha G.tnw h2), upd_ne (tag_ne ha G.toc h1)]; exact ho
  refine ⟨fun a r ha => ?_, G.toc, G.tnw, G.thd, by rw [upd_ne hne, upd_same], ⟨vs, m, upd_same .., hI⟩, ?_, ht.trans G.shp, G.ok, G.siz, G.dep, G.len, fun h E e => ⟨(G.ent h E e).1.stay ⟨.refl _, fun a r hr ha => ha, fun a r o hr ha ho => ob a r o ha ?_ ?_ ho⟩ fun h' E' e => ⟨E', e, rfl⟩, (G.ent h E e).2⟩⟩
  · by_cases q1 : a = C.na
    · subst q1; exact ⟨_, upd_same ..⟩
    · by_cases q2 : a = C.oa
      · subst q2; exact ⟨_, by rw [upd_ne q1, upd_same]⟩
      · rw [upd_ne q1, upd_ne q2]; exact G.tu a r ha
  · obtain ⟨m, a⟩ := G.hld; exact ⟨m, ob _ _ _ G.thd (by simp) (by simp) a⟩
  · rintro rfl; exact hr
  · rintro rfl; exact hr

/-- a new held row -/
theorem Glob.born {l0 : List T} {src : Src} {ia dx el e' s' : Addr} {nd : Value} {tk2 : Tok} {m2 m3 m4 : Nat} (G : Glob C F U g t hda H) (ht0 : C.t0 = .node l0) (row : RowAt F U' ia dx el (rvOf C src) (code C.t0).length (hdr 192 (codes l0).length).length [] .none) (hsrc : SrcOk C F src) (hnd : IsN F (.node l0) 0 nd)
    (hlen : H.length < 1000000) (nd' : U dx = none) (nl' : U el = none) (ne' : U e' = none) (ns' : U s' = none) (nes : e' ≠ s') (ned : e' ≠ dx) (nel : e' ≠ el) (nsd : s' ≠ dx) (nsl : s' ≠ el)
    (u2 : U' e' = some (lstO [.ref ia, nd, .int (0 : Nat) tk2, .ref s', scOf C src] m2)) (u3 : U' s' = some (lstO (List.replicate l0.length .none) m3)) (u4 : U' hda = some (lstO ((H.map fun E => Value.ref E.e) ++ [.ref e']) m4))
    (fr : ∀ a o, a ≠ hda → U a = some o → U' a = some o) :
    ∃ g' H', Glob C F U' g' t hda H' ∧ KpStay g g' U U' ∧ Ls H' = Ls H ++ [l0] := by
  have gd := G.tag_none nd'
  have gl := G.tag_none nl'
  have ge := G.tag_none ne'
  have gs := G.tag_none ns'
  have ndl : dx ≠ el := row.ne
  let g' : Tag := put (put (put (put g e' (.en H.length)) s' (.sv H.length)) dx (.dx H.length)) el (.el H.length)
  have old : ∀ a r, g a = some r → g' a = some r := fun a r ha => by
    have n1 : a ≠ e' := fun q => by rw [q, ge] at ha; cases ha
    have n2 : a ≠ s' := fun q => by rw [q, gs] at ha; cases ha
    have n3 : a ≠ dx := fun q => by rw [q, gd] at ha; cases ha
    have n4 : a ≠ el := fun q => by rw [q, gl] at ha; cases ha
    show put (put (put (put g e' _) s' _) dx _) el _ a = _
    rw [put_ne n4, put_ne n3, put_ne n2, put_ne n1]; exact ha
  have te' : g' e' = some (.en H.length) := by
    show put (put (put (put g e' _) s' _) dx _) el _ e' = _
    rw [put_ne nel, put_ne ned, put_ne nes, put_same]
  have ts' : g' s' = some (.sv H.length) := by
    show put (put (put (put g e' _) s' _) dx _) el _ s' = _
    rw [put_ne nsl, put_ne nsd, put_same]
  have td' : g' dx = some (.dx H.length) := by
    show put (put (put (put g e' _) s' _) dx _) el _ dx = _
    rw [put_ne ndl, put_same]
  have tl' : g' el = some (.el H.length) := put_same ..
  have ob : ∀ a r, g a = some r → r ≠ .hd → ∀ o, U a = some o → U' a = some o := fun a r ha h2 o ho => fr a o (tag_ne ha G.thd h2) ho
  let En' : En := { e := e', s := s', ia := ia, dx := dx, el := el, nd := nd, l := l0, q := 0, els := [], lv := .none, sv := List.replicate l0.length .none, cnt := 0, src := src }
  have hH : ∀ (h' : Nat) (Ea : En), H[h']? = some Ea → ∃ Eb : En, (H ++ [En'])[h']? = some Eb ∧ Eb.ia = Ea.ia := fun h' Ea e => ⟨Ea, getElem?_snoc e, rfl⟩
  refine ⟨g', H ++ [En'], ⟨?_, old _ _ G.toc, old _ _ G.tnw, old _ _ G.thd, ob _ _ G.toc (by simp) _ G.oct, ?_, ⟨m4, by rw [List.map_append]; exact u4⟩, G.shp, G.ok, G.siz, G.dep, by simp; omega, ?_⟩, fun a o ha ho => ⟨old _ _ ha, ob _ _ ha (by simp) _ ho⟩, by unfold Ls; rw [List.map_append]; rfl⟩
  · intro a r ha
    by_cases q : a = el
    · subst q; obtain ⟨m, z⟩ := row.list; exact ⟨_, z⟩
    · have ha : put (put (put (put g e' _) s' _) dx _) el _ a = some r := ha
      rw [put_ne q] at ha
      by_cases q : a = dx
      · subst q; obtain ⟨od, _, _, _, _, _, z, _⟩ := row.dict; exact ⟨od, z⟩
      · rw [put_ne q] at ha
        by_cases q : a = s'
        · subst q; exact ⟨_, u3⟩
        · rw [put_ne q] at ha
          by_cases q : a = e'
          · subst q; exact ⟨_, u2⟩
          · rw [put_ne q] at ha
            by_cases q2 : a = hda
            · subst q2; exact ⟨_, u4⟩
            · obtain ⟨o, ho⟩ := G.tu _ _ ha; exact ⟨o, fr a o q2 ho⟩
  · obtain ⟨vs, m, a, b⟩ := G.now; exact ⟨vs, m, ob _ _ G.tnw (by simp) _ a, b⟩
  · intro h' Ea e
    by_cases q : h' = H.length
    · subst q
      rw [List.getElem?_append_right (Nat.le_refl _)] at e
      simp only [Nat.sub_self, List.getElem?_cons_zero, Option.some.injEq] at e
      subst e
      refine ⟨⟨te', ts', td', tl', ⟨tk2, m2, u2⟩, ⟨m3, u3⟩, List.length_replicate .., ?_, Nat.zero_le _, .inl rfl, hnd, by rw [ht0]; exact .here, hsrc, Nat.le_refl _, fun j hj => absurd hj (Nat.not_lt_zero _), fun j _ hj => absurd hj (Nat.not_lt_zero _), fun i _ hi => ?_⟩, rfl⟩
      · have e0 : posK 0 l0 0 = (hdr 192 (codes l0).length).length := by simp [posK, codes]
        show RowAt F U' ia dx el _ (0 + (code (.node l0)).length) (posK 0 l0 0) [] .none
        rw [e0, Nat.zero_add, ← ht0]; exact row
      · show (List.replicate l0.length Value.none)[i]? = _
        have hi : i < l0.length := hi
        rw [List.getElem?_replicate, if_pos hi]
    · have hlt : h' < H.length := by
        have := (List.getElem?_eq_some_iff.mp e).1
        rw [List.length_append, List.length_singleton] at this; omega
      rw [List.getElem?_append_left hlt] at e
      obtain ⟨y, yc⟩ := G.ent _ _ e
      refine ⟨y.stay ⟨.refl _, fun a r hr ha => old a r ha, fun a r o hr ha ho => ob a r ha (fun z => ?_) o ho⟩ hH, yc⟩
      subst z; exact hr
/-- nothing is held yet -/
theorem Glob.start {vs : List Value} {m m4 : Nat} (hok : Ok C.t0) (hsz : (code C.t0).length ≤ 100000) (hdp : depth C.t0 ≤ 4) (h1 : U C.oa = some (baO (code C.t0))) (h2 : U C.na = some (lstO vs m)) (hI : IntsAre vs (octs (code C.t0))) (h3 : U hda = some (lstO [] m4)) (n1 : C.oa ≠ C.na) (n2 : C.oa ≠ hda) (n3 : C.na ≠ hda) :
    Glob C F U (put (put (put (fun _ => none) C.oa .oc) C.na .nw) hda .hd) C.t0 hda [] := by
  refine ⟨fun a r ha => ?_, by rw [put_ne n2, put_ne n1, put_same], by rw [put_ne n3, put_same], put_same .., h1, ⟨vs, m, h2, hI⟩, ⟨m4, h3⟩, rfl, hok, hsz, hdp, by simp, fun h E e => by simp at e⟩
  by_cases q : a = hda
  · subst q; exact ⟨_, h3⟩
  · rw [put_ne q] at ha
    by_cases q : a = C.na
    · subst q; exact ⟨_, h2⟩
    · rw [put_ne q] at ha
      by_cases q : a = C.oa
      · subst q; exact ⟨_, h1⟩
      · rw [put_ne q] at ha; cases ha
end
end Mine
end

section
open PySem PySem.W PyProof.Rows PySem.Calls
set_option Elab.async false
set_option maxRecDepth 100000
namespace Mine

section
variable {α β : Type} {X : Cx} {K : Frag} {A : Around} {σ : St} {env : Env}
theorem codeC_funcS {body : List Stmt} {s : Shared} {fr : List Fram} {Q : Value → St → Prop} {R : Result → Shared → Prop} (hR : ∀ v σ' s', Own X.s₁ σ' s' → Q v σ' → R (.ok (.ret v)) s')
    (h : ∀ E, wpC (model X.prog X.w) (A.deeper env) (execs body env) (fun fl s' => ∃ σ', Own X.s₁ σ' s' ∧ RetQ fr Q fl σ') E s) : codeC (model X.prog X.w) A (.func body env) R s := by
  refine codeC_of_tree rfl ?_
  show wpC _ (A.deeper env) (do point; match ← (execs body env).onRaise (leaving env) with | .ret v => ret v | _ => ret .none) _ _ s
  refine wpC_bind (wpC_of (wpAny_point (wpC_bind (wpC_onRaise (wpC_mono (h fun _ _ => False) (fun f s' q => ?_) fun _ _ f => f.elim)))))
  obtain ⟨σ', O', g, hfr, hq⟩ := q
  obtain ⟨fr3, F3, U3⟩ := σ'
  dsimp only at hfr; subst hfr
  cases f <;> exact wpC_pure (hR _ _ _ O'.pop hq)
/-- a call of a def with cells -/
theorem WR_callK (B : Base X K) {f : Addr} {oc : Value} {od : Option Addr} {osl : Array (Option Value)} {fd : FuncData} {body : List Stmt} {vals : List Value} (ns0 ns : List Str) (ws : List (Option Value)) {Q : Value → St → Prop}
    (hroom : A.depth < recursionLimit) (ho : K.lookup f = some ⟨oc, od, .func fd, osl⟩)
    (h : ∀ env s' E, EnvOf env fd → NmOk env ns → env.cells = cellsFrom (env.locals + 1) fd.scope.names [] → Own X.s₁ ⟨⟨env, ns, ws, true⟩ :: σ.fr, σ.F, σ.U⟩ s' →
      (∀ n c, env.cells.lookup n = some c → Frsh X.s₁ ⟨⟨env, ns, ws, true⟩ :: σ.fr, σ.F, σ.U⟩ c ∧ s'.heap.IsCell c (bindC (fun n => fd.scope.names.lookup n) (ns0.zip vals) (fun _ => none) n)) →
      wpC (model X.prog X.w) (A.deeper env) (execs body env) (fun fl s₃ => ∃ σ', Own X.s₁ σ' s₃ ∧ RetQ σ.fr Q fl σ') E s')
    (hb : fd.body = .stmts body := by rfl) (hcd : codeIn K fd.code fd.qualname = true := by kernel_rfl) (hclo : fd.closure = [] := by rfl)
    (hco : fd.scope.isCoroutine = false := by rfl) (hgen : fd.scope.isGenerator = false := by rfl) (hk : fd.scope.kind = .function := by rfl)
    (hbind : bindArgs fd ⟨vals, []⟩ = pure (ns0.zip vals) := by rfl)
    (hkind : ∀ x ∈ ns0, fd.scope.names.lookup x = some .local ∨ (fd.scope.names.lookup x = some .cell ∧ ((cellsFrom 0 fd.scope.names []).lookup x).isSome = true) := by decide +kernel)
    (hnm : nmCheck fd.scope ns = true := by decide +kernel)
    (hv : ∀ (i : Nat) (x : Str) (v : Value), ns[i]? = some x → ws[i]? = some (some v) → bindL (fun n => fd.scope.names.lookup n) (ns0.zip vals) (fun _ => none) x = some v) :
    WR X A σ (call (.ref f) vals) Q := by
  intro s E O
  have hK := B.inK O
  refine wpC_call (codeC_of_tree rfl (wpC_of ?_))
  show wpAny _ A.in1 (callAny (.ref f) ⟨vals, []⟩) _ _ s
  simp only [callAny]
  refine wpAny_bind (wpAny_load (hK _ _ ho) ?_)
  obtain ⟨c, oc', vs, tq, hc, hoc, hdc, hq⟩ := codeRec_of hK hcd
  simp only [callFunction, hco, hgen, hb, hc]
  refine wpAny_bind (m := field (.ref c) 1) (wpAny_field hoc hdc hq (wpAny_bind (wpAny_pure ?_)))
  rw [hbind, hclo]
  refine wpAny_bind (wpAny_pure (wpAny_bind (wpAny_newFunctionEnv_cells hk (fun x hx => ?_) fun env he s' x => ?_)))
  · rcases hkind x.1 (zip_mem hx) with h1 | ⟨h1, h2⟩
    · exact .inl h1
    · exact .inr ⟨h1, cells_some h2⟩
  · have hee : EnvOf env fd := by subst he; exact ⟨rfl, rfl, rfl, rfl⟩
    have hcel : env.cells = cellsFrom (env.locals + 1) fd.scope.names [] := by subst he; rfl
    have hloc : env.locals = s.heap.objs.size := by subst he; rfl
    have hki : env.kindOf = fun n => fd.scope.names.lookup n := by subst he; rfl
    obtain ⟨⟨h₀, tk, hs⟩, hns, hkeep, habove⟩ := x.toInCall
    subst hs
    have O' := O.enter (env := env) (ns := ns) (vs := ws) (tk := tk) (h₀ := h₀) (m := bindL env.kindOf (ns0.zip vals) fun _ => none) hloc (by subst he; rfl) (by subst he; exact hk) (hloc ▸ hns) hkeep (by rw [hki]; exact hv)
    refine wpAny_bind (wpAny_enterFrame (B.lim.keeps O'.ground) hroom (wpAny_pure ⟨rfl, codeC_funcS (fun v σ' s' O' q => ⟨σ', O', q⟩) fun E' => h env _ E' hee (nmOk hee hnm) hcel O' fun n c hc => ⟨?_, ?_⟩⟩))
    · have hlt : s.heap.objs.size < c := hloc ▸ x.above n c (mem_of_lookup hc)
      have fr0 := O.fresh (a := c) (by
        cases q : s.heap.get? c with
        | none => rfl
        | some o => exact absurd (Heap.lt_size q) (Nat.not_lt.mpr (Nat.le_of_lt hlt)))
      refine ⟨fr0.nF, fr0.nU, fun y hy => ?_, fr0.high⟩
      rcases List.mem_cons.mp hy with rfl | hy
      · rw [hloc]; exact Nat.ne_of_lt hlt
      · exact fr0.nL y hy
    · have := x.cell n c hc; rwa [hki] at this
theorem WR_weaken {t : Sem α} {ns : List Str} {vs ws : List (Option Value)} {b : Bool} {r : List Fram} {F U : Mp} {Q : α → St → Prop} (k : Weaker vs ws) (h : WR X A ⟨⟨env, ns, ws, b⟩ :: r, F, U⟩ t Q) : WR X A ⟨⟨env, ns, vs, b⟩ :: r, F, U⟩ t Q :=
  fun s E O => h s E (O.weaken k)
theorem WR_frz {t : Sem α} {a : Addr} {o : Obj} {Q : α → St → Prop} (ha : σ.U a = some o) (h : σ.F a = none → WR X A ⟨σ.fr, upd σ.F a o, era σ.U a⟩ t Q) : WR X A σ t Q :=
  fun s E O => h (O.sep _ _ ha).1 s E (O.freeze ha)
end
end Mine
end

section
open PySem PySem.W PyProof.Rows PySem.Calls
set_option Elab.async false
set_option maxRecDepth 100000
namespace Mine

theorem Pulls.nil_eq {lvb : Bool} {rv lv : Value} {ia dx el : Addr} {e idx idx' : Nat} {F U F' U' : Mp} {els els' : List Value} {us : List T} (p : Pulls lvb rv ia dx el e lv F U idx els us F' U' idx' els') (h : us = []) : els' = els := by
  cases p with
  | nil => rfl
  | snoc p q => simp at h

section
variable {C : Co} {F F' F1 U U' U1 : Mp} {g g' g1 : Tag} {t : T} {lc : List T} {H H' : List En} {h j k : Nat} {E E' : En} {hda : Addr} {P : Params} {X : Cx} {A : Around} {o pre post : List UInt8} {fr : List Fram}
theorem View.drop (V : View X C F U g t E lc o pre post) : (lc.drop E.els.length).length = E.l.length - E.els.length := by rw [List.length_drop, V.len]
theorem View.okd (V : View X C F U g t E lc o pre post) : ∀ u ∈ lc.drop E.els.length, Ok u := fun u hu => V.ok.2.mem _ (List.mem_of_mem_drop hu)
theorem c_lenL (B : Base X (Mine.hd.heap_39 P)) (r : Room A 7) (hl : Lined A fr) (tu : TagU g U) (x : EnOk C F U g lc H h E) (V : View X C F U g t E lc o pre post) :
    W X A ⟨fr, F, U⟩ (call (.builtin "len") [.ref E.ia]) fun w σ' => ∃ F' U' g' els' lv' t, w = .int (E.l.length : Nat) t ∧ σ' = ⟨fr, F', U'⟩ ∧ Le F F' ∧ TagU g' U' ∧ (∀ a r, g a = some r → g' a = some r) ∧ Fre E.dx E.el U U' ∧
      EnOk C F' U' g' lc H h { E with els := els', lv := lv' } ∧ els'.length = E.l.length ∧ (E.els.length = E.l.length → els' = E.els) := by
  obtain ⟨od, _, _, _, _, _, hD, _⟩ := x.row.dict
  have hell := x.ell
  have hVd := V.drop
  have hfew := V.few
  have hsiz := V.siz
  refine W_len_inst B (C := 152) (f := 149) (.ofF x.row.inst) (.ofU hD) ?_
  refine W.mono (c_len B (σ := ⟨fr, F, U⟩) (us := lc.drop E.els.length) r.in1 hl.in1 x.row (V.oct _) (by omega) V.okd V.cut V.pl V.en (by omega) ?_) fun w σ' ⟨F1, U1, F2, U2, idx', els', t4, ew, e2, p, L1, f1, row⟩ => ?_
  · rcases x.lvk with e | ⟨t, e, e'⟩
    · exact .inl e
    · exact .inr ⟨t, by rw [e, e'], List.length_eq_zero_iff.mp (by omega)⟩
  · have pl := p.sums.2
    rw [hVd] at pl
    have pi := p.sums.1
    obtain ⟨g1, tu1, k1, k2, x1, hidx⟩ := x.pulls tu V.sk (fun i u hu => by rw [List.getElem?_drop] at hu; exact hu) p
    have epos : posK E.q E.l els'.length = E.q + (code (.node E.l)).length := by rw [← hidx, pi, ← V.en]
    have x2 := x1.stop (tk := t4) (by show els'.length = E.l.length; omega) L1 f1 (by
      show RowAt F2 U2 E.ia E.dx E.el (rvOf C E.src) (E.q + (code (.node E.l)).length) (posK E.q E.l els'.length) els' _
      rw [epos]; exact row)
    have tu1' : TagU g1 U2 := by
      obtain ⟨od2, _, _, _, _, _, z1, _⟩ := x2.row.dict
      obtain ⟨_, z2⟩ := x2.row.list
      exact tu1.grow f1 ⟨_, z1⟩ ⟨_, z2⟩
    have el : els'.length = E.l.length := by omega
    refine ⟨els'.length, t4, ew, by omega, fun t => ⟨F2, U2, g1, els', _, t, by rw [el], e2, p.le.trans L1, tu1', k1, p.fre.trans f1, x2, el, fun hf => p.nil_eq (List.length_eq_zero_iff.mp (by omega))⟩⟩
theorem c_nextL (B : Base X (Mine.hd.heap_39 P)) (r : Room A 5) (tu : TagU g U) (x : EnOk C F U g lc H h E) (V : View X C F U g t E lc o pre post) (hlt : E.els.length < E.l.length) :
    W X A ⟨fr, F, U⟩ (call (.ref 135) [.ref E.ia]) fun w σ' => ∃ F' U' g', σ' = ⟨fr, F', U'⟩ ∧ Le F F' ∧ TagU g' U' ∧ (∀ a r, g a = some r → g' a = some r) ∧ Fre E.dx E.el U U' ∧ EnOk C F' U' g' lc H h { E with els := E.els ++ [w] } := by
  have hll := V.len
  have hu : lc[E.els.length]? = some lc[E.els.length] := List.getElem?_eq_getElem (by omega)
  have hdr : lc.drop E.els.length = lc[E.els.length] :: lc.drop (E.els.length + 1) := List.drop_eq_getElem_cons (by omega)
  have hcut := V.cut
  have hen := V.en
  have hsiz := V.siz
  have hfew := V.few
  rw [hdr, codes_cons'] at hcut hen
  have hcp := code_pos lc[E.els.length]
  rw [List.length_append] at hen
  refine W.mono (c_pull1 B (σ := ⟨fr, F, U⟩) (u := lc[E.els.length]) (pre := pre) (post := codes (lc.drop (E.els.length + 1)) ++ post) r x.row (V.oct _) (by omega) (V.ok.2.mem _ (List.getElem_mem _)) (by rw [hcut]; simp only [List.append_assoc]) V.pl (by omega) (by omega)) fun w σ' ⟨F2, U2, e2, q⟩ => ?_
  obtain ⟨g1, tu1, k1, _, x1⟩ := x.pull tu V.sk hu q
  exact ⟨F2, U2, g1, e2, q.le, tu1, k1, q.fre, x1⟩
theorem c_nextS (B : Base X (Mine.hd.heap_39 P)) {Q : Value → St → Prop} (r : Room A 2) (hl : Lined A fr) (tu : TagU g U) (x : EnOk C F U g lc H h E) (V : View X C F U g t E lc o pre post) (hge : E.els.length = E.l.length) :
    WE X A ⟨fr, F, U⟩ (call (.ref 135) [.ref E.ia]) Q (Up X "StopIteration" (· = .none) fun σ' => ∃ U' lv', σ' = ⟨fr, F, U'⟩ ∧ TagU g U' ∧ Fre E.dx E.el U U' ∧ EnOk C F U' g lc H h { E with lv := lv' }) := by
  have hll := V.len
  have hen := V.en
  have hfew := V.few
  have hd0 : lc.drop E.els.length = [] := List.drop_eq_nil_of_le (by omega)
  rw [hd0] at hen
  have epos : posK E.q E.l E.els.length = E.q + (code (.node E.l)).length := by rw [hen]; simp [codes]
  have row := x.row
  rw [epos] at row
  refine (c_stop B (σ := ⟨fr, F, U⟩) r hl row (by omega)).monoE fun v s h => h.mono fun σ' ⟨U2, t3, e2, k1, k2⟩ => ?_
  have x2 := x.stop (tk := t3) hge (.refl _) k1 (by rw [epos]; exact k2)
  obtain ⟨od2, _, _, _, _, _, z1, _⟩ := x2.row.dict
  obtain ⟨_, z2⟩ := x2.row.list
  exact ⟨U2, _, e2, tu.grow k1 ⟨_, z1⟩ ⟨_, z2⟩, k1, x2⟩
theorem c_pullG (B : Base X (Mine.hd.heap_39 P)) {els' : List Value} {lv' : Value} {upn : Nat} {tk : Tok} (r : Room A 4) (G : Glob C F U g t hda H) (hE : H[h]? = some E) (V : View X C F U g t E lc o pre post) (le : Le F F1) (tu1 : TagU g1 U1) (k1 : ∀ a r, g a = some r → g1 a = some r)
    (fr1 : Fre E.dx E.el U U1) (x1 : EnOk C F1 U1 g1 lc H h { E with els := els', lv := lv' }) (hup : max E.cnt upn = els'.length) :
    W X A ⟨fr, F1, U1⟩ (call (.ref 215) [.ref E.e, .int (upn : Nat) tk]) fun w σ' => ∃ F2 U2 E2, w = .none ∧ σ' = ⟨fr, F2, U2⟩ ∧ Le F F2 ∧ Glob C F2 U2 g1 t hda (H.set h E2) ∧ KpStay g g1 U U2 ∧ E2.l = E.l ∧ E2.els = els' ∧ E2.e = E.e := by
  obtain ⟨x, hcnt⟩ := G.ent _ _ hE
  obtain ⟨sl, vs, m, esl, hI, hlv⟩ := V.now
  have hsiz := V.siz
  refine W.mono (c_pullL B (E := { E with els := els', lv := lv' }) (fr := fr) (upn := upn) (t := t) r x1 hup V.sk V.at' V.ok (by have := V.eo; show (code (trOf t E.src)).length ≤ 100000; rw [← this]; exact hsiz) V.few esl (by have := V.eo; show IntsAre vs (octs (code (trOf t E.src))); rw [← this]; exact hI) fun fr' F' U' L f => hlv _ _ _ (le.trans L) fun a ob ha ho => ?_) fun w2 σ2 ⟨F2, U2, sv2, ew, e2, L2, f2, x2⟩ => ?_
  · exact f a ob (tag_ne ha x.te (by simp)) (tag_ne ha x.ts (by simp)) (fr1 a ob (tag_ne ha x.td (by simp)) (tag_ne ha x.tl (by simp)) ho)
  · obtain ⟨_, _, z1⟩ := x2.ent
    obtain ⟨_, z2⟩ := x2.sav
    have tu2 : TagU g1 U2 := tu1.grow f2 ⟨_, z1⟩ ⟨_, z2⟩
    obtain ⟨G2, kp2⟩ := G.upd hE (le.trans L2) tu2 k1 (fun a ob n1 n2 n3 n4 ho => f2 a ob n1 n2 (fr1 a ob n3 n4 ho)) x2 rfl rfl rfl
    exact ⟨F2, U2, _, ew, e2, le.trans L2, G2, kp2, rfl, rfl, rfl⟩
end
end Mine
end

section
open PySem PySem.W PyProof.Rows PySem.Calls
set_option Elab.async false
set_option maxRecDepth 100000
namespace Mine

theorem pick_take (vs : List Value) (k : Nat) : slicePick vs.toArray none (some (k : Int)) none = (vs.take k).toArray := by
  rw [slicePick_plain]
  simp only [Option.elim, clipAt_nat, List.size_toArray, Nat.sub_zero, List.drop_zero]
  congr 1
  rw [List.take_eq_take_iff]
  omega
/-- l[lo:hi] of a list of the ground -/
theorem W_slice_gnd {X : Cx} {A : Around} {σ : St} {value slice : Expr} {l sl : Addr} {vs : List Value} {vl vu : Value} {lo hi : Option Int} {us : List Value} {Q : Value → St → Prop} (hl : X.s₁.heap.IsList l vs.toArray) (hsl : Live X σ sl (sliceO vl vu)) (pl : IsPart vl lo) (pu : IsPart vu hi)
    (hz : vs.length ≤ sizeLine) (hp : slicePick vs.toArray lo hi none = us.toArray) (h : ∀ a, Frsh X.s₁ σ a → Q (.ref a) { σ with U := upd σ.U a (lstO us 0) })
    (hs : subscripted slice false (.ref l) (.ref sl) = operate [.ref sl, .ref l] (getItem (.ref l) (.ref sl)) := by with_unfolding_all rfl) : W X A σ (subscriptTail value slice (.ref l) (.ref sl)) Q := by
  obtain ⟨o, ho, hc, n, hd⟩ := hl
  refine W_tailS (T := "list") ⟨_, .inr (.inr ho), hc⟩ slot_list_getitem.lookup (fun s E O => ?_) hs
  refine wpAny_getItem_list_slice ⟨o, O.ground _ _ ho, hc, n, hd⟩ ⟨_, O.live hsl, rfl, rfl⟩ pl pu .none (by simp) ?_ (by simpa using hz)
  rw [hp]
  obtain ⟨fr, O'⟩ := O.pushU (lstO us 0) rfl
  exact ⟨_, O', h _ fr⟩
theorem own_thaw {s₁ s : Shared} {σ : St} (O : Own s₁ σ s) {a : Addr} {o : Obj} (hF : σ.F a = some o) (hg : s₁.heap.get? a = none) : Own s₁ ⟨σ.fr, era σ.F a, upd σ.U a o⟩ s := by
  have er : ∀ b x, era σ.F a b = some x → b ≠ a ∧ σ.F b = some x := fun b x e => by
    by_cases q : b = a
    · subst q; simp [era] at e
    · exact ⟨q, by simpa [era, q] using e⟩
  refine ⟨O.same, O.ground, fun b x e => O.frz b x (er b x e).2, fun b x e => ?_, fun b x e => ?_, fun f hf => ?_, O.loc, O.apart⟩
  · by_cases q : b = a
    · subst q
      have e' : upd σ.U b o b = some x := e
      rw [upd_same] at e'; cases e'; exact O.frz b o hF
    · have e' : upd σ.U a o b = some x := e
      rw [upd_ne q] at e'; exact O.mts b x e'
  · by_cases q : b = a
    · subst q; exact ⟨by simp [era], hg⟩
    · have e' : upd σ.U a o b = some x := e
      rw [upd_ne q] at e'
      refine ⟨?_, (O.sep b x e').2⟩
      show (if b = a then none else σ.F b) = none
      rw [if_neg q]; exact (O.sep b x e').1
  · obtain ⟨a1, a2, a3, a4, a5⟩ := O.frs f hf
    have hne : f.env.locals ≠ a := fun q => by rw [q] at a4; rw [a4] at hF; cases hF
    refine ⟨a1, a2, a3, ?_, ?_⟩
    · show (if _ = a then none else σ.F _) = none
      rw [if_neg hne]; exact a4
    · show upd σ.U a o _ = none
      rw [upd_ne hne]; exact a5
theorem swaps {elt : Expr} {gs : List Comprehension} {scope : Scope} {pos p : Pos} {y : Str} {line : Nat} {env : Env} {fd : FuncData} (he : EnvOf env fd) (hk : fd.scope.kind = .function := by rfl) (hl : fd.scope.names.lookup y = some .local := by decide +kernel) (hp : (p.line == pos.line) = true := by rfl)
    (hn : (!(scope.names.any fun (n, k) => n == y && (k == .local || k == .cell))) = true := by decide +kernel) : swapsWith (.ListComp elt gs scope pos) (some (.Name y p)) line env = pure true := by
  have e1 : env.blockKind = .function := by unfold Env.blockKind; rw [he.scope, hk]; rfl
  have e2 : env.kindOf y = some .local := by show env.scope.names.lookup y = _; rw [he.scope]; exact hl
  show (pure (env.blockKind == .function && env.kindOf y == some .local && (p.line == pos.line) && !(scope.names.any fun (n, k) => n == y && (k == .local || k == .cell))) : Sem Bool) = _
  rw [e1, e2, hp, hn]; rfl
section
variable {α : Type} {X : Cx} {A : Around} {σ : St} {t : Sem α} {Q : α → St → Prop} {a : Addr} {o : Obj}
theorem W_thaw (hF : σ.F a = some o) (hg : X.s₁.heap.get? a = none) (h : W X A ⟨σ.fr, era σ.F a, upd σ.U a o⟩ t Q) : W X A σ t Q := fun s E O => h s E (own_thaw O hF hg)
theorem WR_thaw (hF : σ.F a = some o) (hg : X.s₁.heap.get? a = none) (h : WR X A ⟨σ.fr, era σ.F a, upd σ.U a o⟩ t Q) : WR X A σ t Q := fun s E O => h s E (own_thaw O hF hg)
theorem W_thawP (h : W X A σ t fun v σ' => ∃ b o, σ'.F b = some o ∧ X.s₁.heap.get? b = none ∧ Q v ⟨σ'.fr, era σ'.F b, upd σ'.U b o⟩) : W X A σ t Q :=
  fun s E O => h.go O fun _ _ _ O' ⟨_, _, hF, hg, q⟩ => ⟨_, own_thaw O' hF hg, q⟩
/-- nothing of the ground is owned as mutable -/
theorem W_high (h : (∀ b o, σ.U b = some o → X.s₁.heap.get? b = none) → W X A σ t Q) : W X A σ t Q := fun s E O => h (fun b o e => (O.sep b o e).2) s E O
theorem upd_era {U : Mp} (h : U a = some o) : upd (era U a) a o = U := by
  funext b
  by_cases q : b = a
  · subst q; rw [upd_same, h]
  · rw [upd_ne q]; simp [era, q]
end
end Mine
end

section
open PySem PySem.W PyProof.Rows PySem.Calls
set_option Elab.async false
set_option maxRecDepth 100000
namespace Mine

/-! what is left to be asked behind the run: the lists within -/
mutual
def nodes : T → Nat
  | .leaf _ => 0
  | .node l => 1 + nodess l
def nodess : List T → Nat
  | [] => 0
  | t :: l => nodes t + nodess l
end
mutual
theorem nodes_le : ∀ t : T, nodes t ≤ (code t).length
  | .leaf b => by simp [nodes]
  | .node l => by
    have h1 := nodess_le l
    have h2 := hdr_pos 192 (codes l).length
    simp only [nodes, code, List.length_append]; omega
theorem nodess_le : ∀ l : List T, nodess l ≤ (codes l).length
  | [] => by simp [nodess]
  | t :: l => by
    have h1 := nodes_le t
    have h2 := nodess_le l
    simp only [nodess, codes, List.length_append]; omega
end
def sumN : List (List T) → Nat
  | [] => 0
  | l :: L => 1 + nodess l + sumN L
theorem sumN_append : ∀ (L M : List (List T)), sumN (L ++ M) = sumN L + sumN M
  | [], M => by simp [sumN]
  | l :: L, M => by simp only [List.cons_append, sumN, sumN_append L M]; omega
theorem sumN_len : ∀ L : List (List T), L.length ≤ sumN L
  | [] => by simp [sumN]
  | l :: L => by have := sumN_len L; simp only [List.length_cons, sumN]; omega
theorem sumN_le {k : Nat} : ∀ {L : List (List T)}, (∀ l ∈ L, 1 + nodess l ≤ k) → sumN L ≤ L.length * k
  | [], _ => by simp [sumN]
  | l :: L, h => by
    have h1 := sumN_le (L := L) fun m hm => h m (.tail _ hm)
    have h2 := h l (.head _)
    simp only [List.length_cons, sumN, Nat.succ_mul]; omega
theorem nodess_drop {l : List T} {k : Nat} {u : T} (h : l[k]? = some u) : nodess (l.drop k) = nodes u + nodess (l.drop (k + 1)) := by
  obtain ⟨hk, rfl⟩ := List.getElem?_eq_some_iff.mp h
  rw [List.drop_eq_getElem_cons hk]; rfl
theorem nodess_drop_le (l : List T) (k : Nat) : nodess (l.drop (k + 1)) ≤ nodess (l.drop k) := by
  cases h : l[k]? with
  | none =>
    rw [List.drop_eq_nil_of_le (by have := List.getElem?_eq_none_iff.mp h; omega)]; simp [nodess]
  | some u => rw [nodess_drop h]; omega
section
variable {C : Co} {F U : Mp} {g : Tag} {t : T} {H H' : List En} {h k : Nat} {E : En} {hda : Addr}
theorem Glob.small (G : Glob C F U g t hda H) {z : Nat} (hz : (code C.t0).length ≤ z) : ∀ l ∈ Ls H, 1 + nodess l ≤ z := by
  intro l hl
  obtain ⟨E, hE, rfl⟩ := List.mem_map.mp hl
  obtain ⟨i, hi⟩ := List.getElem?_of_mem hE
  have h1 := nodes_le (.node E.l)
  obtain ⟨pre, post, e, _⟩ := (G.ent _ _ hi).1.loc.cut
  have h2 := congrArg List.length e
  simp only [List.length_append] at h2
  have h3 : nodes (.node E.l) = 1 + nodess E.l := rfl
  omega
theorem Ls_get (hE : H[h]? = some E) : (Ls H)[h]? = some E.l := by unfold Ls; rw [List.getElem?_map, hE]; rfl
theorem Grown.get {u : Option T} (x : Grown H H' u) (hE : H[h]? = some E) : ∃ E', H'[h]? = some E' ∧ E'.l = E.l := by
  have h1 := Ls_get hE
  have h2 : (Ls H')[h]? = some E.l := by
    rcases x with e | ⟨l, _, e⟩
    · rw [e]; exact h1
    · rw [e]; exact getElem?_snoc h1
  unfold Ls at h2
  rw [List.getElem?_map] at h2
  cases q : H'[h]? with
  | none => rw [q] at h2; cases h2
  | some E' => rw [q] at h2; exact ⟨E', rfl, by simpa using h2⟩
theorem Grown.cost {l : List T} (x : Grown H H' l[k]?) (hh : h < H.length) : sumN ((Ls H').drop (h + 1)) + nodess (l.drop (k + 1)) ≤ sumN ((Ls H).drop (h + 1)) + nodess (l.drop k) := by
  rcases x with e | ⟨m, hu, e⟩
  · rw [e]; have := nodess_drop_le l k; omega
  · rw [e, List.drop_append_of_le_length (by rw [Ls_length']; omega), sumN_append, nodess_drop hu]
    simp only [sumN, nodes]; omega
where Ls_length' : (Ls H).length = H.length := by simp [Ls]
end
end Mine
end

section
open PySem PySem.W PyProof.Rows PySem.Calls
set_option Elab.async false
set_option maxRecDepth 100000
namespace Mine

abbrev lawNs : List Str := ["script", "tree", "spots", "root", "octets", "now", "held", "keep", "n", "h", "entry", "kind", "p", "count", "got", "came", "want", "told", "live", "src", "row", "k", "pair"]

/-- what decode told, and what was wanted -/
def Kept (F : Mp) (kvs : List Value) : Prop := ∀ v ∈ kvs, ∃ a x y m u, v = .ref a ∧ F a = some (lstO [x, y] m) ∧ IsD true F u x ∧ IsD false F u y ∧ Ok u ∧ depth u ≤ 4
theorem Kept.le {F F' : Mp} {kvs : List Value} (k : Le F F') (h : Kept F kvs) : Kept F' kvs := fun v hv =>
  let ⟨a, x, y, m, u, e, h1, h2, h3, h4, h5⟩ := h v hv
  ⟨a, x, y, m, u, e, k _ _ h1, h2.le k, h3.le k, h4, h5⟩
/-- between two deeds -/
def LI (C : Co) (env : Env) (io : Nat → Obj → Prop) (it kpa hda : Addr) (vs0 : List (Option Value)) (F0 : Mp) (i : Nat) (σ : St) : Prop :=
  ∃ vs F U g t H kvs mk o, Weaker vs vs0 ∧ σ = ⟨[⟨env, lawNs, vs, true⟩], F, U⟩ ∧ Le F0 F ∧ Glob C F U g t hda H ∧ g it = some .kp ∧ U it = some o ∧ io i o ∧ g kpa = some .kp ∧ it ≠ kpa ∧ U kpa = some (lstO kvs mk) ∧ Kept F kvs ∧
    kvs.length ≤ i ∧ 0 < H.length ∧ H.length ≤ 1 + i
theorem intsVal : ∀ {vs : List Value} {ns : List Int}, IntsAre vs ns → ∀ {i : Nat} {v : Value}, vs[i]? = some v → ∃ k t, v = .int k t
  | _, _, .nil, i, v, h => by simp at h
  | _, _, .cons _ _ h, 0, v, e => by simp only [List.getElem?_cons_zero, Option.some.injEq] at e; exact ⟨_, _, e.symm⟩
  | _, _, .cons _ _ h, i + 1, v, e => by simp only [List.getElem?_cons_succ] at e; exact intsVal h e
theorem spotss_pos : ∀ {l : List T} {b : List UInt8} (p : Nat), 0 < b.length → T.leaf b ∈ l → 0 < (spotss l p).length
  | [], _, _, _, h => by cases h
  | t :: l, b, p, hb, h => by
    show 0 < (spots t p ++ spotss l (p + (code t).length)).length
    rw [List.length_append]
    rcases List.mem_cons.mp h with rfl | h
    · have : (spots (.leaf b) p).length = b.length := by simp [spots]
      omega
    · have := spotss_pos (p + (code t).length) hb h
      omega
theorem Ls_length (H : List En) : (Ls H).length = H.length := by simp [Ls]
theorem Grown.len {H H' : List En} {u : Option T} (x : Grown H H' u) : H.length ≤ H'.length ∧ H'.length ≤ H.length + 1 := by
  rcases x with e | ⟨l, _, e⟩
  · have := congrArg List.length e; rw [Ls_length, Ls_length] at this; omega
  · have := congrArg List.length e; rw [List.length_append, Ls_length, Ls_length, List.length_singleton] at this; omega

section
variable {P : Params} {X : Cx} {A : Around}
set_option maxHeartbeats 8000000 in
theorem c_law (B : Base X (Mine.hd.heap_39 P)) {F U : Mp} {sl : Addr} {vs : List Value} {ns : List Int} (r : Room A 40) (hl : Lined A []) (hsl : X.s₁.heap.IsList sl vs.toArray) (hI : IntsAre vs ns) (hn : vs.length ≤ 63) :
    WR X A ⟨[], F, U⟩ (call (.ref 234) [.ref sl]) fun w _ => w = .bool true := by
  refine WR_callK B ["script"] lawNs [some (.ref sl), none, none, none, none, none, none, none, none, none, none, none, none, none, none, none, none, none, none, none, none, none, none] r.d (by rfl) (fun env s' E he nm hcells O hc => ?_) (hv := fun i x v h1 h2 => by
    cases i with
    | zero => simp only [List.getElem?_cons_zero, Option.some.injEq] at h1 h2; subst h1 h2; rfl
    | succ i => rcases i with _ | _ | _ | _ | _ | _ | _ | _ | _ | _ | _ | _ | _ | _ | _ | _ | _ | _ | _ | _ | _ | _ | _ <;> simp at h2)
  have hr : Room (A.deeper env) 39 := r.deeper env
  have hl' : ∀ vs, Lined (A.deeper env) [⟨env, lawNs, vs, true⟩] := fun vs => hl.deeper
  have hcs : env.cells = [(("left" : Str), env.locals + 1)] := hcells.trans (by rfl)
  have l1 : env.cells.lookup ("left" : Str) = some (env.locals + 1) := by rw [hcs]; rfl
  obtain ⟨f1, o1, ho1, hd1⟩ := hc _ _ l1
  have hd1 : o1.data = .cell none := hd1.trans (by rfl)
  have O1 := O.addU ho1 f1
  generalize env.locals + 1 = c1 at l1 f1 O1 hcs
  have k1 : env.kindOf "left" = some .cell := by show env.scope.names.lookup _ = _; rw [he.scope]; rfl
  have nU1 : U c1 = none := f1.nU
  suffices h : WR X (A.deeper env) ⟨[⟨env, lawNs, [some (.ref sl), none, none, none, none, none, none, none, none, none, none, none, none, none, none, none, none, none, none, none, none, none, none], true⟩], F, upd U c1 o1⟩ (execs _ env) (RetQ [] _) from h _ _ O1
  clear O O1 hc ho1
  -- left = script[:12]
  refine WR_execs_cons <| W.r <| W_Assign_Name <| W_Subscript <| W_name nm .here <| W_Slice <| W_part_none <| W_part <| W_int fun t1 => fun sa F1 L1 hsa => W_slice_gnd (us := vs.take 12) hsl (.inr (.inl hsa)) (by constructor) (by constructor) (by unfold sizeLine; omega) (pick_take vs 12) fun la fla => ?_
  have nlc : la ≠ c1 := fun q => by have := fla.nU; rw [q] at this; exact nomatch (this.symm.trans (upd_same ..))
  show W X _ ⟨_, _, upd (upd U c1 o1) la _⟩ _ _
  rw [upd_comm nlc.symm]
  refine W_store_cell k1 (by decide +kernel) (by decide +kernel) l1 hd1 ((upd_ne nlc.symm).trans nU1) fun F2 L2 cn1 => ?_
  have hla : upd U la (lstO (vs.take 12) 0) la = some (lstO (vs.take 12) 0) := upd_same ..
  generalize upd U la (lstO (vs.take 12) 0) = U2 at hla cn1 ⊢
  have hi1 : Ints (vs.take 12) := ⟨_, hI.take 12⟩
  have hz1 : (vs.take 12).length ≤ 100 := by simp; omega
  clear fla nU1 nlc f1
  show WR X _ ⟨[⟨env, lawNs, _, true⟩], F2, U2⟩ (execs _ env) _
  -- tree = [_law_tree(left, 2) for _ in range(1 + _law_next(left) % 3)] + [b'\x10\x11\x12']
  refine WR_execs_cons <| W.r <| W_Assign_Name <| W_BinOp <| W_ListComp (closL env _ []) (closure_in ["left"] (by intro y hy; rcases List.mem_singleton.mp hy with rfl; rw [l1]; rfl)) (by decide +kernel) (by rfl) (by decide +kernel) (by decide +kernel) (by decide +kernel) ?_
  refine W_Call_Name <| W_gname (bl B he "range" (.type "range")) rfl rfl <| W_callWith_t <| W_items_cons <| W_BinOp <| W_int fun t2 => W_BinOp <| W_Call_Name <| W_gname (gl B he "_law_next" (.ref 163)) rfl rfl <| W_callWith B (by kernel_rfl) <| W_items_cons <| W_cname cn1 rfl rfl <| W_items_nil ?_
  refine W.mono (c_nextI B (σ := ⟨[_], F2, U2⟩) (hr.le (by omega)) hla hi1 hz1) fun w σ' ⟨i, t3, vs1, m1, ew, e, hi2, hz2⟩ => ?_
  subst ew e
  refine W_int fun t4 => W_mod (by decide) fun t5 => W_add fun t6 => W_items_nil ?_
  obtain ⟨j, hj, hj3⟩ := fmod_lt i (k := 3) (by omega)
  have hj : i.fmod 3 = (j : Int) := hj
  rw [hj]
  refine W_range1 fun rg ta tb tc U3 frg eU => ?_
  subst eU
  refine W_iter_range (.inl (upd_same ..)) (by omega) (by omega) (by omega) (by omega) fun it o hf ho => ?_
  have ez : ((1 + (j : Int)) - 0).toNat = 1 + j := by omega
  rw [ez] at ho
  have hl2 : upd U2 la (lstO vs1 m1) la = some (lstO vs1 m1) := upd_same ..
  have hlr : la ≠ rg := frg.ne hl2
  refine ⟨_, F2, upd (upd U2 la (lstO vs1 m1)) rg _, it, o, rngIt 0 ((1 + j : Nat) : Int), 1 + j, fun _ => True, fun i v => ∃ t, v = .int (0 + i) t,
    fun i ys σ => ∃ vs' m' ts, Le F2 σ.F ∧ σ.U = upd (upd U2 la (lstO vs' m')) rg (rngO 0 (1 + (j : Int)) 1 ta tb tc) ∧ Ints vs' ∧ vs'.length ≤ 100 ∧ IsDs false σ.F ts ys ∧ (∀ t ∈ ts, TOk 2 t) ∧ ts.length = i,
    rfl, rfl, hf.nU, ho, ⟨vs1, m1, [], .refl _, rfl, hi2, hz2, by unfold IsDs; rfl, (fun t ht => nomatch ht), rfl⟩, ⟨itOk_range hr.calm, by unfold sizeLine; omega, fun _ => trivial, ?_⟩, ?_⟩
  · rintro i' ys F' U' Cc D o' mm v ⟨vs', m', ts, Lf, e2, hI, hL, hts, htok, hlen⟩ hi' ⟨tv, rfl⟩ hys hit hDU hne
    have e2 := Eq.symm e2
    dsimp only at e2 Lf hts
    subst e2
    have hlU : upd (upd U2 la (lstO vs' m')) rg (rngO 0 (1 + (j : Int)) 1 ta tb tc) la = some (lstO vs' m') := by rw [upd_ne hlr, upd_same]
    have hli : la ≠ it := ne_of_mp hlU hit
    have hlD : la ≠ D := ne_of_mp hlU hDU
    refine W_Call_Name <| W_gname (glC B he "_law_tree" (.ref 168) (hk := ?h0)) rfl rfl <| W_callWith B (by kernel_rfl) <| W_items_cons <| W_cname (comp_cname cn1 Lf ?h1 ?h2) rfl rfl <| W_items_cons <| W_int fun t9 => W_items_nil ?_
    case h0 => decide +kernel
    case h1 => decide +kernel
    case h2 => rfl
    refine W.mono (c_tree B 2 (by omega) (σ := ⟨_ :: _, F', _⟩) (hr.le (by omega)) (l := la) (vs := vs') (m := m') ?_ hI hL) fun w σ' ⟨F3, vs3, m3, t, Lf3, e3, hI3, hL3, hd3, htk⟩ => ?_
    · show upd (upd _ it o') D (lstO ys mm) la = _
      rw [upd_ne hlD, upd_ne hli]; exact hlU
    · refine ⟨F3, upd (upd U2 la (lstO vs3 m3)) rg (rngO 0 (1 + (j : Int)) 1 ta tb tc), Lf3, ?_, ?_, ?_, vs3, m3, ts ++ [t], Lf.trans Lf3, rfl, hI3, hL3, IsDs.snoc (hts.le Lf3) hd3, ?_, by simp [hlen]⟩
      · rw [upd_comm hlr, upd_ne hli.symm]
        rw [upd_comm hlr, upd_ne hli.symm] at hit; exact hit
      · rw [upd_comm hlr, upd_ne hlD.symm]
        rw [upd_comm hlr, upd_ne hlD.symm] at hDU; exact hDU
      · rw [e3]
        congr 1
        show upd (upd (upd (upd (upd U2 la (lstO vs' m')) rg (rngO 0 (1 + (j : Int)) 1 ta tb tc)) it o') D (lstO ys mm)) la (lstO vs3 m3) = upd (upd (upd (upd U2 la (lstO vs3 m3)) rg (rngO 0 (1 + (j : Int)) 1 ta tb tc)) it o') D (lstO ys mm)
        rw [upd_comm hlD.symm, upd_comm hli.symm, upd_comm hlr.symm, upd_upd]
      · intro u hu
        rcases List.mem_append.mp hu with hu | hu
        · exact htok u hu
        · rw [List.mem_singleton.mp hu]; exact htk
  rintro D mm ys F' U' ⟨vs', m', ts, Lf, e2, hI', hL, hts, htok, hlen⟩ hDU
  have e2 := Eq.symm e2
  dsimp only at e2 Lf hts
  clear e2 hi2 hz2 hf ho hI' hL
  refine W_List <| W_items_cons <| W_const_bytes fun t7 => W_items_nil ⟨show (1 : Nat) ≤ sizeLine by decide, fun a fa => ?_⟩
  have hyl := hts.length
  refine W_add_list (.inl ((upd_ne (fa.ne (upd_same ..))).trans (upd_same ..))) (.inl (upd_same ..)) (by simp only [List.length_singleton]; unfold sizeLine; omega) fun b fb => W_store nm (.there .here) ?_
  show WR X _ _ (execs _ env) _
  refine WR_frz (a := b) (upd_same ..) fun nF => ?_
  have hTD : IsD false (upd F' b (lstO (ys ++ [.bytes [16, 17, 18].toArray t7]) 0)) (.node (ts ++ [.leaf [16, 17, 18]])) (.ref b) := by
    unfold IsD
    exact ⟨b, _, 0, rfl, upd_same .., IsDs.snoc (hts.le (le_upd nF)) (by unfold IsD; exact ⟨t7, rfl⟩)⟩
  have htl : ∀ t ∈ ts ++ [.leaf [16, 17, 18]], TOk 2 t := fun u hu => by
    rcases List.mem_append.mp hu with hu | hu
    · exact htok u hu
    · rw [List.mem_singleton.mp hu]; exact TOk.leaf (.inr (.inl rfl)) 2
  obtain ⟨hc1, hc2, hc3⟩ := codes_le htl
  have hlen2 : (ts ++ [T.leaf [16, 17, 18]]).length ≤ 4 := by simp; omega
  have hspos : 0 < (spotss (ts ++ [T.leaf [16, 17, 18]]) (hdr 192 (codes (ts ++ [T.leaf [16, 17, 18]])).length).length).length := spotss_pos _ (b := [16, 17, 18]) (by decide) (by simp)
  generalize ts ++ [T.leaf [16, 17, 18]] = l0 at hTD htl hc1 hc2 hc3 hlen2 hspos
  have hb2 : bound 2 = 534 := by simp [bound]
  have hc1' : (codes l0).length ≤ 4 * 534 := by rw [← hb2]; exact Nat.le_trans hc1 (Nat.mul_le_mul_right _ hlen2)
  have hok0 : Ok (.node l0) := ⟨by omega, hc2⟩
  have hdp0 : depth (.node l0) ≤ 3 := by simp only [depth]; omega
  have hsz0 : (code (.node l0)).length ≤ 3000 := by
    have := hdr_len (b := 192) (n := (codes l0).length) (by omega)
    simp only [code, List.length_append]; omega
  generalize upd F' b (lstO (ys ++ [.bytes [16, 17, 18].toArray t7]) 0) = F3 at hTD ⊢
  generalize era _ b = U4
  clear hla hl2 hlr frg fa fb nF htok hlen hts hyl htl hc1 hc2 hc3 hDU
  -- spots = []
  refine WR_execs_cons <| W.r <| W_Assign_Name <| W_List <| W_items_nil ⟨show (0 : Nat) ≤ sizeLine by decide, fun sp fsp => W_store nm (.there (.there .here)) ?_⟩
  show WR X _ _ (execs _ env) _
  -- root = _law_map(tree, 0, spots)
  refine WR_execs_cons <| W.r <| W_Assign_Name <| W_Call_Name <| W_gname (gl B he "_law_map" (.ref 196)) rfl rfl <| W_callWith B (by kernel_rfl) <| W_items_cons <| W_name nm (.there .here) <| W_items_cons <| W_int fun t8 => W_items_cons <| W_name nm (.there (.there .here)) <| W_items_nil ?_
  refine W.mono (c_map B 3 hdp0 hok0 (σ := ⟨[_], F3, _⟩) (p := 0) (S := []) (ss := []) (m := 0) (hr.le (by omega)) hTD (upd_same ..) .nil (by simp; omega)) fun w σ' ⟨F4, ss, m4, L4, e4, hSp, hRt⟩ => ?_
  subst e4
  refine W_store nm (.there (.there (.there .here))) ?_
  show WR X _ _ (execs _ env) _
  refine WR_frz (a := sp) (upd_same ..) fun nF => ?_
  have hRt := hRt.le (le_upd nF (o := lstO ss m4))
  have hTD := hTD.le (L4.trans (le_upd nF (o := lstO ss m4)))
  have hspF : upd F4 sp (lstO ss m4) sp = some (lstO ss m4) := upd_same ..
  dsimp only at hRt hTD
  generalize upd F4 sp (lstO ss m4) = F5 at hRt hTD hspF ⊢
  generalize era _ sp = U5
  clear nF L4 fsp
  -- octets = bytearray(_law_code(tree))
  refine WR_execs_cons <| WR_Assign_Name <| WR_Call_Name <| W_gname (bl B he "bytearray" (.type "bytearray")) rfl rfl <| WR_callWith_t <| W_items_cons <| W_Call_Name <| W_gname (gl B he "_law_code" (.ref 189)) rfl rfl <| W_callWith B (by kernel_rfl) <| W_items_cons <| W_name nm (.there .here) <| W_items_nil ?_
  refine W.mono (c_code B 3 hdp0 hok0 (σ := ⟨[_], F5, U5⟩) (hr.le (by omega)) hTD) fun w σ' ⟨⟨F6, (L6 : Le F5 F6), e6⟩, t9, ew⟩ => ?_
  subst e6 ew
  refine W_items_nil <| WR_bytearray (by omega) fun oa foa => W_store nm (.there (.there (.there (.there .here)))) ?_
  show WR X _ _ (execs _ env) _
  have hRt := hRt.le L6
  have hspF := L6 _ _ hspF
  have hoa : X.s₁.heap.get? oa = none := foa.high
  have noF : F6 oa = none := foa.nF
  have noU : U5 oa = none := foa.nU
  -- now = [octet for octet in octets]
  refine WR_frz (a := oa) (upd_same ..) fun _ => ?_
  have eU : era (upd U5 oa (baO (code (.node l0)))) oa = U5 := era_upd noU
  show WR X _ ⟨_, upd F6 oa _, era (upd U5 oa _) oa⟩ (execs _ env) _
  rw [eU]
  refine WR_execs_cons <| W.r <| W_Assign_ListComp (closL env _ []) (swaps he) (closure_in [] (by intro y hy; cases hy)) (by decide +kernel) (by rfl) (by decide +kernel) (by decide +kernel) (by decide +kernel) ?_
  refine W_name nm (.there (.there (.there (.there .here)))) <| W_iter_oct (.inr (.inl (upd_same ..))) fun it2 o2 hf2 ho2 => ?_
  refine ⟨lawNs, fun D => [some (.ref sl), some (.ref b), some (.ref sp), some w, some (.ref oa), some (.ref D), none, none, none, none, none, none, none, none, none, none, none, none, none, none, none, none, none], _, true, [], upd F6 oa (baO (code (.node l0))), U5, it2, o2, octIt oa, (code (.node l0)).length, fun σ => Live X σ oa (baO (code (.node l0))), fun i v => ∃ c t, (code (.node l0))[i]? = some c ∧ v = .int c.toNat t,
    fun i ys σ => σ.F = upd F6 oa (baO (code (.node l0))) ∧ σ.U = U5 ∧ IntsAre ys (octs ((code (.node l0)).take i)), rfl, rfl, hf2.nU, ho2, ⟨rfl, rfl, .nil⟩, ⟨itOk_oct hr.calm, by unfold sizeLine; omega, ?_, ?_⟩, nm, fun D => (.there (.there (.there (.there (.there .here))))), ?_⟩
  · rintro i ys F' U' Cc D o' mm vs' ⟨e1, e2, _⟩
    exact .inr (.inl (by show F' oa = _; have e1 : F' = _ := e1; rw [e1, upd_same]))
  · rintro i ys F' U' Cc D o' mm v ⟨e1, e2, h⟩ hi ⟨c, tc, hc, rfl⟩ hys hit hDU hne
    refine W_name (nm_comp (by decide +kernel) (by decide +kernel)) .here ⟨F', U', .refl _, hit, hDU, rfl, e1, e2, ?_⟩
    have e3 : octs ((code (.node l0)).take i ++ [c]) = octs ((code (.node l0)).take i) ++ [(c.toNat : Int)] := List.map_append ..
    rw [take_succ_some hc, e3]
    exact IntsAre.append h (.cons _ _ .nil)
  rintro na m5 ys5 F' U' ⟨e1, e2, hnI⟩ hnU
  have e1 : F' = _ := e1
  have e2 : U' = U5 := e2
  subst e1 e2
  rw [List.take_length] at hnI
  show WR X _ _ (execs _ env) _
  refine WR_sep fun sep => ?_
  have non : oa ≠ na := fun q => sep na _ _ (upd_same ..) (by rw [← q]; exact upd_same ..)
  clear sep
  refine WR_thaw (a := oa) (upd_same ..) hoa ?_
  show WR X _ ⟨_, era (upd F6 oa _) oa, upd (upd U' na _) oa _⟩ (execs _ env) _
  rw [era_upd noF]
  have hUo : upd (upd U' na (lstO ys5 m5)) oa (baO (code (.node l0))) oa = some (baO (code (.node l0))) := upd_same ..
  have hUn : upd (upd U' na (lstO ys5 m5)) oa (baO (code (.node l0))) na = some (lstO ys5 m5) := by rw [upd_ne non.symm, upd_same]
  generalize upd (upd U' na (lstO ys5 m5)) oa (baO (code (.node l0))) = U6 at hUo hUn ⊢
  clear hnU noU eU hf2 ho2 foa hoa
  -- held = [[decode_lazy(octets), root, 0, [None] * len(root), now]]
  have hRt0 := hRt
  unfold IsN at hRt
  obtain ⟨ra, ks, mk, rfl, hra, hks⟩ := hRt
  have hkl := hks.length
  have hkn := kids_len l0
  refine WR_execs_cons <| W.r <| W_Assign_Name <| W_List <| W_items_cons <| W_List <| W_items_cons <| W_Call_Name <| W_gname (gl B he "decode_lazy" (.ref 106)) rfl rfl <| W_callWith B (by kernel_rfl) <| W_items_cons <| W_name nm (.there (.there (.there (.there .here)))) <| W_items_nil ?_
  refine W.mono (defLazy B (σ := ⟨[_], F6, U6⟩) (lv := true) (l := l0) (hr.le (by omega)) ⟨oa, rfl, .inl hUo⟩ (by omega) hok0) fun w2 σ' ⟨ia, dx, el, F7, U7, ew, (L7 : Le F6 F7), (LU7 : Le U6 U7), e7, ndx, nel, row⟩ => ?_
  subst e7 ew
  refine W_items_cons <| W_name nm (.there (.there (.there .here))) <| W_items_cons <| W_int fun t10 => W_items_cons <| W_BinOp <| W_List <| W_items_cons <| W_none <| W_items_nil ⟨show (1 : Nat) ≤ sizeLine by decide, fun a1 q1 => ?_⟩
  refine W_Call_Name <| W_gname (bl B he "len" (.builtin "len")) rfl rfl <| W_callWith_b <| W_items_cons <| W_name nm (.there (.there (.there .here))) <| W_items_nil <| W_len_list (.inr (.inl (L7 _ _ hra))) (by omega) fun t11 => W_mul_list1 (.inl (upd_same ..)) (by omega) (by omega) fun a2 q2 =>
    W_items_cons <| W_name nm (.there (.there (.there (.there (.there .here))))) <| W_items_nil ⟨show (5 : Nat) ≤ sizeLine by decide, fun a3 q3 => W_items_nil ⟨show (1 : Nat) ≤ sizeLine by decide, fun a4 q4 => W_store nm (.there (.there (.there (.there (.there (.there .here)))))) ?_⟩⟩
  show WR X _ _ (execs _ env) _
  have g1 : ∀ b o, U7 b = some o → b ≠ a1 := fun b o hb => q1.ne hb
  have g2 : ∀ b o, U7 b = some o → b ≠ a2 := fun b o hb => q2.ne ((upd_ne (g1 b o hb)).trans hb)
  have g3 : ∀ b o, U7 b = some o → b ≠ a3 := fun b o hb => q3.ne ((upd_ne (g2 b o hb)).trans ((upd_ne (g1 b o hb)).trans hb))
  have g4 : ∀ b o, U7 b = some o → b ≠ a4 := fun b o hb => q4.ne ((upd_ne (g3 b o hb)).trans ((upd_ne (g2 b o hb)).trans ((upd_ne (g1 b o hb)).trans hb)))
  have n23 : a2 ≠ a3 := q3.ne (upd_same ..)
  have n34 : a3 ≠ a4 := q4.ne (upd_same ..)
  have n24 : a2 ≠ a4 := q4.ne ((upd_ne n23).trans (upd_same ..))
  have gg : ∀ b o x1 x2 x3 x4, U7 b = some o → upd (upd (upd (upd U7 a1 x1) a2 x2) a3 x3) a4 x4 b = some o := fun b o x1 x2 x3 x4 hb => by rw [upd_ne (g4 b o hb), upd_ne (g3 b o hb), upd_ne (g2 b o hb), upd_ne (g1 b o hb)]; exact hb
  have no4 : oa ≠ a4 := g4 _ _ (LU7 _ _ hUo)
  have nn4 : na ≠ a4 := g4 _ _ (LU7 _ _ hUn)
  have nU6 : ∀ b, (∀ o, U7 b = some o → False) → U6 b = none := fun b hb => by
    cases q : U6 b with
    | none => rfl
    | some o => exact (hb o (LU7 _ _ q)).elim
  have hdx7 : ∃ o, U7 dx = some o := let ⟨od, _, _, _, _, _, h, _⟩ := row.dict; ⟨od, h⟩
  have hel7 : ∃ o, U7 el = some o := let ⟨_, h⟩ := row.list; ⟨_, h⟩
  obtain ⟨odx, hdx7⟩ := hdx7
  obtain ⟨oel, hel7⟩ := hel7
  obtain ⟨g, H, G, _, hLs⟩ := (Glob.start (C := ⟨oa, na, .node l0⟩) (F := F7) (U := upd U6 a4 (lstO [] 0)) (hda := a4) (m := m5) (m4 := 0) hok0 (by show (code (.node l0)).length ≤ 100000; omega) (by show depth (.node l0) ≤ 4; omega) ((upd_ne no4).trans hUo) ((upd_ne nn4).trans hUn) hnI (upd_same ..) non no4 nn4).born
    (l0 := l0) (src := .live) (ia := ia) (dx := dx) (el := el) (e' := a3) (s' := a2) (nd := .ref ra) (tk2 := t10) (m2 := 0) (m3 := 0) (m4 := 0) (U' := upd (upd (upd (upd U7 a1 (lstO [.none] 0)) a2 (lstO (List.replicate ((ks.length : Nat) : Int).toNat .none) 0)) a3 (lstO [.ref ia, .ref ra, .int 0 t10, .ref a2, .ref na] 0)) a4 (lstO [.ref a3] 0))
    rfl (row.stay (.refl _) (fun o h => gg _ _ _ _ _ _ h) (fun o h => gg _ _ _ _ _ _ h)) trivial (hRt0.le L7) (by decide) ((upd_ne (g4 _ _ hdx7)).trans ndx) ((upd_ne (g4 _ _ hel7)).trans nel)
    ((upd_ne n34).trans (nU6 _ fun o h => g3 _ _ h rfl)) ((upd_ne n24).trans (nU6 _ fun o h => g2 _ _ h rfl)) n23.symm (g3 _ _ hdx7).symm (g3 _ _ hel7).symm (g2 _ _ hdx7).symm (g2 _ _ hel7).symm
    ((upd_ne n34).trans (upd_same ..)) ((upd_ne n24).trans ((upd_ne n23).trans (by rw [upd_same, ← hkl]; rfl))) (upd_same ..) (fun b o hb ho => gg _ _ _ _ _ _ (LU7 _ _ ((upd_ne hb).symm.trans ho)))
  have hH1 : H.length = 1 := by have := congrArg List.length hLs; rw [Ls_length] at this; simpa [Ls] using this
  generalize upd (upd (upd (upd U7 a1 (lstO [.none] 0)) a2 (lstO (List.replicate ((ks.length : Nat) : Int).toNat .none) 0)) a3 (lstO [.ref ia, .ref ra, .int 0 t10, .ref a2, .ref na] 0)) a4 (lstO [.ref a3] 0) = U8 at G ⊢
  clear g1 g2 g3 g4 gg nU6 q1 q2 q3 q4
  -- keep = []
  refine WR_execs_cons <| W.r <| W_Assign_Name <| W_List <| W_items_nil ⟨show (0 : Nat) ≤ sizeLine by decide, fun kpa fkp => W_store nm (.there (.there (.there (.there (.there (.there (.there .here))))))) ?_⟩
  show WR X _ _ (execs _ env) _
  have G := G.kp (.inl (G.tag_none fkp.nU)) (lstO [] 0)
  have gkp : put g kpa .kp kpa = some .kp := put_same ..
  have hUk : upd U8 kpa (lstO [] 0) kpa = some (lstO [] 0) := upd_same ..
  generalize put g kpa .kp = g at G gkp
  generalize upd U8 kpa (lstO [] 0) = U9 at G hUk ⊢
  clear fkp
  -- for n in script[:14] + [5, 6144]
  refine WR_execs_cons <| WR_For <| W_BinOp <| W_Subscript <| W_name nm .here <| W_Slice <| W_part_none <| W_part <| W_int fun t12 => fun sa2 F8 L8 hsa2 => W_slice_gnd (us := vs.take 14) hsl (.inr (.inl hsa2)) (by constructor) (by constructor) (by unfold sizeLine; omega) (pick_take vs 14) fun lb flb => ?_
  refine W_List <| W_items_cons <| W_int fun t13 => W_items_cons <| W_int fun t14 => W_items_nil ⟨show (2 : Nat) ≤ sizeLine by decide, fun lc flc => W_add_list (.inl ((upd_ne (flc.ne (upd_same ..))).trans (upd_same ..))) (.inl (upd_same ..)) (by simp; unfold sizeLine; omega) fun li fli => ?_⟩
  refine W_frz (a := li) (upd_same ..) fun nF => W_iter_list (.inr (.inl (upd_same ..))) fun it o hf ho => ?_
  have hIt : IntsAre (vs.take 14 ++ [Value.int 5 t13, Value.int 6144 t14]) (ns.take 14 ++ [5, 6144]) := IntsAre.append (hI.take 14) (.cons _ _ (.cons _ _ .nil))
  have hlit : (vs.take 14 ++ [Value.int 5 t13, Value.int 6144 t14]).length ≤ 16 := by simp; omega
  have LF8 : Le F7 (upd F8 li (lstO (vs.take 14 ++ [.int 5 t13, .int 6144 t14]) 0)) := L8.trans (le_upd nF)
  have hli : upd F8 li (lstO (vs.take 14 ++ [.int 5 t13, .int 6144 t14]) 0) li = some (lstO (vs.take 14 ++ [.int 5 t13, .int 6144 t14]) 0) := upd_same ..
  have LU : Le U9 (era (upd (upd (upd U9 lb (lstO (vs.take 14) 0)) lc (lstO [Value.int 5 t13, Value.int 6144 t14] 0)) li (lstO (vs.take 14 ++ [Value.int 5 t13, Value.int 6144 t14]) 0)) li) := fun b o hb => by
    have b1 := flb.ne hb
    have b2 := flc.ne ((upd_ne b1).trans hb)
    have b3 := fli.ne ((upd_ne b2).trans ((upd_ne b1).trans hb))
    show (if b = li then none else _) = _
    rw [if_neg b3, upd_ne b3, upd_ne b2, upd_ne b1]; exact hb
  have nit := hf.nU
  dsimp only at nit
  have hf2 : ∀ b o, U9 b = some o → b ≠ it := fun b o hb => hf.ne (LU _ _ hb)
  clear hf
  generalize era (upd (upd (upd U9 lb (lstO (vs.take 14) 0)) lc (lstO [Value.int 5 t13, Value.int 6144 t14] 0)) li (lstO (vs.take 14 ++ [Value.int 5 t13, Value.int 6144 t14]) 0)) li = U10 at LU nit ⊢
  generalize vs.take 14 ++ [Value.int 5 t13, Value.int 6144 t14] = wl at hIt hlit LF8 hli ⊢
  generalize upd F8 li (lstO wl 0) = F9 at LF8 hli ⊢
  have G := (G.grow LF8 LU)
  have G := G.kp (.inl (G.tag_none nit)) o
  have nik : it ≠ kpa := (hf2 _ _ hUk).symm
  have gkp : put g it .kp kpa = some .kp := (put_ne nik.symm).trans gkp
  have hUk : upd U10 it o kpa = some (lstO [] 0) := (upd_ne nik.symm).trans (LU _ _ hUk)
  have hspF := LF8 _ _ (L7 _ _ hspF)
  have hRt0 := hRt0.le (L7.trans LF8)
  have hra := LF8 _ _ (L7 _ _ hra)
  refine ⟨it, lstIt li, wl.length, fun σ => Live X σ li (lstO wl 0), fun i v => wl[i]? = some v, LI ⟨oa, na, .node l0⟩ env (lstIt li) it kpa a4 [some (.ref sl), some (.ref b), some (.ref sp), some (.ref ra), some (.ref oa), some (.ref na), some (.ref a4), some (.ref kpa), none, none, none, none, none, none, none, none, none, none, none, none, none, none, none] F9,
    rfl, itOk_list hr.calm, ⟨[some (.ref sl), some (.ref b), some (.ref sp), some (.ref ra), some (.ref oa), some (.ref na), some (.ref a4), some (.ref kpa), none, none, none, none, none, none, none, none, none, none, none, none, none, none, none], F9, upd U10 it o, put g it .kp, .node l0, H, [], 0, o, ⟨.inr rfl, .inr rfl, .inr rfl, .inr rfl, .inr rfl, .inr rfl, .inr rfl, .inr rfl, .inl rfl, .inl rfl, .inl rfl, .inl rfl, .inl rfl, .inl rfl, .inl rfl, .inl rfl, .inl rfl, .inl rfl, .inl rfl, .inl rfl, .inl rfl, .inl rfl, .inl rfl, trivial⟩, rfl, .refl _, G, put_same .., upd_same .., ho, gkp, nik, hUk, fun v hv => (nomatch hv), Nat.le_refl _, by omega, by omega⟩, ?_, ?_, ?_⟩
  · rintro i σ ⟨vs1, F, U, g, t, H, kvs, mkk, o1, hW, rfl, LF, G, git, hit, hio, _⟩
    exact ⟨⟨o1, hit, hio⟩, .inr (.inl (LF _ _ hli))⟩
  · clear G gkp hUk ho LU nit hf2
    rintro i σ o' v ⟨vs1, F, U, g, t, H, kvs, mkk, o1, hW, rfl, LF, G, git, hit, hio, gkp, nik, hUk, hK, hkl2, hH0, hHl⟩ hi hv ho'
    obtain ⟨nn, tn, rfl⟩ := intsVal hIt hv
    show W X _ ⟨[⟨env, lawNs, vs1, true⟩], F, upd U it o'⟩ _ _
    refine W_weaken hW ?_
    refine W_assign_Name nm (.there (.there (.there (.there (.there (.there (.there (.there .here)))))))) ?_
    have G := G.kp' git o'
    have hit : upd U it o' it = some o' := upd_same ..
    have hUk : upd U it o' kpa = some (lstO kvs mkk) := (upd_ne nik.symm).trans hUk
    generalize upd U it o' = U at G hit hUk ⊢
    show WR X _ _ (execs _ env) _
    have hHs : H.length ≤ 17 := by omega
    obtain ⟨hh, ehh, hhl⟩ := fmod_lt (nn.fdiv 6) (k := H.length) hH0
    obtain ⟨kk, ekk, hkk⟩ := fmod_lt nn (k := 6) (by omega)
    have ekk : nn.fmod 6 = (kk : Int) := ekk
    obtain ⟨mh, hHd⟩ := G.hld
    refine WR_execs_cons <| W.r <| W_Assign_Name <| W_BinOp <| W_BinOp <| W_name nm (.there (.there (.there (.there (.there (.there (.there (.there .here)))))))) <| W_int fun u1 => W_floordiv_small (by decide) (PyProof.noPylong_small (by decide)) fun u2 => W_Call_Name <| W_gname (bl B he "len" (.builtin "len")) rfl rfl <| W_callWith_b <| W_items_cons <| W_name nm (.there (.there (.there (.there (.there (.there .here)))))) <| W_items_nil <|
      W_len_list (.inl hHd) (by simp; omega) fun u3 => W_mod (by rw [List.length_map]; omega) fun u4 => ?_
    rw [List.length_map, ehh]
    refine W_store nm (.there (.there (.there (.there (.there (.there (.there (.there (.there .here))))))))) ?_
    show WR X _ _ (execs _ env) _
    obtain ⟨E, hE⟩ : ∃ E, H[hh]? = some E := ⟨_, List.getElem?_eq_getElem hhl⟩
    obtain ⟨lc', o0, pre, post, V⟩ := G.view X hE
    obtain ⟨x, hcnt⟩ := G.ent _ _ hE
    have xl := x.relc lc' hcnt
    obtain ⟨te, me, hEn⟩ := x.ent
    obtain ⟨ea, eks, emk, hnd, hea, hekl⟩ := x.kids
    have hell := x.ell
    have hfew := V.few
    obtain ⟨od, as1, as2, as3, as4, as5, hD, hA⟩ := x.row.dict
    have ned := tag_ne x.te x.td (by simp)
    have nel2 := tag_ne x.te x.tl (by simp)
    refine WR_execs_cons <| W.r <| W_Assign_Name <| W_Subscript <| W_name nm (.there (.there (.there (.there (.there (.there .here)))))) <| W_name nm (.there (.there (.there (.there (.there (.there (.there (.there (.there .here))))))))) <| W_item_list (x := .ref E.e) (.inl hHd) (by omega) (by omega) (by rw [show ((hh : Nat) : Int).toNat = hh by omega]; exact ents_get hE) <| W_store nm (.there (.there (.there (.there (.there (.there (.there (.there (.there (.there .here)))))))))) ?_
    refine WR_execs_cons <| W.r <| W_Assign_Name <| W_BinOp <| W_name nm (.there (.there (.there (.there (.there (.there (.there (.there .here)))))))) <| W_int fun u5 => W_mod (by decide) fun u6 => ?_
    rw [ekk]
    refine W_store nm (.there (.there (.there (.there (.there (.there (.there (.there (.there (.there (.there .here))))))))))) ?_
    show WR X _ _ (execs _ env) _
    have hfin : ∀ (vs2 : List (Option Value)) (F2 U2 : Mp) (g2 : Tag) (t2 : T) (H2 : List En) (kvs2 : List Value) (mk2 : Nat), Weaker vs2 [some (.ref sl), some (.ref b), some (.ref sp), some (.ref ra), some (.ref oa), some (.ref na), some (.ref a4), some (.ref kpa), none, none, none, none, none, none, none, none, none, none, none, none, none, none, none] →
        Le F F2 → Glob ⟨oa, na, .node l0⟩ F2 U2 g2 t2 a4 H2 → g2 it = some .kp → U2 it = some o' → g2 kpa = some .kp → U2 kpa = some (lstO kvs2 mk2) → Kept F2 kvs2 → kvs2.length ≤ i + 1 → H.length ≤ H2.length → H2.length ≤ H.length + 1 →
        LI ⟨oa, na, .node l0⟩ env (lstIt li) it kpa a4 [some (.ref sl), some (.ref b), some (.ref sp), some (.ref ra), some (.ref oa), some (.ref na), some (.ref a4), some (.ref kpa), none, none, none, none, none, none, none, none, none, none, none, none, none, none, none] F9 (i + 1) ⟨[⟨env, lawNs, vs2, true⟩], F2, U2⟩ :=
      fun vs2 F2 U2 g2 t2 H2 kvs2 mk2 h1 h2 h3 h4 h5 h6 h7 h8 h9 h10 h11 => ⟨vs2, F2, U2, g2, t2, H2, kvs2, mk2, o', h1, rfl, LF.trans h2, h3, h4, h5, ho', h6, nik, h7, h8, h9, by omega, by omega⟩
    have hfinK : ∀ (vs2 : List (Option Value)) (F2 U2 : Mp) (g2 : Tag) (t2 : T) (H2 : List En), Weaker vs2 [some (.ref sl), some (.ref b), some (.ref sp), some (.ref ra), some (.ref oa), some (.ref na), some (.ref a4), some (.ref kpa), none, none, none, none, none, none, none, none, none, none, none, none, none, none, none] →
        Le F F2 → Glob ⟨oa, na, .node l0⟩ F2 U2 g2 t2 a4 H2 → KpStay g g2 U U2 → H.length ≤ H2.length → H2.length ≤ H.length + 1 →
        LI ⟨oa, na, .node l0⟩ env (lstIt li) it kpa a4 [some (.ref sl), some (.ref b), some (.ref sp), some (.ref ra), some (.ref oa), some (.ref na), some (.ref a4), some (.ref kpa), none, none, none, none, none, none, none, none, none, none, none, none, none, none, none] F9 (i + 1) ⟨[⟨env, lawNs, vs2, true⟩], F2, U2⟩ :=
      fun vs2 F2 U2 g2 t2 H2 h1 h2 h3 k h10 h11 => hfin vs2 F2 U2 g2 t2 H2 kvs mkk h1 h2 h3 (k _ _ git hit).1 (k _ _ git hit).2 (k _ _ gkp hUk).1 (k _ _ gkp hUk).2 (hK.le h2) (by omega) h10 h11
    -- the kinds
    refine WR_execs_cons <| WR_If <| W_isTrue_Compare <| W_name nm (.there (.there (.there (.there (.there (.there (.there (.there (.there (.there (.there .here))))))))))) <| W_int fun u7 => W_eq <| W_truthy_bool ?_
    by_cases h0 : kk = 0
    · rw [if_pos (by simp [h0])]
      have hsl2 : ss.length = (spots (.node l0) 0).length := by have := hSp.length; simpa using this
      have hsz2 := spots_len (.node l0) 0
      have hsp0 : 0 < ss.length := by rw [hsl2]; show 0 < (spotss l0 _).length; rw [Nat.zero_add]; exact hspos
      have hspF := LF _ _ hspF
      have hcz : (code t).length = (code (.node l0)).length := code_len G.shp
      obtain ⟨pi, epi, hpi⟩ := fmod_lt (nn.fdiv 6) (k := ss.length) hsp0
      obtain ⟨vv, evv, hvv⟩ := fmod_lt (nn.fdiv 1024) (k := 256) (by omega)
      have evv : (nn.fdiv 1024).fmod 256 = (vv : Int) := evv
      have hpm : (spots (.node l0) 0)[pi]? = some (spots (.node l0) 0)[pi] := List.getElem?_eq_getElem (by omega)
      obtain ⟨tp, htp⟩ := intsAt hSp (i := pi) (k := (((spots (.node l0) 0)[pi] : Nat) : Int)) (by rw [List.nil_append, List.getElem?_map, hpm]; rfl)
      have hmem0 : (spots (.node l0) 0)[pi] ∈ spots (.node l0) 0 := List.getElem_mem _
      generalize (spots (.node l0) 0)[pi] = p0 at htp hmem0
      have hpr := spots_ge _ _ _ hmem0
      have hmem : p0 ∈ spots t 0 := by
        have e : spots t 0 = spots (.node l0) 0 := by rw [← spots_skel t, G.shp, spots_skel]
        rw [e]; exact hmem0
      obtain ⟨t', ht', hct⟩ := store t 0 p0 (UInt8.ofNat vv) hmem
      rw [Nat.sub_zero] at hct
      obtain ⟨vn, mn, hUn, hIn⟩ := G.now
      have hvnl : vn.length = (code t).length := by have := hIn.length; simpa using this
      refine WR_execs_cons <| W.r <| W_Assign_Name <| W_Subscript <| W_name nm (.there (.there .here)) <| W_BinOp <| W_BinOp <| W_name nm (.there (.there (.there (.there (.there (.there (.there (.there .here)))))))) <| W_int fun u1 => W_floordiv_small (by decide) (PyProof.noPylong_small (by decide)) fun u2 => W_Call_Name <| W_gname (bl B he "len" (.builtin "len")) rfl rfl <| W_callWith_b <| W_items_cons <| W_name nm (.there (.there .here)) <| W_items_nil <|
        W_len_list (.inr (.inl hspF)) (by omega) fun u3 => W_mod (by omega) fun u4 => ?_
      rw [epi]
      refine W_item_list (x := .int (p0 : Nat) tp) (.inr (.inl hspF)) (by omega) (by omega) (by rw [show ((pi : Nat) : Int).toNat = pi by omega]; exact htp) <| W_store nm (.there (.there (.there (.there (.there (.there (.there (.there (.there (.there (.there (.there .here)))))))))))) ?_
      show WR X _ _ (execs _ env) _
      refine WR_execs_cons <| W.r <| W_Assign_Subscript <| W_BinOp <| W_BinOp <| W_name nm (.there (.there (.there (.there (.there (.there (.there (.there .here)))))))) <| W_int fun u1 => W_floordiv_small (by decide) (PyProof.noPylong_small (by decide)) fun u2 => W_int fun u3 => W_mod (by decide) fun u4 => ?_
      rw [evv]
      refine W_name nm (.there (.there (.there (.there .here)))) <| W_name nm (.there (.there (.there (.there (.there (.there (.there (.there (.there (.there (.there (.there .here)))))))))))) <| W_set_oct G.oct (by omega) (by omega) (by omega) (by omega) (by omega) (by unfold sizeLine; omega) ?_
      have e0 : (code t).set ((p0 : Nat) : Int).toNat ((vv : Nat) : Int).toNat.toUInt8 = code t' := hct.symm
      rw [e0]
      have nonn : oa ≠ na := tag_ne G.toc G.tnw (by simp)
      refine WR_execs_cons <| W.r <| W_Assign_Subscript <| W_BinOp <| W_BinOp <| W_name nm (.there (.there (.there (.there (.there (.there (.there (.there .here)))))))) <| W_int fun u1 => W_floordiv_small (by decide) (PyProof.noPylong_small (by decide)) fun u2 => W_int fun u3 => W_mod (by decide) fun u9 => ?_
      rw [evv]
      refine W_name nm (.there (.there (.there (.there (.there .here))))) <| W_name nm (.there (.there (.there (.there (.there (.there (.there (.there (.there (.there (.there (.there .here)))))))))))) <| W_setItem_list (vs := vn) (n := mn) ((upd_ne nonn.symm).trans hUn) (by omega) (by omega) (by omega) ?_
      have hIn2 : IntsAre (vn.set ((p0 : Nat) : Int).toNat (.int (vv : Nat) u9)) (octs (code t')) := by
        have h := intsSet (k := ((vv : Nat) : Int)) (t := u9) hIn p0
        have e2 : octs (code t') = (octs (code t)).set p0 ((vv : Nat) : Int) := by
          rw [hct]
          show List.map _ _ = _
          rw [List.map_set, ofNat_toNat hvv]
        rw [e2]; exact h
      have G2 := G.store (vs := vn.set ((p0 : Nat) : Int).toNat (.int (vv : Nat) u9)) (m := mn) ht' hIn2
      refine WR_execs_nil <| WR_execs_nil <| hfinK _ _ _ _ _ _ ⟨.inr rfl, .inr rfl, .inr rfl, .inr rfl, .inr rfl, .inr rfl, .inr rfl, .inr rfl, .inl rfl, .inl rfl, .inl rfl, .inl rfl, .inl rfl, .inl rfl, .inl rfl, .inl rfl, .inl rfl, .inl rfl, .inl rfl, .inl rfl, .inl rfl, .inl rfl, .inl rfl, trivial⟩ (.refl _) G2 (fun a ob ha ho => ⟨ha, ?_⟩) (Nat.le_refl _) (by omega)
      exact (upd_ne (tag_ne ha G.tnw (by simp))).trans ((upd_ne (tag_ne ha G.toc (by simp))).trans ho)
    rw [if_neg (by simp; omega)]
    refine WR_execs_cons <| WR_If <| W_isTrue_Compare <| W_name nm (.there (.there (.there (.there (.there (.there (.there (.there (.there (.there (.there .here))))))))))) <| W_int fun u8 => W_eq <| W_truthy_bool ?_
    by_cases h1 : kk = 1
    · rw [if_pos (by simp [h1])]
      refine WR_execs_cons <| WR_If <| W_isTrue_Not <| W_isTrue_val <| W_Call_Name <| W_gname (gl B he "_law_place" (.ref 229)) rfl rfl <| W_callWith B (by kernel_rfl) <| W_items_cons <| W_name nm (.there (.there (.there (.there (.there (.there .here)))))) <| W_items_cons <| W_name nm (.there (.there (.there (.there (.there (.there (.there (.there (.there .here))))))))) <| W_items_cons <| W_BinOp <| W_BinOp <| W_name nm (.there (.there (.there (.there (.there (.there (.there (.there .here)))))))) <|
        W_int fun u1 => W_floordiv_small (by decide) (PyProof.noPylong_small (by decide)) fun u2 => W_BinOp <| W_Call_Name <| W_gname (bl B he "len" (.builtin "len")) rfl rfl <| W_callWith_b <| W_items_cons <| W_Subscript <| W_name nm (.there (.there (.there (.there (.there (.there (.there (.there (.there (.there .here)))))))))) <| W_int fun u3 => W_item_list (k := 1) (.inl hEn) (by decide) (by decide) rfl ?_
      rw [hnd]
      refine W_items_nil <| W_len_list (.inr (.inl hea)) (by omega) fun u3 => W_int fun u4 => W_add fun u5 => W_mod (by omega) fun u6 => ?_
      obtain ⟨kp, ekp, hkp⟩ := fmod_lt (nn.fdiv 64) (k := eks.length + 2) (by omega)
      rw [show ((eks.length : Nat) : Int) + 2 = ((eks.length + 2 : Nat) : Int) by omega, ekp]
      refine W_items_cons <| W_name nm (.there (.there (.there (.there (.there .here))))) <| W_items_nil ?_
      refine W.mono (c_place B (fr := [_]) (hr.le (by omega)) (hl' _) G hE (by omega) (by omega)) fun v σ' ⟨ev, F2, U2, g2, H2, e2, L2, G2, kp2, gr, _⟩ => ?_
      subst ev e2
      refine W_truthy_bool ?_
      rw [if_neg (by simp)]
      exact WR_execs_nil <| WR_execs_nil <| WR_execs_nil <| WR_execs_nil <| hfinK _ _ _ _ _ _ ⟨.inr rfl, .inr rfl, .inr rfl, .inr rfl, .inr rfl, .inr rfl, .inr rfl, .inr rfl, .inl rfl, .inl rfl, .inl rfl, .inl rfl, .inl rfl, .inl rfl, .inl rfl, .inl rfl, .inl rfl, .inl rfl, .inl rfl, .inl rfl, .inl rfl, .inl rfl, .inl rfl, trivial⟩ L2 G2 kp2 gr.len.1 gr.len.2
    rw [if_neg (by simp; omega)]
    refine WR_execs_cons <| WR_If <| W_isTrue_Compare <| W_name nm (.there (.there (.there (.there (.there (.there (.there (.there (.there (.there (.there .here))))))))))) <| W_int fun u9 => W_eq <| W_truthy_bool ?_
    by_cases h2 : kk = 2
    · rw [if_pos (by simp [h2])]
      refine WR_execs_cons <| W.r <| W_Assign_Name <| W_Subscript <| W_name nm (.there (.there (.there (.there (.there (.there (.there (.there (.there (.there .here)))))))))) <| W_int fun u1 => W_item_list (k := 2) (.inl hEn) (by decide) (by decide) rfl <| W_store nm (.there (.there (.there (.there (.there (.there (.there (.there (.there (.there (.there (.there (.there .here))))))))))))) ?_
      refine WR_execs_cons <| W.r <| W_of_WE fun E0 => WE_Try (T := "StopIteration") (c := (· = .none)) hl' (bl B he "StopIteration" (.type "StopIteration")) SI.base SI.notTuple SI.self ?_
      refine WE_execs_cons <| WE_Assign_Name <| WE_CallM B (C := 152) (f := 135) <| W_Subscript <| W_name nm (.there (.there (.there (.there (.there (.there (.there (.there (.there (.there .here)))))))))) <| W_int fun u2 => W_item_list (k := 0) (x := .ref E.ia) (.inl hEn) (by decide) (by decide) rfl ⟨E.ia, E.dx, od, _, rfl, .ofF x.row.inst, .ofU hD, hA, rfl, ?_⟩
      by_cases hlt : E.els.length < E.l.length
      · refine (W.mono (c_nextL B (fr := [_]) (hr.le (by omega)) G.tu xl V hlt) fun w σ' ⟨F1, U1, g1, e1, L1, tu1, k1, fr1, x1⟩ => ?_).e
        subst e1
        have hEn1 : U1 E.e = some (lstO [.ref E.ia, E.nd, .int (E.cnt : Nat) te, .ref E.s, scOf _ E.src] me) := fr1 _ _ ned nel2 hEn
        refine W_store nm (.there (.there (.there (.there (.there (.there (.there (.there (.there (.there (.there (.there (.there (.there .here)))))))))))))) ?_
        show WE _ _ _ (execs _ env) _ _
        refine WE_execs_cons <| W.e <| W_Assign_Name <| W_bool <| W_store nm (.there (.there (.there (.there (.there (.there (.there (.there (.there (.there (.there (.there (.there (.there (.there .here))))))))))))))) ?_
        show WE _ _ _ (execs [] env) _ _
        refine WE_execs_nil ?_
        show WE _ _ _ (execs [] env) _ _
        refine WE_execs_nil ?_
        show WR X _ _ (execs _ env) _
        refine WR_execs_cons <| WR_If <| W_isTrue_Compare <| W_name nm (.there (.there (.there (.there (.there (.there (.there (.there (.there (.there (.there (.there (.there (.there (.there .here))))))))))))))) <| W_Compare <| W_name nm (.there (.there (.there (.there (.there (.there (.there (.there (.there (.there (.there (.there (.there .here))))))))))))) <| W_Call_Name <| W_gname (bl B he "len" (.builtin "len")) rfl rfl <| W_callWith_b <| W_items_cons <| W_Subscript <| W_name nm (.there (.there (.there (.there (.there (.there (.there (.there (.there (.there .here)))))))))) <| W_int fun u3 => W_item_list (k := 1) (.inl hEn1) (by decide) (by decide) rfl ?_
        rw [hnd]
        refine W_items_nil <| W_len_list (.inr (.inl (L1 _ _ hea))) (by omega) fun u3 => W_lt <| W_ne_bool <| W_truthy_bool ?_
        rw [if_neg (by simp; omega)]
        refine WR_execs_nil <| WR_execs_cons <| WR_If <| W_isTrue_val <| W_name nm (.there (.there (.there (.there (.there (.there (.there (.there (.there (.there (.there (.there (.there (.there (.there .here))))))))))))))) <| W_truthy_bool ?_
        rw [if_pos rfl]
        refine WR_execs_cons <| W.r <| W_Expr (hi := inter he) <| W_Call_Name <| W_gname (gl B he "_law_pull" (.ref 215)) rfl rfl <| W_callWith B (by kernel_rfl) <| W_items_cons <| W_name nm (.there (.there (.there (.there (.there (.there (.there (.there (.there (.there .here)))))))))) <| W_items_cons <| W_BinOp <| W_name nm (.there (.there (.there (.there (.there (.there (.there (.there (.there (.there (.there (.there (.there .here))))))))))))) <| W_int fun u4 => W_add fun u5 => W_items_nil ?_
        rw [show ((E.cnt : Nat) : Int) + 1 = ((E.cnt + 1 : Nat) : Int) by omega]
        refine W.mono (c_pullG B (fr := [_]) (els' := E.els ++ [w]) (lv' := E.lv) (upn := E.cnt + 1) (hr.le (by omega)) G hE V L1 tu1 k1 fr1 x1 (by simp; omega)) fun w2 σ2 ⟨F2, U2, E2, ew2, e2, L2, G2, kp2, q1, q2, q3⟩ => ?_
        subst e2
        have hlen2 : (H.set hh E2).length = H.length := List.length_set ..
        refine WR_execs_cons <| WR_If <| W_isTrue_Not <| W_isTrue_val <| W_Call_Name <| W_gname (gl B he "_law_told" (.ref 222)) rfl rfl <| W_callWith B (by kernel_rfl) <| W_items_cons <| W_name nm (.there (.there (.there (.there (.there (.there .here)))))) <| W_items_cons <| W_name nm (.there (.there (.there (.there (.there (.there (.there (.there (.there .here))))))))) <| W_items_cons <| W_name nm (.there (.there (.there (.there (.there (.there (.there (.there (.there (.there (.there (.there (.there .here))))))))))))) <| W_items_cons <| W_name nm (.there (.there (.there (.there (.there (.there (.there (.there (.there (.there (.there (.there (.there (.there .here)))))))))))))) <| W_items_cons <| W_name nm (.there (.there (.there (.there (.there .here))))) <| W_items_nil ?_
        refine W.mono (c_told B (fr := [_]) (j := E.cnt) (hr.le (by omega)) G2 (set_get hE) (by rw [q2, hcnt]; simp) (by rw [hlen2]; omega) (by rw [q1]; exact hfew)) fun v σ3 ⟨ev, U3, g3, H3, e3, G3, kp3, gr, _⟩ => ?_
        subst ev e3
        refine W_truthy_bool ?_
        rw [if_neg (by simp)]
        have g1 := gr.len
        rw [hlen2] at g1
        exact WR_execs_nil <| WR_execs_nil <| WR_execs_nil <| WR_execs_nil <| WR_execs_nil <| WR_execs_nil <| hfinK _ _ _ _ _ _ ⟨.inr rfl, .inr rfl, .inr rfl, .inr rfl, .inr rfl, .inr rfl, .inr rfl, .inr rfl, .inl rfl, .inl rfl, .inl rfl, .inl rfl, .inl rfl, .inl rfl, .inl rfl, .inl rfl, .inl rfl, .inl rfl, .inl rfl, .inl rfl, .inl rfl, .inl rfl, .inl rfl, trivial⟩ L2 G3 (kp2.trans kp3) g1.1 g1.2
      · refine (c_nextS B (fr := [_]) (hr.le (by omega)) (hl' _) G.tu xl V (by omega)).monoE fun v s h => h.mono fun σ' ⟨U1, lv1, e1, tu1, fr1, x1⟩ => ?_
        subst e1
        refine ⟨_, rfl, fun e oe ws L hd hx => ?_⟩
        have hEn1 : U1 E.e = some (lstO [.ref E.ia, E.nd, .int (E.cnt : Nat) te, .ref E.s, scOf _ E.src] me) := fr1 _ _ ned nel2 hEn
        obtain ⟨G2, kp2⟩ := G.upd hE (.refl _) tu1 (fun _ _ h => h) (fun a ob n1 n2 n3 n4 ho => fr1 a ob n3 n4 ho) x1 hcnt rfl rfl
        have G2 := G2.grow L (.refl _)
        refine WE_execs_cons <| W.e <| W_Assign_Name <| W_bool <| W_store nm (.there (.there (.there (.there (.there (.there (.there (.there (.there (.there (.there (.there (.there (.there (.there .here))))))))))))))) ?_
        show WE _ _ _ (execs [] env) _ _
        refine WE_execs_nil ?_
        show WR X _ _ (execs _ env) _
        refine WR_execs_cons <| WR_If <| W_isTrue_Compare <| W_name nm (.there (.there (.there (.there (.there (.there (.there (.there (.there (.there (.there (.there (.there (.there (.there .here))))))))))))))) <| W_Compare <| W_name nm (.there (.there (.there (.there (.there (.there (.there (.there (.there (.there (.there (.there (.there .here))))))))))))) <| W_Call_Name <| W_gname (bl B he "len" (.builtin "len")) rfl rfl <| W_callWith_b <| W_items_cons <| W_Subscript <| W_name nm (.there (.there (.there (.there (.there (.there (.there (.there (.there (.there .here)))))))))) <| W_int fun u3 => W_item_list (k := 1) (.inl hEn1) (by decide) (by decide) rfl ?_
        rw [hnd]
        refine W_items_nil <| W_len_list (.inr (.inl (L _ _ hea))) (by omega) fun u3 => W_lt <| W_ne_bool <| W_truthy_bool ?_
        rw [if_neg (by simp; omega)]
        refine WR_execs_nil <| WR_execs_cons <| WR_If <| W_isTrue_val <| W_name nm (.there (.there (.there (.there (.there (.there (.there (.there (.there (.there (.there (.there (.there (.there (.there .here))))))))))))))) <| W_truthy_bool ?_
        rw [if_neg (by simp)]
        exact WR_execs_nil <| WR_execs_nil <| WR_execs_nil <| WR_execs_nil <| WR_execs_nil <| hfinK _ _ _ _ _ _ ⟨.inr rfl, .inr rfl, .inr rfl, .inr rfl, .inr rfl, .inr rfl, .inr rfl, .inr rfl, .inl rfl, .inl rfl, .inl rfl, .inl rfl, .inl rfl, .inl rfl, .inl rfl, .inl rfl, .inl rfl, .inl rfl, .inl rfl, .inl rfl, .inl rfl, .inl rfl, .inl rfl, trivial⟩ L G2 kp2 (by rw [List.length_set]; exact Nat.le_refl _) (by rw [List.length_set]; omega)
    rw [if_neg (by simp; omega)]
    refine WR_execs_cons <| WR_If <| W_isTrue_Compare <| W_name nm (.there (.there (.there (.there (.there (.there (.there (.there (.there (.there (.there .here))))))))))) <| W_int fun u10 => W_eq <| W_truthy_bool ?_
    by_cases h3 : kk = 3
    · rw [if_pos (by simp [h3])]
      refine WR_execs_cons <| WR_If <| W_isTrue_Compare <| W_Call_Name <| W_gname (bl B he "len" (.builtin "len")) rfl rfl <| W_callWith_b <| W_items_cons <| W_Subscript <| W_name nm (.there (.there (.there (.there (.there (.there (.there (.there (.there (.there .here)))))))))) <| W_int fun u1 => W_item_list (k := 0) (x := .ref E.ia) (.inl hEn) (by decide) (by decide) rfl <| W_items_nil ?_
      refine W.mono (c_lenL B (fr := [_]) (hr.le (by omega)) (hl' _) G.tu xl V) fun w σ' ⟨F1, U1, g1, els', lv', t5, ew, e1, L1, tu1, k1, fr1, x1, hel, _⟩ => ?_
      subst ew e1
      have hEn1 : U1 E.e = some (lstO [.ref E.ia, E.nd, .int (E.cnt : Nat) te, .ref E.s, scOf _ E.src] me) := fr1 _ _ ned nel2 hEn
      refine W_Call_Name <| W_gname (bl B he "len" (.builtin "len")) rfl rfl <| W_callWith_b <| W_items_cons <| W_Subscript <| W_name nm (.there (.there (.there (.there (.there (.there (.there (.there (.there (.there .here)))))))))) <| W_int fun u3 => W_item_list (k := 1) (.inl hEn1) (by decide) (by decide) rfl ?_
      rw [hnd]
      refine W_items_nil <| W_len_list (.inr (.inl (L1 _ _ hea))) (by omega) fun u3 => W_ne <| W_truthy_bool ?_
      rw [if_neg (by simp; omega)]
      refine WR_execs_nil <| WR_execs_cons <| W.r <| W_Expr (hi := inter he) <| W_Call_Name <| W_gname (gl B he "_law_pull" (.ref 215)) rfl rfl <| W_callWith B (by kernel_rfl) <| W_items_cons <| W_name nm (.there (.there (.there (.there (.there (.there (.there (.there (.there (.there .here)))))))))) <| W_items_cons <| W_Call_Name <| W_gname (bl B he "len" (.builtin "len")) rfl rfl <| W_callWith_b <| W_items_cons <|
        W_Subscript <| W_name nm (.there (.there (.there (.there (.there (.there (.there (.there (.there (.there .here)))))))))) <| W_int fun u4 => W_item_list (k := 1) (.inl hEn1) (by decide) (by decide) rfl ?_
      rw [hnd]
      refine W_items_nil <| W_len_list (.inr (.inl (L1 _ _ hea))) (by omega) fun u5 => W_items_nil ?_
      refine W.mono (c_pullG B (fr := [_]) (els' := els') (lv' := lv') (upn := eks.length) (hr.le (by omega)) G hE V L1 tu1 k1 fr1 x1 (by omega)) fun w2 σ2 ⟨F2, U2, E2, ew2, e2, L2, G2, kp2, q1, q2, q3⟩ => ?_
      subst e2
      exact WR_execs_nil <| WR_execs_nil <| WR_execs_nil <| WR_execs_nil <| WR_execs_nil <| hfinK _ _ _ _ _ _ ⟨.inr rfl, .inr rfl, .inr rfl, .inr rfl, .inr rfl, .inr rfl, .inr rfl, .inr rfl, .inl rfl, .inl rfl, .inl rfl, .inl rfl, .inl rfl, .inl rfl, .inl rfl, .inl rfl, .inl rfl, .inl rfl, .inl rfl, .inl rfl, .inl rfl, .inl rfl, .inl rfl, trivial⟩ L2 G2 kp2 (by rw [List.length_set]; exact Nat.le_refl _) (by rw [List.length_set]; omega)
    rw [if_neg (by simp; omega)]
    refine WR_execs_cons <| WR_If <| W_isTrue_Compare <| W_name nm (.there (.there (.there (.there (.there (.there (.there (.there (.there (.there (.there .here))))))))))) <| W_int fun u11 => W_eq <| W_truthy_bool ?_
    by_cases h4 : kk = 4
    · rw [if_pos (by simp [h4])]
      obtain ⟨vn, mn, hUn, hIn⟩ := G.now
      have hcz : (code t).length = (code (.node l0)).length := code_len G.shp
      have hdt : depth t ≤ 3 := by rw [← depth_skel t, G.shp, depth_skel]; exact hdp0
      have hokt : Ok t := Ok.of_skel G.shp hok0
      refine WR_execs_cons <| W.r <| W_Assign_Name <| W_Call_Name <| W_gname (gl B he "_law_now" (.ref 201)) rfl rfl <| W_callWith B (by kernel_rfl) <| W_items_cons <| W_name nm (.there (.there (.there .here))) <| W_items_cons <| W_name nm (.there (.there (.there (.there (.there .here))))) <| W_items_nil ?_
      refine W.mono (c_now B 3 hdt (A := A.deeper env) (σ := ⟨[_], F, U⟩) (p := 0) (pre := []) (post := []) (hr.le (by omega)) (IsN.of_skel G.shp (hRt0.le LF)) (.inl hUn) hIn (by omega) (by simp) rfl) fun w σ' ⟨F2, (L2 : Le F F2), e2, hw⟩ => ?_
      subst e2
      refine W_store nm (.there (.there (.there (.there (.there (.there (.there (.there (.there (.there (.there (.there (.there (.there (.there (.there .here)))))))))))))))) ?_
      show WR X _ _ (execs _ env) _
      refine WR_execs_cons <| WR_Assign_Name <| WR_Call_Name <| W_gname (gl B he "decode" (.ref 98)) rfl rfl <| WR_callWith B (by kernel_rfl) <| W_items_cons <| W_name nm (.there (.there (.there (.there .here)))) <| W_items_nil ?_
      refine WR.mono (c_decode B (fr := [_]) (F := F2) (hr.le (by omega)) G.oct (by omega) hokt (by omega)) fun w3 σ' ⟨F3, L3, e3, hw3⟩ => ?_
      subst e3
      refine W_store nm (.there (.there (.there (.there (.there (.there (.there (.there (.there (.there (.there (.there (.there (.there (.there (.there (.there .here))))))))))))))))) ?_
      show WR X _ _ (execs _ env) _
      refine WR_execs_cons <| WR_If <| W_isTrue_Not <| W_isTrue_val <| W_Call_Name <| W_gname (gl B he "_law_alike" (.ref 208)) rfl rfl <| W_callWith B (by kernel_rfl) <| W_items_cons <| W_name nm (.there (.there (.there (.there (.there (.there (.there (.there (.there (.there (.there (.there (.there (.there (.there (.there (.there .here))))))))))))))))) <| W_items_cons <| W_name nm (.there (.there (.there (.there (.there (.there (.there (.there (.there (.there (.there (.there (.there (.there (.there (.there .here)))))))))))))))) <| W_items_nil ?_
      refine W.mono (c_alike B 3 hdt hokt (A := A.deeper env) (σ := ⟨[_], F3, U⟩) (hr.le (by omega)) hw3 (hw.le L3)) fun r' σ' ⟨er, es⟩ => ?_
      subst er es
      refine W_truthy_bool ?_
      rw [if_neg (by simp)]
      refine WR_execs_nil <| WR_execs_cons <| W.r <| W_Expr (hi := inter he) <| W_append <| W_name nm (.there (.there (.there (.there (.there (.there (.there .here))))))) ⟨kpa, rfl, ⟨_, _, hUk⟩, W_List <| W_items_cons <| W_name nm (.there (.there (.there (.there (.there (.there (.there (.there (.there (.there (.there (.there (.there (.there (.there (.there (.there .here))))))))))))))))) <| W_items_cons <| W_name nm (.there (.there (.there (.there (.there (.there (.there (.there (.there (.there (.there (.there (.there (.there (.there (.there .here)))))))))))))))) <| W_items_nil ⟨show (2 : Nat) ≤ sizeLine by decide, fun a fa =>
        ⟨kvs, mkk, (upd_ne (fa.ne hUk)).trans hUk, by unfold sizeLine; omega, fun m' => ?_⟩⟩⟩
      have nak : kpa ≠ a := fa.ne hUk
      have naU : U a = none := fa.nU
      show WR X _ ⟨_, F3, upd (upd U a (lstO [w3, w] 0)) kpa (lstO (kvs ++ [.ref a]) m')⟩ (execs _ env) _
      refine WR_frz (a := a) ((upd_ne nak.symm).trans (upd_same ..)) fun nF => ?_
      have eU : era (upd (upd U a (lstO [w3, w] 0)) kpa (lstO (kvs ++ [.ref a]) m')) a = upd U kpa (lstO (kvs ++ [.ref a]) m') := by rw [era_upd_upd nak, era_upd naU]
      have LF4 : Le F (upd F3 a (lstO [w3, w] 0)) := L2.trans (L3.trans (le_upd nF))
      have L34 : Le F3 (upd F3 a (lstO [w3, w] 0)) := le_upd nF
      have haF : upd F3 a (lstO [w3, w] 0) a = some (lstO [w3, w] 0) := upd_same ..
      show WR X _ ⟨_, upd F3 a (lstO [w3, w] 0), era (upd (upd U a (lstO [w3, w] 0)) kpa (lstO (kvs ++ [.ref a]) m')) a⟩ (execs _ env) _
      rw [eU]
      generalize upd F3 a (lstO [w3, w] 0) = F4 at LF4 L34 haF ⊢
      refine WR_execs_nil <| WR_execs_nil <| WR_execs_nil <| WR_execs_nil <| WR_execs_nil <| WR_execs_nil <| hfin _ _ _ _ _ _ (kvs ++ [.ref a]) m' ⟨.inr rfl, .inr rfl, .inr rfl, .inr rfl, .inr rfl, .inr rfl, .inr rfl, .inr rfl, .inl rfl, .inl rfl, .inl rfl, .inl rfl, .inl rfl, .inl rfl, .inl rfl, .inl rfl, .inl rfl, .inl rfl, .inl rfl, .inl rfl, .inl rfl, .inl rfl, .inl rfl, trivial⟩ LF4 ((G.grow LF4 (.refl _)).kp' gkp _) git ((upd_ne nik).trans hit) gkp (upd_same ..) ?_ (by simp; omega) (Nat.le_refl _) (by omega)
      intro v hv
      rcases List.mem_append.mp hv with hv | hv
      · exact hK.le LF4 v hv
      · rw [List.mem_singleton.mp hv]
        exact ⟨a, w3, w, 0, t, rfl, haF, hw3.le L34, (hw.le L3).le L34, hokt, by omega⟩
    rw [if_neg (by simp; omega)]
    refine WR_execs_cons <| WR_If <| W_isTrue_Compare <| W_Call_Name <| W_gname (bl B he "len" (.builtin "len")) rfl rfl <| W_callWith_b <| W_items_cons <| W_name nm (.there (.there (.there (.there (.there (.there .here)))))) <| W_items_nil <| W_len_list (.inl hHd) (by simp; omega) fun u1 => W_int fun u2 => W_lt <| W_truthy_bool ?_
    rw [List.length_map]
    by_cases h5 : H.length < 5
    · rw [if_pos (by simp; omega)]
      have hskt := G.shp
      obtain ⟨lt, rfl, hlt⟩ := skel_node hskt
      have hcz : (code (.node lt)).length = (code (.node l0)).length := code_len G.shp
      have hcz2 : (codes lt).length = (codes l0).length := codes_len hlt
      have hokt : Ok (.node lt) := Ok.of_skel G.shp hok0
      obtain ⟨vn, mn, hUn, hIn⟩ := G.now
      have hvnl : vn.length = (code (.node lt)).length := by have := hIn.length; simpa using this
      refine WR_execs_cons <| W.r <| W_Assign_Name <| W_Compare <| W_BinOp <| W_BinOp <| W_name nm (.there (.there (.there (.there (.there (.there (.there (.there .here)))))))) <| W_int fun u1 => W_floordiv_small (by decide) (PyProof.noPylong_small (by decide)) fun u2 => W_int fun u3 => W_mod (by decide) fun u4' => W_int fun u5' => W_eq ?_
      generalize ((nn.fdiv 6).fmod 2 == 0) = bv
      refine W_store nm (.there (.there (.there (.there (.there (.there (.there (.there (.there (.there (.there (.there (.there (.there (.there (.there (.there (.there .here)))))))))))))))))) ?_
      show WR X _ _ (execs _ env) _
      refine WR_execs_cons <| W.r <| W_Assign_Name <| W.mono (Q := fun v σ' => ∃ F2, Le F F2 ∧ σ' = ⟨[⟨env, lawNs, [some (.ref sl), some (.ref b), some (.ref sp), some (.ref ra), some (.ref oa), some (.ref na), some (.ref a4), some (.ref kpa), some (.int nn tn), some (.int (hh : Nat) u4), some (.ref E.e), some (.int (kk : Nat) u6), none, none, none, none, none, none, some (.bool bv), none, none, none, none], true⟩], F2, U⟩ ∧ ((bv = true ∧ v = .ref na) ∨ (bv = false ∧ ∃ sa vs m, v = .ref sa ∧ F2 sa = some (lstO vs m) ∧ IntsAre vs (octs (code (.node lt)))))) ?_ ?_
      · cases bv with
        | true =>
          refine W_IfExp <| W_isTrue_val <| W_name nm (.there (.there (.there (.there (.there (.there (.there (.there (.there (.there (.there (.there (.there (.there (.there (.there (.there (.there .here)))))))))))))))))) <| W_truthy_bool ?_
          rw [if_pos rfl]
          exact W_name nm (.there (.there (.there (.there (.there .here))))) ⟨F, .refl _, rfl, .inl ⟨rfl, rfl⟩⟩
        | false =>
          refine W_IfExp <| W_isTrue_val <| W_name nm (.there (.there (.there (.there (.there (.there (.there (.there (.there (.there (.there (.there (.there (.there (.there (.there (.there (.there .here)))))))))))))))))) <| W_truthy_bool ?_
          rw [if_neg (by simp)]
          refine W_high fun high => W_frz (a := na) hUn fun nFn => W_thawP <| W_frzP <| W_ListComp (closL env _ []) (closure_in [] (by intro y hy; cases hy)) (by decide +kernel) (by rfl) (by decide +kernel) (by decide +kernel) (by decide +kernel) ?_
          refine W_name nm (.there (.there (.there (.there (.there .here))))) <| W_iter_list (.inr (.inl (upd_same ..))) fun it3 o3 hf3 ho3 => ?_
          refine ⟨_, upd F na (lstO vn mn), era U na, it3, o3, lstIt na, vn.length, fun σ => Live X σ na (lstO vn mn), fun i v => vn[i]? = some v, fun i ys σ => σ.F = upd F na (lstO vn mn) ∧ σ.U = era U na ∧ ys = vn.take i,
            rfl, rfl, hf3.nU, ho3, ⟨rfl, rfl, rfl⟩, ⟨itOk_list hr.calm, by unfold sizeLine; omega, ?_, ?_⟩, ?_⟩
          · rintro i ys F' U' Cc D o' mm vs' ⟨e1, e2, _⟩
            exact .inr (.inl (by show F' na = _; have e1 : F' = _ := e1; rw [e1, upd_same]))
          · rintro i ys F' U' Cc D o' mm v ⟨e1, e2, e3⟩ hi hv hys hit hDU hne
            exact W_name (nm_comp (by decide +kernel) (by decide +kernel)) .here ⟨F', U', .refl _, hit, hDU, rfl, e1, e2, by rw [e3, take_succ_some hv]⟩
          · rintro D m3 ys F' U' ⟨e1, e2, e3⟩ hDU
            have e1 : F' = _ := e1
            have e2 : U' = _ := e2
            subst e1 e2 e3
            refine ⟨D, _, upd_same .., fun nF => ?_⟩
            have nDn : D ≠ na := fun q => by
              have nF : upd F na (lstO vn mn) D = none := nF
              rw [q, upd_same] at nF; cases nF
            have nFD : F D = none := by
              have nF : upd F na (lstO vn mn) D = none := nF
              rwa [upd_ne nDn] at nF
            have eF : era (upd (upd F na (lstO vn mn)) D (lstO (vn.take vn.length) m3)) na = upd F D (lstO (vn.take vn.length) m3) := by rw [era_upd_upd nDn, era_upd nFn]
            have eU : upd (era (upd (era U na) D (lstO (vn.take vn.length) m3)) D) na (lstO vn mn) = U := by rw [era_upd hDU, upd_era hUn]
            refine ⟨na, lstO vn mn, (upd_ne nDn.symm).trans (upd_same ..), high _ _ hUn, upd F D (lstO (vn.take vn.length) m3), le_upd nFD, ?_, .inr ⟨rfl, D, vn.take vn.length, m3, rfl, upd_same .., by rw [List.take_length]; exact hIn⟩⟩
            show (⟨_, era (upd (upd F na (lstO vn mn)) D (lstO (vn.take vn.length) m3)) na, upd (era (upd (era U na) D (lstO (vn.take vn.length) m3)) D) na (lstO vn mn)⟩ : St) = _
            rw [eF, eU]
      · rintro v σ' ⟨F2, L2, rfl, hv⟩
        refine W_store nm (.there (.there (.there (.there (.there (.there (.there (.there (.there (.there (.there (.there (.there (.there (.there (.there (.there (.there (.there .here))))))))))))))))))) ?_
        show WR X _ _ (execs _ env) _
        refine WR_execs_cons <| W.r <| W_Assign_Name <| W.mono (Q := fun w σ' => ∃ src ia dx el F3 U3, w = .ref ia ∧ v = scOf ⟨oa, na, .node l0⟩ src ∧ Le F2 F3 ∧ Le U U3 ∧ σ' = ⟨[⟨env, lawNs, [some (.ref sl), some (.ref b), some (.ref sp), some (.ref ra), some (.ref oa), some (.ref na), some (.ref a4), some (.ref kpa), some (.int nn tn), some (.int (hh : Nat) u4), some (.ref E.e), some (.int (kk : Nat) u6), none, none, none, none, none, none, some (.bool bv), some v, none, none, none], true⟩], F3, U3⟩ ∧ SrcOk ⟨oa, na, .node l0⟩ F3 src ∧ U dx = none ∧ U el = none ∧
          RowAt F3 U3 ia dx el (rvOf ⟨oa, na, .node l0⟩ src) (code (.node l0)).length (hdr 192 (codes l0).length).length [] .none) ?_ ?_
        · rcases hv with ⟨rfl, rfl⟩ | ⟨rfl, sa, vs3, m3, rfl, hsa, hsI⟩
          · refine W_Call_Name <| W_gname (gl B he "decode_lazy" (.ref 106)) rfl rfl <| W_callWith B (by kernel_rfl) <| W_items_cons <| W_IfExp <| W_isTrue_val <| W_name nm (.there (.there (.there (.there (.there (.there (.there (.there (.there (.there (.there (.there (.there (.there (.there (.there (.there (.there .here)))))))))))))))))) <| W_truthy_bool ?_
            rw [if_pos rfl]
            refine W_name nm (.there (.there (.there (.there .here)))) <| W_items_nil ?_
            refine W.mono (defLazy B (σ := ⟨[_], F2, U⟩) (lv := true) (l := lt) (hr.le (by omega)) ⟨oa, rfl, .inl G.oct⟩ (by omega) hokt) fun w2 σ' ⟨ia, dx, el, F7, U7, ew, (L7 : Le F2 F7), (LU7 : Le U U7), e7, ndx, nel, row⟩ => ?_
            rw [hcz, hcz2] at row
            exact ⟨.live, ia, dx, el, F7, U7, ew, rfl, L7, LU7, e7, trivial, ndx, nel, row⟩
          · refine W_Call_Name <| W_gname (gl B he "decode_lazy" (.ref 106)) rfl rfl <| W_callWith B (by kernel_rfl) <| W_items_cons <| W_IfExp <| W_isTrue_val <| W_name nm (.there (.there (.there (.there (.there (.there (.there (.there (.there (.there (.there (.there (.there (.there (.there (.there (.there (.there .here)))))))))))))))))) <| W_truthy_bool ?_
            rw [if_neg (by simp)]
            refine W_Call_Name <| W_gname (bl B he "bytes" (.type "bytes")) rfl rfl <| W_callWith_t <| W_items_cons <| W_name nm (.there (.there (.there (.there .here)))) <| W_items_nil <| W_bytes_oct ⟨oa, rfl, .inl G.oct⟩ (by unfold sizeLine; omega) fun tk3 => W_items_nil ?_
            refine W.mono (defLazy B (σ := ⟨[_], F2, U⟩) (lv := false) (l := lt) (hr.le (by omega)) ⟨tk3, rfl⟩ (by omega) hokt) fun w2 σ' ⟨ia, dx, el, F7, U7, ew, (L7 : Le F2 F7), (LU7 : Le U U7), e7, ndx, nel, row⟩ => ?_
            rw [hcz, hcz2] at row
            exact ⟨.copy (.node lt) tk3 sa, ia, dx, el, F7, U7, ew, rfl, L7, LU7, e7, ⟨hskt, vs3, m3, L7 _ _ hsa, hsI⟩, ndx, nel, row⟩
        · rintro w σ' ⟨src, ia2, dx2, el2, F3, U3, rfl, rfl, L3, LU3, rfl, hsrc, nd2, ne2, row2⟩
          obtain ⟨od2, _, _, _, _, _, hd2, _⟩ := row2.dict
          obtain ⟨_, hl2⟩ := row2.list
          refine W_store nm (.there (.there (.there (.there (.there (.there (.there (.there (.there (.there (.there (.there (.there (.there (.there (.there (.there (.there (.there (.there .here)))))))))))))))))))) ?_
          show WR X _ _ (execs _ env) _
          refine WR_execs_cons <| WR_If <| W_isTrue_Not <| W_isTrue_val <| W_Call_Name <| W_gname (bl B he "isinstance" (.builtin "isinstance")) rfl rfl <| W_callWith_b <| W_items_cons <| W_name nm (.there (.there (.there (.there (.there (.there (.there (.there (.there (.there (.there (.there (.there (.there (.there (.there (.there (.there (.there (.there .here)))))))))))))))))))) <| W_items_cons <| W_gname (gl B he "LazyList" (.ref 152)) rfl rfl <| W_items_nil <| W_isi_inst B (.ofF row2.inst) (.ofU hd2) <| W_truthy_bool ?_
          rw [if_neg (by simp)]
          have hHd3 := LU3 _ _ hHd
          have hra3 := L3 _ _ (L2 _ _ (LF _ _ hra))
          refine WR_execs_nil <| WR_execs_cons <| W.r <| W_Expr (hi := inter he) <| W_append <| W_name nm (.there (.there (.there (.there (.there (.there .here)))))) ⟨a4, rfl, ⟨_, _, hHd3⟩, ?_⟩
          refine W_List <| W_items_cons <| W_name nm (.there (.there (.there (.there (.there (.there (.there (.there (.there (.there (.there (.there (.there (.there (.there (.there (.there (.there (.there (.there .here)))))))))))))))))))) <| W_items_cons <| W_name nm (.there (.there (.there .here))) <| W_items_cons <| W_int fun t9 => W_items_cons <| W_BinOp <| W_List <| W_items_cons <| W_none <| W_items_nil ⟨by decide, fun a1 q1 => ?_⟩
          refine W_Call_Name <| W_gname (bl B he "len" (.builtin "len")) rfl rfl <| W_callWith_b <| W_items_cons <| W_name nm (.there (.there (.there .here))) <| W_items_nil <| W_len_list (.inr (.inl hra3)) (by omega) fun t10 =>
            W_mul_list1 (.inl (upd_same ..)) (by omega) (by omega) fun a2 q2 => W_items_cons <| W_name nm (.there (.there (.there (.there (.there (.there (.there (.there (.there (.there (.there (.there (.there (.there (.there (.there (.there (.there (.there .here))))))))))))))))))) <| W_items_nil ⟨show (5 : Nat) ≤ sizeLine by decide, fun a3 q3 => ?_⟩
          have g1 : ∀ b o, U3 b = some o → b ≠ a1 := fun b o hb => q1.ne hb
          have g2 : ∀ b o, U3 b = some o → b ≠ a2 := fun b o hb => q2.ne ((upd_ne (g1 b o hb)).trans hb)
          have g3 : ∀ b o, U3 b = some o → b ≠ a3 := fun b o hb => q3.ne ((upd_ne (g2 b o hb)).trans ((upd_ne (g1 b o hb)).trans hb))
          have n23 : a2 ≠ a3 := q3.ne (upd_same ..)
          have gg : ∀ b o x1 x2 x3, U3 b = some o → upd (upd (upd U3 a1 x1) a2 x2) a3 x3 b = some o := fun b o x1 x2 x3 hb => by rw [upd_ne (g3 b o hb), upd_ne (g2 b o hb), upd_ne (g1 b o hb)]; exact hb
          have nU : ∀ b, (∀ o, U3 b = some o → False) → U b = none := fun b hb => by
            cases q : U b with
            | none => rfl
            | some o => exact (hb o (LU3 _ _ q)).elim
          refine ⟨_, _, gg _ _ _ _ _ hHd3, by simp; unfold sizeLine; omega, fun n' => ?_⟩
          have n4 : ∀ b o, U3 b = some o → b ≠ a4 → U3 b = some o := fun _ _ h _ => h
          have nd4 : dx2 ≠ a4 := fun q => by rw [q] at nd2; rw [nd2] at hHd; cases hHd
          have ne4 : el2 ≠ a4 := fun q => by rw [q] at ne2; rw [ne2] at hHd; cases hHd
          obtain ⟨g', H', G', kp2, hls⟩ := (G.grow (L2.trans L3) (.refl U)).born (l0 := l0) (src := src) (ia := ia2) (dx := dx2) (el := el2) (e' := a3) (s' := a2) (nd := .ref ra) (tk2 := t9) (m2 := 0) (m3 := 0) (m4 := n')
            (U' := upd (upd (upd (upd U3 a1 (lstO [.none] 0)) a2 (lstO (List.replicate ((ks.length : Nat) : Int).toNat .none) 0)) a3 (lstO [.ref ia2, .ref ra, .int 0 t9, .ref a2, scOf ⟨oa, na, .node l0⟩ src] 0)) a4 (lstO ((H.map fun E => Value.ref E.e) ++ [.ref a3]) n'))
            rfl (row2.stay (.refl _) (fun o h => (upd_ne nd4).trans (gg _ _ _ _ _ h)) (fun o h => (upd_ne ne4).trans (gg _ _ _ _ _ h))) hsrc ((hRt0.le LF).le (L2.trans L3)) (by omega) nd2 ne2 (nU _ fun o h => g3 _ _ h rfl) (nU _ fun o h => g2 _ _ h rfl) n23.symm (g3 _ _ hd2).symm (g3 _ _ hl2).symm (g2 _ _ hd2).symm (g2 _ _ hl2).symm
            ((upd_ne (g3 _ _ hHd3).symm).trans (upd_same ..)) ((upd_ne (g2 _ _ hHd3).symm).trans ((upd_ne n23).trans (by rw [upd_same, ← hkl]; rfl))) (upd_same ..) (fun b o hb ho => (upd_ne hb).trans (gg _ _ _ _ _ (LU3 _ _ ho)))
          have hl3 := congrArg List.length hls
          rw [List.length_append, Ls_length, Ls_length, List.length_singleton] at hl3
          exact WR_execs_nil <| WR_execs_nil <| WR_execs_nil <| WR_execs_nil <| WR_execs_nil <| WR_execs_nil <| WR_execs_nil <| hfinK _ _ _ _ _ _ ⟨.inr rfl, .inr rfl, .inr rfl, .inr rfl, .inr rfl, .inr rfl, .inr rfl, .inr rfl, .inl rfl, .inl rfl, .inl rfl, .inl rfl, .inl rfl, .inl rfl, .inl rfl, .inl rfl, .inl rfl, .inl rfl, .inl rfl, .inl rfl, .inl rfl, .inl rfl, .inl rfl, trivial⟩ (L2.trans L3) G' kp2 (by omega) (by omega)
    · rw [if_neg (by simp; omega)]
      exact WR_execs_nil <| WR_execs_nil <| WR_execs_nil <| WR_execs_nil <| WR_execs_nil <| WR_execs_nil <| WR_execs_nil <| hfinK _ _ _ _ _ _ ⟨.inr rfl, .inr rfl, .inr rfl, .inr rfl, .inr rfl, .inr rfl, .inr rfl, .inr rfl, .inl rfl, .inl rfl, .inl rfl, .inl rfl, .inl rfl, .inl rfl, .inl rfl, .inl rfl, .inl rfl, .inl rfl, .inl rfl, .inl rfl, .inl rfl, .inl rfl, .inl rfl, trivial⟩ (.refl _) G KpStay.refl (Nat.le_refl _) (by omega)
  · clear G gkp hUk ho LU nit hf2
    rintro σ ⟨vs1, F, U, g, t, H, kvs, mkk, o1, hW, rfl, LF, G, git, hit, hio, gkp, nik, hUk, hK, hkl2, hH0, hHl⟩
    show WR X _ ⟨[⟨env, lawNs, vs1, true⟩], F, era U it⟩ (execs _ env) _
    refine WR_weaken hW ?_
    have G := G.era (.inr git)
    have gkp : del g it kpa = some .kp := (del_ne nik.symm).trans gkp
    have hUk : era U it kpa = some (lstO kvs mkk) := by
      show (if kpa = it then none else U kpa) = _
      rw [if_neg nik.symm]; exact hUk
    generalize del g it = g at G gkp
    generalize era U it = U at G hUk ⊢
    clear hW git hit hio nik
    -- h = 0
    refine WR_execs_cons <| W.r <| W_Assign_Name <| W_int fun t20 => W_store nm (.there (.there (.there (.there (.there (.there (.there (.there (.there .here))))))))) ?_
    show WR X _ _ (execs _ env) _
    refine W.r ?_
    have hsm := G.small (z := 3000) hsz0
    have hs0 : sumN (Ls H) ≤ 51000 := by
      have := sumN_le hsm
      rw [Ls_length] at this
      omega
    refine W_execs_cons <| W_While (fun n σ => ∃ vs F1 U1 g1 H1 hc th, Weaker vs [some (.ref sl), some (.ref b), some (.ref sp), some (.ref ra), some (.ref oa), some (.ref na), some (.ref a4), some (.ref kpa), none, some (.int (hc : Nat) th), none, none, none, none, none, none, none, none, none, none, none, none, none] ∧ σ = ⟨[⟨env, lawNs, vs, true⟩], F1, U1⟩ ∧ Le F F1 ∧ Glob ⟨oa, na, .node l0⟩ F1 U1 g1 t a4 H1 ∧ g1 kpa = some .kp ∧ U1 kpa = some (lstO kvs mkk) ∧
      0 < H1.length ∧ hc ≤ H1.length ∧ sumN ((Ls H1).drop hc) ≤ n ∧ hc + n ≤ 51000) 51000 ⟨[some (.ref sl), some (.ref b), some (.ref sp), some (.ref ra), some (.ref oa), some (.ref na), some (.ref a4), some (.ref kpa), none, some (.int ((0 : Nat) : Int) t20), none, none, none, none, none, none, none, none, none, none, none, none, none], F, U, g, H, 0, t20, ⟨.inr rfl, .inr rfl, .inr rfl, .inr rfl, .inr rfl, .inr rfl, .inr rfl, .inr rfl, .inl rfl, .inr rfl, .inl rfl, .inl rfl, .inl rfl, .inl rfl, .inl rfl, .inl rfl, .inl rfl, .inl rfl, .inl rfl, .inl rfl, .inl rfl, .inl rfl, .inl rfl, trivial⟩, rfl, .refl _, G, gkp, hUk, hH0, Nat.zero_le _, by rw [List.drop_zero]; exact hs0, Nat.le_refl _⟩ ?_
    clear G gkp hUk hH0 hHl hsm hs0
    rintro n σ ⟨vs, F1, U1, g1, H1, hc, th, hW, rfl, L1, G1, gk1, hk1, hp1, hle1, hs1, hb1⟩
    refine W_weaken hW ?_
    have hH1l : H1.length ≤ 51000 := by
      have := sumN_len ((Ls H1).drop hc)
      rw [List.length_drop, Ls_length] at this
      omega
    obtain ⟨mh, hHd⟩ := G1.hld
    refine W_isTrue_Compare <| W_name nm (.there (.there (.there (.there (.there (.there (.there (.there (.there .here))))))))) <| W_Call_Name <| W_gname (bl B he "len" (.builtin "len")) rfl rfl <| W_callWith_b <| W_items_cons <| W_name nm (.there (.there (.there (.there (.there (.there .here)))))) <| W_items_nil <| W_len_list (.inl hHd) (by rw [List.length_map]; omega) fun t21 => W_lt <| W_truthy_bool ?_
    rw [List.length_map]
    by_cases hlt : hc < H1.length
    · rw [if_pos (by simp; omega)]
      obtain ⟨E, hE⟩ : ∃ E, H1[hc]? = some E := ⟨_, List.getElem?_eq_getElem hlt⟩
      obtain ⟨x, hcnt⟩ := G1.ent _ _ hE
      obtain ⟨lc', o0, pre, post, V⟩ := G1.view X hE
      have hfew := V.few
      obtain ⟨te, me, hEn⟩ := x.ent
      obtain ⟨ea, eks, emk, hnd, hea, hekl⟩ := x.kids
      have hcost : sumN ((Ls H1).drop hc) = 1 + nodess E.l + sumN ((Ls H1).drop (hc + 1)) := by
        rw [List.drop_eq_getElem_cons (by rw [Ls_length]; exact hlt)]
        have e := Ls_get hE
        have e2 : (Ls H1)[hc]'(by rw [Ls_length]; exact hlt) = E.l := (List.getElem?_eq_some_iff.mp e).2
        rw [e2]; rfl
      refine W_execs_cons <| W_For <| W_Call_Name <| W_gname (bl B he "range" (.type "range")) rfl rfl <| W_callWith_t <| W_items_cons <| W_BinOp <| W_Call_Name <| W_gname (bl B he "len" (.builtin "len")) rfl rfl <| W_callWith_b <| W_items_cons <|
        W_Subscript <| W_Subscript <| W_name nm (.there (.there (.there (.there (.there (.there .here)))))) <| W_name nm (.there (.there (.there (.there (.there (.there (.there (.there (.there .here))))))))) <| W_item_list (x := .ref E.e) (.inl hHd) (by omega) (by omega) (by rw [show ((hc : Nat) : Int).toNat = hc by omega]; exact ents_get hE) <| W_int fun t22 => W_item_list (k := 1) (.inl hEn) (by decide) (by decide) rfl ?_
      rw [hnd]
      refine W_items_nil <| W_len_list (.inr (.inl hea)) (by omega) fun t23 => W_int fun t24 => W_add fun t25 => W_items_nil <| W_range1 fun rg ta tb tc U2 frg eU => ?_
      subst eU
      refine W_iter_range (.inl (upd_same ..)) (by omega) (by omega) (by omega) (by omega) fun it o hf ho => ?_
      have ez : (((eks.length : Int) + 1) - 0).toNat = E.l.length + 1 := by omega
      rw [ez] at ho
      have nk : kpa ≠ rg := frg.ne hk1
      have hk2 : upd U1 rg (rngO 0 ((eks.length : Int) + 1) 1 ta tb tc) kpa = some (lstO kvs mkk) := (upd_ne nk).trans hk1
      have nik : it ≠ kpa := (hf.ne hk2).symm
      have G2 := G1.grow (.refl F1) (le_upd frg.nU (o := rngO 0 ((eks.length : Int) + 1) 1 ta tb tc))
      generalize upd U1 rg (rngO 0 ((eks.length : Int) + 1) 1 ta tb tc) = U2 at hk2 hf G2 ⊢
      have G2 := G2.kp (.inl (G2.tag_none hf.nU)) o
      refine ⟨it, rngIt 0 ((E.l.length + 1 : Nat) : Int), E.l.length + 1, fun _ => True, fun i v => ∃ t, v = .int (0 + i) t,
        fun i σ => ∃ vs F2 U2 g2 H2 E2 o, Weaker vs [some (.ref sl), some (.ref b), some (.ref sp), some (.ref ra), some (.ref oa), some (.ref na), some (.ref a4), some (.ref kpa), none, some (.int (hc : Nat) th), none, none, none, none, none, none, none, none, none, none, none, none, none] ∧ σ = ⟨[⟨env, lawNs, vs, true⟩], F2, U2⟩ ∧ Le F F2 ∧ Glob ⟨oa, na, .node l0⟩ F2 U2 g2 t a4 H2 ∧ g2 it = some .kp ∧ U2 it = some o ∧ rngIt 0 ((E.l.length + 1 : Nat) : Int) i o ∧
          g2 kpa = some .kp ∧ U2 kpa = some (lstO kvs mkk) ∧ H2[hc]? = some E2 ∧ E2.l = E.l ∧ sumN ((Ls H2).drop (hc + 1)) + nodess (E.l.drop i) + 1 ≤ n ∧ (i = E.l.length + 1 → E2.els.length = E.l.length),
        rfl, itOk_range hr.calm, ⟨[some (.ref sl), some (.ref b), some (.ref sp), some (.ref ra), some (.ref oa), some (.ref na), some (.ref a4), some (.ref kpa), none, some (.int (hc : Nat) th), none, none, none, none, none, none, none, none, none, none, none, none, none], F1, upd U2 it o, put g1 it .kp, H1, E, o, ⟨.inr rfl, .inr rfl, .inr rfl, .inr rfl, .inr rfl, .inr rfl, .inr rfl, .inr rfl, .inl rfl, .inr rfl, .inl rfl, .inl rfl, .inl rfl, .inl rfl, .inl rfl, .inl rfl, .inl rfl, .inl rfl, .inl rfl, .inl rfl, .inl rfl, .inl rfl, .inl rfl, trivial⟩, rfl, L1, G2, put_same .., upd_same .., ho, (put_ne nik.symm).trans gk1, (upd_ne nik.symm).trans hk2, hE, rfl, by rw [List.drop_zero]; omega, fun h => by omega⟩, ?_, ?_, ?_⟩
      · rintro i σ ⟨vs, F2, U2, g2, H2, E2, o2, hW2, rfl, L2, G2, git, hit, hio, _⟩
        exact ⟨⟨o2, hit, hio⟩, trivial⟩
      · clear G2 ho hk2 hf
        rintro i σ o' v ⟨vs, F2, U2, g2, H2, E2, o2, hW2, rfl, L2, G2, git, hit, hio, gk2, hk2, hE2, hl2, hc2, _⟩ hi ⟨tv, rfl⟩ ho'
        show W X _ ⟨[⟨env, lawNs, vs, true⟩], F2, upd U2 it o'⟩ _ _
        refine W_weaken hW2 ?_
        refine W_assign_Name nm (.there (.there (.there (.there (.there (.there (.there (.there (.there (.there (.there (.there (.there (.there (.there (.there (.there (.there (.there (.there (.there .here))))))))))))))))))))) ?_
        have G2 := G2.kp' git o'
        have hit : upd U2 it o' it = some o' := upd_same ..
        have hk2 : upd U2 it o' kpa = some (lstO kvs mkk) := (upd_ne nik.symm).trans hk2
        generalize upd U2 it o' = U2 at G2 hit hk2 ⊢
        rw [show (0 : Int) + (i : Int) = ((i : Nat) : Int) by omega]
        have hH2l : H2.length ≤ 51000 := by
          have := sumN_len ((Ls H2).drop (hc + 1))
          rw [List.length_drop, Ls_length] at this
          omega
        refine W_execs_cons <| W_If <| W_isTrue_Not <| W_isTrue_val <| W_Call_Name <| W_gname (gl B he "_law_place" (.ref 229)) rfl rfl <| W_callWith B (by kernel_rfl) <| W_items_cons <| W_name nm (.there (.there (.there (.there (.there (.there .here)))))) <| W_items_cons <| W_name nm (.there (.there (.there (.there (.there (.there (.there (.there (.there .here))))))))) <| W_items_cons <| W_name nm (.there (.there (.there (.there (.there (.there (.there (.there (.there (.there (.there (.there (.there (.there (.there (.there (.there (.there (.there (.there (.there .here))))))))))))))))))))) <| W_items_cons <| W_name nm (.there (.there (.there (.there (.there .here))))) <| W_items_nil ?_
        refine W.mono (c_place B (fr := [_]) (hr.le (by omega)) (hl' _) G2 hE2 (by omega) (by omega)) fun v σ' ⟨ev, F3, U3, g3, H3, e3, L3, G3, kp3, gr, E3, hE3, hfull⟩ => ?_
        subst ev e3
        refine W_truthy_bool ?_
        rw [if_neg (by simp)]
        obtain ⟨E3', hE3', hl3⟩ := gr.get hE2
        rw [hE3] at hE3'; cases hE3'
        have hc3 := gr.cost (h := hc) (List.getElem?_eq_some_iff.mp hE2).1
        rw [hl2] at hc3 hfull
        have hll := (G3.ent _ _ hE3).1.ell
        rw [hl3, hl2] at hll
        refine W_execs_nil <| W_execs_nil ?_
        exact ⟨[some (.ref sl), some (.ref b), some (.ref sp), some (.ref ra), some (.ref oa), some (.ref na), some (.ref a4), some (.ref kpa), none, some (.int (hc : Nat) th), none, none, none, none, none, none, none, none, none, none, none, some (.int ((i : Nat) : Int) tv), none], F3, U3, g3, H3, E3, o', ⟨.inr rfl, .inr rfl, .inr rfl, .inr rfl, .inr rfl, .inr rfl, .inr rfl, .inr rfl, .inl rfl, .inr rfl, .inl rfl, .inl rfl, .inl rfl, .inl rfl, .inl rfl, .inl rfl, .inl rfl, .inl rfl, .inl rfl, .inl rfl, .inl rfl, .inl rfl, .inl rfl, trivial⟩, rfl, L2.trans L3, G3, (kp3 _ _ git hit).1, (kp3 _ _ git hit).2, ho', (kp3 _ _ gk2 hk2).1, (kp3 _ _ gk2 hk2).2, hE3, hl3.trans hl2, by omega, fun h => by rcases hfull with q | q <;> omega⟩
      · clear G2 ho hk2 hf
        rintro σ ⟨vs, F2, U2, g2, H2, E2, o2, hW2, rfl, L2, G2, git, hit, hio, gk2, hk2, hE2, hl2, hc2, hful⟩
        have hful := hful rfl
        show W X _ ⟨[⟨env, lawNs, vs, true⟩], F2, era U2 it⟩ (execs _ env) _
        refine W_weaken hW2 ?_
        have G2 := G2.era (.inr git)
        have gk2 : del g2 it kpa = some .kp := (del_ne nik.symm).trans gk2
        have hk2 : era U2 it kpa = some (lstO kvs mkk) := by
          show (if kpa = it then none else U2 kpa) = _
          rw [if_neg nik.symm]; exact hk2
        generalize del g2 it = g2 at G2 gk2
        generalize era U2 it = U2 at G2 hk2 ⊢
        obtain ⟨mh2, hHd2⟩ := G2.hld
        have hH2l : H2.length ≤ 51000 := by
          have := sumN_len ((Ls H2).drop (hc + 1))
          rw [List.length_drop, Ls_length] at this
          omega
        obtain ⟨x2, hcnt2⟩ := G2.ent _ _ hE2
        obtain ⟨lc2, o02, pre2, post2, V2⟩ := G2.view X hE2
        have xl2 := x2.relc lc2 hcnt2
        obtain ⟨te2, me2, hEn2⟩ := x2.ent
        obtain ⟨ea2, eks2, emk2, hnd2, hea2, hekl2⟩ := x2.kids
        have hfew2 := V2.few
        refine W_execs_cons <| W_If <| W_isTrue_Compare <| W_Call_Name <| W_gname (bl B he "len" (.builtin "len")) rfl rfl <| W_callWith_b <| W_items_cons <| W_Subscript <| W_Subscript <| W_name nm (.there (.there (.there (.there (.there (.there .here)))))) <| W_name nm (.there (.there (.there (.there (.there (.there (.there (.there (.there .here))))))))) <|
          W_item_list (x := .ref E2.e) (.inl hHd2) (by omega) (by omega) (by rw [show ((hc : Nat) : Int).toNat = hc by omega]; exact ents_get hE2) <| W_int fun t26 => W_item_list (k := 0) (x := .ref E2.ia) (.inl hEn2) (by decide) (by decide) rfl <| W_items_nil ?_
        refine W.mono (c_lenL B (fr := [_]) (hr.le (by omega)) (hl' _) G2.tu xl2 V2) fun w σ' ⟨F3, U3, g3, els', lv', t5, ew, e1, L3, tu3, k3, fr3, x3, hel, hsame⟩ => ?_
        subst ew e1
        have hes := hsame (by rw [hl2]; exact hful)
        have hHd3 : U3 a4 = some _ := fr3 _ _ (tag_ne G2.thd x2.td (by simp)) (tag_ne G2.thd x2.tl (by simp)) hHd2
        have hEn3 : U3 E2.e = some _ := fr3 _ _ (tag_ne x2.te x2.td (by simp)) (tag_ne x2.te x2.tl (by simp)) hEn2
        refine W_Call_Name <| W_gname (bl B he "len" (.builtin "len")) rfl rfl <| W_callWith_b <| W_items_cons <| W_Subscript <| W_Subscript <| W_name nm (.there (.there (.there (.there (.there (.there .here)))))) <| W_name nm (.there (.there (.there (.there (.there (.there (.there (.there (.there .here))))))))) <|
          W_item_list (x := .ref E2.e) (.inl hHd3) (by omega) (by omega) (by rw [show ((hc : Nat) : Int).toNat = hc by omega]; exact ents_get hE2) <| W_int fun t27 => W_item_list (k := 1) (.inl hEn3) (by decide) (by decide) rfl ?_
        rw [hnd2]
        refine W_items_nil <| W_len_list (.inr (.inl (L3 _ _ hea2))) (by omega) fun t28 => W_ne <| W_truthy_bool ?_
        rw [if_neg (by simp; omega)]
        obtain ⟨G3, kp3⟩ := G2.upd hE2 L3 tu3 k3 (fun a ob n1 n2 n3 n4 ho => fr3 a ob n3 n4 ho) x3 (by show E2.cnt = els'.length; rw [hes]; exact hcnt2) rfl rfl
        refine W_execs_nil <| W_execs_cons <| W_Assign_Name <| W_BinOp <| W_name nm (.there (.there (.there (.there (.there (.there (.there (.there (.there .here))))))))) <| W_int fun t29 => W_add fun t30 => W_store nm (.there (.there (.there (.there (.there (.there (.there (.there (.there .here))))))))) ?_
        rw [show ((hc : Nat) : Int) + 1 = ((hc + 1 : Nat) : Int) by omega]
        have hltn : hc < H2.length := (List.getElem?_eq_some_iff.mp hE2).1
        refine W_execs_nil ?_
        have hls3 := Ls_set (E' := { E2 with els := els', lv := lv' }) hE2 rfl
        exact ⟨n - 1, by omega, [some (.ref sl), some (.ref b), some (.ref sp), some (.ref ra), some (.ref oa), some (.ref na), some (.ref a4), some (.ref kpa), none, some (.int ((hc + 1 : Nat) : Int) t30), none, none, none, none, none, none, none, none, none, none, none, none, none], F3, U3, g3, _, hc + 1, t30, ⟨.inr rfl, .inr rfl, .inr rfl, .inr rfl, .inr rfl, .inr rfl, .inr rfl, .inr rfl, .inl rfl, .inr rfl, .inl rfl, .inl rfl, .inl rfl, .inl rfl, .inl rfl, .inl rfl, .inl rfl, .inl rfl, .inl rfl, .inl rfl, .inl rfl, .inl rfl, .inl rfl, trivial⟩, rfl, L2.trans L3, G3, (kp3 _ _ gk2 hk2).1, (kp3 _ _ gk2 hk2).2, by rw [List.length_set]; omega, by rw [List.length_set]; omega, by rw [hls3]; omega, by omega⟩
    · rw [if_neg (by simp; omega)]
      show W X _ _ (execs _ env) _
      have hK1 := hK.le L1
      refine W_execs_cons <| W_For <| W_name nm (.there (.there (.there (.there (.there (.there (.there .here))))))) <| W_iter_list (.inl hk1) fun it o hf ho => ?_
      have nik : kpa ≠ it := hf.ne hk1
      have nhi : a4 ≠ it := hf.ne hHd
      refine ⟨it, lstIt kpa, kvs.length, fun σ => Live X σ kpa (lstO kvs mkk), fun i v => kvs[i]? = some v, fun i σ => ∃ vs o, Weaker vs [some (.ref sl), some (.ref b), some (.ref sp), some (.ref ra), some (.ref oa), some (.ref na), some (.ref a4), some (.ref kpa), none, some (.int (hc : Nat) th), none, none, none, none, none, none, none, none, none, none, none, none, none] ∧ σ = ⟨[⟨env, lawNs, vs, true⟩], F1, upd U1 it o⟩ ∧ lstIt kpa i o,
        rfl, itOk_list hr.calm, ⟨[some (.ref sl), some (.ref b), some (.ref sp), some (.ref ra), some (.ref oa), some (.ref na), some (.ref a4), some (.ref kpa), none, some (.int (hc : Nat) th), none, none, none, none, none, none, none, none, none, none, none, none, none], o, ⟨.inr rfl, .inr rfl, .inr rfl, .inr rfl, .inr rfl, .inr rfl, .inr rfl, .inr rfl, .inl rfl, .inr rfl, .inl rfl, .inl rfl, .inl rfl, .inl rfl, .inl rfl, .inl rfl, .inl rfl, .inl rfl, .inl rfl, .inl rfl, .inl rfl, .inl rfl, .inl rfl, trivial⟩, rfl, ho⟩, ?_, ?_, ?_⟩
      · rintro i σ ⟨vs, o2, hW2, rfl, hio⟩
        exact ⟨⟨o2, upd_same .., hio⟩, .inl ((upd_ne nik).trans hk1)⟩
      · rintro i σ o' v ⟨vs, o2, hW2, rfl, hio⟩ hi hv ho'
        obtain ⟨pa, px, py, pm, u, rfl, hpa, hd1, hd2, hku, hkd⟩ := hK1 v (List.mem_of_getElem? hv)
        show W X _ ⟨[⟨env, lawNs, vs, true⟩], F1, upd (upd U1 it o2) it o'⟩ _ _
        rw [upd_upd]
        refine W_weaken hW2 ?_
        refine W_assign_Name nm (.there (.there (.there (.there (.there (.there (.there (.there (.there (.there (.there (.there (.there (.there (.there (.there (.there (.there (.there (.there (.there (.there .here)))))))))))))))))))))) ?_
        refine W_execs_cons <| W_If <| W_isTrue_Not <| W_isTrue_val <| W_Call_Name <| W_gname (gl B he "_law_alike" (.ref 208)) rfl rfl <| W_callWith B (by kernel_rfl) <| W_items_cons <| W_Subscript <| W_name nm (.there (.there (.there (.there (.there (.there (.there (.there (.there (.there (.there (.there (.there (.there (.there (.there (.there (.there (.there (.there (.there (.there .here)))))))))))))))))))))) <| W_int fun t31 => W_item_list (k := 0) (x := px) (.inr (.inl hpa)) (by decide) (by decide) rfl <|
          W_items_cons <| W_Subscript <| W_name nm (.there (.there (.there (.there (.there (.there (.there (.there (.there (.there (.there (.there (.there (.there (.there (.there (.there (.there (.there (.there (.there (.there .here)))))))))))))))))))))) <| W_int fun t32 => W_item_list (k := 1) (x := py) (.inr (.inl hpa)) (by decide) (by decide) rfl <| W_items_nil ?_
        refine W.mono (c_alike B 4 hkd hku (A := A.deeper env) (σ := ⟨[_], F1, _⟩) (hr.le (by omega)) hd1 hd2) fun r' σ' ⟨er, es⟩ => ?_
        subst er es
        refine W_truthy_bool ?_
        rw [if_neg (by simp)]
        refine W_execs_nil <| W_execs_nil ?_
        exact ⟨[some (.ref sl), some (.ref b), some (.ref sp), some (.ref ra), some (.ref oa), some (.ref na), some (.ref a4), some (.ref kpa), none, some (.int (hc : Nat) th), none, none, none, none, none, none, none, none, none, none, none, none, some (.ref pa)], o', ⟨.inr rfl, .inr rfl, .inr rfl, .inr rfl, .inr rfl, .inr rfl, .inr rfl, .inr rfl, .inl rfl, .inr rfl, .inl rfl, .inl rfl, .inl rfl, .inl rfl, .inl rfl, .inl rfl, .inl rfl, .inl rfl, .inl rfl, .inl rfl, .inl rfl, .inl rfl, .inl rfl, trivial⟩, rfl, ho'⟩
      · rintro σ ⟨vs, o2, hW2, rfl, hio⟩
        show W X _ ⟨[⟨env, lawNs, vs, true⟩], F1, era (upd U1 it o2) it⟩ (execs _ env) _
        refine W_weaken hW2 ?_
        have hHd2 : era (upd U1 it o2) it a4 = some (lstO (H1.map fun E => Value.ref E.e) mh) := by
          show (if a4 = it then none else upd U1 it o2 a4) = _
          rw [if_neg nhi, upd_ne nhi]; exact hHd
        refine W_retR <| W_Compare <| W_Call_Name <| W_gname (bl B he "len" (.builtin "len")) rfl rfl <| W_callWith_b <| W_items_cons <| W_name nm (.there (.there (.there (.there (.there (.there .here)))))) <| W_items_nil <| W_len_list (.inl hHd2) (by rw [List.length_map]; omega) fun t33 => W_int fun t34 => W_gt ?_
        rw [List.length_map]
        exact retM ⟨_, rfl, by simp; omega⟩
end
end Mine
end

section
open PySem PySem.W PyProof.Rows
set_option Elab.async false
set_option maxRecDepth 100000
namespace Mine
theorem law_end {c : ClaimW} {cl : Str → Option Addr} {mean : ExcName → Option Value} {args : List WData} {X : Cx} {σ : St} {s' : Shared} (O : Own X.s₁ σ s') (hg : X.s₁.gens = #[]) (hr : ∀ cls, c.raises args cls = false) (hp : c.post args (.bool true) args = true) :
    GoodWG c cl mean args X.s₁ (.ok (.ret (.bool true))) s' := by
  obtain ⟨h, tk, e⟩ := O.same
  have k := O.ground
  subst e
  exact ⟨.inl ⟨_, _, [], rfl, hr, ReadsW.bool true, hp, fun _ => ⟨List.nodup_nil, fun _ hm => (nomatch hm)⟩⟩, .of_keep k, rfl, AllBare.of_eq hg⟩
/-- nothing is owned at the start -/
theorem own_none (s : Shared) : Own s ⟨[], fun _ => none, fun _ => none⟩ s :=
  ⟨⟨_, _, rfl⟩, fun _ _ e => e, fun _ _ e => (nomatch e), fun _ _ e => (nomatch e), fun _ _ e => (nomatch e), fun _ h => (nomatch h), fun _ h => (nomatch h), List.Pairwise.nil⟩
set_option maxHeartbeats 8000000 in
theorem holds_law : PySem.Challenge.rw_ej5034_01.Holds := by
  refine hd ?_
  w_strict
  k_fill
  intro w s₀ s₁ mg mb G Y fa o pm cd doc dV kV ho hd hcd hD hmg hg args vals as hpre hlay hrd hwl hlo
  have KX := kIn_of Y
  refine Ground.open G ?_
  intro T B D TE TW
  obtain ⟨_, _, M⟩ := bmod_of_top T
  wrow_args hpre hlay hrd hwl hlo
  clear hD
  rename_i bm ob ns hs hlay0 hL1 hr1 hl2 x4 x3 sl vs x0 hL ra wl r0 hI hrr hc1 hc2
  have hfa : mg "law" = some (.ref 234) := mg_of KX T.g (by kernel_rfl)
  have hfa2 : mg "law" = some (.ref fa) := hmg
  rw [hfa] at hfa2
  cases hfa2
  let Xc : Cx := ⟨Challenge.rw_ej5034_01.row.prog, w, s₁⟩
  have Bs : Base Xc (Mine.hd.heap_39 w.params) := ⟨KX, T.nolimit, ⟨mg, mb, T.g, T.b, T.builtins⟩, T.seer (by decide +kernel)⟩
  have hvl : vs.length ≤ 63 := by have := hI.length; omega
  refine WR.go (X := Xc) (c_law Bs (A := callerA) (ns := ns) ⟨by decide, by decide, rfl⟩ ⟨rfl, fun _ h => (nomatch h)⟩ hL hI hvl) (own_none s₁) fun v s' σ' O' q => ?_
  subst q
  refine law_end (X := Xc) O' hg (fun _ => rfl) ?_
  wrow_post
end Mine
end

theorem PySem.Challenge.cw_ej5034_01_holds : PySem.Challenge.rw_ej5034_01.Holds := by
  exact Mine.holds_law
