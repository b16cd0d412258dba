import PyProof.Rows.All
import Wide.All
import OpenK.AllK
import Wide.FinOn
import Lean
import PySem.Challenge.RW_pg0245_02
set_option Elab.async false
set_option linter.unusedVariables false

section
open PySem PySem.W PyProof.Rows
namespace Mine

inductive PV where
  | int (i : Int) | str (s : Str) | bool (b : Bool) | none | ref (a : Addr) | raw (v : Value)
  deriving DecidableEq

def pv : Value → PV
  | .int i _ => .int i
  | .str s _ => .str s
  | .bool b => .bool b
  | .none => .none
  | .ref a => .ref a
  | v => .raw v
theorem pv_int {v : Value} {i : Int} (h : pv v = .int i) : ∃ t, v = .int i t := by
  cases v <;> simp [pv] at h; subst h; exact ⟨_, rfl⟩
theorem pv_str {v : Value} {i : Str} (h : pv v = .str i) : ∃ t, v = .str i t := by
  cases v <;> simp [pv] at h; subst h; exact ⟨_, rfl⟩
theorem pv_bool {v : Value} {b : Bool} (h : pv v = .bool b) : v = .bool b := by
  cases v <;> simp [pv] at h; subst h; rfl
theorem pv_none {v : Value} (h : pv v = .none) : v = .none := by
  cases v <;> simp [pv] at h; rfl
theorem pv_ref {v : Value} {a : Addr} (h : pv v = .ref a) : v = .ref a := by
  cases v <;> simp [pv] at h; subst h; rfl
theorem pv_raw {v u : Value} (h : pv v = .raw u) : v = u := by
  cases v <;> simp [pv] at h <;> exact h

inductive PO where
  | list (vs : List PV) | tuple (vs : List PV) | inst (C dx : Addr) | ns (m : Str → Option PV) | cell (v : Option PV) | range (a b c : Int) | obj (o : Obj)

def Rz (h : Heap) (a : Addr) : PO → Prop
  | .list vs => ∃ vals, h.PlainList a vals ∧ vals.toList.map pv = vs
  | .tuple vs => ∃ vals, h.IsTuple a vals ∧ vals.toList.map pv = vs
  | .inst C dx => h.get? a = some (instObj C dx)
  | .ns m => ∃ m', h.Ns a m' ∧ ∀ x, (m' x).map pv = m x
  | .cell v => ∃ o u, h.get? a = some o ∧ o.data = .cell u ∧ u.map pv = v
  | .range x y z => ∃ t u v, IsRange h a x y z t u v
  | .obj o => h.get? a = some o

theorem Rz.keep {h h' : Heap} {a : Addr} {p : PO} (r : Rz h a p) (hk : ∀ o, h.get? a = some o → h'.get? a = some o) : Rz h' a p := by
  cases p with
  | list vs => obtain ⟨v, hp, e⟩ := r; exact ⟨v, hp.at hk, e⟩
  | tuple vs => obtain ⟨v, ⟨o, ho, r⟩, e⟩ := r; exact ⟨v, ⟨o, hk _ ho, r⟩, e⟩
  | inst C dx => exact hk _ r
  | ns m => obtain ⟨m', hn, e⟩ := r; exact ⟨m', hn.at' hk, e⟩
  | cell v => obtain ⟨o, u, ho, hd, e⟩ := r; exact ⟨o, u, hk _ ho, hd, e⟩
  | range x y z => obtain ⟨t, u, v, e⟩ := r; exact ⟨t, u, v, hk _ e⟩
  | obj o => exact hk _ r
theorem Rz.there {h : Heap} {a : Addr} {p : PO} (r : Rz h a p) : ∃ o, h.get? a = some o := by
  cases p with
  | list vs => obtain ⟨v, ⟨n, hp⟩, e⟩ := r; exact ⟨_, hp⟩
  | tuple vs => obtain ⟨v, ⟨o, ho, _⟩, e⟩ := r; exact ⟨_, ho⟩
  | inst C dx => exact ⟨_, r⟩
  | ns m => obtain ⟨m', ⟨o, _, _, hn, _⟩, e⟩ := r; exact ⟨o, hn⟩
  | cell v => obtain ⟨o, u, ho, hd, e⟩ := r; exact ⟨o, ho⟩
  | range x y z => obtain ⟨t, u, v, e⟩ := r; exact ⟨_, e⟩
  | obj o => exact ⟨_, r⟩

abbrev AH := Addr → Option PO
def AH.set (σ : AH) (a : Addr) (p : PO) : AH := fun b => if b = a then some p else σ b
@[simp] theorem AH.set_self (σ : AH) (a : Addr) (p : PO) : σ.set a p a = some p := by simp [AH.set]
theorem AH.set_ne (σ : AH) {a b : Addr} (p : PO) (h : b ≠ a) : σ.set a p b = σ b := by simp [AH.set, h]
def AH.le (σ τ : AH) : Prop := ∀ a p, σ a = some p → τ a = some p
theorem AH.le_refl (σ : AH) : σ.le σ := fun _ _ e => e
theorem AH.le_trans {σ τ υ : AH} (x : σ.le τ) (y : τ.le υ) : σ.le υ := fun a p e => y a p (x a p e)

structure Cx where
  prog : Program
  w : World
  base : Heap
  os : OsState
  mg : Str → Option Value
  mb : Str → Option Value
structure Cx.Ok (X : Cx) : Prop where
  g : X.base.Ns mainGlobals X.mg
  b : X.base.Ns builtinsNs X.mb
  lim : X.base.NoLimit

structure Real (X : Cx) (σ : AH) (s : Shared) : Prop where
  rz : ∀ a p, σ a = some p → Rz s.heap a p
  base : ∀ b o, X.base.get? b = some o → s.heap.get? b = some o
  apart : ∀ a p, σ a = some p → X.base.get? a = none
  gens : AllBare s.gens
  os : s.os = X.os
  tk : 1 ≤ s.toks

structure Step (σ : AH) (s : Shared) (σ' : AH) (s' : Shared) : Prop where
  keep : ∀ b o, σ b = none → s.heap.get? b = some o → s'.heap.get? b = some o
  fresh : ∀ b p, σ' b = some p → (∃ q, σ b = some q) ∨ s.heap.get? b = none
  gens : ∀ i : Nat, i < s.gens.size → s'.gens[i]? = s.gens[i]?
  gsize : s.gens.size ≤ s'.gens.size
theorem Step.refl (σ : AH) (s : Shared) : Step σ s σ s := ⟨fun _ _ _ e => e, fun b p e => .inl ⟨p, e⟩, fun _ _ => rfl, Nat.le_refl _⟩
theorem Step.trans {σ σ' σ'' : AH} {s s' s'' : Shared} (x : Step σ s σ' s') (y : Step σ' s' σ'' s'') : Step σ s σ'' s'' := by
  refine ⟨fun b o hb e => ?_, fun b p e => ?_, fun i hi => ?_, Nat.le_trans x.gsize y.gsize⟩
  · cases h : σ' b with
    | none => exact y.keep b o h (x.keep b o hb e)
    | some p =>
      rcases x.fresh b p h with ⟨q, hq⟩ | hn
      · rw [hb] at hq; cases hq
      · rw [e] at hn; cases hn
  · rcases y.fresh b p e with ⟨q, hq⟩ | hn
    · exact x.fresh b q hq
    · cases h : σ b with
      | some q => exact .inl ⟨q, rfl⟩
      | none =>
        cases h2 : s.heap.get? b with
        | none => exact .inr rfl
        | some o => rw [x.keep b o h h2] at hn; cases hn
  · rw [y.gens i (Nat.lt_of_lt_of_le hi x.gsize), x.gens i hi]

theorem Real.le {X : Cx} {σ τ : AH} {s : Shared} (R : Real X τ s) (h : σ.le τ) : Real X σ s :=
  ⟨fun a p e => R.rz a p (h a p e), R.base, fun a p e => R.apart a p (h a p e), R.gens, R.os, R.tk⟩
theorem Step.le {σ σ₁ σ₂ : AH} {s s' : Shared} (x : Step σ s σ₁ s') (h : σ₂.le σ₁) : Step σ s σ₂ s' :=
  ⟨x.keep, fun b p e => x.fresh b p (h b p e), x.gens, x.gsize⟩
theorem Step.pre {σ σ₁ τ : AH} {s s' : Shared} (x : Step σ s σ₁ s') (h : σ.le τ) : Step τ s σ₁ s' :=
  ⟨fun b o hb e => x.keep b o (by cases q : σ b with | none => rfl | some p => rw [h b p q] at hb; cases hb) e,
   fun b p e => (x.fresh b p e).imp (fun ⟨q, hq⟩ => ⟨q, h b q hq⟩) id, x.gens, x.gsize⟩
theorem Real.toks {X : Cx} {σ : AH} {s : Shared} (R : Real X σ s) (n : Nat) (h : 1 ≤ n) : Real X σ { s with toks := n } := ⟨R.rz, R.base, R.apart, R.gens, R.os, h⟩
theorem Real.tick {X : Cx} {σ : AH} {s : Shared} (R : Real X σ s) (n : Nat) : Real X σ { s with toks := n + 1 } := R.toks _ (Nat.succ_le_succ (Nat.zero_le _))
theorem Step.toks (σ : AH) (s : Shared) (n : Nat) : Step σ s σ { s with toks := n } := ⟨fun _ _ _ e => e, fun b p e => .inl ⟨p, e⟩, fun _ _ => rfl, Nat.le_refl _⟩

theorem with_tk {α : Type} {M : Model} {A : Around} {t : Sem α} {Q : α → Shared → Prop} {s : Shared} {n : Nat} (hn : n ≤ s.toks) (h : wpAny M A t (fun a s' => n ≤ s'.toks → Q a s') (fun _ _ => False) s) :
    wpAny M A t Q (fun _ _ => False) s := wpAny_with_toks hn (wpAny_mono h (fun _ _ x => x) fun _ _ x => x.elim)

structure WP (X : Cx) (A : Around) {α : Type} (t : Sem α) (σ : AH) (Q : α → AH → Prop) : Prop where
  run : ∀ s, Real X σ s → wpAny (model X.prog X.w) A t (fun a s' => ∃ σ', Real X σ' s' ∧ Step σ s σ' s' ∧ Q a σ') (fun _ _ => False) s
theorem WP.of {X : Cx} {A : Around} {α : Type} {t : Sem α} {σ : AH} {Q : α → AH → Prop} (h : ∀ s, Real X σ s → wpAny (model X.prog X.w) A t (fun a s' => ∃ σ', Real X σ' s' ∧ Step σ s σ' s' ∧ Q a σ') (fun _ _ => False) s) : WP X A t σ Q := ⟨h⟩

section
variable {X : Cx} {A : Around} {α β : Type} {σ σ₀ : AH} {s s₀ : Shared}
theorem WP.go {t : Sem α} {Q : α → AH → Prop} {Q' : α → Shared → Prop} (h : WP X A t σ Q) (R : Real X σ s) (S : Step σ₀ s₀ σ s)
    (hQ : ∀ a σ' s', Real X σ' s' → Step σ₀ s₀ σ' s' → Q a σ' → Q' a s') : wpAny (model X.prog X.w) A t Q' (fun _ _ => False) s :=
  wpAny_mono (h.run s R) (fun a s' ⟨σ', R', S', q⟩ => hQ a σ' s' R' (S.trans S') q) fun _ _ x => x
theorem WP.mono {t : Sem α} {Q Q' : α → AH → Prop} (h : WP X A t σ Q) (hQ : ∀ a σ', Q a σ' → Q' a σ') : WP X A t σ Q' :=
  WP.of fun s R => h.go R (Step.refl σ s) fun a σ' s' R' S' q => ⟨σ', R', S', hQ a σ' q⟩
theorem WP.post {t : Sem α} {Q Q' : α → AH → Prop} (h : WP X A t σ Q) (hQ : ∀ a σ', Q a σ' → ∃ σ'', AH.le σ'' σ' ∧ Q' a σ'') : WP X A t σ Q' :=
  WP.of fun s R => h.go R (Step.refl σ s) fun a σ' s' R' S' q => let ⟨σ'', l, q'⟩ := hQ a σ' q; ⟨σ'', R'.le l, S'.le l, q'⟩
theorem WP.bind {m : Sem α} {k : α → Sem β} {Q : β → AH → Prop} (h : WP X A m σ fun a σ' => WP X A (k a) σ' Q) : WP X A (m >>= k) σ Q :=
  WP.of fun s R => wpAny_bind (h.go R (Step.refl σ s) fun a σ' s' R' S' q => q.go R' S' fun b σ'' s'' R'' S'' q' => ⟨σ'', R'', S'', q'⟩)
theorem WP.pure {a : α} {Q : α → AH → Prop} (h : Q a σ) : WP X A (Pure.pure a) σ Q := WP.of fun s R => wpAny_pure ⟨σ, R, Step.refl σ s, h⟩
theorem WP.pre {t : Sem α} {τ : AH} {Q : α → AH → Prop} (h : WP X A t σ Q) (l : σ.le τ) : WP X A t τ Q :=
  WP.of fun s R => wpAny_mono (h.run s (R.le l)) (fun a s' ⟨σ', R', S', q⟩ => ⟨σ', R', S'.pre l, q⟩) fun _ _ x => x
/-- what lies outside of σ stays -/
theorem WP.frame {t : Sem α} {τ : AH} {Q : α → AH → Prop} (h : WP X A t σ Q) (l : σ.le τ) :
    WP X A t τ fun a τ' => ∃ σ', Q a σ' ∧ τ' = fun b => match σ' b with | some p => some p | none => match σ b with | some _ => none | none => τ b := by
  refine WP.of fun s R => wpAny_mono (h.run s (R.le l)) (fun a s' ⟨σ', R', S', q⟩ => ⟨_, ?_, ?_, σ', q, rfl⟩) fun _ _ x => x
  · refine ⟨fun b p e => ?_, R'.base, fun b p e => ?_, R'.gens, R'.os, R'.tk⟩
    · cases h1 : σ' b with
      | some p' => simp only [h1] at e; cases e; exact R'.rz b _ h1
      | none =>
        simp only [h1] at e
        cases h2 : σ b with
        | some _ => simp only [h2] at e; cases e
        | none => simp only [h2] at e; exact (R.rz b p e).keep fun o ho => S'.keep b o h2 ho
    · cases h1 : σ' b with
      | some p' => exact R'.apart b _ h1
      | none =>
        simp only [h1] at e
        cases h2 : σ b with
        | some _ => simp only [h2] at e; cases e
        | none => simp only [h2] at e; exact R.apart b _ e
  · refine ⟨fun b o hb e => ?_, fun b p e => ?_, S'.gens, S'.gsize⟩
    · exact S'.keep b o (by cases q : σ b with | none => rfl | some p => rw [l b p q] at hb; cases hb) e
    · cases h1 : σ' b with
      | some p' => exact (S'.fresh b _ h1).imp (fun ⟨q, hq⟩ => ⟨q, l b q hq⟩) id
      | none =>
        simp only [h1] at e
        cases h2 : σ b with
        | some _ => simp only [h2] at e; cases e
        | none => simp only [h2] at e; exact .inl ⟨p, e⟩

/-- a step of the library that turns no object -/
theorem WP.val {t : Sem α} {P : α → Prop} {Q : α → AH → Prop} (h : ∀ s, Real X σ s → ∀ Q' : α → Shared → Prop, (∀ a tk, P a → Q' a { s with toks := tk }) → wpAny (model X.prog X.w) A t Q' (fun _ _ => False) s)
    (hq : ∀ a, P a → Q a σ) : WP X A t σ Q := WP.of fun s R => with_tk (Nat.le_refl s.toks) (h s R _ fun a tk e htk => ⟨σ, R.toks tk (Nat.le_trans R.tk htk), Step.toks σ s tk, hq a e⟩)

theorem Real.new {σ : AH} (R : Real X σ s) {h' : Heap} {tk : Nat} {p : PO} (hs : s.heap.objs.size < h'.objs.size) (hk : ∀ b o, s.heap.get? b = some o → h'.get? b = some o) (hz : Rz h' s.heap.objs.size p) (htk : 1 ≤ tk) :
    Real X (σ.set s.heap.objs.size p) { s with heap := h', toks := tk } ∧ Step σ s (σ.set s.heap.objs.size p) { s with heap := h', toks := tk } ∧ σ s.heap.objs.size = none ∧ X.base.get? s.heap.objs.size = none := by
  have hn : s.heap.get? s.heap.objs.size = none := by
    cases q : s.heap.get? s.heap.objs.size with
    | none => rfl
    | some o => exact absurd (Heap.lt_size q) (Nat.lt_irrefl _)
  have hσ : σ s.heap.objs.size = none := by
    cases q : σ s.heap.objs.size with
    | none => rfl
    | some p => obtain ⟨o, ho⟩ := (R.rz _ _ q).there; rw [hn] at ho; cases ho
  have hb : X.base.get? s.heap.objs.size = none := by
    cases q : X.base.get? s.heap.objs.size with
    | none => rfl
    | some o => rw [R.base _ _ q] at hn; cases hn
  refine ⟨⟨fun a q e => ?_, fun b o e => hk b o (R.base b o e), fun a q e => ?_, R.gens, R.os, htk⟩, ⟨fun b o _ e => hk b o e, fun b q e => ?_, fun _ _ => rfl, Nat.le_refl _⟩, hσ, hb⟩
  · by_cases ha : a = s.heap.objs.size
    · subst ha; rw [AH.set_self] at e; cases e; exact hz
    · rw [AH.set_ne _ _ ha] at e; exact (R.rz a q e).keep fun o ho => hk a o ho
  · by_cases ha : a = s.heap.objs.size
    · subst ha; exact hb
    · rw [AH.set_ne _ _ ha] at e; exact R.apart a q e
  · by_cases ha : b = s.heap.objs.size
    · subst ha; exact .inr hn
    · rw [AH.set_ne _ _ ha] at e; exact .inl ⟨q, e⟩

theorem Real.turn {σ : AH} (R : Real X σ s) {a : Addr} {p₀ p : PO} (ha : σ a = some p₀) {h' : Heap} {tk : Nat} (hk : ∀ b o, b ≠ a → s.heap.get? b = some o → h'.get? b = some o) (hz : Rz h' a p) (htk : 1 ≤ tk) :
    Real X (σ.set a p) { s with heap := h', toks := tk } ∧ Step σ s (σ.set a p) { s with heap := h', toks := tk } := by
  have hb := R.apart a _ ha
  refine ⟨⟨fun b q e => ?_, fun b o e => hk b o (fun z => by rw [z, hb] at e; cases e) (R.base b o e), fun b q e => ?_, R.gens, R.os, htk⟩, ⟨fun b o hn e => hk b o (fun z => by rw [z, ha] at hn; cases hn) e, fun b q e => ?_, fun _ _ => rfl, Nat.le_refl _⟩⟩
  · by_cases hx : b = a
    · subst hx; rw [AH.set_self] at e; cases e; exact hz
    · rw [AH.set_ne _ _ hx] at e; exact (R.rz b q e).keep fun o ho => hk b o hx ho
  · by_cases hx : b = a
    · subst hx; exact hb
    · rw [AH.set_ne _ _ hx] at e; exact R.apart b q e
  · by_cases hx : b = a
    · subst hx; exact .inl ⟨_, ha⟩
    · rw [AH.set_ne _ _ hx] at e; exact .inl ⟨q, e⟩
end
end Mine
end

section
open PySem PySem.W PyProof.Rows
namespace Mine

structure Rm (A : Around) (k : Nat) : Prop where
  hh : A.handled = none
  d : A.depth + k < 900
  u : A.units + 40 * k < 9000
  fr : ∃ fs, A.frames = some fs
theorem Rm.up {A : Around} {k j : Nat} (h : Rm A k) (hj : j ≤ k) : Rm A j := ⟨h.hh, by have := h.d; omega, by have := h.u; omega, h.fr⟩
theorem Rm.deeper {A : Around} {k : Nat} (h : Rm A (k + 1)) (env : Env) : Rm (A.deeper env) k :=
  ⟨h.hh, by have := h.d; show A.depth + 1 + k < 900; omega, by have := h.u; show A.units + 3 + 40 * k < 9000; omega, let ⟨fs, e⟩ := h.fr; ⟨env :: fs, by show A.frames.map _ = _; rw [e]; rfl⟩⟩
theorem Rm.depth {A : Around} {k : Nat} (h : Rm A k) : A.depth < recursionLimit := by have := h.d; show A.depth < 1000; omega
theorem Rm.units {A : Around} {k : Nat} (h : Rm A k) : A.units < cLine := by have := h.u; show A.units < 9900; omega
theorem Rm.units1 {A : Around} {k : Nat} (h : Rm A k) (n : Nat) (hn : n < 900) : A.units + n < cLine := by have := h.u; show A.units + n < 9900; omega

section
variable (X : Cx) (A : Around) (env : Env)
abbrev WV (t : Sem Value) (σ : AH) (Q : PV → AH → Prop) : Prop := WP X A t σ fun v σ' => Q (pv v) σ'
def EV (e : Expr) (σ : AH) (Q : PV → AH → Prop) : Prop := WV X A (eval e env) σ Q
def TS (e : Expr) (σ : AH) (Q : Bool → AH → Prop) : Prop := WP X A (isTrue e env (eval e env)) σ Q
def BIN (op : Operator) (a b : PV) (σ : AH) (Q : PV → AH → Prop) : Prop := ∀ va vb, pv va = a → pv vb = b → WV X A (binaryOp op va vb) σ Q
def IOP (op : Operator) (a b : PV) (σ : AH) (Q : PV → AH → Prop) : Prop := ∀ va vb, pv va = a → pv vb = b → WV X A (inplaceOp op va vb) σ Q
def CMP (op : CmpOp) (a b : PV) (σ : AH) (Q : PV → AH → Prop) : Prop := ∀ va vb, pv va = a → pv vb = b → WV X A (compareOp op va vb) σ Q
def TRU (a : PV) (σ : AH) (Q : Bool → AH → Prop) : Prop := ∀ va, pv va = a → WP X A (truthy va) σ Q
end

section
variable {X : Cx} {A : Around} {env : Env} {σ : AH} {Q : PV → AH → Prop}
/-- a value of a known make, no object turned -/
theorem WV.val {t : Sem Value} {p : PV} (h : ∀ s, Real X σ s → ∀ Q' : Value → Shared → Prop, (∀ v tk, pv v = p → Q' v { s with toks := tk }) → wpAny (model X.prog X.w) A t Q' (fun _ _ => False) s)
    (hq : Q p σ) : WV X A t σ Q := WP.val (P := fun v => pv v = p) h fun v e => by rw [e]; exact hq
theorem EV.mono {e : Expr} {Q' : PV → AH → Prop} (h : EV X A env e σ Q) (hQ : ∀ v σ', Q v σ' → Q' v σ') : EV X A env e σ Q' := WP.mono h fun v σ' q => hQ _ σ' q

theorem EV.int {i : Int} {k : Nat} {pos : Pos} (h : Q (.int i) σ) : EV X A env (.Constant (.int i) k pos) σ Q :=
  WV.val (fun s R Q' hQ => wpAny_Constant_int (hQ _ _ rfl)) h
theorem EV.str {i : Str} {k : Nat} {pos : Pos} (h : Q (.str i) σ) : EV X A env (.Constant (.str i) k pos) σ Q :=
  WV.val (fun s R Q' hQ => wpAny_Constant_str (hQ _ _ rfl)) h
theorem EV.bool {i : Bool} {k : Nat} {pos : Pos} (h : Q (.bool i) σ) : EV X A env (.Constant (.bool i) k pos) σ Q :=
  WV.val (fun s R Q' hQ => wpAny_Constant_bool (hQ _ s.toks rfl)) h
theorem EV.noneC {k : Nat} {pos : Pos} (h : Q .none σ) : EV X A env (.Constant .none k pos) σ Q :=
  WV.val (fun s R Q' hQ => wpAny_Constant_none (hQ _ s.toks rfl)) h

theorem EV.loc {x : Str} {pos : Pos} {m : Str → Option PV} {p : PV} (hm : σ env.locals = some (.ns m)) (hx : m x = some p) (h : Q p σ)
    (hk : env.scope.kind = .function := by rfl) (hl : env.kindOf x = some .local := by rfl) (hd : (x == ("__debug__" : Str)) = false := by decide) : EV X A env (.Name x pos) σ Q :=
  WV.val (fun s R Q' hQ => by
    obtain ⟨m', hn, e⟩ := R.rz _ _ hm
    have e' := e x
    rw [hx] at e'
    cases hv : m' x with
    | none => rw [hv] at e'; cases e'
    | some v =>
      rw [hv] at e'
      exact wpAny_Name (wpAny_loadName_local hk hl hn hv (hQ v s.toks (Option.some.inj e'))) hd) h
theorem EV.cell {x : Str} {pos : Pos} {c : Addr} {p : PV} (hc : env.cells.lookup x = some c) (hx : σ c = some (.cell (some p))) (h : Q p σ)
    (hk : env.scope.kind = .function := by rfl) (hl : env.kindOf x = some .cell := by rfl) (hd : (x == ("__debug__" : Str)) = false := by decide) : EV X A env (.Name x pos) σ Q :=
  WV.val (fun s R Q' hQ => by
    obtain ⟨o, u, ho, hd', e⟩ := R.rz _ _ hx
    cases u with
    | none => cases e
    | some v => exact wpAny_Name (wpAny_loadName_cell hk hl hc ⟨o, ho, hd'⟩ (hQ v s.toks (Option.some.inj e))) hd) h
theorem EV.glob {x : Str} {pos : Pos} {v : Value} (O : X.Ok) (hx : X.mg x = some v) (h : Q (pv v) σ)
    (hg : env.globals = mainGlobals := by rfl) (hk : env.scope.kind = .function := by rfl) (hl : env.kindOf x = some .globalImplicit := by rfl) (hd : (x == ("__debug__" : Str)) = false := by decide) : EV X A env (.Name x pos) σ Q :=
  WV.val (fun s R Q' hQ => Calls.Name_function_global hk hl (Calls.loadGlobal_global (env := env) (mg := X.mg) (by rw [hg]; exact O.g.keeps R.base) hx (hQ v s.toks rfl)) hd) h
theorem EV.bltn {x : Str} {pos : Pos} {v : Value} (O : X.Ok) (hm : X.mg x = .none) (hx : X.mb x = some v) (h : Q (pv v) σ)
    (hg : env.globals = mainGlobals := by rfl) (hb : env.builtins = builtinsNs := by rfl) (hk : env.scope.kind = .function := by rfl) (hl : env.kindOf x = some .globalImplicit := by rfl) (hd : (x == ("__debug__" : Str)) = false := by decide) : EV X A env (.Name x pos) σ Q :=
  WV.val (fun s R Q' hQ => Calls.Name_function_global hk hl (Calls.loadGlobal_builtin (env := env) (mg := X.mg) (mb := X.mb) (by rw [hg]; exact O.g.keeps R.base) hm (by rw [hb]; exact O.b.keeps R.base) hx (hQ v s.toks rfl)) hd) h

theorem EV.bin {l r : Expr} {op : Operator} {pos : Pos} (h : EV X A env l σ fun a σ₁ => EV X A env r σ₁ fun b σ₂ => BIN X A op a b σ₂ Q) : EV X A env (.BinOp l op r pos) σ Q :=
  WP.of fun s R => wpAny_BinOp (h.go R (Step.refl σ s) fun va σ₁ s₁ R₁ S₁ h₁ => WP.go h₁ R₁ S₁ fun vb σ₂ s₂ R₂ S₂ h₂ => WP.go (h₂ va vb rfl rfl) R₂ S₂ fun v σ₃ s₃ R₃ S₃ q => ⟨σ₃, R₃, S₃, q⟩)
theorem EV.neg {e : Expr} {pos : Pos} (h : EV X A env e σ fun a σ₁ => ∃ i, a = .int i ∧ Q (.int (-i)) σ₁) : EV X A env (.UnaryOp .USub e pos) σ Q :=
  WP.of fun s R => wpAny_UnaryOp (h.go R (Step.refl σ s) fun va σ₁ s₁ R₁ S₁ ⟨i, e, q⟩ => by
    obtain ⟨t, rfl⟩ := pv_int e
    exact P.neg_int ⟨σ₁, R₁.tick _, S₁.trans (Step.toks σ₁ s₁ _), q⟩)
theorem EV.cmp {l r : Expr} {op : CmpOp} {pos : Pos} (h : EV X A env l σ fun a σ₁ => EV X A env r σ₁ fun b σ₂ => CMP X A op a b σ₂ Q)
    (hm : behindInMarks op r = false := by rfl) : EV X A env (.Compare l [op] [r] pos) σ Q :=
  WP.of fun s R => wpAny_Compare1 (h.go R (Step.refl σ s) fun va σ₁ s₁ R₁ S₁ h₁ => WP.go h₁ R₁ S₁ fun vb σ₂ s₂ R₂ S₂ h₂ => WP.go (h₂ va vb rfl rfl) R₂ S₂ fun v σ₃ s₃ R₃ S₃ q => ⟨σ₃, R₃, S₃, q⟩) hm
theorem EV.ifexp {t b o : Expr} {pos : Pos} (h : TS X A env t σ fun c σ₁ => (c = true → EV X A env b σ₁ Q) ∧ (c = false → EV X A env o σ₁ Q)) : EV X A env (.IfExp t b o pos) σ Q :=
  WP.of fun s R => wpAny_IfExp (h.go R (Step.refl σ s) fun c σ₁ s₁ R₁ S₁ q => by
    cases c with
    | true => exact WP.go (q.1 rfl) R₁ S₁ fun v σ₃ s₃ R₃ S₃ q => ⟨σ₃, R₃, S₃, q⟩
    | false => exact WP.go (q.2 rfl) R₁ S₁ fun v σ₃ s₃ R₃ S₃ q => ⟨σ₃, R₃, S₃, q⟩)
theorem EV.and2 {x y : Expr} {pos : Pos} (h : EV X A env x σ fun a σ₁ => TRU X A a σ₁ fun c σ₂ => (c = true → EV X A env y σ₂ Q) ∧ (c = false → Q a σ₂)) : EV X A env (.BoolOp .And [x, y] pos) σ Q :=
  WP.of fun s R => wpAny_And2 (h.go R (Step.refl σ s) fun va σ₁ s₁ R₁ S₁ h₁ => WP.go (h₁ va rfl) R₁ S₁ fun c σ₂ s₂ R₂ S₂ q => by
    cases c with
    | true => exact WP.go (q.1 rfl) R₂ S₂ fun v σ₃ s₃ R₃ S₃ q => ⟨σ₃, R₃, S₃, q⟩
    | false => exact ⟨σ₂, R₂, S₂, q.2 rfl⟩)

theorem TS.val {e : Expr} {Q : Bool → AH → Prop} (h : EV X A env e σ fun a σ₁ => TRU X A a σ₁ Q)
    (he : ∀ w, isTrue e env w = (do let v ← w; standAt e.pos; holding [v] (truthy v)) := by intro _; rfl) : TS X A env e σ Q :=
  WP.of fun s R => wpAny_isTrue_value (h.go R (Step.refl σ s) fun va σ₁ s₁ R₁ S₁ h₁ => WP.go (h₁ va rfl) R₁ S₁ fun c σ₂ s₂ R₂ S₂ q => ⟨σ₂, R₂, S₂, q⟩) (he _)
theorem TS.cmp {l r : Expr} {op : CmpOp} {pos : Pos} {Q : Bool → AH → Prop} (h : EV X A env l σ fun a σ₁ => EV X A env r σ₁ fun b σ₂ => CMP X A op a b σ₂ fun c σ₃ => ∃ t, c = .bool t ∧ Q t σ₃)
    (hm : behindInMarks op r = false := by rfl) : TS X A env (.Compare l [op] [r] pos) σ Q :=
  WP.of fun s R => wpAny_isTrue_Compare1 (h.go R (Step.refl σ s) fun va σ₁ s₁ R₁ S₁ h₁ => WP.go h₁ R₁ S₁ fun vb σ₂ s₂ R₂ S₂ h₂ => WP.go (h₂ va vb rfl rfl) R₂ S₂ fun v σ₃ s₃ R₃ S₃ ⟨t, e, q⟩ => by
    rw [pv_bool e]; exact wpAny_truthy_bool ⟨σ₃, R₃, S₃, q⟩) hm
theorem TS.and2 {x y : Expr} {pos : Pos} {Q : Bool → AH → Prop} (h : TS X A env x σ fun c σ₁ => (c = true → TS X A env y σ₁ Q) ∧ (c = false → Q false σ₁)) : TS X A env (.BoolOp .And [x, y] pos) σ Q :=
  WP.of fun s R => wpAny_isTrue_BoolOp (wpAny_allTrue_And_cons (h.go R (Step.refl σ s) fun c σ₁ s₁ R₁ S₁ q => by
    cases c with
    | true => exact wpAny_allTrue_And_cons (WP.go (q.1 rfl) R₁ S₁ fun c σ₃ s₃ R₃ S₃ q => by
        cases c with
        | true => exact wpAny_allTrue_And_nil ⟨σ₃, R₃, S₃, q⟩
        | false => exact ⟨σ₃, R₃, S₃, q⟩)
    | false => exact ⟨σ₁, R₁, S₁, q.2 rfl⟩))
theorem TS.or2 {x y : Expr} {pos : Pos} {Q : Bool → AH → Prop} (h : TS X A env x σ fun c σ₁ => (c = true → Q true σ₁) ∧ (c = false → TS X A env y σ₁ Q)) : TS X A env (.BoolOp .Or [x, y] pos) σ Q :=
  WP.of fun s R => wpAny_isTrue_BoolOp (wpAny_allTrue_Or_cons (h.go R (Step.refl σ s) fun c σ₁ s₁ R₁ S₁ q => by
    cases c with
    | false => exact wpAny_allTrue_Or_cons (WP.go (q.2 rfl) R₁ S₁ fun c σ₃ s₃ R₃ S₃ q => by
        cases c with
        | false => exact wpAny_allTrue_Or_nil ⟨σ₃, R₃, S₃, q⟩
        | true => exact ⟨σ₃, R₃, S₃, q⟩)
    | true => exact ⟨σ₁, R₁, S₁, q.1 rfl⟩))
/-- a <= b < c -/
theorem TS.chain {l r₁ r₂ : Expr} {o₁ o₂ : CmpOp} {pos : Pos} {Q : Bool → AH → Prop}
    (h : EV X A env l σ fun a σ₁ => EV X A env r₁ σ₁ fun b σ₂ => CMP X A o₁ a b σ₂ fun c σ₃ => ∃ t, c = .bool t ∧ (t = false → Q false σ₃) ∧ (t = true → EV X A env r₂ σ₃ fun d σ₄ => CMP X A o₂ b d σ₄ fun c σ₅ => ∃ t, c = .bool t ∧ Q t σ₅))
    (hm : lastMarks [o₁, o₂] [r₁, r₂] = false := by rfl) : TS X A env (.Compare l [o₁, o₂] [r₁, r₂] pos) σ Q :=
  WP.of fun s R => isTrue_chain (h.go R (Step.refl σ s) fun va σ₁ s₁ R₁ S₁ h₁ => by
    refine test_link ?_
    refine WP.go h₁ R₁ S₁ fun vb σ₂ s₂ R₂ S₂ h₂ => WP.go (h₂ va vb rfl rfl) R₂ S₂ fun v σ₃ s₃ R₃ S₃ ⟨t, e, q0, q1⟩ => ?_
    rw [pv_bool e]
    refine wpAny_truthy_bool ?_
    cases t with
    | false => exact ⟨σ₃, R₃, S₃, q0 rfl⟩
    | true =>
      refine test_last ?_
      refine WP.go (q1 rfl) R₃ S₃ fun vd σ₄ s₄ R₄ S₄ h₄ => WP.go (h₄ vb vd rfl rfl) R₄ S₄ fun v σ₅ s₅ R₅ S₅ ⟨t, e, q⟩ => ?_
      rw [pv_bool e]
      exact wpAny_truthy_bool ⟨σ₅, R₅, S₅, q⟩) hm

theorem TRU.bool {b : Bool} {Q : Bool → AH → Prop} (h : Q b σ) : TRU X A (.bool b) σ Q := fun va e => WP.of fun s R => by
  rw [pv_bool e]; exact wpAny_truthy_bool ⟨σ, R, Step.refl σ s, h⟩
theorem TRU.int {b : Int} {Q : Bool → AH → Prop} (h : Q (b != 0) σ) : TRU X A (.int b) σ Q := fun va e => WP.of fun s R => by
  obtain ⟨t, rfl⟩ := pv_int e
  exact P.truthy_int ⟨σ, R, Step.refl σ s, h⟩

section
variable {i j : Int}
theorem BIN.add (h : Q (.int (i + j)) σ) : BIN X A .Add (.int i) (.int j) σ Q := fun va vb ea eb => WP.of fun s R => by
  obtain ⟨t, rfl⟩ := pv_int ea; obtain ⟨u, rfl⟩ := pv_int eb
  exact P.add_int ⟨σ, R.tick _, Step.toks σ s _, h⟩
theorem BIN.sub (h : Q (.int (i - j)) σ) : BIN X A .Sub (.int i) (.int j) σ Q := fun va vb ea eb => WP.of fun s R => by
  obtain ⟨t, rfl⟩ := pv_int ea; obtain ⟨u, rfl⟩ := pv_int eb
  exact P.sub_int ⟨σ, R.tick _, Step.toks σ s _, h⟩
theorem IOP.add (h : Q (.int (i + j)) σ) : IOP X A .Add (.int i) (.int j) σ Q := fun va vb ea eb => WP.of fun s R => by
  obtain ⟨t, rfl⟩ := pv_int ea; obtain ⟨u, rfl⟩ := pv_int eb
  exact P.iadd_int ⟨σ, R.tick _, Step.toks σ s _, h⟩
theorem IOP.sub (h : Q (.int (i - j)) σ) : IOP X A .Sub (.int i) (.int j) σ Q := fun va vb ea eb => WP.of fun s R => by
  obtain ⟨t, rfl⟩ := pv_int ea; obtain ⟨u, rfl⟩ := pv_int eb
  exact P.isub_int ⟨σ, R.tick _, Step.toks σ s _, h⟩
theorem BIN.mul (hm : IntMulOk i j) (h : Q (.int (i * j)) σ) : BIN X A .Mult (.int i) (.int j) σ Q := fun va vb ea eb => WP.of fun s R => by
  obtain ⟨t, rfl⟩ := pv_int ea; obtain ⟨u, rfl⟩ := pv_int eb
  exact P.mul_int ⟨σ, R.tick _, Step.toks σ s _, h⟩ hm
theorem BIN.fmod (hj : j ≠ 0) (h : Q (.int (i.fmod j)) σ) : BIN X A .Mod (.int i) (.int j) σ Q := fun va vb ea eb => WP.of fun s R => by
  obtain ⟨t, rfl⟩ := pv_int ea; obtain ⟨u, rfl⟩ := pv_int eb
  exact AutoIntOps.mod_1 (by simpa using hj) ⟨σ, R.tick _, Step.toks σ s _, h⟩
theorem CMP.eq_i (h : Q (.bool (i == j)) σ) : CMP X A .Eq (.int i) (.int j) σ Q := fun va vb ea eb => WP.of fun s R => by
  obtain ⟨t, rfl⟩ := pv_int ea; obtain ⟨u, rfl⟩ := pv_int eb
  exact P.eq_int ⟨σ, R, Step.refl σ s, h⟩
theorem CMP.ne_i (h : Q (.bool (i != j)) σ) : CMP X A .NotEq (.int i) (.int j) σ Q := fun va vb ea eb => WP.of fun s R => by
  obtain ⟨t, rfl⟩ := pv_int ea; obtain ⟨u, rfl⟩ := pv_int eb
  exact P.ne_int ⟨σ, R, Step.refl σ s, h⟩
theorem CMP.lt_i (h : Q (.bool (decide (i < j))) σ) : CMP X A .Lt (.int i) (.int j) σ Q := fun va vb ea eb => WP.of fun s R => by
  obtain ⟨t, rfl⟩ := pv_int ea; obtain ⟨u, rfl⟩ := pv_int eb
  exact P.lt_int ⟨σ, R, Step.refl σ s, h⟩
theorem CMP.le_i (h : Q (.bool (decide (i ≤ j))) σ) : CMP X A .LtE (.int i) (.int j) σ Q := fun va vb ea eb => WP.of fun s R => by
  obtain ⟨t, rfl⟩ := pv_int ea; obtain ⟨u, rfl⟩ := pv_int eb
  exact P.le_int ⟨σ, R, Step.refl σ s, h⟩
theorem CMP.gt_i (h : Q (.bool (decide (i > j))) σ) : CMP X A .Gt (.int i) (.int j) σ Q := fun va vb ea eb => WP.of fun s R => by
  obtain ⟨t, rfl⟩ := pv_int ea; obtain ⟨u, rfl⟩ := pv_int eb
  exact P.gt_int ⟨σ, R, Step.refl σ s, h⟩
theorem CMP.ge_i (h : Q (.bool (decide (i ≥ j))) σ) : CMP X A .GtE (.int i) (.int j) σ Q := fun va vb ea eb => WP.of fun s R => by
  obtain ⟨t, rfl⟩ := pv_int ea; obtain ⟨u, rfl⟩ := pv_int eb
  exact P.ge_int ⟨σ, R, Step.refl σ s, h⟩
end
section
variable {x y : Str}
theorem str_eq_cps {x y : Str} : (x.cps.toList == y.cps.toList) = decide (x = y) := by
  cases x; cases y
  rename_i a b
  simp only [Str.mk.injEq]
  by_cases h : a = b
  · subst h; simp
  · have : a.toList ≠ b.toList := fun e => h (Array.toList_inj.mp e)
    simp [h, this]
theorem CMP.eq_s (h : Q (.bool (decide (x = y))) σ) : CMP X A .Eq (.str x) (.str y) σ Q := fun va vb ea eb => WP.of fun s R => by
  obtain ⟨t, rfl⟩ := pv_str ea; obtain ⟨u, rfl⟩ := pv_str eb
  exact P.eq_str ⟨σ, R, Step.refl σ s, by rw [str_eq_cps]; exact h⟩
theorem CMP.ne_s (h : Q (.bool (!decide (x = y))) σ) : CMP X A .NotEq (.str x) (.str y) σ Q := fun va vb ea eb => WP.of fun s R => by
  obtain ⟨t, rfl⟩ := pv_str ea; obtain ⟨u, rfl⟩ := pv_str eb
  exact P.ne_str ⟨σ, R, Step.refl σ s, by rw [bne, str_eq_cps]; exact h⟩
theorem CMP.notin_s (h : Q (.bool (!Txt.contains x y)) σ) : CMP X A .NotIn (.str y) (.str x) σ Q := fun va vb ea eb => WP.of fun s R => by
  obtain ⟨t, rfl⟩ := pv_str ea; obtain ⟨u, rfl⟩ := pv_str eb
  exact SB.notContains ⟨σ, R, Step.refl σ s, h⟩
theorem Str.empty_add (x : Str) : (Str.empty ++ x) = x := Str.empty_append x
theorem BIN.cat (hl : (x ++ y).length ≤ sizeLine) (h : Q (.str (x ++ y)) σ) : BIN X A .Add (.str x) (.str y) σ Q := fun va vb ea eb => WP.of fun s R => by
  obtain ⟨t, rfl⟩ := pv_str ea; obtain ⟨u, rfl⟩ := pv_str eb
  refine P.add_str ?_
  split
  · rename_i h0
    have : x = Str.empty := by
      cases x with | mk c => have h0' : c.size = 0 := by simpa [Str.length] using h0
                             have : c = #[] := Array.eq_empty_of_size_eq_zero h0'
                             subst this; rfl
    subst this
    rw [Str.empty_append] at h
    exact ⟨σ, R, Step.refl σ s, h⟩
  · split
    · rename_i h0
      have : y = Str.empty := by
        cases y with | mk c => have h0' : c.size = 0 := by simpa [Str.length] using h0
                               have : c = #[] := Array.eq_empty_of_size_eq_zero h0'
                               subst this; rfl
      subst this
      have e : x ++ Str.empty = x := by cases x with | mk c => exact congrArg Str.mk (Array.append_empty)
      rw [e] at h
      exact ⟨σ, R, Step.refl σ s, h⟩
    · exact ⟨hl, σ, R.tick _, Step.toks σ s _, h⟩
end
theorem CMP.is_none {p : PV} (h : Q (.bool (decide (p = .none))) σ) : CMP X A .Is p .none σ Q := fun va vb ea eb => WP.of fun s R => by
  rw [pv_none eb]
  refine PySem.is_none ⟨σ, R, Step.refl σ s, ?_⟩
  have e : (va == Value.none) = decide (p = .none) := by
    subst ea
    cases va <;> simp [pv]
  rw [e]; exact h
theorem CMP.isnot_none {p : PV} (h : Q (.bool (!decide (p = .none))) σ) : CMP X A .IsNot p .none σ Q := fun va vb ea eb => WP.of fun s R => by
  rw [pv_none eb]
  refine PySem.isNot_none ⟨σ, R, Step.refl σ s, ?_⟩
  have e : (va == Value.none) = decide (p = .none) := by
    subst ea
    cases va <;> simp [pv]
  rw [e]; exact h
theorem CMP.is_b {p q : Bool} (h : Q (.bool (p == q)) σ) : CMP X A .Is (.bool p) (.bool q) σ Q := fun va vb ea eb => WP.of fun s R => by
  rw [pv_bool ea, pv_bool eb]
  refine wpAny_is_plain rfl ⟨σ, R, Step.refl σ s, ?_⟩
  have e : (Value.bool p == Value.bool q) = (p == q) := by cases p <;> cases q <;> rfl
  rw [e]; exact h
theorem CMP.isnot_b {p q : Bool} (h : Q (.bool (p != q)) σ) : CMP X A .IsNot (.bool p) (.bool q) σ Q := fun va vb ea eb => WP.of fun s R => by
  rw [pv_bool ea, pv_bool eb]
  refine wpAny_isNot_plain rfl ⟨σ, R, Step.refl σ s, ?_⟩
  have e : (!(Value.bool p == Value.bool q)) = (p != q) := by cases p <;> cases q <;> rfl
  rw [e]; exact h
theorem CMP.is_raw {p q : Value} (hp : plainIs p q = true) (h : Q (.bool (p == q)) σ) : CMP X A .Is (.raw p) (.raw q) σ Q := fun va vb ea eb => WP.of fun s R => by
  rw [pv_raw ea, pv_raw eb]
  exact wpAny_is_plain hp ⟨σ, R, Step.refl σ s, h⟩
theorem CMP.isnot_raw {p q : Value} (hp : plainIs p q = true) (h : Q (.bool (!(p == q))) σ) : CMP X A .IsNot (.raw p) (.raw q) σ Q := fun va vb ea eb => WP.of fun s R => by
  rw [pv_raw ea, pv_raw eb]
  exact wpAny_isNot_plain hp ⟨σ, R, Step.refl σ s, h⟩
end
end Mine
end

section
open PySem PySem.W PyProof.Rows
namespace Mine

inductive PF where
  | next | brk | cont | ret (v : PV)
def pf : Flow → PF
  | .next => .next
  | .brk => .brk
  | .cont => .cont
  | .ret v => .ret (pv v)
def upd (m : Str → Option PV) (x : Str) (p : PV) : Str → Option PV := fun y => if y = x then some p else m y
@[simp] theorem upd_self (m : Str → Option PV) (x : Str) (p : PV) : upd m x p x = some p := by simp [upd]
theorem upd_ne (m : Str → Option PV) {x y : Str} (p : PV) (h : y ≠ x) : upd m x p y = m y := by simp [upd, h]

section
variable (X : Cx) (A : Around) (env : Env)
def EX (st : Stmt) (σ : AH) (Q : PF → AH → Prop) : Prop := WP X A (exec st env) σ fun f σ' => Q (pf f) σ'
def XS (st : List Stmt) (σ : AH) (Q : PF → AH → Prop) : Prop := WP X A (execs st env) σ fun f σ' => Q (pf f) σ'
def ST (x : Str) (p : PV) (σ : AH) (Q : AH → Prop) : Prop := ∀ v, pv v = p → WP X A (storeName env x v) σ fun _ σ' => Q σ'
def ASG (t : Expr) (p : PV) (σ : AH) (Q : AH → Prop) : Prop := ∀ v, pv v = p → WP X A (assign t env v) σ fun _ σ' => Q σ'
def STS : List Str → List PV → AH → (AH → Prop) → Prop
  | x :: xs, p :: ps, σ, Q => ST X A env x p σ fun σ' => STS xs ps σ' Q
  | [], [], σ, Q => Q σ
  | _, _, _, _ => False
end

section
variable {X : Cx} {A : Around} {env : Env} {σ : AH} {Q : PF → AH → Prop}
theorem EX.mono {st : Stmt} {Q' : PF → AH → Prop} (h : EX X A env st σ Q) (hQ : ∀ v σ', Q v σ' → Q' v σ') : EX X A env st σ Q' := WP.mono h fun v σ' q => hQ _ σ' q
theorem XS.mono {st : List Stmt} {Q' : PF → AH → Prop} (h : XS X A env st σ Q) (hQ : ∀ v σ', Q v σ' → Q' v σ') : XS X A env st σ Q' := WP.mono h fun v σ' q => hQ _ σ' q
theorem XS.post {st : List Stmt} {Q' : PF → AH → Prop} (h : XS X A env st σ Q) (hQ : ∀ v σ', Q v σ' → ∃ σ'', AH.le σ'' σ' ∧ Q' v σ'') : XS X A env st σ Q' := WP.post h fun v σ' q => hQ _ σ' q
theorem XS.nil (h : Q .next σ) : XS X A env [] σ Q := WP.of fun s R => wpAny_execs_nil ⟨σ, R, Step.refl σ s, h⟩
theorem XS.cons {st : Stmt} {rest : List Stmt} (h : EX X A env st σ fun f σ' => match f with | .next => XS X A env rest σ' Q | f => Q f σ') : XS X A env (st :: rest) σ Q :=
  WP.of fun s R => wpAny_execs_cons (h.go R (Step.refl σ s) fun f σ₁ s₁ R₁ S₁ q => by
    cases f with
    | next => exact WP.go (h := q) R₁ S₁ fun f σ₂ s₂ R₂ S₂ q => ⟨σ₂, R₂, S₂, q⟩
    | brk => exact ⟨σ₁, R₁, S₁, q⟩
    | cont => exact ⟨σ₁, R₁, S₁, q⟩
    | ret v => exact ⟨σ₁, R₁, S₁, q⟩)

theorem ST.loc {x : Str} {p : PV} {m : Str → Option PV} {Q : AH → Prop} (hm : σ env.locals = some (.ns m)) (h : Q (σ.set env.locals (.ns (upd m x p))))
    (hl : env.kindOf x = some .local := by rfl) (hp : (env.scope.kind == .class || (env.scope.kind == .module && env.locals != env.globals)) = false := by rfl) : ST X A env x p σ Q := fun v e => WP.of fun s R => by
  obtain ⟨m', hn, em⟩ := R.rz _ _ hm
  refine wpAny_storeName_local hl hn (fun h' hn' hs => ?_) hp
  have z := R.turn hm (h' := h') (tk := s.toks + 1) (p := .ns (upd m x p)) (fun b o hb eb => (hs.2 b hb).trans eb) ⟨_, hn', fun y => by
    by_cases hy : y = x
    · subst hy; simp [e]
    · simp [hy, upd, em y]⟩ (Nat.succ_le_succ (Nat.zero_le _))
  exact ⟨_, z.1, z.2, h⟩
theorem ST.cell {x : Str} {p : PV} {c : Addr} {u : Option PV} {Q : AH → Prop} (hc : env.cells.lookup x = some c) (hm : σ c = some (.cell u)) (h : Q (σ.set c (.cell (some p))))
    (hk : env.scope.kind = .function := by rfl) (hl : env.kindOf x = some .cell := by rfl) : ST X A env x p σ Q := fun v e => WP.of fun s R => by
  obtain ⟨o, u', ho, hd, em⟩ := R.rz _ _ hm
  refine wpAny_storeName_cell hk hl hc ⟨o, ho, hd⟩ (fun h' hn' hs => ?_)
  obtain ⟨o', ho', hd'⟩ := hn'
  have z := R.turn hm (h' := h') (tk := s.toks) (p := .cell (some p)) (fun b o hb eb => (hs.2 b hb).trans eb) ⟨o', _, ho', hd', by simp [e]⟩ R.tk
  exact ⟨_, z.1, z.2, h⟩

theorem EX.assign {x : Str} {px pos : Pos} {value : Expr} (h : EV X A env value σ fun p σ₁ => ST X A env x p σ₁ fun σ₂ => Q .next σ₂)
    (hs : swapsWith value (some (.Name x px)) pos.line env = pure false := by rfl) : EX X A env (.Assign [.Name x px] value pos) σ Q :=
  WP.of fun s R => wpAny_Assign_Name (h.go R (Step.refl σ s) fun v σ₁ s₁ R₁ S₁ h₁ => WP.go (h₁ v rfl) R₁ S₁ fun _ σ₂ s₂ R₂ S₂ q => ⟨σ₂, R₂, S₂, q⟩) hs
theorem EX.aug {x : Str} {px pos : Pos} {op : Operator} {value : Expr} {m : Str → Option PV} {p : PV} (hm : σ env.locals = some (.ns m)) (hx : m x = some p)
    (h : EV X A env value σ fun b σ₁ => IOP X A op p b σ₁ fun r σ₂ => ST X A env x r σ₂ fun σ₃ => Q .next σ₃)
    (hk : env.scope.kind = .function := by rfl) (hl : env.kindOf x = some .local := by rfl) : EX X A env (.AugAssign (.Name x px) op value pos) σ Q := WP.of fun s R => by
  obtain ⟨m', hn, e⟩ := R.rz _ _ hm
  have e' := e x
  rw [hx] at e'
  cases hv : m' x with
  | none => rw [hv] at e'; cases e'
  | some v =>
    rw [hv] at e'
    exact wpAny_AugAssign_Name (wpAny_loadName_local hk hl hn hv (h.go R (Step.refl σ s) fun b σ₁ s₁ R₁ S₁ h₁ => WP.go (h₁ v b (Option.some.inj e') rfl) R₁ S₁ fun r σ₂ s₂ R₂ S₂ h₂ =>
      WP.go (h₂ r rfl) R₂ S₂ fun _ σ₃ s₃ R₃ S₃ q => ⟨σ₃, R₃, S₃, q⟩))
theorem EX.if {t : Expr} {b o : List Stmt} {pos : Pos} (h : TS X A env t σ fun c σ₁ => (c = true → XS X A env b σ₁ Q) ∧ (c = false → XS X A env o σ₁ Q)) : EX X A env (.If t b o pos) σ Q :=
  WP.of fun s R => wpAny_If (h.go R (Step.refl σ s) fun c σ₁ s₁ R₁ S₁ q => by
    cases c with
    | true => exact WP.go (h := q.1 rfl) R₁ S₁ fun v σ₃ s₃ R₃ S₃ q => ⟨σ₃, R₃, S₃, q⟩
    | false => exact WP.go (h := q.2 rfl) R₁ S₁ fun v σ₃ s₃ R₃ S₃ q => ⟨σ₃, R₃, S₃, q⟩)
theorem EX.ret {e : Expr} {pos : Pos} (h : EV X A env e σ fun p σ₁ => Q (.ret p) σ₁) : EX X A env (.Return (some e) pos) σ Q :=
  WP.of fun s R => wpAny_Return_some (h.go R (Step.refl σ s) fun v σ₁ s₁ R₁ S₁ q => ⟨σ₁, R₁, S₁, q⟩)
theorem EX.expr {e : Expr} {pos : Pos} (h : EV X A env e σ fun p σ₁ => (∀ a, p ≠ .ref a) ∧ Q .next σ₁)
    (hi : interactive env = false := by rfl) (hs : swapsWith e none pos.line env = pure false := by rfl) : EX X A env (.Expr e pos) σ Q :=
  WP.of fun s R => wpAny_Expr (h.go R (Step.refl σ s) fun v σ₁ s₁ R₁ S₁ q => by
    cases v <;> first | exact ⟨σ₁, R₁, S₁, q.2⟩ | exact absurd rfl (q.1 _)) hi hs
theorem EX.pass {pos : Pos} (h : Q .next σ) : EX X A env (.Pass pos) σ Q := WP.of fun s R => wpAny_Pass ⟨σ, R, Step.refl σ s, h⟩

/-- a while by a measure -/
theorem EX.while {t : Expr} {b : List Stmt} {pos : Pos} (J : Nat → AH → Prop) (n : Nat) (h0 : J n σ)
    (turn : ∀ n σ', J n σ' → TS X A env t σ' fun c σ₁ => (c = false → Q .next σ₁) ∧ (c = true → XS X A env b σ₁ fun f σ₂ => match f with
      | .next | .cont => ∃ m, m < n ∧ J m σ₂
      | .brk => Q .next σ₂
      | .ret v => Q (.ret v) σ₂)) : EX X A env (.While t b [] pos) σ Q := by
  refine WP.of fun s R => wpAny_While (codeAny_whileLoop (fun n s' => ∃ σ', Real X σ' s' ∧ Step σ s σ' s' ∧ J n σ') ?_ n ⟨σ, R, Step.refl σ s, h0⟩)
  rintro n s' ⟨σ', R', S', j⟩
  refine wpAny_mono (WP.go (Q' := fun c s₁ => ∃ σ₁, Real X σ₁ s₁ ∧ Step σ s σ₁ s₁ ∧ _) (turn n σ' j) R' S' fun c σ₁ s₁ R₁ S₁ q => ⟨σ₁, R₁, S₁, q⟩) (fun c s₁ hc => ?_) fun _ _ x => x.elim
  obtain ⟨σ₁, R₁, S₁, q⟩ := hc
  cases c with
  | false => exact wpAny_execs_nil ⟨σ₁, R₁, S₁, q.1 rfl⟩
  | true =>
    refine wpAny_mono (WP.go (h := q.2 rfl) (Q' := fun f s₂ => ∃ σ₂, Real X σ₂ s₂ ∧ Step σ s σ₂ s₂ ∧ _) R₁ S₁ fun f σ₂ s₂ R₂ S₂ q => ⟨σ₂, R₂, S₂, q⟩) (fun f s₂ hf => ?_) fun _ _ x => x.elim
    obtain ⟨σ₂, R₂, S₂, q⟩ := hf
    cases f with
    | next => obtain ⟨m, hm, j⟩ := q; exact ⟨m, hm, σ₂, R₂, S₂, j⟩
    | cont => obtain ⟨m, hm, j⟩ := q; exact ⟨m, hm, σ₂, R₂, S₂, j⟩
    | brk => exact ⟨σ₂, R₂, S₂, q⟩
    | ret v => exact ⟨σ₂, R₂, S₂, q⟩

theorem ASG.name {x : Str} {px : Pos} {p : PV} {Q : AH → Prop} (h : ST X A env x p σ Q) : ASG X A env (.Name x px) p σ Q :=
  fun v e => WP.of fun s R => assign_Name ((h v e).run s R)

theorem STS.run : ∀ {names : List Str} {vals : List Value} {ps : List PV} {σ : AH} {Q : AH → Prop}, vals.map pv = ps → STS X A env names ps σ Q →
    WP X A (assignInOrder (names.map fun n => bindName env n) vals) σ fun _ σ' => Q σ'
  | [], [], _, σ, Q, e, h => by
    subst e
    exact WP.of fun s R => wpAny_pure ⟨σ, R, Step.refl σ s, h⟩
  | [], _ :: _, _, σ, Q, e, h => by subst e; exact h.elim
  | _ :: _, [], _, σ, Q, e, h => by subst e; exact h.elim
  | x :: xs, v :: vs, _, σ, Q, e, h => by
    subst e
    refine WP.of fun s R => wpAny_bind (wpAny_holding (bindName_ (WP.go (h v rfl) R (Step.refl σ s) fun _ σ₁ s₁ R₁ S₁ q => ?_)))
    exact WP.go (STS.run rfl q) R₁ S₁ fun _ σ₂ s₂ R₂ S₂ q => ⟨σ₂, R₂, S₂, q⟩

theorem unpack_tup {t : Addr} {vs : List PV} {n : Nat} {Q : List Value → AH → Prop} (hh : A.handled = none) (ht : σ t = some (.tuple vs)) (hn : n = vs.length)
    (h : ∀ vals : List Value, vals.map pv = vs → Q vals σ) : WP X A (unpackItems (.ref t) n none) σ Q := WP.of fun s R => by
  obtain ⟨vals, ho, e⟩ := R.rz _ _ ht
  have hs : n = vals.size := by rw [hn, ← e, List.length_map, Array.length_toList]
  subst hs
  refine wpAny_unpackItems_tuple hh ho fun h' he => ?_
  have hk : ∀ b o, s.heap.get? b = some o → h'.get? b = some o := fun b o eb => he b o (Nat.ne_of_lt (Heap.lt_size eb)) eb
  refine ⟨σ, ⟨fun a p ea => (R.rz a p ea).keep fun o ho => hk a o ho, fun b o eb => hk b o (R.base b o eb), R.apart, R.gens, R.os, R.tk⟩, ⟨fun b o _ eb => hk b o eb, fun b p eb => .inl ⟨p, eb⟩, fun _ _ => rfl, Nat.le_refl _⟩, h _ e⟩

theorem EX.tupS {elts : List Expr} {k : Nat} {tpos pos : Pos} {value : Expr} {names : List Str} (hh : A.handled = none)
    (h : EV X A env value σ fun p σ₁ => ∃ t vs, p = .ref t ∧ σ₁ t = some (.tuple vs) ∧ names.length = vs.length ∧ STS X A env names.reverse vs.reverse σ₁ fun σ₂ => Q .next σ₂)
    (hs : swapsWithSole [.Tuple elts k tpos] value pos.line env = pure false := by rfl)
    (hw : swappedStores [.Tuple elts k tpos] value env = pure (some names) := by rfl) : EX X A env (.Assign [.Tuple elts k tpos] value pos) σ Q :=
  WP.of fun s R => Assign_Tuple_swapped (h.go R (Step.refl σ s) fun v σ₁ s₁ R₁ S₁ ⟨t, vs, e, ht, hn, h₁⟩ => by
    rw [pv_ref e]
    refine WP.go (unpack_tup (Q := fun vals σ' => σ' = σ₁ ∧ vals.map pv = vs) hh ht hn fun vals e => ⟨rfl, e⟩) R₁ S₁ fun vals σ₂ s₂ R₂ S₂ ⟨e2, e3⟩ => ?_
    subst e2
    exact WP.go (STS.run (by rw [List.map_reverse, e3]) h₁) R₂ S₂ fun _ σ₃ s₃ R₃ S₃ q => ⟨σ₃, R₃, S₃, q⟩) hs hw
end
end Mine
end

section
open PySem PySem.W PyProof.Rows
namespace Mine

def rt : PF → PV
  | .ret v => v
  | _ => .none
theorem rt_pf (f : Flow) : rt (pf f) = pv (match f with | .ret v => v | _ => .none) := by cases f <;> rfl

section
variable (X : Cx) (A : Around) (env : Env)
def AVS : List Expr → AH → (List PV → AH → Prop) → Prop
  | [], σ, Q => Q [] σ
  | e :: es, σ, Q => EV X A env e σ fun p σ₁ => AVS es σ₁ fun ps σ₂ => Q (p :: ps) σ₂
/-- a call by values alone -/
def CV (f : Value) (ps : List PV) (σ : AH) (Q : PV → AH → Prop) : Prop := ∀ vals, vals.map pv = ps → WV X A (call f vals []) σ Q
def CK (f : Value) (ps : List PV) (kw : List (Str × PV)) (σ : AH) (Q : PV → AH → Prop) : Prop := ∀ vals ks, vals.map pv = ps → ks.map (fun x => (x.1, pv x.2)) = kw → WV X A (call f vals ks) σ Q
def plainArg : Expr → Bool
  | .Starred _ _ => false
  | _ => true
end
theorem starEach_plain {e : Expr} {rest : List Expr} {env : Env} (h : plainArg e = true) : starEach (e :: rest) env = (false, eval e env) :: starEach rest env := by
  cases e <;> first | rfl | cases h
theorem starEach_any {env : Env} {pos : Pos} : ∀ {es : List Expr}, es.all plainArg = true → (backTo pos (starEach es env)).any (·.1) = false
  | [], _ => rfl
  | e :: r, h => by
    obtain ⟨h1, h2⟩ := Bool.and_eq_true_iff.mp h
    rw [starEach_plain h1]
    show (false || (backTo pos (starEach r env)).any (·.1)) = false
    rw [starEach_any h2]; rfl
theorem kw_isSome {env : Env} {pos : Pos} : ∀ {ks : List Keyword}, ks.all (·.arg.isSome) = true → (backToKw pos (keywordEach ks env)).all (·.1.isSome) = true
  | [], _ => rfl
  | ⟨n, v, p⟩ :: r, h => by
    obtain ⟨h1, h2⟩ := Bool.and_eq_true_iff.mp h
    show (n.isSome && (backToKw pos (keywordEach r env)).all (·.1.isSome)) = true
    rw [kw_isSome h2, Bool.and_true]; exact h1

section
variable {X : Cx} {A : Around} {env : Env} {σ : AH} {Q : PV → AH → Prop}
theorem AVS.run {pos : Pos} : ∀ {es : List Expr} {σ : AH} {Q : List PV → AH → Prop}, es.all plainArg = true → AVS X A env es σ Q → WP X A (spliced (backTo pos (starEach es env))) σ fun vs σ' => Q (vs.map pv) σ'
  | [], σ, Q, _, h => WP.of fun s R => wpAny_items_nil ⟨σ, R, Step.refl σ s, h⟩
  | e :: es, σ, Q, hp, h => by
    obtain ⟨h1, h2⟩ := Bool.and_eq_true_iff.mp hp
    exact WP.of fun s R => wpAny_items_cons (WP.go h R (Step.refl σ s) fun v σ₁ s₁ R₁ S₁ q => WP.go (AVS.run h2 q) R₁ S₁ fun vs σ₂ s₂ R₂ S₂ q => ⟨σ₂, R₂, S₂, q⟩) (starEach_plain h1)

theorem evalArgs_wp {f : Value} {pos : Pos} {es : List Expr} {Q : List PV → AH → Prop} (hp : es.all plainArg = true) (h : AVS X A env es σ Q) :
    WP X A (evalArgs f true (backTo pos (starEach es env)) []) σ fun a σ' => Q (a.pos.map pv) σ' ∧ a.kw = [] := by
  cases es with
  | nil => exact WP.of fun s R => evalArgs_nil3 ⟨σ, R, Step.refl σ s, h, rfl⟩
  | cons e r =>
    obtain ⟨h1, h2⟩ := Bool.and_eq_true_iff.mp hp
    have z := AVS.run (pos := pos) hp h
    rw [starEach_plain h1] at z ⊢
    exact WP.of fun s R => Calls.evalArgs_plain (WP.go z R (Step.refl σ s) fun vs σ₁ s₁ R₁ S₁ q => ⟨σ₁, R₁, S₁, q, rfl⟩)

theorem callWith_ref {a : Addr} {o : Obj} {fd : FuncData} {pos : Pos} {es : List Expr} {first : List Value} (ho : X.base.get? a = some o) (hd : o.data = .func fd) (hp : es.all plainArg = true)
    (h : AVS X A env es σ fun ps σ₁ => CV X A (.ref a) (first.map pv ++ ps) σ₁ Q) : WV X A (callWith pos (.ref a) first (backTo pos (starEach es env)) []) σ Q :=
  WP.of fun s R => Calls.callWith_function (o := o) (fd := fd) (WP.go (evalArgs_wp hp h) R (Step.refl σ s) fun x σ₁ s₁ R₁ S₁ ⟨q, hk⟩ => ⟨⟨R₁.base _ _ ho, hd⟩, by
    rw [hk]
    exact WP.go (q (first ++ x.pos) (by simp)) R₁ S₁ fun v σ₂ s₂ R₂ S₂ q => ⟨σ₂, R₂, S₂, q⟩⟩)
theorem callWith_bi {id : String} {pos : Pos} {es : List Expr} {first : List Value} (hp : es.all plainArg = true)
    (h : AVS X A env es σ fun ps σ₁ => CV X A (.builtin id) (first.map pv ++ ps) σ₁ Q) : WV X A (callWith pos (.builtin id) first (backTo pos (starEach es env)) []) σ Q :=
  WP.of fun s R => Calls.callWith_builtin (starEach_any hp) (WP.go (evalArgs_wp hp h) R (Step.refl σ s) fun x σ₁ s₁ R₁ S₁ ⟨q, hk⟩ => by
    rw [hk]
    exact WP.go (q (first ++ x.pos) (by simp)) R₁ S₁ fun v σ₂ s₂ R₂ S₂ q => ⟨σ₂, R₂, S₂, q⟩)
theorem callWith_ty {T : String} {pos : Pos} {es : List Expr} {first : List Value} (hp : es.all plainArg = true)
    (h : AVS X A env es σ fun ps σ₁ => CV X A (.type T) (first.map pv ++ ps) σ₁ Q) : WV X A (callWith pos (.type T) first (backTo pos (starEach es env)) []) σ Q :=
  WP.of fun s R => PySem.callWith_type (starEach_any hp) (WP.go (evalArgs_wp hp h) R (Step.refl σ s) fun x σ₁ s₁ R₁ S₁ ⟨q, hk⟩ => by
    rw [hk]
    exact WP.go (q (first ++ x.pos) (by simp)) R₁ S₁ fun v σ₂ s₂ R₂ S₂ q => ⟨σ₂, R₂, S₂, q⟩)

theorem EV.callName {x : Str} {np pos : Pos} {es : List Expr} (h : EV X A env (.Name x np) σ fun p σ₁ => ∀ v, pv v = p → WV X A (callWith pos v [] (backTo pos (starEach es env)) []) σ₁ Q) :
    EV X A env (.Call (.Name x np) es [] pos) σ Q :=
  WP.of fun s R => wpAny_Call_Name_kw (WP.go h R (Step.refl σ s) fun v σ₁ s₁ R₁ S₁ q => WP.go (q v rfl) R₁ S₁ fun v σ₂ s₂ R₂ S₂ q => ⟨σ₂, R₂, S₂, q⟩)

/-- a def of the text's, called by its name -/
theorem EV.callDef {x : Str} {np pos : Pos} {es : List Expr} {a : Addr} {o : Obj} {fd : FuncData} (O : X.Ok) (hx : X.mg x = some (.ref a)) (ho : X.base.get? a = some o) (hd : o.data = .func fd)
    (h : AVS X A env es σ fun ps σ₁ => CV X A (.ref a) ps σ₁ Q) (hp : es.all plainArg = true := by rfl)
    (hg : env.globals = mainGlobals := by rfl) (hk : env.scope.kind = .function := by rfl) (hl : env.kindOf x = some .globalImplicit := by rfl) (hdb : (x == ("__debug__" : Str)) = false := by decide) :
    EV X A env (.Call (.Name x np) es [] pos) σ Q :=
  EV.callName (EV.glob O hx (fun v e => by rw [pv_ref e]; exact callWith_ref ho hd hp h) hg hk hl hdb)
/-- a builtin function, called by its name -/
theorem EV.callBi {x : Str} {np pos : Pos} {es : List Expr} {id : String} (O : X.Ok) (hm : X.mg x = Option.none) (hx : X.mb x = some (.builtin id))
    (h : AVS X A env es σ fun ps σ₁ => CV X A (.builtin id) ps σ₁ Q) (hp : es.all plainArg = true := by rfl)
    (hg : env.globals = mainGlobals := by rfl) (hb : env.builtins = builtinsNs := by rfl) (hk : env.scope.kind = .function := by rfl) (hl : env.kindOf x = some .globalImplicit := by rfl) (hdb : (x == ("__debug__" : Str)) = false := by decide) :
    EV X A env (.Call (.Name x np) es [] pos) σ Q :=
  EV.callName (EV.bltn O hm hx (fun v e => by rw [pv_raw e]; exact callWith_bi hp h) hg hb hk hl hdb)
theorem EV.callTy {x : Str} {np pos : Pos} {es : List Expr} {T : String} (O : X.Ok) (hm : X.mg x = Option.none) (hx : X.mb x = some (.type T))
    (h : AVS X A env es σ fun ps σ₁ => CV X A (.type T) ps σ₁ Q) (hp : es.all plainArg = true := by rfl)
    (hg : env.globals = mainGlobals := by rfl) (hb : env.builtins = builtinsNs := by rfl) (hk : env.scope.kind = .function := by rfl) (hl : env.kindOf x = some .globalImplicit := by rfl) (hdb : (x == ("__debug__" : Str)) = false := by decide) :
    EV X A env (.Call (.Name x np) es [] pos) σ Q :=
  EV.callName (EV.bltn O hm hx (fun v e => by rw [pv_raw e]; exact callWith_ty hp h) hg hb hk hl hdb)

def bindP (binds : List (Str × Value)) : Str → Option PV := fun x => (binds.reverse.lookup x).map pv

/-- the call of a def without cells: the parameters by what bindArgs gives -/
theorem CL.def {a : Addr} {o : Obj} {fd : FuncData} {body : List Stmt} {args : Args} {k : Nat} (O : X.Ok) (r : Rm A (k + 1)) (ho : X.base.get? a = some o) (hdata : o.data = .func fd)
    (hcd : X.base.CodeRec fd.code fd.qualname) (hbody : fd.body = .stmts body)
    (hb : WP X A.in1 (bindArgs fd args) σ fun binds σ₁ => (∀ x ∈ binds, fd.scope.names.lookup x.1 = some .local) ∧ ∀ L : Nat, (∀ b : Nat, L ≤ b → σ₁ b = none ∧ X.base.get? b = none) →
      Rm (A.deeper (callEnv fd L a)) k → XS X (A.deeper (callEnv fd L a)) (callEnv fd L a) body (σ₁.set L (.ns (bindP binds))) fun f σ₂ => Q (rt f) σ₂)
    (hcell : ∀ x ∈ fd.scope.names, x.2 ≠ .cell) (hco : fd.scope.isCoroutine = false := by rfl) (hgen : fd.scope.isGenerator = false := by rfl) (hk : fd.scope.kind = .function := by rfl) :
    WV X A (call (.ref a) args.pos args.kw) σ Q := by
  refine WP.of fun s R => wpAny_call (codeAny_call_function r.depth (R.base _ _ ho) hdata hco hgen hbody (hcd.keeps R.base) ?_)
  refine WP.go hb R (Step.refl σ s) fun binds σ₁ s₁ R₁ S₁ ⟨hloc, q⟩ => ?_
  refine wpAny_newFunctionEnv hcell hloc (fun h₀ hns hsb => ⟨(O.lim.keeps R₁.base).fresh _ hsb, codeAny_func ?_⟩) hk
  have hkeep : ∀ b o, s₁.heap.get? b = some o → h₀.get? b = some o := fun b o e => hsb.extBut b o (Nat.ne_of_lt (Heap.lt_size e)) (Heap.get?_push_of_some _ e)
  have hsz : s₁.heap.objs.size < h₀.objs.size := by rw [hsb.1, Heap.size_push]; exact Nat.lt_succ_self _
  obtain ⟨R₂, S₂, hn, hbn⟩ := R₁.new (h' := h₀) (tk := s₁.toks + binds.length) (p := .ns (bindP binds)) hsz hkeep ⟨_, hns, fun x => rfl⟩ (Nat.le_trans R₁.tk (Nat.le_add_right _ _))
  have hfree : ∀ b, s₁.heap.objs.size ≤ b → σ₁ b = none ∧ X.base.get? b = none := fun b hb => by
    have hx : s₁.heap.get? b = none := by
      cases q : s₁.heap.get? b with
      | none => rfl
      | some o => exact absurd (Heap.lt_size q) (Nat.not_lt.mpr hb)
    constructor
    · cases q : σ₁ b with
      | none => rfl
      | some p => obtain ⟨o, ho⟩ := (R₁.rz _ _ q).there; rw [hx] at ho; cases ho
    · cases q : X.base.get? b with
      | none => rfl
      | some o => rw [R₁.base _ _ q] at hx; cases hx
  refine wpAny_mono (WP.go (h := q s₁.heap.objs.size hfree (r.deeper _)) (Q' := fun f s' => ∃ σ', Real X σ' s' ∧ Step σ s σ' s' ∧ Q (rt (pf f)) σ') R₂ (S₁.trans S₂) fun f σ₃ s₃ R₃ S₃ q => ⟨σ₃, R₃, S₃, q⟩) (fun f s' ⟨σ', R', S', q'⟩ => ?_) fun _ _ x => x.elim
  exact ⟨σ', R', S', by cases f <;> exact q'⟩
end
end Mine
end

section
open PySem PySem.W PyProof.Rows
namespace Mine

structure IT (X : Cx) (A : Around) (I : Addr) (n : Nat) (item : Nat → PV) (Need : AH → Prop) (St : Nat → Heap → Prop) : Prop where
  frame : ∀ i h h', St i h → (∀ o, h.get? I = some o → h'.get? I = some o) → St i h'
  there : ∀ i h, St i h → ∃ o, h.get? I = some o
  next : ∀ i σ s, i < n → Real X σ s → Need σ → St i s.heap → ∀ Q' : Option Value → Shared → Prop, (∀ v h' tk, pv v = item i → St (i + 1) h' → (∀ b o, b ≠ I → s.heap.get? b = some o → h'.get? b = some o) → Q' (some v) { s with heap := h', toks := tk }) →
    wpAny (model X.prog X.w) A (pyNext (.ref I)) Q' (fun _ _ => False) s
  done : ∀ σ s, Real X σ s → Need σ → St n s.heap → ∀ Q' : Option Value → Shared → Prop, (∀ h' tk, (∀ b o, b ≠ I → s.heap.get? b = some o → h'.get? b = some o) → Q' .none { s with heap := h', toks := tk }) →
    wpAny (model X.prog X.w) A (pyNext (.ref I)) Q' (fun _ _ => False) s
  owned : ∀ i s t v, St i s.heap → ∀ Q' : Unit → Shared → Prop, Q' () s → wpAny (model X.prog X.w) A (letOwnedTupleGo t (.ref I) v) Q' (fun _ _ => False) s
  self : ∀ i s, St i s.heap → ∀ Q' : Value → Shared → Prop, Q' (.ref I) s → wpAny (model X.prog X.w) A (pyIter (.ref I)) Q' (fun _ _ => False) s

theorem letOwned_rec {M : Model} {A : Around} {E : Value → Shared → Prop} {s : Shared} {I : Addr} {T : String} {vs : Array Value} {o : Obj} (ho : s.heap.get? I = some o) (hc : o.cls = .type T) (hd : o.data = .fields vs)
    (hT : ["enumerate", "zip", "dict_itemiterator", "dict_reverseitemiterator", "odict_iterator", "itertools.zip_longest", "itertools.pairwise"].contains T = false) {t : Expr} {v : Value} {Q : Unit → Shared → Prop} (h : Q () s) :
    wpAny M A (letOwnedTupleGo t (.ref I) v) Q E s := by
  obtain ⟨c, dt, d, sl⟩ := o
  simp only at hc hd
  subst hc hd
  unfold letOwnedTupleGo
  split
  · cases v <;> first
      | exact wpAny_pure h
      | (refine wpAny_bind (wpAny_load ho ?_)
         simp only [hT, Bool.false_and, Bool.false_eq_true, if_false]
         exact wpAny_pure h)
  · cases v <;> first
      | exact wpAny_pure h
      | (refine wpAny_bind (wpAny_load ho ?_)
         simp only [hT, Bool.false_and, Bool.false_eq_true, if_false]
         exact wpAny_pure h)
  · exact wpAny_pure h

theorem IT.list {X : Cx} {A : Around} (hh : A.handled = none) {I l : Addr} (hne : l ≠ I) (vs : List PV) :
    IT X A I vs.length (fun i => vs.getD i .none) (fun σ => σ l = some (.list vs)) (fun i h => h.IsListIter I l i) where
  frame := fun i h h' st hk => st.at hk
  there := fun i h ⟨o, ho, _⟩ => ⟨_, ho⟩
  next := fun i σ s hi R hl st Q' hQ => by
    obtain ⟨vals, hp, e⟩ := R.rz _ _ hl
    have hs : i < vals.size := by rw [← e, List.length_map, Array.length_toList] at hi; exact hi
    refine wpAny_pyNext_list_item st hp.isList (x := vals[i]) (by simp [hs]) fun h' hit hsb => ?_
    refine hQ _ h' s.toks ?_ hit fun b o hb eb => (hsb.2 b hb).trans eb
    subst e
    simp [hs]
  done := fun σ s R hl st Q' hQ => by
    obtain ⟨vals, hp, e⟩ := R.rz _ _ hl
    refine wpAny_pyNext_list_end hh st hp.isList (by rw [← e]; simp) fun h' he => hQ h' s.toks fun b o hb eb => he b o hb eb
  owned := fun i s t v ⟨o, ho, hc, hd⟩ Q' hQ => letOwned_rec ho hc hd rfl hQ
  self := fun i s st Q' hQ => wpAny_pyIter_listiter st hQ

theorem IT.range {X : Cx} {A : Around} (hh : A.handled = none) {I : Addr} (a c : Int) (n : Nat) :
    IT X A I n (fun i => .int (a + i * c)) (fun _ => True) (fun i h => IsRangeIter h I (a + (i : Nat) * c) ((n : Int) - (i : Nat)) c) where
  frame := fun i h h' st hk => hk _ st
  there := fun i h st => ⟨_, st⟩
  next := fun i σ s hi R _ st Q' hQ => (Walks.range hh I a c n).item i s Q' _ hi st fun v h' tk ⟨t, e⟩ st' hk => hQ v h' tk (by rw [e]; rfl) st' fun b o hb eb => hk b o (by simpa using hb) eb
  done := fun σ s R _ st Q' hQ => (Walks.range hh I a c n).done s Q' _ st fun h' tk hk => hQ h' tk fun b o hb eb => hk b o (by simpa using hb) eb
  owned := fun i s t v st Q' hQ => letOwned_rec st rfl rfl rfl hQ
  self := fun i s st Q' hQ => wpAny_pyIter_rangeiter st hQ

theorem Real.other {X : Cx} {σ : AH} {s : Shared} (R : Real X σ s) {I : Addr} (hσ : σ I = none) (hb : X.base.get? I = none) {h' : Heap} {tk : Nat} (hk : ∀ b o, b ≠ I → s.heap.get? b = some o → h'.get? b = some o) (htk : 1 ≤ tk) :
    Real X σ { s with heap := h', toks := tk } :=
  ⟨fun a p e => (R.rz a p e).keep fun o ho => hk a o (fun z => by rw [z, hσ] at e; cases e) ho, fun b o e => hk b o (fun z => by rw [z, hb] at e; cases e) (R.base b o e), R.apart, R.gens, R.os, htk⟩

/-- what holds of a state along a loop: a step of the call's own but at the iterator -/
structure Along (X : Cx) (σ₀ : AH) (s₀ : Shared) (I : Addr) (σ : AH) (s : Shared) : Prop where
  real : Real X σ s
  step : Step σ₀ s₀ σ s
  off : σ I = none
  boff : X.base.get? I = none
  new : s₀.heap.get? I = none

section
variable {X : Cx} {A : Around} {env : Env} {σ σ₀ : AH} {s₀ s : Shared} {I : Addr}
theorem Along.other (L : Along X σ₀ s₀ I σ s) {h' : Heap} {tk : Nat} (hk : ∀ b o, b ≠ I → s.heap.get? b = some o → h'.get? b = some o) (htk : 1 ≤ tk) : Along X σ₀ s₀ I σ { s with heap := h', toks := tk } :=
  ⟨L.real.other L.off L.boff hk htk, ⟨fun b o hb e => hk b o (fun z => by rw [z, L.new] at e; cases e) (L.step.keep b o hb e), fun b p e => L.step.fresh b p e, L.step.gens, L.step.gsize⟩, L.off, L.boff, L.new⟩
theorem Along.go {α : Type} {t : Sem α} {Q : α → AH → Prop} {Q' : α → Shared → Prop} (h : WP X A t σ Q) (L : Along X σ₀ s₀ I σ s) {St : Heap → Prop} (st : St s.heap) (hfr : ∀ h h', St h → (∀ o, h.get? I = some o → h'.get? I = some o) → St h') (hth : ∃ o, s.heap.get? I = some o)
    (hQ : ∀ a σ' s', Along X σ₀ s₀ I σ' s' → St s'.heap → (∃ o, s'.heap.get? I = some o) → Q a σ' → Q' a s') : wpAny (model X.prog X.w) A t Q' (fun _ _ => False) s :=
  h.go L.real (Step.refl σ s) fun a σ' s' R' S' q => by
    obtain ⟨o, ho⟩ := hth
    have hk : ∀ o, s.heap.get? I = some o → s'.heap.get? I = some o := fun o e => S'.keep I o L.off e
    refine hQ a σ' s' ⟨R', L.step.trans S', ?_, L.boff, L.new⟩ (hfr _ _ st hk) ⟨o, hk o ho⟩ q
    cases q : σ' I with
    | none => rfl
    | some p =>
      rcases S'.fresh I p q with ⟨p', e⟩ | e
      · rw [L.off] at e; cases e
      · rw [ho] at e; cases e

theorem for_core {target : Expr} {body : List Stmt} {n : Nat} {item : Nat → PV} {Need : AH → Prop} {St : Nat → Heap → Prop} {Q : PF → AH → Prop} (T : IT X A I n item Need St) (J : Nat → AH → Prop) (need : ∀ i σ', i ≤ n → J i σ' → Need σ')
    (turn : ∀ i σ', i < n → J i σ' → ASG X A env target (item i) σ' fun σ'' => XS X A env body σ'' fun f σ₃ => match f with
      | .next | .cont => J (i + 1) σ₃
      | .brk => Q .next σ₃
      | .ret v => Q (.ret v) σ₃)
    (done : ∀ σ', J n σ' → Q .next σ') (L : Along X σ₀ s₀ I σ s) (st : St 0 s.heap) (h0 : J 0 σ) :
    codeAny (model X.prog X.w) A (.forLoop target (.ref I) body [] env) (fun r s' => match r with | .ok f => ∃ σ', Real X σ' s' ∧ Step σ₀ s₀ σ' s' ∧ Q (pf f) σ' | .error _ => False) s := by
  refine codeAny_forLoop_any (fun k s' => ∃ i σ', k = n - i ∧ i ≤ n ∧ Along X σ₀ s₀ I σ' s' ∧ St i s'.heap ∧ J i σ') ?_ n ⟨0, σ, by omega, Nat.zero_le _, L, st, h0⟩
  rintro k s' ⟨i, σ', rfl, hi, L', st', j⟩
  by_cases hlt : i < n
  · refine wpAny_mono (with_tk (Nat.le_refl s'.toks) (T.next i σ' s' hlt L'.real (need i σ' hi j) st' (fun r s₁ => s'.toks ≤ s₁.toks → ∃ v, r = some v ∧ pv v = item i ∧ St (i + 1) s₁.heap ∧ Along X σ₀ s₀ I σ' s₁) fun v h' tk e st₁ hk htk => ⟨v, rfl, e, st₁, L'.other hk (Nat.le_trans L'.real.tk htk)⟩)) (fun r s₁ h₁ => ?_) fun _ _ x => x.elim
    obtain ⟨v, rfl, e, st₁, L₁⟩ := h₁
    refine wpAny_mono (T.owned (i + 1) s₁ target v st₁ (fun _ s => s = s₁) rfl) (fun _ s₂ h₂ => ?_) fun _ _ x => x.elim
    subst h₂
    refine wpAny_mono (L₁.go (turn i σ' hlt j v e) (St := St (i + 1)) st₁ (T.frame _) (T.there _ _ st₁) (Q' := fun _ s₂ => ∃ σ₂, Along X σ₀ s₀ I σ₂ s₂ ∧ St (i + 1) s₂.heap ∧ XS X A env body σ₂ _) fun _ σ₂ s₂ L₂ st₂ _ q => ⟨σ₂, L₂, st₂, q⟩) (fun _ s₂ h₂ => ?_) fun _ _ x => x.elim
    obtain ⟨σ₂, L₂, st₂, q⟩ := h₂
    refine wpAny_mono (L₂.go (h := q) (St := St (i + 1)) st₂ (T.frame _) (T.there _ _ st₂) (Q' := fun f s₃ => ∃ σ₃, Along X σ₀ s₀ I σ₃ s₃ ∧ St (i + 1) s₃.heap ∧ _) fun f σ₃ s₃ L₃ st₃ _ q => ⟨σ₃, L₃, st₃, q⟩) (fun f s₃ h₃ => ?_) fun _ _ x => x.elim
    obtain ⟨σ₃, L₃, st₃, q⟩ := h₃
    cases f with
    | next => exact ⟨n - (i + 1), by omega, i + 1, σ₃, rfl, hlt, L₃, st₃, q⟩
    | cont => exact ⟨n - (i + 1), by omega, i + 1, σ₃, rfl, hlt, L₃, st₃, q⟩
    | brk => exact ⟨σ₃, L₃.real, L₃.step, q⟩
    | ret v => exact ⟨σ₃, L₃.real, L₃.step, q⟩
  · have e : i = n := by omega
    subst e
    refine wpAny_mono (with_tk (Nat.le_refl s'.toks) (T.done σ' s' L'.real (need i σ' hi j) st' (fun r s₁ => s'.toks ≤ s₁.toks → r = none ∧ Along X σ₀ s₀ I σ' s₁) fun h' tk hk htk => ⟨rfl, L'.other hk (Nat.le_trans L'.real.tk htk)⟩)) (fun r s₁ h₁ => ?_) fun _ _ x => x.elim
    obtain ⟨rfl, L₁⟩ := h₁
    exact wpAny_execs_nil ⟨σ', L₁.real, L₁.step, done σ' j⟩

theorem EX.forList {target iter : Expr} {body : List Stmt} {pos : Pos} {Q : PF → AH → Prop} (hh : A.handled = none)
    (h : EV X A env iter σ fun p σ₁ => ∃ (l : Addr) (vs : List PV) (J : Nat → AH → Prop), p = .ref l ∧ σ₁ l = some (.list vs) ∧ J 0 σ₁ ∧ (∀ i σ', i ≤ vs.length → J i σ' → σ' l = some (.list vs)) ∧
      (∀ i σ', i < vs.length → J i σ' → ASG X A env target (vs.getD i .none) σ' fun σ'' => XS X A env body σ'' fun f σ₃ => match f with
        | .next | .cont => J (i + 1) σ₃
        | .brk => Q .next σ₃
        | .ret v => Q (.ret v) σ₃) ∧ (∀ σ', J vs.length σ' → Q .next σ'))
    (hs : ∀ x, foldedSetIterable iter env x = pure x := by intro _; rfl) : EX X A env (.For target iter body [] pos) σ Q := by
  refine WP.of fun s R => wpAny_For (h.go R (Step.refl σ s) fun v σ₁ s₁ R₁ S₁ ⟨l, vs, J, e, hl, h0, need, turn, done⟩ => ?_) hs
  rw [pv_ref e]
  obtain ⟨vals, hp, em⟩ := R₁.rz _ _ hl
  have hlt : l < s₁.heap.objs.size := by obtain ⟨n, ho⟩ := hp; exact Heap.lt_size ho
  refine wpAny_pyIter_list hp.isList ?_
  have hnew := R₁.new (h' := s₁.heap.push { cls := .type "list_iterator", data := .fields #[.ref l, .int 0 0] }) (tk := s₁.toks) (p := .obj { cls := .type "list_iterator", data := .fields #[.ref l, .int 0 0] })
    (by rw [Heap.size_push]; exact Nat.lt_succ_self _) (fun b o e => Heap.get?_push_of_some _ e) (Heap.get?_push_size _ rfl) R₁.tk
  have hnone : s₁.heap.get? s₁.heap.objs.size = none := by
    cases q : s₁.heap.get? s₁.heap.objs.size with
    | none => rfl
    | some o => exact absurd (Heap.lt_size q) (Nat.lt_irrefl _)
  refine codeAny_mono (for_core (IT.list hh (Nat.ne_of_lt hlt) vs) J need turn done (σ₀ := σ₁) (s₀ := s₁) ⟨?_, ?_, hnew.2.2.1, hnew.2.2.2, hnone⟩ ⟨_, Heap.get?_push_size _ rfl, rfl, rfl⟩ h0) (fun r s' hr => ?_)
  · exact R₁.other hnew.2.2.1 hnew.2.2.2 (fun b o _ e => Heap.get?_push_of_some _ e) R₁.tk
  · exact ⟨fun b o _ e => Heap.get?_push_of_some _ e, fun b p e => .inl ⟨p, e⟩, fun _ _ => rfl, Nat.le_refl _⟩
  · cases r with
    | ok f => obtain ⟨σ', R', S', q⟩ := hr; exact ⟨σ', R', S₁.trans S', q⟩
    | error e => exact hr.elim

theorem EX.forRange {target iter : Expr} {body : List Stmt} {pos : Pos} {Q : PF → AH → Prop} (hh : A.handled = none)
    (h : EV X A env iter σ fun p σ₁ => ∃ (l : Addr) (a b c : Int) (n : Nat) (J : Nat → AH → Prop), p = .ref l ∧ σ₁ l = some (.range a b c) ∧ Builtin.Range.small a b c = true ∧ Builtin.Range.rangeSize a b c = n ∧ J 0 σ₁ ∧
      (∀ i σ', i < n → J i σ' → ASG X A env target (.int (a + i * c)) σ' fun σ'' => XS X A env body σ'' fun f σ₃ => match f with
        | .next | .cont => J (i + 1) σ₃
        | .brk => Q .next σ₃
        | .ret v => Q (.ret v) σ₃) ∧ (∀ σ', J n σ' → Q .next σ'))
    (hs : ∀ x, foldedSetIterable iter env x = pure x := by intro _; rfl) : EX X A env (.For target iter body [] pos) σ Q := by
  refine WP.of fun s R => wpAny_For (h.go R (Step.refl σ s) fun v σ₁ s₁ R₁ S₁ ⟨l, a, b, c, n, J, e, hl, hsm, hn, h0, turn, done⟩ => ?_) hs
  rw [pv_ref e]
  obtain ⟨t, u, w, hp⟩ := R₁.rz _ _ hl
  refine wpAny_pyIter_range hp hsm ?_
  rw [hn]
  have hnew := R₁.new (h' := s₁.heap.push { cls := .type "range_iterator", data := .fields #[rawInt a, rawInt n, rawInt c] }) (tk := s₁.toks) (p := .obj { cls := .type "range_iterator", data := .fields #[rawInt a, rawInt n, rawInt c] })
    (by rw [Heap.size_push]; exact Nat.lt_succ_self _) (fun b o e => Heap.get?_push_of_some _ e) (Heap.get?_push_size _ rfl) R₁.tk
  have hnone : s₁.heap.get? s₁.heap.objs.size = none := by
    cases q : s₁.heap.get? s₁.heap.objs.size with
    | none => rfl
    | some o => exact absurd (Heap.lt_size q) (Nat.lt_irrefl _)
  refine codeAny_mono (for_core (IT.range hh a c n) J (fun _ _ _ _ => trivial) turn done (σ₀ := σ₁) (s₀ := s₁) ⟨?_, ?_, hnew.2.2.1, hnew.2.2.2, hnone⟩ (by simpa using Heap.get?_push_size _ rfl) h0) (fun r s' hr => ?_)
  · exact R₁.other hnew.2.2.1 hnew.2.2.2 (fun b o _ e => Heap.get?_push_of_some _ e) R₁.tk
  · exact ⟨fun b o _ e => Heap.get?_push_of_some _ e, fun b p e => .inl ⟨p, e⟩, fun _ _ => rfl, Nat.le_refl _⟩
  · cases r with
    | ok f => obtain ⟨σ', R', S', q⟩ := hr; exact ⟨σ', R', S₁.trans S', q⟩
    | error e => exact hr.elim
end
end Mine
end

section
open PySem PySem.W PyProof.Rows
namespace Mine

/-- what holds of a state while some addresses are hidden -/
structure AlongH (X : Cx) (σ₀ : AH) (s₀ : Shared) (H : List Addr) (σ : AH) (s : Shared) : Prop where
  real : Real X σ s
  step : Step σ₀ s₀ σ s
  off : ∀ b ∈ H, σ b = none
  boff : ∀ b ∈ H, X.base.get? b = none
  new : ∀ b ∈ H, s₀.heap.get? b = none
  there : ∀ b ∈ H, ∃ o, s.heap.get? b = some o

section
variable {X : Cx} {A : Around} {env : Env} {σ σ₀ : AH} {s₀ s : Shared} {H : List Addr}
theorem AlongH.other (L : AlongH X σ₀ s₀ H σ s) {h' : Heap} {tk : Nat} (hk : ∀ b o, b ∉ H → s.heap.get? b = some o → h'.get? b = some o) (ht : ∀ b ∈ H, ∃ o, h'.get? b = some o) (htk : 1 ≤ tk) : AlongH X σ₀ s₀ H σ { s with heap := h', toks := tk } := by
  exact ⟨⟨fun a p e => (L.real.rz a p e).keep fun o ho => hk a o (fun z => by rw [L.off a z] at e; cases e) ho, fun b o e => hk b o (fun z => by rw [L.boff b z] at e; cases e) (L.real.base b o e), L.real.apart, L.real.gens, L.real.os, htk⟩,
    ⟨fun b o hb e => hk b o (fun z => by rw [L.new b z] at e; cases e) (L.step.keep b o hb e), fun b p e => L.step.fresh b p e, L.step.gens, L.step.gsize⟩, L.off, L.boff, L.new, ht⟩
theorem AlongH.go {α : Type} {t : Sem α} {Q : α → AH → Prop} {Q' : α → Shared → Prop} (h : WP X A t σ Q) (L : AlongH X σ₀ s₀ H σ s)
    (hQ : ∀ a σ' s', AlongH X σ₀ s₀ H σ' s' → (∀ b ∈ H, ∀ o, s.heap.get? b = some o → s'.heap.get? b = some o) → Q a σ' → Q' a s') : wpAny (model X.prog X.w) A t Q' (fun _ _ => False) s :=
  h.go L.real (Step.refl σ s) fun a σ' s' R' S' q => by
    have hk : ∀ b ∈ H, ∀ o, s.heap.get? b = some o → s'.heap.get? b = some o := fun b hb o e => S'.keep b o (L.off b hb) e
    refine hQ a σ' s' ⟨R', L.step.trans S', fun b hb => ?_, L.boff, L.new, fun b hb => ?_⟩ hk q
    · obtain ⟨o, ho⟩ := L.there b hb
      cases q : σ' b with
      | none => rfl
      | some p =>
        rcases S'.fresh b p q with ⟨p', e⟩ | e
        · rw [L.off b hb] at e; cases e
        · rw [ho] at e; cases e
    · obtain ⟨o, ho⟩ := L.there b hb
      exact ⟨o, hk b hb o ho⟩
theorem AlongH.le (L : AlongH X σ₀ s₀ H σ s) {σ' : AH} (h : AH.le σ' σ) : AlongH X σ₀ s₀ H σ' s := by
  refine ⟨L.real.le h, L.step.le h, fun b hb => ?_, L.boff, L.new, L.there⟩
  cases q : σ' b with
  | none => rfl
  | some p => have := h b p q; rw [L.off b hb] at this; cases this
theorem AlongH.lose {I D : Addr} (hID : I ≠ D) (L : AlongH X σ₀ s₀ [I, D] σ s) {h' : Heap} {tk : Nat} (hk : ∀ b o, b ≠ I → s.heap.get? b = some o → h'.get? b = some o) (htk : 1 ≤ tk) : AlongH X σ₀ s₀ [D] σ { s with heap := h', toks := tk } := by
  have mI : I ∈ [I, D] := by simp
  have mD : D ∈ [I, D] := by simp
  refine ⟨⟨fun a p e => (L.real.rz a p e).keep fun o ho => hk a o (fun z => by rw [z, L.off I mI] at e; cases e) ho, fun b o e => hk b o (fun z => by rw [z, L.boff I mI] at e; cases e) (L.real.base b o e), L.real.apart, L.real.gens, L.real.os, htk⟩,
    ⟨fun b o hb e => hk b o (fun z => by rw [z, L.new I mI] at e; cases e) (L.step.keep b o hb e), fun b p e => L.step.fresh b p e, L.step.gens, L.step.gsize⟩, fun b hb => ?_, fun b hb => ?_, fun b hb => ?_, fun b hb => ?_⟩ <;> rw [List.mem_singleton.mp hb]
  · exact L.off D mD
  · exact L.boff D mD
  · exact L.new D mD
  · obtain ⟨o, ho⟩ := L.there D mD
    exact ⟨o, hk D o hID.symm ho⟩

/-- the tests of a comprehension, none or one -/
def TSL (X : Cx) (A : Around) (env : Env) : List Expr → AH → (Bool → AH → Prop) → Prop
  | [], σ, Q => Q true σ
  | [c], σ, Q => TS X A env c σ Q
  | _, _, _ => False
theorem TSL.run {ifs : List Expr} {Q : Bool → AH → Prop} (h : TSL X A env ifs σ Q) :
    WP X A (forIn ifs true fun c r => if r = true then do let ok ← isTrue c env (eval c env); pure (ForInStep.yield ok) else pure (ForInStep.yield r)) σ Q := by
  cases ifs with
  | nil => exact WP.of fun s R => wpAny_tests_nil ⟨σ, R, Step.refl σ s, h⟩
  | cons c r =>
    cases r with
    | nil => exact WP.of fun s R => wpAny_tests_one ((show WP X A _ σ Q from h).run s R)
    | cons c' r' => exact h.elim

theorem comp_turn {elt target iter : Expr} {ifs : List Expr} {scope : Scope} {pos : Pos} {it acc : Value} {env : Env} {prog : Program} {w : World} {R : Result → Shared → Prop} (I : Nat → Shared → Prop)
    (turn : ∀ n s, I n s → wpAny (model prog w) A (pyNext it) (fun r s₁ => match r with
      | .none => R (.ok .next) s₁
      | some v => wpAny (model prog w) A (letOwnedTupleGo target it v) (fun _ s₁' => wpAny (model prog w) A (assign target env v) (fun _ s₂ =>
          wpAny (model prog w) A (forIn ifs true fun c r => if r = true then do let ok ← isTrue c env (eval c env); pure (ForInStep.yield ok) else pure (ForInStep.yield r)) (fun ok s₃ =>
            if ok = true then wpAny (model prog w) A (eval elt env) (fun x s₄ =>
              wpAny (model prog w) A (call (.builtin "list.append") [acc, x]) (fun _ s₅ => ∃ m, m < n ∧ I m s₅) (fun _ _ => False) s₄) (fun _ _ => False) s₃
            else ∃ m, m < n ∧ I m s₃) (fun _ _ => False) s₂) (fun _ _ => False) s₁') (fun _ _ => False) s₁) (fun _ _ => False) s)
    (n : Nat) (h : I n s) :
    codeAny (model prog w) A (.compLoop (.ListComp elt [⟨target, iter, ifs, 0⟩] scope pos) 0 it acc env) R s := by
  refine codeAny_loop rfl I (fun n s hI => ?_) n h
  show wpAny _ A ((compTurn (.ListComp elt [⟨target, iter, ifs, 0⟩] scope pos) 0 it acc env).onRaise (fun x => do noteFrame x env; theTreesLotGoes x)) _ _ s
  refine wpAny_noted ?_
  rw [compTurn_list]
  refine wpAny_bind (wpAny_standAt (wpAny_bind (wpAny_mono (turn n s hI) (fun r s₁ h₁ => ?_) fun _ _ h' => h'.elim)))
  cases r with
  | none => exact wpAny_pure h₁
  | some v =>
    refine wpAny_bind (wpAny_mono h₁ (fun _ s₁' h₁' => ?_) fun _ _ x => x.elim)
    refine wpAny_bind (wpAny_mono h₁' (fun _ s₂ h₂ => wpAny_bind (wpAny_mono h₂ (fun ok s₃ h₃ => ?_) fun _ _ h' => h'.elim)) fun _ _ h' => h'.elim)
    cases ok with
    | false => exact wpAny_pure ⟨rfl, h₃⟩
    | true =>
      exact wpAny_bind (wpAny_bind (wpAny_mono h₃ (fun x s₄ h₄ => wpAny_bind (wpAny_mono h₄ (fun _ s₅ h₅ => wpAny_pure (wpAny_pure ⟨rfl, h₅⟩)) fun _ _ h' => h'.elim)) fun _ _ h' => h'.elim))

theorem comp_core {elt target iter : Expr} {ifs : List Expr} {scope : Scope} {pos : Pos} {I D : Addr} {n : Nat} {item : Nat → PV} {Need : AH → Prop} {St : Nat → Heap → Prop} (T : IT X A I n item Need St) (hID : I ≠ D) (hn : n ≤ sizeLine)
    (J : Nat → List PV → AH → Prop) (Fm : Option PV → AH → AH)
    (need : ∀ i acc o σ', i ≤ n → J i acc σ' → Need (Fm o σ'))
    (asg : ∀ i acc o σ', i < n → J i acc σ' → ASG X A env target (item i) (Fm o σ') fun σ'' => σ'' = Fm (some (item i)) σ')
    (turn : ∀ i acc σ', i < n → J i acc σ' → TSL X A env ifs (Fm (some (item i)) σ') fun ok σ₂ =>
      (ok = true → EV X A env elt σ₂ fun y σ₃ => ∃ σ₄, AH.le (Fm (some (item i)) σ₄) σ₃ ∧ J (i + 1) (acc ++ [y]) σ₄) ∧ (ok = false → ∃ σ₄, AH.le (Fm (some (item i)) σ₄) σ₂ ∧ J (i + 1) acc σ₄))
    (L : AlongH X σ₀ s₀ [I, D] (Fm none σ) s) (st : St 0 s.heap) (hD : s.heap.PlainList D #[]) (h0 : J 0 [] σ)
    {R : Result → Shared → Prop} (hR : ∀ acc o σ' s' ys, J n acc σ' → AlongH X σ₀ s₀ [D] (Fm o σ') s' → s'.heap.PlainList D ys → ys.toList.map pv = acc → R (.ok .next) s') :
    codeAny (model X.prog X.w) A (.compLoop (.ListComp elt [⟨target, iter, ifs, 0⟩] scope pos) 0 (.ref I) (.ref D) env) R s := by
  refine comp_turn (fun k s' => ∃ i acc o σ' ys, k = n - i ∧ i ≤ n ∧ AlongH X σ₀ s₀ [I, D] (Fm o σ') s' ∧ St i s'.heap ∧ J i acc σ' ∧ s'.heap.PlainList D ys ∧ ys.toList.map pv = acc ∧ ys.size ≤ i) ?_ n ⟨0, [], none, σ, #[], by omega, Nat.zero_le _, L, st, h0, hD, rfl, Nat.le_refl _⟩
  rintro k s' ⟨i, acc, o, σ', ys, rfl, hi, L', st', j, hD', hy, hsz⟩
  have mI : I ∈ [I, D] := by simp
  have mD : D ∈ [I, D] := by simp
  have thereI {σx sx} (Lx : AlongH X σ₀ s₀ [I, D] σx sx) {h' : Heap} {j : Nat} (hs : St j h') (hk : ∀ b o, b ≠ I → sx.heap.get? b = some o → h'.get? b = some o) : ∀ b ∈ [I, D], ∃ o, h'.get? b = some o := fun b hb => by
    rcases List.mem_cons.mp hb with rfl | hb
    · exact T.there _ _ hs
    · rw [List.mem_singleton.mp hb]
      obtain ⟨o, ho⟩ := Lx.there D mD
      exact ⟨o, hk D o hID.symm ho⟩
  by_cases hlt : i < n
  · refine wpAny_mono (with_tk (Nat.le_refl s'.toks) (T.next i (Fm o σ') s' hlt L'.real (need i acc o σ' hi j) st' (fun r s₁ => s'.toks ≤ s₁.toks → ∃ v, r = some v ∧ pv v = item i ∧ St (i + 1) s₁.heap ∧ AlongH X σ₀ s₀ [I, D] (Fm o σ') s₁ ∧ s₁.heap.PlainList D ys)
      fun v h' tk e st₁ hk htk => ⟨v, rfl, e, st₁, L'.other (fun b o hb e => hk b o (fun z => hb (z ▸ mI)) e) (thereI L' st₁ hk) (Nat.le_trans L'.real.tk htk), hD'.at fun o e => hk D o hID.symm e⟩)) (fun r s₁ h₁ => ?_) fun _ _ x => x.elim
    obtain ⟨v, rfl, e, st₁, L₁, hD₁⟩ := h₁
    refine wpAny_mono (T.owned (i + 1) s₁ target v st₁ (fun _ s => s = s₁) rfl) (fun _ s₂ h₂ => ?_) fun _ _ x => x.elim
    subst h₂
    refine L₁.go (asg i acc o σ' hlt j v e) fun _ σ₂ s₂ L₂ k₂ e₂ => ?_
    subst e₂
    have st₂ := T.frame _ _ _ st₁ (k₂ I mI)
    have hD₂ := hD₁.at (k₂ D mD)
    refine L₂.go (TSL.run (turn i acc σ' hlt j)) fun ok σ₃ s₃ L₃ k₃ q => ?_
    have st₃ := T.frame _ _ _ st₂ (k₃ I mI)
    have hD₃ := hD₂.at (k₃ D mD)
    cases ok with
    | false =>
      obtain ⟨σ₄, l, j'⟩ := q.2 rfl
      exact ⟨n - (i + 1), by omega, i + 1, acc, _, σ₄, ys, rfl, hlt, L₃.le l, st₃, j', hD₃, hy, by omega⟩
    | true =>
      rw [if_pos rfl]
      refine L₃.go (h := q.1 rfl) fun y σ₄ s₄ L₄ k₄ ⟨σ₅, l, j'⟩ => ?_
      have st₄ := T.frame _ _ _ st₃ (k₄ I mI)
      have hD₄ := hD₃.at (k₄ D mD)
      refine wpAny_list_append_plain hD₄ (fun h' hp hs => ?_) (by omega)
      have hk : ∀ b o, b ≠ D → s₄.heap.get? b = some o → h'.get? b = some o := fun b o hb e => (hs.2 b hb).trans e
      have st₅ := T.frame _ _ _ st₄ (fun o e => hk I o hID e)
      refine ⟨n - (i + 1), by omega, i + 1, acc ++ [pv y], _, σ₅, ys.push y, rfl, hlt, AlongH.other (tk := s₄.toks) (L₄.le l) (fun b o hb e => hk b o (fun z => hb (z ▸ mD)) e) (fun b hb => ?_) L₄.real.tk, st₅, j', hp, by simp [hy], by simp; omega⟩
      rcases List.mem_cons.mp hb with rfl | hb
      · exact T.there _ _ st₅
      · rw [List.mem_singleton.mp hb]; obtain ⟨k, e⟩ := hp; exact ⟨_, e⟩
  · have e : i = n := by omega
    subst e
    refine wpAny_mono (with_tk (Nat.le_refl s'.toks) (T.done (Fm o σ') s' L'.real (need i acc o σ' hi j) st' (fun r s₁ => s'.toks ≤ s₁.toks → r = none ∧ ∃ tk h', s₁ = { s' with heap := h', toks := tk } ∧ (∀ b o, b ≠ I → s'.heap.get? b = some o → h'.get? b = some o) ∧ 1 ≤ tk) fun h' tk hk htk => ⟨rfl, tk, h', rfl, hk, Nat.le_trans L'.real.tk htk⟩)) (fun r s₁ h₁ => ?_) fun _ _ x => x.elim
    obtain ⟨rfl, tk, h', rfl, hk, htk⟩ := h₁
    exact hR acc o σ' _ ys j (L'.lose hID hk htk) (hD'.at fun o e => hk D o hID.symm e) hy
end
end Mine
end

section
open PySem PySem.W PyProof.Rows
namespace Mine

/-- what can be gone through: a list or a range -/
def ISRC (σ : AH) (p : PV) (n : Nat) (item : Nat → PV) (Need : AH → Prop) : Prop :=
  (∃ l vs, p = .ref l ∧ σ l = some (.list vs) ∧ n = vs.length ∧ (item = fun i => vs.getD i .none) ∧ Need = fun σ => σ l = some (.list vs)) ∨
  (∃ l a b c, p = .ref l ∧ σ l = some (.range a b c) ∧ Builtin.Range.small a b c = true ∧ Builtin.Range.rangeSize a b c = n ∧ (item = fun i => .int (a + i * c)) ∧ Need = fun _ => True)
theorem ISRC.list {σ : AH} {l : Addr} {vs : List PV} (h : σ l = some (.list vs)) : ISRC σ (.ref l) vs.length (fun i => vs.getD i .none) (fun σ => σ l = some (.list vs)) := .inl ⟨l, vs, rfl, h, rfl, rfl, rfl⟩
theorem ISRC.range {σ : AH} {l : Addr} {a b c : Int} {n : Nat} (h : σ l = some (.range a b c)) (hs : Builtin.Range.small a b c = true) (hn : Builtin.Range.rangeSize a b c = n) : ISRC σ (.ref l) n (fun i => .int (a + i * c)) (fun _ => True) := .inr ⟨l, a, b, c, rfl, h, hs, hn, rfl, rfl⟩
theorem ISRC.set {σ σ' : AH} {p : PV} {n : Nat} {item : Nat → PV} {Need : AH → Prop} (h : ISRC σ p n item Need) {C : Addr} {q : PO} (hC : σ' C = none) (hn : Need σ') : Need (σ'.set C q) := by
  rcases h with ⟨l, vs, _, _, _, _, rfl⟩ | ⟨l, a, b, c, _, _, _, _, _, rfl⟩
  · have hn' : σ' l = some (.list vs) := hn
    show σ'.set C q l = _
    rw [AH.set_ne _ _ (fun z => by rw [z, hC] at hn'; cases hn')]; exact hn'
  · trivial

theorem fresh_from {X : Cx} {σ : AH} {s : Shared} (R : Real X σ s) : ∀ b, s.heap.objs.size ≤ b → σ b = none ∧ X.base.get? b = none ∧ s.heap.get? b = none := fun b hb => by
  have hx : s.heap.get? b = none := by
    cases q : s.heap.get? b with
    | none => rfl
    | some o => exact absurd (Heap.lt_size q) (Nat.not_lt.mpr hb)
  refine ⟨?_, ?_, hx⟩
  · cases q : σ b with
    | none => rfl
    | some p => obtain ⟨o, ho⟩ := (R.rz _ _ q).there; rw [hx] at ho; cases ho
  · cases q : X.base.get? b with
    | none => rfl
    | some o => rw [R.base _ _ q] at hx; cases hx

theorem iter_src {X : Cx} {A : Around} {σ : AH} {s : Shared} (hh : A.handled = none) {p : PV} {n : Nat} {item : Nat → PV} {Need : AH → Prop} (h : ISRC σ p n item Need) (R : Real X σ s) {v : Value} (hv : pv v = p) {Q' : Value → Shared → Prop}
    (hQ : ∀ St o, IT X A s.heap.objs.size n item Need St → St 0 (s.heap.push o) → o.isFreed = false → Q' (.ref s.heap.objs.size) { s with heap := s.heap.push o }) : wpAny (model X.prog X.w) A (pyIter v) Q' (fun _ _ => False) s := by
  rcases h with ⟨l, vs, rfl, hl, rfl, rfl, rfl⟩ | ⟨l, a, b, c, rfl, hl, hsm, hn, rfl, rfl⟩
  · rw [pv_ref hv]
    obtain ⟨vals, hp, em⟩ := R.rz _ _ hl
    have hlt : l < s.heap.objs.size := by obtain ⟨n, ho⟩ := hp; exact Heap.lt_size ho
    exact wpAny_pyIter_list hp.isList (hQ _ _ (IT.list hh (Nat.ne_of_lt hlt) vs) ⟨_, Heap.get?_push_size _ rfl, rfl, rfl⟩ rfl)
  · rw [pv_ref hv]
    obtain ⟨t, u, w, hp⟩ := R.rz _ _ hl
    refine wpAny_pyIter_range hp hsm ?_
    rw [hn]
    exact hQ _ _ (IT.range hh a c n) (by simpa using Heap.get?_push_size _ rfl) rfl

def nsx (x : Str) : Option PV → PO
  | .none => .ns fun _ => .none
  | some p => .ns fun y => if y = x then some p else .none
theorem AH.set_set (σ : AH) (a : Addr) (p q : PO) : (σ.set a p).set a q = σ.set a q := by
  funext b; simp only [AH.set]; split <;> rfl
theorem AH.le_set (σ : AH) {a : Addr} (p : PO) (h : σ a = none) : σ.le (σ.set a p) := fun b q e => by
  rw [AH.set_ne _ _ (fun z => by rw [z, h] at e; cases e)]; exact e
theorem AH.set_comm (σ : AH) {a b : Addr} (p q : PO) (h : a ≠ b) : (σ.set a p).set b q = (σ.set b q).set a p := by
  funext c; simp only [AH.set]
  split
  · rename_i e; subst e; rw [if_neg (Ne.symm h)]
  · rfl

section
variable {X : Cx} {A : Around} {env : Env} {σ : AH}
/-- the block of a comprehension behind its source -/
theorem comp_block {elt iter : Expr} {ifs : List Expr} {scope : Scope} {pos px : Pos} {x : Str} {cl : List (Str × Addr)} {n : Nat} {item : Nat → PV} {Need : AH → Prop} {p : PV} {s : Shared} (hh : A.handled = none)
    (hcell : ∀ y ∈ scope.names, y.2 ≠ .cell) (hkind : scope.kind = .function) (hx : scope.names.lookup x = some .local) (hsrc : ISRC σ p n item Need) (hn : n ≤ sizeLine) (R : Real X σ s) {v : Value} (hv : pv v = p)
    (J : Nat → Nat → List PV → AH → Prop) {Q' : Value → Shared → Prop} {use : Option (Value → Sem Unit)}
    (h0 : ∀ C : Nat, (∀ b : Nat, C ≤ b → σ b = none ∧ X.base.get? b = none) → J C 0 [] σ)
    (hJ : ∀ (C : Nat) i acc σ', i ≤ n → J C i acc σ' → σ' C = none ∧ Need σ')
    (turn : ∀ (C : Nat) i acc σ', (∀ b : Nat, C ≤ b → σ b = none ∧ X.base.get? b = none) → i < n → J C i acc σ' → TSL X A (compEnvC scope cl C env) ifs (σ'.set C (nsx x (some (item i)))) fun ok σ₂ =>
      (ok = true → EV X A (compEnvC scope cl C env) elt σ₂ fun y σ₃ => ∃ σ₄, AH.le (σ₄.set C (nsx x (some (item i)))) σ₃ ∧ J C (i + 1) (acc ++ [y]) σ₄) ∧ (ok = false → ∃ σ₄, AH.le (σ₄.set C (nsx x (some (item i)))) σ₂ ∧ J C (i + 1) acc σ₄))
    (hR : ∀ (C D : Nat) o acc σ' s' ys, (∀ b : Nat, D ≤ b → σ b = none ∧ X.base.get? b = none) → D < C → J C n acc σ' → AlongH X σ s [D] (σ'.set C (nsx x o)) s' → s'.heap.PlainList D ys → ys.toList.map pv = acc → compPost (model X.prog X.w) A (fun _ _ => False) use Q' (.ref D) C (.ok .next) s') :
    wpAny (model X.prog X.w) A (pyIter v) (fun it s₂ => wpAny (model X.prog X.w) A (newList []) (fun acc s₃ =>
      wpAny (model X.prog X.w) A (newFunctionEnv scope env.globals cl [] env.qual none .none (some env)) (fun cenv s₄ =>
        codeAny (model X.prog X.w) A (.compStart (.ListComp elt [⟨.Name x px, iter, ifs, 0⟩] scope pos) 0 it acc { cenv with scope := relabel scope env }) (compPost (model X.prog X.w) A (fun _ _ => False) use Q' acc cenv.locals) s₄) (fun _ _ => False) s₃) (fun _ _ => False) s₂) (fun _ _ => False) s := by
  refine iter_src hh hsrc R hv fun St o T st0 hfo => ?_
  have hf := fresh_from R
  generalize hI : s.heap.objs.size = I at *
  have hs1 : (s.heap.push o).objs.size = I + 1 := by rw [Heap.size_push, hI]
  refine wpAny_newObj_type (wpAny_newFunctionEnv hcell (by intro y hy; simp at hy) (fun h₁ hns hsb => ?_) hkind)
  dsimp only at hns hsb ⊢
  generalize hH2 : (s.heap.push o).push { cls := .type "list", dict := none, data := .seq ([] : List Value).toArray } = H2 at hns hsb ⊢
  have hs2 : H2.objs.size = I + 2 := by rw [← hH2, Heap.size_push, hs1]
  rw [hs2] at hns hsb ⊢
  rw [hs1]
  have k1 : ∀ b o', s.heap.get? b = some o' → H2.get? b = some o' := fun b o' e => hH2 ▸ Heap.get?_push_of_some _ (Heap.get?_push_of_some _ e)
  have kI : H2.get? I = some o := hH2 ▸ Heap.get?_push_of_some _ (hI ▸ Heap.get?_push_size _ hfo)
  have kD : H2.get? (I + 1) = some { cls := .type "list", dict := none, data := .seq ([] : List Value).toArray } := by
    rw [← hs1, ← hH2]; exact Heap.get?_push_size _ rfl
  have up : ∀ b o', b ≠ I + 2 → H2.get? b = some o' → h₁.get? b = some o' := fun b o' hb e => hsb.extBut b o' hb (Heap.get?_push_of_some _ e)
  have old : ∀ b o', s.heap.get? b = some o' → h₁.get? b = some o' := fun b o' e => up b o' (Nat.ne_of_lt (Nat.lt_of_lt_of_le (Heap.lt_size e) (by rw [hI]; omega))) (k1 b o' e)
  have hI1 : h₁.get? I = some o := up _ _ (Nat.ne_of_lt (by omega : I < I + 2)) kI
  have hD1 : h₁.PlainList (I + 1) #[] := ⟨_, up _ _ (Nat.ne_of_lt (by omega : I + 1 < I + 2)) kD⟩
  have st1 : St 0 h₁ := T.frame _ _ _ st0 fun o' e => by
    have : (s.heap.push o).get? I = some o := hI ▸ Heap.get?_push_size _ hfo
    rw [this] at e; cases e; exact hI1
  have hfC : ∀ b, I + 2 ≤ b → σ b = none ∧ X.base.get? b = none := fun b hb => ⟨(hf b (by omega)).1, (hf b (by omega)).2.1⟩
  have fin : ∀ s₃ : Shared, s₃ = { s with heap := h₁, toks := s.toks + ([] : List (Str × Value)).length } →
      codeAny (model X.prog X.w) A (.compLoop (.ListComp elt [⟨.Name x px, iter, ifs, 0⟩] scope pos) 0 (.ref I) (.ref (I + 1)) (compEnvC scope cl (I + 2) env)) (compPost (model X.prog X.w) A (fun _ _ => False) use Q' (.ref (I + 1)) (I + 2)) s₃ := by
    rintro s₃ rfl
    refine comp_core (env := compEnvC scope cl (I + 2) env) (σ := σ) (σ₀ := σ) (s₀ := s) T (Nat.ne_of_lt (Nat.lt_succ_self I)) hn (J (I + 2)) (fun o σ' => σ'.set (I + 2) (nsx x o)) (fun i acc o σ' hi j => ?_) (fun i acc o σ' hi j => ?_) (fun i acc σ' hi j => turn _ i acc σ' hfC hi j) ?_ st1 hD1 (h0 _ hfC) (fun acc o σ' s' ys j L hp hy => hR (I + 2) (I + 1) o acc σ' s' ys (fun b hb => ⟨(hf b (by omega)).1, (hf b (by omega)).2.1⟩) (by omega) j L hp hy)
    · exact hsrc.set (hJ _ _ _ _ hi j).1 (hJ _ _ _ _ hi j).2
    · refine ASG.name ?_
      cases o with
      | none =>
        refine ST.loc (m := fun _ => .none) (by show σ'.set (I + 2) _ (I + 2) = _; simp [nsx]) ?_ (lookup_relabel_local hx) (by simp [compEnvC, relabel, hkind])
        show (σ'.set (I + 2) _).set (I + 2) _ = _
        rw [AH.set_set]; rfl
      | some q =>
        refine ST.loc (m := fun y => if y = x then some q else .none) (by show σ'.set (I + 2) _ (I + 2) = _; simp [nsx]) ?_ (lookup_relabel_local hx) (by simp [compEnvC, relabel, hkind])
        show (σ'.set (I + 2) _).set (I + 2) _ = _
        rw [AH.set_set]
        congr 1
        simp only [nsx]
        congr 1
        funext y
        simp only [upd]
        by_cases hy : y = x <;> simp [hy]
    · refine ⟨⟨fun a q e => ?_, fun b o' e => old b o' (R.base b o' e), fun a q e => ?_, R.gens, R.os, Nat.le_trans R.tk (Nat.le_add_right _ _)⟩, ⟨fun b o' _ e => old b o' e, fun b q e => ?_, fun _ _ => rfl, Nat.le_refl _⟩, fun b hb => ?_, fun b hb => ?_, fun b hb => ?_, fun b hb => ?_⟩
      · by_cases ha : a = I + 2
        · subst ha
          rw [AH.set_self] at e; cases e
          exact ⟨_, hns, fun y => rfl⟩
        · rw [AH.set_ne _ _ ha] at e; exact (R.rz a q e).keep fun o' ho => old a o' ho
      · by_cases ha : a = I + 2
        · subst ha; exact (hfC _ (Nat.le_refl _)).2
        · rw [AH.set_ne _ _ ha] at e; exact R.apart a q e
      · by_cases ha : b = I + 2
        · subst ha; exact .inr (hf _ (by omega)).2.2
        · rw [AH.set_ne _ _ ha] at e; exact .inl ⟨q, e⟩
      · rcases List.mem_cons.mp hb with rfl | hb
        · rw [AH.set_ne _ _ (Nat.ne_of_lt (Nat.lt_succ_of_lt (Nat.lt_succ_self _)))]; exact (hf _ (by omega)).1
        · rw [List.mem_singleton.mp hb, AH.set_ne _ _ (Nat.ne_of_lt (by omega : I + 1 < I + 2))]; exact (hf _ (by omega)).1
      · rcases List.mem_cons.mp hb with rfl | hb
        · exact (hf _ (by omega)).2.1
        · rw [List.mem_singleton.mp hb]; exact (hf _ (by omega)).2.1
      · rcases List.mem_cons.mp hb with rfl | hb
        · exact (hf _ (by omega)).2.2
        · rw [List.mem_singleton.mp hb]; exact (hf _ (by omega)).2.2
      · rcases List.mem_cons.mp hb with rfl | hb
        · exact ⟨_, hI1⟩
        · rw [List.mem_singleton.mp hb]; obtain ⟨k, e⟩ := hD1; exact ⟨_, e⟩
  exact codeAny_compStart_list (fin _ rfl) (wpAny_mono (T.self 0 _ st1 (fun it s' => it = .ref I ∧ s' = { s with heap := h₁, toks := s.toks + ([] : List (Str × Value)).length }) ⟨rfl, rfl⟩) (fun it s' ⟨e1, e2⟩ => by subst e1; exact fin s' e2) fun _ _ x => x.elim)

theorem EV.comp {elt iter : Expr} {ifs : List Expr} {scope : Scope} {pos px : Pos} {x : Str} {cl : List (Str × Addr)} {Q : PV → AH → Prop} (hh : A.handled = none) (hclos : closureFor scope env = pure cl)
    (h : EV X A env iter σ fun p σ₁ => ∃ (n : Nat) (item : Nat → PV) (Need : AH → Prop) (J : Nat → Nat → List PV → AH → Prop), ISRC σ₁ p n item Need ∧ n ≤ sizeLine ∧ (∀ C : Nat, (∀ b : Nat, C ≤ b → σ₁ b = none ∧ X.base.get? b = none) → J C 0 [] σ₁) ∧ (∀ (C : Nat) i acc σ', i ≤ n → J C i acc σ' → σ' C = none ∧ Need σ') ∧
      (∀ (C : Nat) i acc σ', (∀ b : Nat, C ≤ b → σ₁ b = none ∧ X.base.get? b = none) → i < n → J C i acc σ' → TSL X A (compEnvC scope cl C env) ifs (σ'.set C (nsx x (some (item i)))) fun ok σ₂ =>
        (ok = true → EV X A (compEnvC scope cl C env) elt σ₂ fun y σ₃ => ∃ σ₄, AH.le (σ₄.set C (nsx x (some (item i)))) σ₃ ∧ J C (i + 1) (acc ++ [y]) σ₄) ∧ (ok = false → ∃ σ₄, AH.le (σ₄.set C (nsx x (some (item i)))) σ₂ ∧ J C (i + 1) acc σ₄)) ∧
      (∀ (C D : Nat) acc σ', (∀ b : Nat, D ≤ b → σ₁ b = none ∧ X.base.get? b = none) → D < C → J C n acc σ' → σ' D = none → Q (.ref D) (σ'.set D (.list acc))))
    (hcell : ∀ y ∈ scope.names, y.2 ≠ .cell := by decide) (hkind : scope.kind = .function := by rfl) (hnames : ∀ y ∈ scope.names, y.2 = .local → scope.names.lookup y.1 = some .local := by decide) (hx : scope.names.lookup x = some .local := by rfl)
    (hs : ∀ x, foldedSetIterable iter env x = pure x := by intro _; rfl) : EV X A env (.ListComp elt [⟨.Name x px, iter, ifs, 0⟩] scope pos) σ Q := by
  refine WP.of fun s R => ?_
  rw [eval_ListComp]
  refine wpAny_comprehension_free (use := none) rfl hs hclos hkind hnames (WP.go h R (Step.refl σ s) fun v σ₁ s₁ R₁ S₁ ⟨n, item, Need, J, hsrc, hn, h0, hJ, turn, fin⟩ => ?_)
  refine comp_block hh hcell hkind hx hsrc hn R₁ rfl J h0 hJ turn fun C D o acc σ' s' ys hD hDC j L hp hy => ?_
  have hC := (hJ C n acc σ' (Nat.le_refl _) j).1
  have hDs : σ' D = none := by
    have := L.off D (by simp)
    rwa [AH.set_ne _ _ (Nat.ne_of_lt hDC)] at this
  obtain ⟨m, hns, _⟩ : ∃ m, s'.heap.Ns C m ∧ True := by
    cases o with
    | none => obtain ⟨m, hm, _⟩ := L.real.rz C _ (AH.set_self ..); exact ⟨m, hm, trivial⟩
    | some q => obtain ⟨m, hm, _⟩ := L.real.rz C _ (AH.set_self ..); exact ⟨m, hm, trivial⟩
  refine ⟨m, hns, fun h' hs' => ⟨σ'.set D (.list acc), ?_, ?_, fin C D acc σ' hD hDC j hDs⟩⟩
  · have hbC : X.base.get? C = none := (hD C (Nat.le_of_lt hDC)).2
    refine ⟨fun a q e => ?_, fun b o' e => (hs'.2 b (fun z => by rw [z, hbC] at e; cases e)).trans (L.real.base b o' e), fun a q e => ?_, L.real.gens, L.real.os, L.real.tk⟩
    · by_cases ha : a = D
      · subst ha
        rw [AH.set_self] at e; cases e
        obtain ⟨k, e⟩ := hp
        exact ⟨ys, ⟨k, (hs'.2 a (Nat.ne_of_lt hDC)).trans e⟩, hy⟩
      · rw [AH.set_ne _ _ ha] at e
        have hne : a ≠ C := fun z => by rw [z, hC] at e; cases e
        exact (L.real.rz a q (by rw [AH.set_ne _ _ hne]; exact e)).keep fun o' ho => (hs'.2 a hne).trans ho
    · by_cases ha : a = D
      · subst ha; exact L.boff a (by simp)
      · rw [AH.set_ne _ _ ha] at e
        have hne : a ≠ C := fun z => by rw [z, hC] at e; cases e
        exact L.real.apart a q (by rw [AH.set_ne _ _ hne]; exact e)
  · refine S₁.trans ⟨fun b o' hb e => ?_, fun b q e => ?_, L.step.gens, L.step.gsize⟩
    · have h1 := L.step.keep b o' hb e
      refine (hs'.2 b fun z => ?_).trans h1
      subst z
      have := L.step.fresh b _ (AH.set_self ..)
      rcases this with ⟨q, hq⟩ | hq
      · rw [hb] at hq; cases hq
      · rw [e] at hq; cases hq
    · by_cases ha : b = D
      · subst ha; exact .inr (L.new b (by simp))
      · rw [AH.set_ne _ _ ha] at e
        have hne : b ≠ C := fun z => by rw [z, hC] at e; cases e
        exact L.step.fresh b q (by rw [AH.set_ne _ _ hne]; exact e)
end
end Mine
end

section
open PySem PySem.W PyProof.Rows
namespace Mine
section
variable {X : Cx} {A : Around} {env : Env} {σ : AH}
theorem comp_drop {s s' : Shared} {σ' : AH} {C D : Nat} {x : Str} {o : Option PV} {acc : List PV} {ys : Array Value} (L : AlongH X σ s [D] (σ'.set C (nsx x o)) s') (hC : σ' C = none) (hDC : D < C) (hσC : σ C = none)
    (hp : s'.heap.PlainList D ys) (hy : ys.toList.map pv = acc) :
    Real X (σ'.set D (.list acc)) s' ∧ Step σ s (σ'.set D (.list acc)) s' ∧ (∃ m, s'.heap.Ns C m) ∧ σ' D = none ∧ s.heap.get? C = none := by
  have hDs : σ' D = none := by
    have := L.off D (by simp)
    rwa [AH.set_ne _ _ (Nat.ne_of_lt hDC)] at this
  have hns : ∃ m, s'.heap.Ns C m := by
    cases o with
    | none => obtain ⟨m, hm, _⟩ := L.real.rz C _ (AH.set_self ..); exact ⟨m, hm⟩
    | some q => obtain ⟨m, hm, _⟩ := L.real.rz C _ (AH.set_self ..); exact ⟨m, hm⟩
  have hnew : s.heap.get? C = none := by
    rcases L.step.fresh C _ (AH.set_self ..) with ⟨q, hq⟩ | hq
    · rw [hσC] at hq; cases hq
    · exact hq
  refine ⟨⟨fun a q e => ?_, L.real.base, fun a q e => ?_, L.real.gens, L.real.os, L.real.tk⟩, ⟨L.step.keep, fun b q e => ?_, L.step.gens, L.step.gsize⟩, hns, hDs, hnew⟩
  · by_cases ha : a = D
    · subst ha
      rw [AH.set_self] at e; cases e
      exact ⟨ys, hp, hy⟩
    · rw [AH.set_ne _ _ ha] at e
      have hne : a ≠ C := fun z => by rw [z, hC] at e; cases e
      exact L.real.rz a q (by rw [AH.set_ne _ _ hne]; exact e)
  · by_cases ha : a = D
    · subst ha; exact L.boff a (by simp)
    · rw [AH.set_ne _ _ ha] at e
      have hne : a ≠ C := fun z => by rw [z, hC] at e; cases e
      exact L.real.apart a q (by rw [AH.set_ne _ _ hne]; exact e)
  · by_cases ha : b = D
    · subst ha; exact .inr (L.new b (by simp))
    · rw [AH.set_ne _ _ ha] at e
      have hne : b ≠ C := fun z => by rw [z, hC] at e; cases e
      exact L.step.fresh b q (by rw [AH.set_ne _ _ hne]; exact e)
theorem Real.drop {τ : AH} {s : Shared} (R : Real X τ s) {C : Addr} (h : τ C = none) (hb : X.base.get? C = none) {h' : Heap} (hs : Heap.SameBut C s.heap h') : Real X τ { s with heap := h' } :=
  ⟨fun a q e => (R.rz a q e).keep fun o ho => (hs.2 a (fun z => by rw [z, h] at e; cases e)).trans ho, fun b o e => (hs.2 b (fun z => by rw [z, hb] at e; cases e)).trans (R.base b o e), R.apart, R.gens, R.os, R.tk⟩
theorem Step.drop {τ : AH} {s s₁ : Shared} (S : Step σ s τ s₁) {C : Addr} (hn : s.heap.get? C = none) {h' : Heap} (hs : Heap.SameBut C s₁.heap h') : Step σ s τ { s₁ with heap := h' } :=
  ⟨fun b o hb e => (hs.2 b (fun z => by rw [z, hn] at e; cases e)).trans (S.keep b o hb e), S.fresh, S.gens, S.gsize⟩

theorem EX.compUsed {elt iter : Expr} {ifs : List Expr} {scope : Scope} {pos px py spos : Pos} {x y : Str} {cl : List (Str × Addr)} {Q : PF → AH → Prop} (hh : A.handled = none) (hclos : closureFor scope env = pure cl)
    (h : EV X A env iter σ fun p σ₁ => ∃ (n : Nat) (item : Nat → PV) (Need : AH → Prop) (J : Nat → Nat → List PV → AH → Prop), ISRC σ₁ p n item Need ∧ n ≤ sizeLine ∧ (∀ C : Nat, (∀ b : Nat, C ≤ b → σ₁ b = none ∧ X.base.get? b = none) → J C 0 [] σ₁) ∧ (∀ (C : Nat) i acc σ', i ≤ n → J C i acc σ' → σ' C = none ∧ Need σ') ∧
      (∀ (C : Nat) i acc σ', (∀ b : Nat, C ≤ b → σ₁ b = none ∧ X.base.get? b = none) → i < n → J C i acc σ' → TSL X A (compEnvC scope cl C env) ifs (σ'.set C (nsx x (some (item i)))) fun ok σ₂ =>
        (ok = true → EV X A (compEnvC scope cl C env) elt σ₂ fun y σ₃ => ∃ σ₄, AH.le (σ₄.set C (nsx x (some (item i)))) σ₃ ∧ J C (i + 1) (acc ++ [y]) σ₄) ∧ (ok = false → ∃ σ₄, AH.le (σ₄.set C (nsx x (some (item i)))) σ₂ ∧ J C (i + 1) acc σ₄)) ∧
      (∀ (C D : Nat) acc σ', (∀ b : Nat, D ≤ b → σ₁ b = none ∧ X.base.get? b = none) → D < C → J C n acc σ' → σ' D = none → ST X A env y (.ref D) (σ'.set D (.list acc)) fun σ₂ => Q .next σ₂))
    (hsw : swapsWith (.ListComp elt [⟨.Name x px, iter, ifs, 0⟩] scope pos) (some (.Name y py)) spos.line env = pure true := by rfl)
    (hcell : ∀ y ∈ scope.names, y.2 ≠ .cell := by decide) (hkind : scope.kind = .function := by rfl) (hnames : ∀ y ∈ scope.names, y.2 = .local → scope.names.lookup y.1 = some .local := by decide) (hx : scope.names.lookup x = some .local := by rfl)
    (hs : ∀ x, foldedSetIterable iter env x = pure x := by intro _; rfl) : EX X A env (.Assign [.Name y py] (.ListComp elt [⟨.Name x px, iter, ifs, 0⟩] scope pos) spos) σ Q := by
  refine WP.of fun s R => ?_
  rw [exec_Assign_Name_used _ _ _ _ hsw]
  refine wpAny_bind (wpAny_standAt (wpAny_bind ?_))
  show wpAny _ A (do let _ ← comprehension (.ListComp elt [⟨.Name x px, iter, ifs, 0⟩] scope pos) scope env _ (newList []) false (eval iter env) (some (PySem.assign (.Name y py) env))) _ _ s
  refine wpAny_bind (wpAny_mono (wpAny_comprehension_free (use := some (PySem.assign (.Name y py) env)) (Q := fun _ s' => ∃ σ', Real X σ' s' ∧ Step σ s σ' s' ∧ Q .next σ') (E := fun _ _ => False) rfl hs hclos hkind hnames ?_) (fun _ s' hq => wpAny_pure (wpAny_pure hq)) fun _ _ (e : False) => e.elim)
  refine WP.go h R (Step.refl σ s) fun v σ₁ s₁ R₁ S₁ ⟨n, item, Need, J, hsrc, hn, h0, hJ, turn, fin⟩ => ?_
  refine comp_block hh hcell hkind hx hsrc hn R₁ rfl J h0 hJ turn fun C D o acc σ' s' ys hD hDC j L hp hy => ?_
  have hC := (hJ C n acc σ' (Nat.le_refl _) j).1
  have hbC := (hD C (Nat.le_of_lt hDC)).2
  obtain ⟨R', S', ⟨m, hns⟩, hDs, hnew⟩ := comp_drop L hC hDC (hD C (Nat.le_of_lt hDC)).1 hp hy
  show wpAny _ A (PySem.assign (.Name y py) env (.ref D)) _ _ _
  have hCD : (σ'.set D (.list acc)) C = none := by rw [AH.set_ne _ _ (Nat.ne_of_gt hDC)]; exact hC
  refine wpAny_assign_Name (WP.go (fin C D acc σ' hD hDC j hDs (.ref D) rfl) R' (Step.refl _ s') fun _ σ₅ s₅ R₅ S₅ q => ?_)
  have hC5 : σ₅ C = none := by
    cases z : σ₅ C with
    | none => rfl
    | some p =>
      rcases S₅.fresh C p z with ⟨q, hq⟩ | hq
      · rw [hCD] at hq; cases hq
      · obtain ⟨oo, _, _, ho, _⟩ := hns; rw [ho] at hq; cases hq
  refine ⟨m, hns.at' fun o' e => S₅.keep C o' hCD e, fun h' hs' => ⟨σ₅, R₅.drop hC5 hbC hs', ?_, q⟩⟩
  exact S₁.trans ((S'.trans S₅).drop hnew hs')
end
end Mine
end

section
open PySem PySem.W PyProof.Rows
namespace Mine

theorem Real.add {X : Cx} {σ : AH} {s : Shared} (R : Real X σ s) {D : Addr} (hn : s.heap.get? D = none) {h' : Heap} {tk : Nat} {p : PO} (hk : ∀ b o, s.heap.get? b = some o → h'.get? b = some o) (hz : Rz h' D p) (htk : 1 ≤ tk) :
    Real X (σ.set D p) { s with heap := h', toks := tk } ∧ Step σ s (σ.set D p) { s with heap := h', toks := tk } ∧ σ D = none ∧ X.base.get? D = none := by
  have hσ : σ D = none := by
    cases q : σ D with
    | none => rfl
    | some p => obtain ⟨o, ho⟩ := (R.rz _ _ q).there; rw [hn] at ho; cases ho
  have hb : X.base.get? D = none := by
    cases q : X.base.get? D with
    | none => rfl
    | some o => rw [R.base _ _ q] at hn; cases hn
  refine ⟨⟨fun a q e => ?_, fun b o e => hk b o (R.base b o e), fun a q e => ?_, R.gens, R.os, htk⟩, ⟨fun b o _ e => hk b o e, fun b q e => ?_, fun _ _ => rfl, Nat.le_refl _⟩, hσ, hb⟩
  · by_cases ha : a = D
    · subst ha; rw [AH.set_self] at e; cases e; exact hz
    · rw [AH.set_ne _ _ ha] at e; exact (R.rz a q e).keep fun o ho => hk a o ho
  · by_cases ha : a = D
    · subst ha; exact hb
    · rw [AH.set_ne _ _ ha] at e; exact R.apart a q e
  · by_cases ha : b = D
    · subst ha; exact .inr hn
    · rw [AH.set_ne _ _ ha] at e; exact .inl ⟨q, e⟩
theorem Real.grow {X : Cx} {σ : AH} {s : Shared} (R : Real X σ s) {h' : Heap} {tk : Nat} (hk : ∀ b o, s.heap.get? b = some o → h'.get? b = some o) (htk : 1 ≤ tk) :
    Real X σ { s with heap := h', toks := tk } ∧ Step σ s σ { s with heap := h', toks := tk } :=
  ⟨⟨fun a q e => (R.rz a q e).keep fun o ho => hk a o ho, fun b o e => hk b o (R.base b o e), R.apart, R.gens, R.os, htk⟩, ⟨fun b o _ e => hk b o e, fun b q e => .inl ⟨q, e⟩, fun _ _ => rfl, Nat.le_refl _⟩⟩

section
variable (X : Cx) (A : Around)
def SUB (value slice : Expr) (o i : PV) (σ : AH) (Q : PV → AH → Prop) : Prop := ∀ vo vi, pv vo = o → pv vi = i → WV X A (subscriptTail value slice vo vi) σ Q
end
section
variable {X : Cx} {A : Around} {env : Env} {σ : AH} {Q : PV → AH → Prop}
theorem EV.sub {value slice : Expr} {pos : Pos} (h : EV X A env value σ fun o σ₁ => EV X A env slice σ₁ fun i σ₂ => SUB X A value slice o i σ₂ Q) : EV X A env (.Subscript value slice pos) σ Q :=
  WP.of fun s R => Subscript_ (h.go R (Step.refl σ s) fun va σ₁ s₁ R₁ S₁ h₁ => WP.go h₁ R₁ S₁ fun vb σ₂ s₂ R₂ S₂ h₂ => WP.go (h₂ va vb rfl rfl) R₂ S₂ fun v σ₃ s₃ R₃ S₃ q => ⟨σ₃, R₃, S₃, q⟩)
theorem subscripted_plain {slice : Expr} (h : (match slice with | .Slice .. => false | _ => true) = true) (o i : Value) : subscripted slice false o i = operate [o, i] (getItem o i) := by
  cases slice <;> first | rfl | cases h

theorem SUB.list {value slice : Expr} {l : Addr} {vs : List PV} {k : Int} {p : PV} (hl : σ l = some (.list vs)) (h0 : 0 ≤ k) (hk : k < 2 ^ 63) (hp : vs[k.toNat]? = some p) (h : Q p σ)
    (hs : (match slice with | .Slice .. => false | _ => true) = true := by rfl) : SUB X A value slice (.ref l) (.int k) σ Q := fun vo vi eo ei => WV.val (fun s R Q' hQ => by
  obtain ⟨t, rfl⟩ := pv_int ei
  rw [pv_ref eo]
  obtain ⟨vals, hpl, e⟩ := R.rz _ _ hl
  subst e
  rw [List.getElem?_map] at hp
  cases hv : vals.toList[k.toNat]? with
  | none => rw [hv] at hp; cases hp
  | some v =>
    rw [hv] at hp
    exact tail_any hpl.isList.typeIs list_getitem_lookup (wpAny_getItem_list hpl.isList h0 hk (by simpa using hv) (hQ v s.toks (Option.some.inj hp))) (subscripted_plain hs _ _)) h
theorem SUB.listNeg {value slice : Expr} {l : Addr} {vs : List PV} {k : Int} {p : PV} (hl : σ l = some (.list vs)) (h0 : k < 0) (h1 : -(vs.length : Int) ≤ k) (hk : -(2 ^ 63) ≤ k) (hp : vs[(k + vs.length).toNat]? = some p) (h : Q p σ)
    (hs : (match slice with | .Slice .. => false | _ => true) = true := by rfl) : SUB X A value slice (.ref l) (.int k) σ Q := fun vo vi eo ei => WV.val (fun s R Q' hQ => by
  obtain ⟨t, rfl⟩ := pv_int ei
  rw [pv_ref eo]
  obtain ⟨vals, hpl, e⟩ := R.rz _ _ hl
  subst e
  simp only [List.length_map, Array.length_toList] at h1 hp
  rw [List.getElem?_map] at hp
  cases hv : vals.toList[(k + vals.size).toNat]? with
  | none => rw [hv] at hp; cases hp
  | some v =>
    rw [hv] at hp
    exact tail_any hpl.isList.typeIs list_getitem_lookup (wpAny_getItem_list_neg hpl.isList h0 h1 hk (by simpa using hv) (hQ v s.toks (Option.some.inj hp))) (subscripted_plain hs _ _)) h
theorem SUB.tuple {value slice : Expr} {l : Addr} {vs : List PV} {k : Int} {p : PV} (hl : σ l = some (.tuple vs)) (h0 : 0 ≤ k) (hk : k < 2 ^ 63) (hp : vs[k.toNat]? = some p) (h : Q p σ)
    (hs : (match slice with | .Slice .. => false | _ => true) = true := by rfl) : SUB X A value slice (.ref l) (.int k) σ Q := fun vo vi eo ei => WV.val (fun s R Q' hQ => by
  obtain ⟨t, rfl⟩ := pv_int ei
  rw [pv_ref eo]
  obtain ⟨vals, hpl, e⟩ := R.rz _ _ hl
  subst e
  rw [List.getElem?_map] at hp
  cases hv : vals.toList[k.toNat]? with
  | none => rw [hv] at hp; cases hp
  | some v =>
    rw [hv] at hp
    have hlt : k.toNat < vals.size := by
      have := (List.getElem?_eq_some_iff.mp hv).1
      simpa using this
    have hT : s.TypeIs (.ref l) "tuple" := let ⟨o, ho, hc, _⟩ := hpl; ⟨o, ho, hc⟩
    exact tail_any (T := "tuple") hT PySem.F.slot_tuple_getitem.lookup (PyProof.Rows.getItem_tuple (j := k.toNat) hpl (by omega) hk (by unfold seqIndex?; simp; omega) (by simpa using hv) (hQ v s.toks (Option.some.inj hp))) (subscripted_plain hs _ _)) h
theorem SUB.str {value slice : Expr} {x : Str} {k : Int} {c : Nat} (h0 : 0 ≤ k) (hk : k < 2 ^ 63) (hp : x.cps[k.toNat]? = some c) (h : Q (.str ⟨#[c]⟩) σ)
    (hs : (match slice with | .Slice .. => false | _ => true) = true := by rfl) : SUB X A value slice (.str x) (.int k) σ Q := fun vo vi eo ei => WV.val (fun s R Q' hQ => by
  obtain ⟨t, rfl⟩ := pv_str eo
  obtain ⟨u, rfl⟩ := pv_int ei
  have hlt : k.toNat < x.length := (Array.getElem?_eq_some_iff.mp hp).1
  refine tail_any (typeIs_str s x t) PySem.F.slot_str_getitem.lookup (P.getItem_str (c := c) (by simp; omega) ?_ (hQ _ _ rfl)) (subscripted_plain hs _ _)
  have : seqIndex? k x.length = some k.toNat := by unfold seqIndex?; simp; omega
  rw [this]; exact hp) h

/-- a list's part, both ends given -/
theorem EV.sliceList {value lo hi : Expr} {p pos : Pos} (h : EV X A env value σ fun o σ₁ => EV X A env lo σ₁ fun a σ₂ => EV X A env hi σ₂ fun b σ₃ => ∃ (l : Addr) (vs : List PV) (i j : Nat), o = .ref l ∧ a = .int i ∧ b = .int j ∧ σ₃ l = some (.list vs) ∧ vs.length ≤ sizeLine ∧ i ≤ j ∧ j ≤ vs.length ∧
      ∀ D, σ₃ D = none → X.base.get? D = none → Q (.ref D) (σ₃.set D (.list ((vs.drop i).take (j - i)))))
    (ht : ∀ o r, letTemporaryGo value o r = pure () := by intro _ _; rfl) : EV X A env (.Subscript value (.Slice (some lo) (some hi) .none p) pos) σ Q := WP.of fun s R => by
  refine wpAny_Subscript_list_slice (WP.go h R (Step.refl σ s) fun vo σ₁ s₁ R₁ S₁ h₁ => ?_) ht
  rw [evalPart_some]
  refine WP.go h₁ R₁ S₁ fun va σ₂ s₂ R₂ S₂ h₂ => ?_
  rw [evalPart_some]
  refine WP.go h₂ R₂ S₂ fun vb σ₃ s₃ R₃ S₃ h₃ => ?_
  obtain ⟨l, vs, i, j, eo, ea, eb, hl, hsz, hij, hj, hq⟩ := h₃
  obtain ⟨t, rfl⟩ := pv_int ea
  obtain ⟨u, rfl⟩ := pv_int eb
  obtain ⟨vals, hpl, e⟩ := R₃.rz _ _ hl
  have hlen : vs.length = vals.size := by rw [← e, List.length_map, Array.length_toList]
  refine ⟨l, vals, some i, some j, pv_ref eo, hpl.isList, by omega, .int _ _, .int _ _, ?_⟩
  have hf := fresh_from R₃
  have hD := hf (s₃.heap.objs.size + 1) (Nat.le_succ _)
  have e1 : slicePick vals (some (i : Int)) (some (j : Int)) none = ((vals.toList.drop i).take (j - i)).toArray := slicePick_run vals i j (by omega) hij
  rw [e1]
  obtain ⟨R', S', hn, hb⟩ := R₃.add hD.2.2 (tk := s₃.toks) (p := .list ((vs.drop i).take (j - i))) (h' := (s₃.heap.push { cls := .type "slice", data := .fields #[.int i t, .int j u, .none] }).push { cls := .type "list", data := .seq ((vals.toList.drop i).take (j - i)).toArray })
    (fun b o e => Heap.get?_push_of_some _ (Heap.get?_push_of_some _ e)) ⟨_, ⟨0, by
      have := Heap.get?_push_size (s₃.heap.push { cls := .type "slice", data := .fields #[.int i t, .int j u, .none] }) (o := { cls := .type "list", data := .seq ((vals.toList.drop i).take (j - i)).toArray }) rfl
      rwa [Heap.size_push] at this⟩, by simp [← e, List.map_take, List.map_drop]⟩ R₃.tk
  exact ⟨_, R', S₃.trans S', hq _ hn hb⟩

/-- a text's part -/
def cut (x : Str) (i j : Nat) : Str := ⟨((x.cps.toList.drop i).take (j - i)).toArray⟩
theorem cut_all (x : Str) : cut x 0 x.length = x := by
  cases x with | mk c => simp [cut, Str.length, List.take_of_length_le]
theorem slice_post {x : Str} {t : Tok} {i j : Nat} (hij : i ≤ j) (hj : j ≤ x.length) (hs : x.length ≤ sizeLine) {l u : Option (Int × Tok)} (hl : Builtin.Str.strSliceIndices (l.map (·.1)) (u.map (·.1)) 1 x.length = Builtin.Str.strSliceIndices (some (i : Int)) (some (j : Int)) 1 x.length)
    {Q : Value → Shared → Prop} {s : Shared} (h : ∀ v tk, pv v = .str (cut x i j) → s.toks ≤ tk → Q v { s with toks := tk }) : (sliceMade x t l u none).post Q s := by
  unfold sliceMade slicePicked
  have e : ((none : Option (Int × Tok)).map (·.1)).getD 1 = 1 := rfl
  rw [e, hl]
  have hlen : (Builtin.Str.strSliceIndices (some (i : Int)) (some (j : Int)) 1 x.length).length = j - i := by rw [StrLaws.strSliceIndices_plain hij hj]; simp
  split
  · rename_i h0
    simp only [hlen, Bool.and_eq_true, beq_iff_eq] at h0
    have h1 : j - i = x.length := h0.2
    have hi : i = 0 := by omega
    have hj' : j = x.length := by omega
    subst hi hj'
    exact h _ s.toks (by rw [cut_all]; rfl) (Nat.le_refl _)
  · rw [StrLaws.sliced_plain x hij hj]
    refine ⟨?_, h _ _ rfl (Nat.le_succ _)⟩
    have : (((x.cps.toList.drop i).take (j - i)).toArray).size ≤ x.length := by simp [Str.length]; omega
    exact Nat.le_trans this hs
theorem EV.sliceStr {value lo hi : Expr} {p pos : Pos} (h : EV X A env value σ fun o σ₁ => EV X A env lo σ₁ fun a σ₂ => EV X A env hi σ₂ fun b σ₃ => ∃ (x : Str) (i j : Nat), o = .str x ∧ a = .int i ∧ b = .int j ∧ x.length ≤ sizeLine ∧ i ≤ j ∧ j ≤ x.length ∧ Q (.str (cut x i j)) σ₃)
    (ht : ∀ o r, letTemporaryGo value o r = pure () := by intro _ _; rfl) : EV X A env (.Subscript value (.Slice (some lo) (some hi) .none p) pos) σ Q := WP.of fun s R => by
  refine wpAny_Subscript_str_slice (WP.go h R (Step.refl σ s) fun vo σ₁ s₁ R₁ S₁ h₁ => ?_) ht
  rw [evalPart_some]
  refine WP.go h₁ R₁ S₁ fun va σ₂ s₂ R₂ S₂ h₂ => ?_
  rw [evalPart_some]
  refine WP.go h₂ R₂ S₂ fun vb σ₃ s₃ R₃ S₃ h₃ => ?_
  obtain ⟨x, i, j, eo, ea, eb, hsz, hij, hj, hq⟩ := h₃
  obtain ⟨t, rfl⟩ := pv_int ea
  obtain ⟨u, rfl⟩ := pv_int eb
  obtain ⟨w, rfl⟩ := pv_str eo
  refine ⟨x, w, some (i, t), some (j, u), rfl, rfl, rfl, slice_post hij hj hsz rfl fun v tk e htk => ?_⟩
  obtain ⟨R', S'⟩ := R₃.grow (h' := s₃.heap.push { cls := .type "slice", data := .fields #[.int i t, .int j u, .none] }) (tk := tk) (fun b o e => Heap.get?_push_of_some _ e) (Nat.le_trans R₃.tk htk)
  exact ⟨σ₃, R', S₃.trans S', by show Q (pv v) σ₃; rw [e]; exact hq⟩
theorem EV.sliceStrFrom {value lo : Expr} {p pos : Pos} (h : EV X A env value σ fun o σ₁ => EV X A env lo σ₁ fun a σ₂ => ∃ (x : Str) (i : Nat), o = .str x ∧ a = .int i ∧ x.length ≤ sizeLine ∧ i ≤ x.length ∧ Q (.str (cut x i x.length)) σ₂)
    (ht : ∀ o r, letTemporaryGo value o r = pure () := by intro _ _; rfl) : EV X A env (.Subscript value (.Slice (some lo) .none .none p) pos) σ Q := WP.of fun s R => by
  refine wpAny_Subscript_str_slice (WP.go h R (Step.refl σ s) fun vo σ₁ s₁ R₁ S₁ h₁ => ?_) ht
  rw [evalPart_some]
  refine WP.go h₁ R₁ S₁ fun va σ₂ s₂ R₂ S₂ h₂ => ?_
  rw [evalPart_none]
  obtain ⟨x, i, eo, ea, hsz, hi, hq⟩ := h₂
  obtain ⟨t, rfl⟩ := pv_int ea
  obtain ⟨w, rfl⟩ := pv_str eo
  refine wpAny_pure ⟨x, w, some (i, t), none, rfl, rfl, rfl, slice_post hi (Nat.le_refl _) hsz (StrLaws.sliceIdx_none_hi _ _) fun v tk e htk => ?_⟩
  obtain ⟨R', S'⟩ := R₂.grow (h' := s₂.heap.push { cls := .type "slice", data := .fields #[.int i t, .none, .none] }) (tk := tk) (fun b o e => Heap.get?_push_of_some _ e) (Nat.le_trans R₂.tk htk)
  exact ⟨σ₂, R', S₂.trans S', by show Q (pv v) σ₂; rw [e]; exact hq⟩

/-- displays -/
theorem EV.tuple {elts : List Expr} {k : Nat} {pos : Pos} (h : AVS X A env elts σ fun ps σ₁ => ps.length ≤ sizeLine ∧ ∀ D, σ₁ D = none → X.base.get? D = none → Q (.ref D) (σ₁.set D (.tuple ps)))
    (hp : elts.all plainArg = true := by rfl) : EV X A env (.Tuple elts k pos) σ Q := WP.of fun s R =>
  wpAny_Tuple (WP.go (AVS.run hp h) R (Step.refl σ s) fun vs σ₁ s₁ R₁ S₁ ⟨hl, q⟩ => ⟨by simpa using hl, by
    obtain ⟨R', S', hn, hb⟩ := R₁.new (h' := s₁.heap.push { cls := .type "tuple", data := .seq vs.toArray }) (tk := s₁.toks) (p := .tuple (vs.map pv)) (by rw [Heap.size_push]; exact Nat.lt_succ_self _) (fun b o e => Heap.get?_push_of_some _ e)
      ⟨vs.toArray, ⟨_, Heap.get?_push_size _ rfl, rfl, _, rfl⟩, by simp⟩ R₁.tk
    exact ⟨_, R', S₁.trans S', q _ hn hb⟩⟩)
theorem EV.list {elts : List Expr} {pos : Pos} (h : AVS X A env elts σ fun ps σ₁ => ps.length ≤ sizeLine ∧ ∀ D, σ₁ D = none → X.base.get? D = none → Q (.ref D) (σ₁.set D (.list ps)))
    (hp : elts.all plainArg = true := by rfl) : EV X A env (.List elts pos) σ Q := WP.of fun s R =>
  wpAny_List (WP.go (AVS.run hp h) R (Step.refl σ s) fun vs σ₁ s₁ R₁ S₁ ⟨hl, q⟩ => ⟨by simpa using hl, by
    obtain ⟨R', S', hn, hb⟩ := R₁.new (h' := s₁.heap.push { cls := .type "list", data := .seq vs.toArray }) (tk := s₁.toks) (p := .list (vs.map pv)) (by rw [Heap.size_push]; exact Nat.lt_succ_self _) (fun b o e => Heap.get?_push_of_some _ e)
      ⟨vs.toArray, ⟨0, Heap.get?_push_size _ rfl⟩, by simp⟩ R₁.tk
    exact ⟨_, R', S₁.trans S', q _ hn hb⟩⟩)
end
end Mine
end

section
open PySem PySem.W PyProof.Rows
namespace Mine

abbrev KF := Flow → Sem Fin
section
variable {M : Model} {A : Around} {R : GenEnd} {Y : Protocol} {n : Nat} {s₀ : Shared} {c : Code} {fs : List Frame} {s : Shared} {env : Env}
  {K : Flow → Sem Fin} {H : Value → Sem Fin} {gd : Bool → Bool} {lv : List Value → List Value}

theorem seg_st {m : Sem Flow} (h : wpAny M (A.over c fs) m (fun f s' => Seg M A R Y n s₀ c (K f) fs s') (fun _ _ => False) s) : Seg M A R Y n s₀ c (m.wrap K H gd lv) fs s :=
  seg_wrap (wpAny_mono h (fun _ _ x => x) fun _ _ x => x.elim)
theorem seg_bw {α β : Type} {m : Sem α} {K : α → Sem β} {K' : β → Sem Fin} {H' : Value → Sem Fin} {gd lv}
    (h : wpAny M (A.over c fs) m (fun a s' => Seg M A R Y n s₀ c ((K a).wrap K' H' gd lv) fs s') (fun _ _ => False) s) : Seg M A R Y n s₀ c ((m >>= K).wrap K' H' gd lv) fs s :=
  seg_bind_wrap (wpAny_mono h (fun _ _ x => x) fun _ _ x => x.elim)

theorem seg_If {test : Expr} {body orelse : List Stmt} {pos : Pos}
    (h : wpAny M (A.over c fs) (isTrue test env (eval test env)) (fun b s' => Seg M A R Y n s₀ c ((execs (if b = true then body else orelse) env).wrap K H gd lv) fs s') (fun _ _ => False) s) :
    Seg M A R Y n s₀ c ((exec (.If test body orelse pos) env).wrap K H gd lv) fs s := by
  rw [exec_If]
  refine seg_bw (wpAny_standAt (seg_bw (wpAny_mono h (fun b s' h' => ?_) fun _ _ x => x)))
  cases b with
  | true => exact h'
  | false => exact h'

theorem seg_For {target iter : Expr} {body : List Stmt} {pos : Pos}
    (h : wpAny M (A.over c fs) (eval iter env) (fun x s₁ => wpAny M (A.over c fs) (pyIter x) (fun it s₂ =>
      ∀ p, Seg M A R Y n s₀ (.forLoop target it body [] env) (M.den (.forLoop target it body [] env))
        (.ret (fun r => ((match r with | .ok f => (.pure f : Sem Flow) | .error e => .raise e).onRaise fun (x : Value) => do
          if (← field x 1) == Value.none then unsupported "frame.own-activation:exception-without-traceback"
          setFlight x env.frame).wrap K H gd lv) none (gd false) (lv []) c p [] :: fs) s₂) (fun _ _ => False) s₁) (fun _ _ => False) s)
    (hs : ∀ x, foldedSetIterable iter env x = pure x := by intro _; rfl) :
    Seg M A R Y n s₀ c ((exec (.For target iter body [] pos) env).wrap K H gd lv) fs s := by
  rw [exec_For]
  refine seg_bw (wpAny_standAt (seg_bw (wpAny_mono h (fun x s₁ h₁ => ?_) fun _ _ x => x)))
  rw [hs x]
  refine seg_bw (wpAny_pure (seg_bw (wpAny_standAt (seg_bw (wpAny_holding (wpAny_mono h₁ (fun it s₂ h₂ => ?_) fun _ _ x => x))))))
  exact seg_call h₂
end

section
variable {prog : Program} {w : World} {A : Around} {R : GenEnd} {Y : Protocol} {n : Nat} {s₀ : Shared} {fs : List Frame} {s : Shared} {env : Env}
def noted (env : Env) : Value → Sem Fin := fun e => (do noteFrame e env; theTreesLotGoes e : Sem Unit).wrap (fun _ => .raise e) .raise id id
def forK (target : Expr) (it : Value) (body : List Stmt) (env : Env) : Flow → Sem Fin := fun f => match f with
  | .next | .cont => .pure (.again (.forLoop target it body [] env))
  | .brk => .pure (.done .next)
  | .ret v => .pure (.done (.ret v))

theorem seg_forLoop {target : Expr} {it : Value} {body : List Stmt}
    (h : wpAny (model prog w) (A.over (.forLoop target it body [] env) fs) (pyNext it) (fun r s₁ => match r with
      | none => Seg (model prog w) A R Y n s₀ (.block [] env) (leafOf (.ok .next)) fs s₁
      | some v => wpAny (model prog w) (A.over (.forLoop target it body [] env) fs) (letOwnedTupleGo target it v) (fun _ s₂ =>
          wpAny (model prog w) (A.over (.forLoop target it body [] env) fs) (assign target env v) (fun _ s₃ =>
            Seg (model prog w) A R Y n s₀ (.forLoop target it body [] env) ((execs body env).wrap (forK target it body env) (noted env) id id) fs s₃) (fun _ _ => False) s₂) (fun _ _ => False) s₁) (fun _ _ => False) s) :
    Seg (model prog w) A R Y n s₀ (.forLoop target it body [] env) ((model prog w).den (.forLoop target it body [] env)) fs s := by
  show Seg _ A R Y n s₀ _ ((forTurn target it body [] env).onRaise (fun x => do noteFrame x env; theTreesLotGoes x)) fs s
  unfold forTurn
  rw [Sem.onRaise_eq_wrap]
  refine seg_bw (wpAny_standAt (seg_bw (wpAny_onRaise (wpAny_mono h (fun r s₁ h₁ => ?_) fun _ _ x => x.elim))))
  cases r with
  | none =>
    refine seg_again rfl ?_
    show Seg _ A R Y n s₀ _ (do return Fin.done (← (execs [] env).onRaise (fun x => do noteFrame x env; theTreesLotGoes x))) fs s₁
    exact h₁
  | some v =>
    refine seg_bw (wpAny_mono h₁ (fun _ s₂ h₂ => ?_) fun _ _ x => x)
    refine seg_bw (wpAny_mono h₂ (fun _ s₃ h₃ => ?_) fun _ _ x => x)
    rw [Sem.bind_eq_wrap', Sem.wrap_wrap]
    rw [Sem.wrap_congr (execs body env) _ _ (K' := forK target it body env) (H' := noted env) (fun f => by cases f <;> rfl)
        (fun e => by show (do noteFrame e env; theTreesLotGoes e : Sem Unit).bind (fun _ => .raise e) = _; rw [Sem.bind_eq_wrap]; rfl)]
    exact h₃
end
end Mine
end

section
open PySem PySem.W PyProof.Rows
namespace Mine

structure Src where
  params : Arguments
  body : List Stmt
  scope : Scope
def noScope : Scope := { kind := .function, names := [], isGenerator := false, isCoroutine := false }
def srcAt : List Stmt → Nat → Src
  | .FunctionDef _ args body _ _ _ scope .. :: _, 0 => ⟨args, body, scope⟩
  | _ :: r, i + 1 => srcAt r i
  | _, _ => ⟨⟨[], [], none, [], [], none, []⟩, [], noScope⟩
def clsAt : List Stmt → Nat → List Stmt
  | .ClassDef _ _ _ body .. :: _, 0 => body
  | _ :: r, i + 1 => clsAt r i
  | _, _ => []
def top : List Stmt := PySem.Challenge.pw_pg0245_02.main.body
def escSrc : Src := srcAt top 3
def stripSrc : Src := srcAt top 4
def checkSrc : Src := srcAt top 5
def fmtSrc : Src := srcAt top 10
def hdrs : List Stmt := clsAt top 11

structure FM where
  name : Str
  qual : Str
  doc : Value
  pm : Value
  an : Option Addr
  cdv : Value
  ct : Value
abbrev mkFnD (src : Src) (dV kV : Value) (m : FM) : FuncData := fnOf m.name m.qual src.params src.body src.scope dV kV m.doc m.pm m.an m.cdv m.ct
abbrev mkFn (src : Src) (m : FM) : FuncData := mkFnD src .none .none m
structure FnD (X : Cx) (a : Addr) (src : Src) (dV kV : Value) (m : FM) : Prop where
  here : ∃ o, X.base.get? a = some o ∧ o.data = .func (mkFnD src dV kV m)
  code : X.base.CodeRec m.cdv m.qual
abbrev Fn (X : Cx) (a : Addr) (src : Src) (m : FM) : Prop := FnD X a src .none .none m

section
variable {X : Cx} {A : Around} {env : Env} {σ : AH}
theorem Real.put {s : Shared} (R : Real X σ s) {T : Addr} {po : PO} (hz : Rz s.heap T po) (hb : X.base.get? T = none) : Real X (σ.set T po) s :=
  ⟨fun a p e => by
    by_cases h : a = T
    · subst h; rw [AH.set_self] at e; cases e; exact hz
    · rw [AH.set_ne _ _ h] at e; exact R.rz a p e, R.base, fun a p e => by
    by_cases h : a = T
    · subst h; exact hb
    · rw [AH.set_ne _ _ h] at e; exact R.apart a p e, R.gens, R.os, R.tk⟩
theorem ASG.tup2 {x y : Str} {px py pos : Pos} {k : Nat} {t : Addr} {p q : PV} {Q : AH → Prop} (hh : A.handled = none) (ht : σ t = some (.tuple [p, q])) (h : ST X A env x p σ fun σ₁ => ST X A env y q σ₁ Q) :
    ASG X A env (.Tuple [.Name x px, .Name y py] k pos) (.ref t) σ Q := fun v e => WP.of fun s R => by
  rw [pv_ref e]
  obtain ⟨vals, ho, em⟩ := R.rz _ _ ht
  obtain ⟨a, b, rfl, rfl, rfl⟩ : ∃ a b, vals = #[a, b] ∧ pv a = p ∧ pv b = q := by
    match vals, em with
    | ⟨[a, b]⟩, em => simp at em; exact ⟨a, b, rfl, em.1, em.2⟩
    | ⟨[]⟩, em => simp at em
    | ⟨[_]⟩, em => simp at em
    | ⟨_ :: _ :: _ :: _⟩, em => simp at em
  refine wpAny_assign_Tuple hh ho rfl rfl fun h' he => ?_
  have hk : ∀ b o, s.heap.get? b = some o → h'.get? b = some o := fun b o eb => he b o (Nat.ne_of_lt (Heap.lt_size eb)) eb
  show wpAny _ _ (do holding [b] (assign (.Name x px) env a); do holding [] (assign (.Name y py) env b); pure ()) _ _ _
  obtain ⟨R', S'⟩ := R.grow (h' := h') (tk := s.toks) hk R.tk
  refine wpAny_bind (wpAny_holding (assign_Name (WP.go (h a rfl) R' S' fun _ σ₁ s₁ R₁ S₁ q => ?_)))
  refine wpAny_bind (wpAny_holding (assign_Name (WP.go (q b rfl) R₁ S₁ fun _ σ₂ s₂ R₂ S₂ q => wpAny_pure ⟨σ₂, R₂, S₂, q⟩)))
end
end Mine
end

section
open PySem PySem.W PyProof.Rows
namespace Mine

/-- the signs as the generator hands them out -/
def esc : List Nat → Nat → Bool → List (Nat × List Nat)
  | [], _, _ => []
  | c :: r, p, true => (p, [92, c]) :: esc r (p + 1) false
  | c :: r, p, false => if c = 92 then esc r (p + 1) true else (p, [c]) :: esc r (p + 1) false

/-- does the text end behind a lone backslash? (the generator has one more sign then; not dealt with here) -/
def escEnd : List Nat → Bool → Bool
  | [], f => f
  | c :: r, true => escEnd r false
  | c :: r, false => escEnd r (decide (c = 92))

def one (L : Addr) (m : Str → Option PV) : AH := fun b => if b = L then some (.ns m) else none
@[simp] theorem one_self (L : Addr) (m : Str → Option PV) : one L m L = some (.ns m) := by simp [one]
theorem one_ne {L b : Addr} (m : Str → Option PV) (h : b ≠ L) : one L m b = none := by simp [one, h]
theorem one_some {L b : Addr} {m : Str → Option PV} {p : PO} (h : one L m b = some p) : b = L ∧ p = .ns m := by
  unfold one at h; split at h
  · rename_i e; cases h; exact ⟨e, rfl⟩
  · cases h
abbrev noAH : AH := fun _ => none

def Gk (s₀ s : Shared) : Prop := s₀.gens.size ≤ s.gens.size ∧ ∀ i : Nat, i < s₀.gens.size → s.gens[i]? = s₀.gens[i]?
theorem Gk.refl (s : Shared) : Gk s s := ⟨Nat.le_refl _, fun _ _ => rfl⟩
theorem Gk.trans {a b c : Shared} (x : Gk a b) (y : Gk b c) : Gk a c := ⟨Nat.le_trans x.1 y.1, fun i hi => (y.2 i (Nat.lt_of_lt_of_le hi x.1)).trans (x.2 i hi)⟩
theorem Step.gk {σ σ' : AH} {s s' : Shared} (S : Step σ s σ' s') : Gk s s' := ⟨S.gsize, S.gens⟩

def yproto (X : Cx) (H : List Addr) (items : List (Nat × List Nat)) : Protocol := fun m s₀ v s kap =>
  ∃ (t i : Nat) (c : List Nat), items[items.length - 1 - m]? = some (i, c) ∧ v = .ref t ∧ s₀.heap.get? t = none ∧ t ∉ H ∧ Rz s.heap t (.tuple [.int i, .str ⟨c.toArray⟩]) ∧
  (∀ b o, b ∉ H → s₀.heap.get? b = some o → s.heap.get? b = some o) ∧ (∀ b ∈ H, ∃ o, s.heap.get? b = some o) ∧ Gk s₀ s ∧ Real X noAH s ∧ X.base.get? t = none ∧
  ∀ s'', Real X noAH s'' → (∀ b ∈ H, ∀ o, s.heap.get? b = some o → s''.heap.get? b = some o) → kap (.send .none) s''
def yend (X : Cx) (H : List Addr) (n : Nat) (s₀ s : Shared) : Prop :=
  n = 0 ∧ (∀ b o, b ∉ H → s₀.heap.get? b = some o → s.heap.get? b = some o) ∧ Gk s₀ s ∧ Real X noAH s
abbrev yR (X : Cx) (H : List Addr) : GenEnd := fun n s₀ r s₁ => r = .ok (.ret .none) ∧ yend X H n s₀ s₁

/-- within the generator's run -/
structure Inn (X : Cx) (L E I : Addr) (SI : Nat → Heap → Prop) (i : Nat) (s₀ s : Shared) : Prop where
  keep : ∀ b o, b ∉ [L, E, I] → s₀.heap.get? b = some o → s.heap.get? b = some o
  gens : Gk s₀ s
  enum : ∃ old, IsEnum s.heap E I i old
  draw : SI i s.heap

section
variable {X : Cx} {A : Around} {L E I : Addr} {SI : Nat → Heap → Prop} {i : Nat} {s₀ s : Shared} {σ : AH}
theorem inn_go {α : Type} {t : Sem α} {Q : α → AH → Prop} {Q' : α → Shared → Prop} (hI : ∀ i h h', SI i h → (∀ o, h.get? I = some o → h'.get? I = some o) → SI i h') (h : WP X A t σ Q) (R : Real X σ s) (N : Inn X L E I SI i s₀ s) (hE : σ E = none) (hI0 : σ I = none)
    (hL : ∀ b p, σ b = some p → b ∈ [L, E, I] ∨ s₀.heap.get? b = none)
    (hQ : ∀ a σ' s', Real X σ' s' → Inn X L E I SI i s₀ s' → (∀ b p, σ' b = some p → (∃ q, σ b = some q) ∨ s.heap.get? b = none) → Q a σ' → Q' a s') : wpAny (model X.prog X.w) A t Q' (fun _ _ => False) s :=
  h.go R (Step.refl σ s) fun a σ' s' R' S' q => by
    have hk : ∀ b o, b ∉ [L, E, I] → s₀.heap.get? b = some o → s'.heap.get? b = some o := fun b o hb e => by
      cases hσ : σ b with
      | none => exact S'.keep b o hσ (N.keep b o hb e)
      | some p =>
        rcases hL b p hσ with h | h
        · exact absurd h hb
        · rw [e] at h; cases h
    obtain ⟨old, e⟩ := N.enum
    exact hQ a σ' s' R' ⟨hk, N.gens.trans S'.gk, ⟨old, S'.keep E _ hE e⟩, hI i _ _ N.draw fun o e => S'.keep I o hI0 e⟩ S'.fresh q
end
theorem over_frame {A : Around} {c c' : Code} {k : Result → Sem Fin} {g : Bool} {l : List Value} {p : Pos} {kp : List Value} : (A.over c' [.ret k none g l c p kp]).handled = A.handled := rfl
theorem over_nil {A : Around} {c' : Code} : (A.over c' []).handled = A.handled := rfl

abbrev fnEnv (src : Src) (m : FM) (L a : Addr) : Env := callEnv (mkFn src m) L a
end Mine
end

section
open PySem PySem.W PyProof.Rows
namespace Mine

def forTgt : Stmt → Expr
  | .For t .. => t
  | _ => .Constant .none 0 ⟨0, 0, 0, 0⟩
def forIter : Stmt → Expr
  | .For _ i .. => i
  | _ => .Constant .none 0 ⟨0, 0, 0, 0⟩
def forBody : Stmt → List Stmt
  | .For _ _ b .. => b
  | _ => []
def stAt : List Stmt → Nat → Stmt
  | s :: _, 0 => s
  | _ :: r, i + 1 => stAt r i
  | [], _ => .Pass ⟨0, 0, 0, 0⟩
def escFor : Stmt := stAt escSrc.body 2

theorem Real.others {X : Cx} {σ : AH} {s : Shared} (R : Real X σ s) {H : List Addr} (hσ : ∀ b ∈ H, σ b = none) (hb : ∀ b ∈ H, X.base.get? b = none) {h' : Heap} {tk : Nat} (hk : ∀ b o, b ∉ H → s.heap.get? b = some o → h'.get? b = some o) (htk : 1 ≤ tk) :
    Real X σ { s with heap := h', toks := tk } :=
  ⟨fun a p e => (R.rz a p e).keep fun o ho => hk a o (fun z => by rw [hσ a z] at e; cases e) ho, fun b o e => hk b o (fun z => by rw [hb b z] at e; cases e) (R.base b o e), R.apart, R.gens, R.os, htk⟩

section
variable {X : Cx} {A : Around} {L a E I : Addr} {SI : Nat → Heap → Prop} {fm : FM} {x : Str} {items : List (Nat × List Nat)}

theorem esc_loop {F : Frame} {kf : Result → Sem Fin} {g : Bool} {l : List Value} {c₁ : Code} {p₁ : Pos} {kp : List Value} (hF : F = .ret kf none g l c₁ p₁ kp) (hg : g = false) (hh : A.handled = none)
    (D : ∀ A' : Around, A'.handled = none → Draws X.prog X.w A' I [I] x.cps.size (fun i v => ∃ c u, x.cps[i]? = some c ∧ v = .str ⟨#[c]⟩ u) SI)
    (hEI : E ≠ I) (hEL : E ≠ L) (hIL : I ≠ L) (hbE : X.base.get? E = none) (hbI : X.base.get? I = none) (hbL : X.base.get? L = none)
    (exit : ∀ m s₀ s, m (Str.ofString "escape") = some (.bool false) → Real X (one L m) s → (∀ b o, b ∉ [L, E, I] → s₀.heap.get? b = some o → s.heap.get? b = some o) → Gk s₀ s →
      Seg (model X.prog X.w) A (yR X [L, E, I]) (yproto X [L, E, I] items) 0 s₀ (.block [] (fnEnv escSrc fm L a)) (leafOf (.ok .next)) [F] s) :
    ∀ (k p : Nat) (flag : Bool) (m : Str → Option PV) (s₀ s : Shared), x.cps.size - p = k → p ≤ x.cps.size → m (Str.ofString "escape") = some (.bool flag) →
      (∃ pre, items = pre ++ esc (x.cps.toList.drop p) p flag) → escEnd (x.cps.toList.drop p) flag = false → Real X (one L m) s → Inn X L E I SI p s₀ s →
      Seg (model X.prog X.w) A (yR X [L, E, I]) (yproto X [L, E, I] items) (esc (x.cps.toList.drop p) p flag).length s₀ (.forLoop (forTgt escFor) (.ref E) (forBody escFor) [] (fnEnv escSrc fm L a))
        ((model X.prog X.w).den (.forLoop (forTgt escFor) (.ref E) (forBody escFor) [] (fnEnv escSrc fm L a))) [F] s := by
  subst hF; subst hg
  have hI : ∀ i h h', SI i h → (∀ o, h.get? I = some o → h'.get? I = some o) → SI i h' := fun i h h' st hk => (D A hh).frame i h h' st fun b hb o e => by rw [List.mem_singleton.mp hb] at e ⊢; exact hk o e
  have W : ∀ A' : Around, A'.handled = none → _ := fun A' hA' => WalksT.enumerateD (prog := X.prog) (w := X.w) (A := A') (D A'.in1 hA') E hEI (by simpa using hEI) (by simp)
  have hne : ∀ b ∈ [E, I], b ≠ L := fun b hb => by
    rcases List.mem_cons.mp hb with rfl | hb
    · exact hEL
    · rw [List.mem_singleton.mp hb]; exact hIL
  have hnb : ∀ b ∈ [E, I], X.base.get? b = none := fun b hb => by
    rcases List.mem_cons.mp hb with rfl | hb
    · exact hbE
    · rw [List.mem_singleton.mp hb]; exact hbI
  intro k
  induction k with
  | zero =>
    intro p flag m s₀ s hk hp he hpre hend R N
    have hpe : p = x.cps.size := by omega
    subst hpe
    have hdrop : x.cps.toList.drop x.cps.size = [] := by simp
    rw [hdrop] at hpre hend ⊢
    have hfl : flag = false := by cases flag <;> simp_all [escEnd]
    subst hfl
    refine seg_forLoop ?_
    refine with_tk (Nat.le_refl s.toks) ((W (A.over _ _) (by exact hh)).done s _ _ ⟨N.enum, N.draw⟩ fun h' tk hk' htk => ?_)
    have R' : Real X (one L m) { s with heap := h', toks := tk } := R.others (H := [E, I]) (fun b hb => one_ne m (hne b hb)) hnb hk' (Nat.le_trans R.tk htk)
    exact exit m s₀ _ he R' (fun b o hb e => hk' b o (fun z => hb (List.mem_cons_of_mem _ z)) (N.keep b o hb e)) N.gens
  | succ k ih =>
    intro p flag m s₀ s hk hp he hpre hend R N
    have hlt : p < x.cps.size := by omega
    have hc : x.cps.toList.drop p = x.cps[p] :: x.cps.toList.drop (p + 1) := by
      rw [List.drop_eq_getElem_cons (by simpa using hlt)]; simp
    rw [hc] at hpre hend ⊢
    generalize hcv : x.cps[p] = c at hpre hend ⊢
    refine seg_forLoop ?_
    refine with_tk (Nat.le_refl s.toks) ((W (A.over _ _) (by exact hh)).item p s _ _ hlt ⟨N.enum, N.draw⟩ fun T vals h' tk hP hT hTup hMid hk' htk => ?_)
    obtain ⟨t, y, ⟨c', u, hc', rfl⟩, rfl⟩ := hP
    have : c' = c := by rw [Array.getElem?_eq_getElem hlt] at hc'; rw [← hcv]; exact (Option.some.inj hc').symm
    subst this
    refine (W (A.over _ _) (by exact hh)).go _ _ _ p T { s with heap := h', toks := tk } _ _ hMid fun h₂ hst₂ hk₂ => ?_
    have hTn : s.heap.get? T = none := by
      cases q : s.heap.get? T with
      | none => rfl
      | some o => exact absurd (Heap.lt_size q) (Nat.not_lt.mpr hT)
    have hTH : T ∉ [E, I] := (W A hh).apart _ _ _ hMid
    have k2 : ∀ b o, b ∉ [E, I] → s.heap.get? b = some o → h₂.get? b = some o := fun b o hb e => hk₂ b o hb (hk' b o hb e)
    have R₂ : Real X (one L m) { s with heap := h₂, toks := tk } := R.others (H := [E, I]) (fun b hb => one_ne m (hne b hb)) hnb k2 (Nat.le_trans R.tk htk)
    have hTL : T ≠ L := fun z => by
      obtain ⟨o, ho⟩ := (R.rz L _ (one_self L m)).there
      rw [z, ho] at hTn; cases hTn
    have hTb : X.base.get? T = none := by
      cases q : X.base.get? T with
      | none => rfl
      | some o => rw [R.base _ _ q] at hTn; cases hTn
    have N₂ : Inn X L E I SI (p + 1) s₀ { s with heap := h₂, toks := tk } := ⟨fun b o hb e => k2 b o (fun z => hb (List.mem_cons_of_mem _ z)) (N.keep b o hb e), N.gens, by simpa using hst₂.1, hst₂.2⟩
    have hT0 : s₀.heap.get? T = none := by
      cases q : s₀.heap.get? T with
      | none => rfl
      | some o => rw [N.keep T o (by simpa [hTL] using hTH) q] at hTn; cases hTn
    have R₃ : Real X ((one L m).set T (.tuple [.int p, .str ⟨#[c']⟩])) { s with heap := h₂, toks := tk } := R₂.put ⟨_, ⟨_, hk₂ _ _ hTH hTup.choose_spec.1, hTup.choose_spec.2⟩, rfl⟩ hTb
    have hTEI : T ≠ E ∧ T ≠ I := by simpa using hTH
    have hHid : ∀ {σ : AH} {m' : Str → Option PV}, σ.le ((one L m').set T (.tuple [.int p, .str ⟨#[c']⟩])) → σ E = none ∧ σ I = none ∧ ∀ b q, σ b = some q → b ∈ [L, E, I] ∨ s₀.heap.get? b = none := fun {σ m'} hle => by
      have key : ∀ b q, σ b = some q → b = T ∨ b = L := fun b q e => by
        have := hle b q e
        by_cases hb : b = T
        · exact .inl hb
        · rw [AH.set_ne _ _ hb] at this; exact .inr (one_some this).1
      refine ⟨?_, ?_, fun b q e => ?_⟩
      · cases q : σ E with
        | none => rfl
        | some z => rcases key E z q with h | h
                    · exact absurd h.symm hTEI.1
                    · exact absurd h hEL
      · cases q : σ I with
        | none => rfl
        | some z => rcases key I z q with h | h
                    · exact absurd h.symm hTEI.2
                    · exact absurd h hIL
      · rcases key b q e with h | h
        · subst h; exact .inr hT0
        · subst h; exact .inl (by simp)
    generalize hm₃ : upd (upd m (Str.ofString "pos") (.int p)) (Str.ofString "ch") (.str ⟨#[c']⟩) = m₃
    have hpos : m₃ (Str.ofString "pos") = some (.int p) := by rw [← hm₃, upd_ne _ _ (by decide +kernel), upd_self]
    have hch : m₃ (Str.ofString "ch") = some (.str ⟨#[c']⟩) := by rw [← hm₃, upd_self]
    have hesc : m₃ (Str.ofString "escape") = some (.bool flag) := by rw [← hm₃, upd_ne _ _ (by decide +kernel), upd_ne _ _ (by decide +kernel), he]
    have asg : WP X (A.over (.forLoop (forTgt escFor) (.ref E) (forBody escFor) [] (fnEnv escSrc fm L a)) [.ret kf none false l c₁ p₁ kp]) (PySem.assign (forTgt escFor) (fnEnv escSrc fm L a) (.ref T)) ((one L m).set T (.tuple [.int p, .str ⟨#[c']⟩])) fun _ σ' => σ' = one L m₃ := by
      refine WP.post (Q := fun _ σ' => (one L m₃).le σ') ?_ fun _ σ' h => ⟨_, h, rfl⟩
      refine (ASG.tup2 (Q := fun σ' => (one L m₃).le σ') (by exact hh) (AH.set_self ..) (ST.loc (m := m) (by show (one L m).set T _ L = _; rw [AH.set_ne _ _ (Ne.symm hTL), one_self]) (ST.loc (m := upd m (Str.ofString "pos") (.int p)) (AH.set_self ..) ?_))) _ rfl
      intro b q e
      obtain ⟨rfl, rfl⟩ := one_some e
      rw [← hm₃]; exact AH.set_self ..
    refine inn_go (i := p + 1) hI asg R₃ N₂ (hHid (AH.le_refl _)).1 (hHid (AH.le_refl _)).2.1 (hHid (AH.le_refl _)).2.2 fun _ σ' s₃ R₃ N₃ hfr e => ?_
    subst e
    have hm₃' : (one L m₃) L = some (.ns m₃) := one_self L m₃
    have hHid1 : ∀ m', (one L m') E = none ∧ (one L m') I = none ∧ ∀ b q, (one L m') b = some q → b ∈ [L, E, I] ∨ s₀.heap.get? b = none := fun m' =>
      ⟨one_ne _ hEL, one_ne _ hIL, fun b q e => .inl (by rw [(one_some e).1]; simp)⟩
    -- back to the loop
    have again : ∀ (m₄ : Str → Option PV) (flag' : Bool) (n : Nat) (s₀' s₄ : Shared), m₄ (Str.ofString "escape") = some (.bool flag') → n = (esc (x.cps.toList.drop (p + 1)) (p + 1) flag').length → (∃ pre, items = pre ++ esc (x.cps.toList.drop (p + 1)) (p + 1) flag') →
        escEnd (x.cps.toList.drop (p + 1)) flag' = false → Real X (one L m₄) s₄ → Inn X L E I SI (p + 1) s₀' s₄ →
        Seg (model X.prog X.w) A (yR X [L, E, I]) (yproto X [L, E, I] items) n s₀' (.forLoop (forTgt escFor) (.ref E) (forBody escFor) [] (fnEnv escSrc fm L a))
          (.pure (.again (.forLoop (forTgt escFor) (.ref E) (forBody escFor) [] (fnEnv escSrc fm L a)))) [.ret kf none false l c₁ p₁ kp] s₄ := by
      intro m₄ flag' n s₀' s₄ h1 h2 h3 h4 h5 h6
      subst h2
      exact seg_again rfl (ih (p + 1) flag' m₄ s₀' s₄ (by omega) hlt h1 h3 h4 h5 h6)
    -- escape = b, then back
    have setFlag : ∀ (K : Flow → Sem Fin) (hK : K .next = .pure (.again (.forLoop (forTgt escFor) (.ref E) (forBody escFor) [] (fnEnv escSrc fm L a)))) (st : Stmt) (b : Bool) (px p1 p2 : Pos) (k0 : Nat) (n : Nat) (s₀' s₄ : Shared), st = .Assign [.Name (Str.ofString "escape") px] (.Constant (.bool b) k0 p1) p2 → n = (esc (x.cps.toList.drop (p + 1)) (p + 1) b).length → (∃ pre, items = pre ++ esc (x.cps.toList.drop (p + 1)) (p + 1) b) →
        escEnd (x.cps.toList.drop (p + 1)) b = false → Real X (one L m₃) s₄ → Inn X L E I SI (p + 1) s₀' s₄ →
        Seg (model X.prog X.w) A (yR X [L, E, I]) (yproto X [L, E, I] items) n s₀' (.forLoop (forTgt escFor) (.ref E) (forBody escFor) [] (fnEnv escSrc fm L a))
          ((execs [st] (fnEnv escSrc fm L a)).wrap K (noted (fnEnv escSrc fm L a)) id id) [.ret kf none false l c₁ p₁ kp] s₄ := by
      intro K hK st b px p1 p2 k0 n s₀' s₄ hst h2 h3 h4 R₄ N₄
      subst hst
      refine seg_execs_cons (seg_st ?_)
      have hx : EX X (A.over (.forLoop (forTgt escFor) (.ref E) (forBody escFor) [] (fnEnv escSrc fm L a)) [.ret kf none false l c₁ p₁ kp]) (fnEnv escSrc fm L a) (.Assign [.Name (Str.ofString "escape") px] (.Constant (.bool b) k0 p1) p2) (one L m₃) fun f σ' => f = .next ∧ σ' = one L (upd m₃ (Str.ofString "escape") (.bool b)) := by
        refine EX.assign (EV.bool (ST.loc (m := m₃) hm₃' ⟨rfl, ?_⟩))
        funext z
        show ((one L m₃).set L _) z = _
        by_cases hz : z = L
        · subst hz; rw [AH.set_self, one_self]
        · rw [AH.set_ne _ _ hz, one_ne _ hz, one_ne _ hz]
      refine inn_go (Q := fun f σ' => pf f = .next ∧ σ' = one L (upd m₃ (Str.ofString "escape") (.bool b))) hI hx R₄ N₄ (one_ne _ hEL) (one_ne _ hIL) (fun b q e => .inl (by rw [(one_some e).1]; simp)) fun f σ' s₅ R₅ N₅ _ ⟨ef, eσ⟩ => ?_
      subst eσ
      cases f <;> first | cases ef | skip
      show Seg _ _ _ _ _ _ _ (K .next) _ _
      rw [hK]
      exact again _ b n s₀' s₅ (upd_self ..) h2 h3 h4 R₅ N₅
    -- a yield of the sign
    have yields : ∀ (K : Flow → Sem Fin) (e : Expr) (yp pp : Pos) (rest : List Stmt) (cs : List Nat) (flag' : Bool), (∀ A', EV X A' (fnEnv escSrc fm L a) e (one L m₃) fun v σ' => ∃ D : Addr, v = .ref D ∧ σ' = (one L m₃).set D (.tuple [.int p, .str ⟨cs.toArray⟩]) ∧ D ≠ L ∧ X.base.get? D = none) →
        esc (c' :: x.cps.toList.drop (p + 1)) p flag = (p, cs) :: esc (x.cps.toList.drop (p + 1)) (p + 1) flag' →
        (∀ s₀' s₄, Real X (one L m₃) s₄ → Inn X L E I SI (p + 1) s₀' s₄ → Seg (model X.prog X.w) A (yR X [L, E, I]) (yproto X [L, E, I] items) (esc (x.cps.toList.drop (p + 1)) (p + 1) flag').length s₀' (.forLoop (forTgt escFor) (.ref E) (forBody escFor) [] (fnEnv escSrc fm L a))
          ((execs rest (fnEnv escSrc fm L a)).wrap K (noted (fnEnv escSrc fm L a)) id id) [.ret kf none false l c₁ p₁ kp] s₄) →
        ∀ s₄, Real X (one L m₃) s₄ → Inn X L E I SI (p + 1) s₀ s₄ → Seg (model X.prog X.w) A (yR X [L, E, I]) (yproto X [L, E, I] items) (esc (c' :: x.cps.toList.drop (p + 1)) p flag).length s₀ (.forLoop (forTgt escFor) (.ref E) (forBody escFor) [] (fnEnv escSrc fm L a))
          ((execs (.Expr (.Yield (some e) yp) pp :: rest) (fnEnv escSrc fm L a)).wrap K (noted (fnEnv escSrc fm L a)) id id) [.ret kf none false l c₁ p₁ kp] s₄ := by
      intro K e yp pp rest cs flag' hev hesc' hrest s₄ R₄ N₄
      obtain ⟨pre, hpre⟩ := hpre
      rw [hesc'] at hpre ⊢
      rw [List.length_cons]
      refine seg_execs_cons (seg_Expr_Yield rfl rfl rfl (wpAny_mono (inn_go (Q' := fun v s' => ∀ kap : Resume → Shared → Prop, (∀ x_1 s'', (match x_1 with | .ref _ => False | _ => Seg (model X.prog X.w) A (yR X [L, E, I]) (yproto X [L, E, I] items) (esc (x.cps.toList.drop (p + 1)) (p + 1) flag').length s'' (.forLoop (forTgt escFor) (.ref E) (forBody escFor) [] (fnEnv escSrc fm L a)) ((execs rest (fnEnv escSrc fm L a)).wrap K (noted (fnEnv escSrc fm L a)) id id) [.ret kf none false l c₁ p₁ kp] s'') → kap (.send x_1) s'') → yproto X [L, E, I] items _ s₀ v s' kap) hI (hev _) R₄ N₄ (one_ne _ hEL) (one_ne _ hIL) (fun b q e => .inl (by rw [(one_some e).1]; simp)) fun v σ' s₅ R₅ N₅ hfr₅ ⟨D', hv, hσ, hDL, hDb⟩ => ?_) (fun _ _ x => x) fun _ _ x => x.elim))
      intro kap hkap
      have hD4 : s₄.heap.get? D' = none := by
        rcases hfr₅ D' (.tuple [.int p, .str ⟨cs.toArray⟩]) (by rw [hσ, AH.set_self]) with ⟨q, hq⟩ | h
        · exact absurd (one_some hq).1 hDL
        · exact h
      have hDE : D' ≠ E := fun z => by obtain ⟨o, ho⟩ := N₄.enum; rw [z, ho] at hD4; cases hD4
      have hDI : D' ≠ I := fun z => by obtain ⟨o, ho⟩ := (D A hh).live _ _ N₄.draw; rw [z, ho] at hD4; cases hD4
      have hDH : D' ∉ [L, E, I] := by simp [hDL, hDE, hDI]
      have RL : Rz s₅.heap L (.ns m₃) := R₅.rz L _ (by rw [hσ, AH.set_ne _ _ (Ne.symm hDL), one_self])
      refine ⟨D', p, cs, ?_, pv_ref hv, ?_, hDH, R₅.rz D' _ (by rw [hσ, AH.set_self]), N₅.keep, ?_, N₅.gens, R₅.le (fun b q e => by cases e), hDb, fun s'' R'' hk'' => ?_⟩
      · rw [hpre, List.length_append, List.length_cons]
        have : pre.length + ((esc (x.cps.toList.drop (p + 1)) (p + 1) flag').length + 1) - 1 - (esc (x.cps.toList.drop (p + 1)) (p + 1) flag').length = pre.length := by omega
        rw [this, List.getElem?_append_right (Nat.le_refl _), Nat.sub_self]; rfl
      · cases q : s₀.heap.get? D' with
        | none => rfl
        | some o => rw [N₄.keep D' o hDH q] at hD4; cases hD4
      · intro b hb
        rcases List.mem_cons.mp hb with rfl | hb
        · exact RL.there
        · rcases List.mem_cons.mp hb with rfl | hb
          · obtain ⟨o, ho⟩ := N₅.enum; exact ⟨_, ho⟩
          · rw [List.mem_singleton.mp hb]; obtain ⟨o, ho⟩ := (D A hh).live _ _ N₅.draw; exact ⟨o, ho⟩
      · refine hkap .none s'' ?_
        refine hrest s'' s'' ?_ ⟨fun _ _ _ e => e, Gk.refl _, let ⟨o, ho⟩ := N₅.enum; ⟨o, hk'' E (by simp) _ ho⟩, hI _ _ _ N₅.draw fun o e => hk'' I (by simp) o e⟩
        have := R''.put (T := L) (po := .ns m₃) (RL.keep fun o e => hk'' L (by simp) o e) hbL
        refine this.le fun b q e => ?_
        obtain ⟨rfl, rfl⟩ := one_some e
        exact AH.set_self ..
    refine seg_execs_cons (seg_If ?_)
    refine inn_go (Q := fun b σ' => b = flag ∧ σ' = one L m₃) hI (TS.val (EV.loc hm₃' hesc (TRU.bool ⟨rfl, rfl⟩))) R₃ N₃ (hHid1 _).1 (hHid1 _).2.1 (hHid1 _).2.2 fun b σ' s₄ R₄ N₄ _ ⟨eb, eσ⟩ => ?_
    subst eb eσ
    have tup : ∀ {A' : Around} {ex : Expr} {px pp : Pos} {k0 : Nat} {cs : List Nat}, EV X A' (fnEnv escSrc fm L a) ex (one L m₃) (fun v σ' => v = .str ⟨cs.toArray⟩ ∧ σ' = one L m₃) → plainArg ex = true →
        EV X A' (fnEnv escSrc fm L a) (.Tuple [.Name (Str.ofString "pos") px, ex] k0 pp) (one L m₃) fun v σ' => ∃ D : Addr, v = .ref D ∧ σ' = (one L m₃).set D (.tuple [.int p, .str ⟨cs.toArray⟩]) ∧ D ≠ L ∧ X.base.get? D = none := fun {A' ex px pp k0 cs} h hpl =>
      EV.tuple (by
        refine EV.loc hm₃' hpos (WP.mono h fun v σ' ⟨e1, e2⟩ => ?_)
        subst e2
        rw [e1]
        exact ⟨by show 2 ≤ sizeLine; decide, fun D h1 h2 => ⟨D, rfl, rfl, (fun z => by rw [z, one_self] at h1; cases h1), h2⟩⟩) (by show (true && (plainArg ex && true)) = true; rw [hpl]; rfl)
    cases b with
    | true =>
      refine yields _ _ _ _ _ [92, c'] false (fun A' => tup ?_ (by rfl)) rfl (fun s₀' s₅ R₅ N₅ => setFlag _ rfl _ false _ _ _ _ _ s₀' s₅ rfl rfl ?_ ?_ R₅ N₅) s₄ R₄ N₄
      · exact EV.bin (EV.str (EV.loc hm₃' hch (BIN.cat (by show 2 ≤ sizeLine; decide) ⟨rfl, rfl⟩)))
      · obtain ⟨pre, e⟩ := hpre
        exact ⟨pre ++ [(p, [92, c'])], by rw [e]; simp [esc]⟩
      · exact hend
    | false =>
      have hdec : decide ((⟨#[c']⟩ : Str) = Str.ofString "\\") = decide (c' = 92) := by
        have : Str.ofString "\\" = ⟨#[92]⟩ := by decide +kernel
        rw [this]
        by_cases h : c' = 92
        · subst h; simp
        · simp [h]
      refine seg_execs_cons (seg_If ?_)
      refine inn_go (Q := fun b σ' => b = decide (c' = 92) ∧ σ' = one L m₃) hI (TS.cmp (EV.loc hm₃' hch (EV.str (CMP.eq_s ⟨_, rfl, hdec, rfl⟩)))) R₄ N₄ (hHid1 _).1 (hHid1 _).2.1 (hHid1 _).2.2 fun b σ' s₅ R₅ N₅ _ ⟨eb, eσ⟩ => ?_
      subst eσ
      by_cases h92 : c' = 92
      · have : b = true := by rw [eb]; simp [h92]
        subst this
        have e1 : esc (c' :: x.cps.toList.drop (p + 1)) p false = esc (x.cps.toList.drop (p + 1)) (p + 1) true := by simp [esc, h92]
        rw [e1] at hpre ⊢
        refine setFlag _ rfl _ true _ _ _ _ _ s₀ s₅ rfl rfl hpre ?_ R₅ N₅
        simpa [escEnd, h92] using hend
      · have : b = false := by rw [eb]; simp [h92]
        subst this
        have e1 : esc (c' :: x.cps.toList.drop (p + 1)) p false = (p, [c']) :: esc (x.cps.toList.drop (p + 1)) (p + 1) false := by simp [esc, h92]
        refine yields _ _ _ _ _ [c'] false (fun A' => tup ?_ (by rfl)) e1 (fun s₀' s₆ R₆ N₆ => ?_) s₅ R₅ N₅
        · exact EV.loc hm₃' hch ⟨rfl, rfl⟩
        · obtain ⟨pre, e⟩ := hpre
          rw [e1] at e
          exact again _ false _ s₀' s₆ hesc rfl ⟨pre ++ [(p, [c'])], by rw [e]; simp⟩ (by simpa [escEnd, h92] using hend) R₆ N₆
end
end Mine
end

section
open PySem PySem.W PyProof.Rows
namespace Mine

section
variable {X : Cx} {A : Around} {L a : Addr} {fm : FM} {x : Str}

theorem draws_str (prog : Program) (w : World) (I : Addr) (x : Str) (t : Tok) : ∀ A' : Around, A'.handled = none → Draws prog w A' I [I] x.cps.size (fun i v => ∃ c u, x.cps[i]? = some c ∧ v = .str ⟨#[c]⟩ u) (fun i h => h.IsStrIter I (strIterType x) x t i) := by
  intro A' hA'
  unfold strIterType
  split
  · exact Draws.strAscii hA' I x t
  · exact Draws.strWide hA' I x t

theorem esc_start (O : X.Ok) (hm : X.mg (Str.ofString "enumerate") = none) (hb : X.mb (Str.ofString "enumerate") = some (.type "enumerate")) (hh : A.handled = none) (hbL : X.base.get? L = none) (hend : escEnd x.cps.toList false = false)
    {m : Str → Option PV} (hx : m (Str.ofString "addr") = some (.str x)) {s : Shared} (R : Real X (one L m) s) :
    Seg (model X.prog X.w) A (yR X [L, s.heap.objs.size + 1, s.heap.objs.size]) (yproto X [L, s.heap.objs.size + 1, s.heap.objs.size] (esc x.cps.toList 0 false)) (esc x.cps.toList 0 false).length s
      (.func escSrc.body (fnEnv escSrc fm L a)) ((model X.prog X.w).den (.func escSrc.body (fnEnv escSrc fm L a))) [] s := by
  generalize hz : s.heap.objs.size = Z
  have hfr := fresh_from R
  rw [hz] at hfr
  have hLZ : L < Z := by
    obtain ⟨o, ho⟩ := (R.rz L _ (one_self L m)).there
    have := Heap.lt_size ho
    rw [hz] at this; exact this
  refine seg_func ?_
  obtain ⟨m', hn, em⟩ := R.rz L _ (one_self L m)
  refine seg_execs_cons (seg_st (wpAny_Assign_Name (wpAny_Constant_int ?_)))
  refine wpAny_storeName_local rfl hn fun h₁ hn₁ hs₁ => ?_
  refine seg_execs_cons (seg_st (wpAny_Assign_Name (wpAny_Constant_bool ?_)))
  refine wpAny_storeName_local rfl hn₁ fun h₂ hn₂ hs₂ => ?_
  have hsz : h₂.objs.size = Z := by rw [hs₂.1, hs₁.1, hz]
  have k2 : ∀ b o, b ≠ L → s.heap.get? b = some o → h₂.get? b = some o := fun b o hb e => (hs₂.2 b hb).trans ((hs₁.2 b hb).trans e)
  have R₂ : Real X (one L (upd (upd m (Str.ofString "pos") (.int 0)) (Str.ofString "escape") (.bool false))) { s with heap := h₂, toks := s.toks + 1 + 1 + 1 } := by
    have t1 := (R.turn (one_self L m) (h' := h₁) (tk := s.toks + 1) (p := .ns (upd m (Str.ofString "pos") (.int 0))) (fun b o hb e => (hs₁.2 b hb).trans e) ⟨_, hn₁, fun y => by
      by_cases hy : y = Str.ofString "pos"
      · subst hy; simp [pv]
      · simp [hy, upd, em y]⟩ (Nat.succ_le_succ (Nat.zero_le _))).1
    have t2 := (t1.turn (AH.set_self ..) (h' := h₂) (tk := s.toks + 1 + 1 + 1) (p := .ns (upd (upd m (Str.ofString "pos") (.int 0)) (Str.ofString "escape") (.bool false))) (fun b o hb e => (hs₂.2 b hb).trans e) ⟨_, hn₂, fun y => by
      by_cases hy : y = Str.ofString "escape"
      · subst hy; simp [pv]
      · by_cases hy2 : y = Str.ofString "pos"
        · subst hy2; simp [upd, hy, pv]
        · simp [hy, hy2, upd, em y]⟩ (Nat.succ_le_succ (Nat.zero_le _))).1
    refine t2.le fun b q e => ?_
    obtain ⟨rfl, rfl⟩ := one_some e
    exact AH.set_self ..
  generalize hm₂ : upd (upd m (Str.ofString "pos") (.int 0)) (Str.ofString "escape") (.bool false) = m₂ at R₂
  have hesc : m₂ (Str.ofString "escape") = some (.bool false) := by rw [← hm₂, upd_self]
  have hadr : m₂ (Str.ofString "addr") = some (.str x) := by rw [← hm₂, upd_ne _ _ (by decide +kernel), upd_ne _ _ (by decide +kernel), hx]
  change Seg _ _ _ _ _ _ _ _ _ { s with heap := h₂, toks := s.toks + 1 + 1 + 1 }
  generalize hs2 : ({ s with heap := h₂, toks := s.toks + 1 + 1 + 1 } : Shared) = s₂ at R₂ ⊢
  have hsz2 : s₂.heap.objs.size = Z := by rw [← hs2]; exact hsz
  have k2' : ∀ b o, b ≠ L → s.heap.get? b = some o → s₂.heap.get? b = some o := by rw [← hs2]; exact k2
  have hgk : Gk s s₂ := by rw [← hs2]; exact Gk.refl _
  obtain ⟨m₂', hn₂', em₂⟩ := R₂.rz L _ (one_self L m₂)
  obtain ⟨va, hva, tx, rfl⟩ : ∃ va, m₂' (Str.ofString "addr") = some va ∧ ∃ t, va = .str x t := by
    have := em₂ (Str.ofString "addr")
    rw [hadr] at this
    cases h : m₂' (Str.ofString "addr") with
    | none => rw [h] at this; cases this
    | some v => rw [h] at this; exact ⟨v, rfl, pv_str (Option.some.inj this)⟩
  refine seg_execs_cons (seg_For ?_)
  refine wpAny_Call_Name_kw (Calls.Name_function_global rfl rfl (Calls.loadGlobal_builtin (O.g.keeps R₂.base) hm (O.b.keeps R₂.base) hb ?_))
  refine PySem.callWith_type rfl (Calls.evalArgs_plain (wpAny_items_cons (wpAny_Name (wpAny_loadName_local rfl rfl hn₂' hva (wpAny_items_nil ?_))) rfl))
  refine PySem.call_enumerate_str fun h₃ hE hI hz3 hk3 => ?_
  rw [hsz2] at hE hI hz3 ⊢
  refine wpAny_pyIter_enum hE fun p => ?_
  have hf := hfr Z (Nat.le_refl _)
  have hf1 := hfr (Z + 1) (Nat.le_succ _)
  have R₃ : Real X (one L m₂) { s₂ with heap := h₃ } := (R₂.grow (h' := h₃) (tk := s₂.toks) hk3 R₂.tk).1
  refine esc_loop (items := esc x.cps.toList 0 false) rfl rfl hh (draws_str X.prog X.w Z x tx) (Nat.succ_ne_self Z) (Nat.ne_of_gt (Nat.lt_succ_of_lt hLZ)) (Nat.ne_of_gt hLZ) hf1.2.1 hf.2.1 hbL ?_ _ 0 false m₂ s _ rfl (Nat.zero_le _) hesc ⟨[], rfl⟩ hend R₃ ⟨fun b o hb e => hk3 b o (k2' b o (fun h => hb (by simp [h])) e), hgk, ⟨.none, hE⟩, hI⟩
  intro m₄ s₀ s₄ he₄ R₄ hk₄ hg₄
  refine seg_leaf (.ok .next) ?_
  refine seg_execs_cons (seg_If ?_)
  refine WP.go (Q := fun b σ' => b = false ∧ σ' = one L m₄) (TS.val (EV.loc (one_self L m₄) he₄ (TRU.bool ⟨rfl, rfl⟩))) R₄ (Step.refl _ _) fun b σ' s₅ R₅ S₅ ⟨eb, eσ⟩ => ?_
  subst eb
  refine seg_end (.ok (.ret .none)) ⟨rfl, rfl, fun b o hb e => S₅.keep b o (one_ne _ (fun h => hb (by simp [h]))) (hk₄ b o hb e), hg₄.trans S₅.gk, R₅.le fun b q e => by cases e⟩
end
end Mine
end

section
open PySem PySem.W PyProof.Rows
namespace Mine

theorem pyNext_genQ {prog : Program} {w : World} {A : Around} {E : Value → Shared → Prop} {s : Shared} {a : Addr} {g n : Nat} {gs : GenState} {P : Nat → Shared → Shared → Prop} {Y : Protocol} {Q : Option Value → Shared → Prop} (hh : A.handled = none)
    (hl : s.heap.NoLimit) (hroom : A.depth < recursionLimit)
    (hg : s.heap.IsGen a g) (hgs : s.gens[g]? = some gs)
    (hgo : gs.Goes (model prog w) A.in1 (fun n s₀ r s₁ => r = .ok (.ret .none) ∧ P n s₀ s₁) Y n (.send .none) (s.setGen g .running))
    (hY : ∀ v s₁ gs', gs'.bare = true → Y (n - 1) (s.setGen g .running) v s₁ (fun r' s'' => match n with
        | 0 => False
        | m + 1 => gs'.Goes (model prog w) A.in1 (fun n s₀ r s₁ => r = .ok (.ret .none) ∧ P n s₀ s₁) Y m r' s'') → Q (some v) (s₁.setGen g gs'))
    (hP : ∀ s₁, P n (s.setGen g .running) s₁ → ∀ h', (∀ b o, s₁.heap.get? b = some o → h'.get? b = some o) → Q none { s₁.setGen g .finished with heap := h' }) :
    wpAny (model prog w) A (pyNext (.ref a)) Q E s := by
  unfold pyNext
  refine wpAny_bind (wpAny_attempt (wpAny_callSpecial?_slot (name := Str.ofString "__next__") hg.typeIs slot_gen_next
    (wpAny_call_entry slot_gen_next hg.typeIs entry_gen_next ?_ (args_gen_next _))))
  show wpAny _ A.in1 (Builtin.Generator.genWake (.ref a) (.send .none)) _ _ s
  unfold Builtin.Generator.genWake
  refine wpAny_bind (wpAny_holding (wpAny_genNumber hg (wpAny_bind (wpAny_genState hgs ?_))))
  have fin : ∀ s₁, P n (s.setGen g .running) s₁ → ∀ (Q' : Fin → Shared → Prop), wpAny (model prog w) A.in1 (newExc (.type "StopIteration") []) (fun e s' => ∃ o, e = .ref o ∧ (∃ ob, s'.heap.get? o = some ob ∧ ob.cls = .type "StopIteration") ∧ ∃ h', s' = { s₁.setGen g .finished with heap := h' } ∧ ∀ b o, s₁.heap.get? b = some o → h'.get? b = some o) (fun _ _ => False) (s₁.setGen g .finished) := by
    intro s₁ hx Q'
    simp only [newExc, newTuple]
    refine wpAny_bind (wpAny_newObj_type ?_ (by size_fits))
    refine wpAny_bind (m := firstArgMember _ _) (wpAny_of_eq (a := Value.none) (by first | rfl | (simp only [firstArgMember]; rfl)) ?_)
    refine wpAny_newObj_type ?_ (by size_fits)
    exact ⟨_, rfl, ⟨_, Heap.get?_push_size _ rfl, rfl⟩, _, rfl, fun b o hb => Heap.get?_push_of_some _ (Heap.get?_push_of_some _ hb)⟩
  cases gs with
  | running => exact hgo.elim
  | finished => exact hgo.elim
  | _ =>
    refine wpAny_bind (wpAny_roomToWake hl hroom ?_)
    show wpAny _ A.in1 (.resume g (.send .none) [] _) _ _ s
    refine wpAny_resumeQ hgs hgo (fun x s₁ hx => ?_) (fun v s₁ gs' hb hv => ?_)
    · obtain ⟨rfl, hp⟩ := hx
      show wpAny _ A.in1 (newExc (.type "StopIteration") [] >>= _) _ _ _
      refine wpAny_bind (wpAny_mono (fin s₁ hp fun _ _ => True) (fun e s' he => ?_) fun _ _ h => h.elim)
      obtain ⟨o, rfl, ⟨ob, ho, hc⟩, h', rfl, hk⟩ := he
      simp only [raiseNew]
      refine wpAny_bind (wpAny_bind (wpAny_handled ?_))
      first | rw [show A.in1.handled = none from hh] | rw [hh]
      refine wpAny_throw ?_
      refine wpAny_bind (wpAny_isInstance (T := "StopIteration") (b := true) ⟨ob, ho, hc⟩ isSubtype_stop ?_)
      exact wpAny_pure (hP s₁ hp h' hk)
    · exact wpAny_pure ⟨v, rfl, wpAny_pure (hY v s₁ gs' hb hv)⟩

structure AlongG (X : Cx) (σ₀ : AH) (s₀ : Shared) (H : List Addr) (g : Nat) (σ : AH) (s : Shared) : Prop where
  real : Real X σ s
  step : Step σ₀ s₀ σ s
  off : ∀ b ∈ H, σ b = none
  boff : ∀ b ∈ H, X.base.get? b = none
  new : ∀ b ∈ H, σ₀ b = none → s₀.heap.get? b = none
  there : ∀ b ∈ H, ∃ o, s.heap.get? b = some o
  gg : s₀.gens.size ≤ g
  gl : g < s.gens.size
section
variable {X : Cx} {A : Around} {σ σ₀ : AH} {s₀ s : Shared} {H : List Addr} {g : Nat}
theorem AlongG.go {α : Type} {t : Sem α} {Q : α → AH → Prop} {Q' : α → Shared → Prop} (h : WP X A t σ Q) (L : AlongG X σ₀ s₀ H g σ s)
    (hQ : ∀ a σ' s', AlongG X σ₀ s₀ H g σ' s' → (∀ b ∈ H, ∀ o, s.heap.get? b = some o → s'.heap.get? b = some o) → s'.gens[g]? = s.gens[g]? → Q a σ' → Q' a s') : wpAny (model X.prog X.w) A t Q' (fun _ _ => False) s :=
  h.go L.real (Step.refl σ s) fun a σ' s' R' S' q => by
    have hk : ∀ b ∈ H, ∀ o, s.heap.get? b = some o → s'.heap.get? b = some o := fun b hb o e => S'.keep b o (L.off b hb) e
    refine hQ a σ' s' ⟨R', L.step.trans S', fun b hb => ?_, L.boff, L.new, fun b hb => ?_, L.gg, Nat.lt_of_lt_of_le L.gl S'.gsize⟩ hk (S'.gens g L.gl) q
    · obtain ⟨o, ho⟩ := L.there b hb
      cases q : σ' b with
      | none => rfl
      | some p =>
        rcases S'.fresh b p q with ⟨p', e⟩ | e
        · rw [L.off b hb] at e; cases e
        · rw [ho] at e; cases e
    · obtain ⟨o, ho⟩ := L.there b hb
      exact ⟨o, hk b hb o ho⟩

/-- the state behind the generator's own run -/
theorem AlongG.moved (L : AlongG X σ₀ s₀ H g σ s) {H' : List Addr} {s₁ : Shared} {gs' : GenState} (hsub : ∀ b ∈ H', b ∈ H ∨ s.heap.get? b = none) (hsup : ∀ b ∈ H, b ∈ H')
    (hk : ∀ b o, b ∉ H' → s.heap.get? b = some o → s₁.heap.get? b = some o) (hth : ∀ b ∈ H', ∃ o, s₁.heap.get? b = some o) (hg : Gk s s₁ ∨ Gk (s.setGen g .running) s₁) (R : Real X noAH s₁) (hb : gs'.bare = true) :
    AlongG X σ₀ s₀ H' g σ (s₁.setGen g gs') ∧ (s₁.setGen g gs').gens[g]? = some gs' := by
  have hnone : ∀ b, s.heap.get? b = none → σ b = none ∧ X.base.get? b = none := fun b hn => by
    constructor
    · cases q : σ b with
      | none => rfl
      | some p => obtain ⟨o, ho⟩ := (L.real.rz b p q).there; rw [hn] at ho; cases ho
    · cases q : X.base.get? b with
      | none => rfl
      | some o => rw [L.real.base b o q] at hn; cases hn
  have hoff : ∀ b ∈ H', σ b = none := fun b hb => (hsub b hb).elim (L.off b) fun h => (hnone b h).1
  have hboff : ∀ b ∈ H', X.base.get? b = none := fun b hb => (hsub b hb).elim (L.boff b) fun h => (hnone b h).2
  have hsz : s.gens.size ≤ s₁.gens.size ∧ ∀ i : Nat, i ≠ g → i < s.gens.size → s₁.gens[i]? = s.gens[i]? := by
    rcases hg with h | h
    · exact ⟨h.1, fun i _ hi => h.2 i hi⟩
    · have e : (s.setGen g .running).gens.size = s.gens.size := by simp [Shared.setGen]
      refine ⟨by rw [← e]; exact h.1, fun i hne hi => ?_⟩
      rw [h.2 i (by rw [e]; exact hi)]
      simp [Shared.setGen, Ne.symm hne]
  have hgl : g < s₁.gens.size := Nat.lt_of_lt_of_le L.gl hsz.1
  have hnew : ∀ b ∈ H', σ₀ b = none → s₀.heap.get? b = none := fun b hb hσ => by
    rcases hsub b hb with h | h
    · exact L.new b h hσ
    · cases q : s₀.heap.get? b with
      | none => rfl
      | some o => rw [L.step.keep b o hσ q] at h; cases h
  refine ⟨⟨⟨fun b p e => ?_, fun b o e => ?_, L.real.apart, fun y hy => ?_, R.os, R.tk⟩, ⟨fun b o hσ e => ?_, fun b p e => L.step.fresh b p e, fun i hi => ?_, ?_⟩, hoff, hboff, hnew, hth, L.gg, by simp [Shared.setGen]; exact hgl⟩, by simp [Shared.setGen, hgl]⟩
  · exact (L.real.rz b p e).keep fun o ho => hk b o (fun z => by rw [hoff b z] at e; cases e) ho
  · exact hk b o (fun z => by rw [hboff b z] at e; cases e) (L.real.base b o e)
  · obtain ⟨i, hi, rfl⟩ := Array.mem_iff_getElem.mp hy
    simp only [Shared.setGen] at hi ⊢
    simp only [Array.size_setIfInBounds] at hi
    by_cases hig : i = g
    · subst hig; simp [hb]
    · rw [Array.getElem_setIfInBounds (by simpa using hi)]
      rw [if_neg (Ne.symm hig)]
      exact R.gens _ (Array.getElem_mem _)
  · exact hk b o (fun z => by rw [hnew b z hσ] at e; cases e) (L.step.keep b o hσ e)
  · have hig : i ≠ g := Nat.ne_of_lt (Nat.lt_of_lt_of_le hi L.gg)
    show ((s₁.setGen g gs').gens)[i]? = _
    simp only [Shared.setGen]
    rw [Array.getElem?_setIfInBounds_ne (Ne.symm hig), hsz.2 i hig (Nat.lt_of_lt_of_le hi L.step.gsize)]
    exact L.step.gens i hi
  · simp only [Shared.setGen, Array.size_setIfInBounds]
    exact Nat.le_trans L.step.gsize hsz.1
end
end Mine
end

section
open PySem PySem.W PyProof.Rows
namespace Mine

structure GenSt (X : Cx) (A : Around) (x : Str) (ae : Addr) (fm : FM) (a L : Addr) (g : Nat) (H : List Addr) (j : Nat) (s : Shared) : Prop where
  gen : s.heap.IsGen a g
  ne : a ≠ L
  mode : (j = 0 ∧ H = [a, L] ∧ s.gens[g]? = some (.fresh (.func escSrc.body (fnEnv escSrc fm L ae))) ∧ ∃ m, Rz s.heap L (.ns m) ∧ m (Str.ofString "addr") = some (.str x)) ∨
    (∃ E I gs, H = [a, L, E, I] ∧ a ∉ [L, E, I] ∧ s.gens[g]? = some gs ∧ ∀ s'' : Shared, Real X noAH s'' → (∀ b ∈ [L, E, I], ∀ o, s.heap.get? b = some o → s''.heap.get? b = some o) →
      gs.Goes (model X.prog X.w) A.in1 (yR X [L, E, I]) (yproto X [L, E, I] (esc x.cps.toList 0 false)) ((esc x.cps.toList 0 false).length - j) (.send .none) s'')

section
variable {X : Cx} {A : Around} {σ σ₀ : AH} {s₀ s : Shared} {H : List Addr} {g : Nat} {a L ae : Addr} {x : Str} {fm : FM} {j : Nat}
theorem GenSt.keep (h : GenSt X A x ae fm a L g H j s) {s' : Shared} (hk : ∀ b ∈ H, ∀ o, s.heap.get? b = some o → s'.heap.get? b = some o) (hg : s'.gens[g]? = s.gens[g]?) (ha : a ∈ H) : GenSt X A x ae fm a L g H j s' := by
  refine ⟨?_, h.ne, ?_⟩
  · obtain ⟨o, nm, qn, ho, r⟩ := h.gen; exact ⟨o, nm, qn, hk a ha o ho, r⟩
  · rcases h.mode with ⟨h1, h2, h3, m, h4, h5⟩ | ⟨E, I, gs, h1, h2, h3, h4⟩
    · exact .inl ⟨h1, h2, hg.trans h3, m, h4.keep fun o e => hk L (by rw [h2]; simp) o e, h5⟩
    · exact .inr ⟨E, I, gs, h1, h2, hg.trans h3, fun s'' R hk'' => h4 s'' R fun b hb o e => hk'' b hb o (hk b (by rw [h1]; exact List.mem_cons_of_mem _ hb) o e)⟩

theorem setRun_real (R : Real X σ s) (g : Nat) : Real X σ (s.setGen g .running) :=
  ⟨R.rz, R.base, R.apart, fun y hy => by
    obtain ⟨i, hi, rfl⟩ := Array.mem_iff_getElem.mp hy
    simp only [Shared.setGen] at hi ⊢
    by_cases hig : i = g
    · subst hig; simp [GenState.bare]
    · rw [Array.getElem_setIfInBounds (by simpa using hi), if_neg (Ne.symm hig)]
      exact R.gens _ (Array.getElem_mem _), R.os, R.tk⟩

/-- the generator's next sign, or its end -/
theorem gen_next (O : X.Ok) (hm : X.mg (Str.ofString "enumerate") = none) (hb : X.mb (Str.ofString "enumerate") = some (.type "enumerate")) (hh : A.handled = none) (hroom : A.depth < recursionLimit) (hend : escEnd x.cps.toList false = false)
    (hj : j ≤ (esc x.cps.toList 0 false).length) (G : GenSt X A x ae fm a L g H j s) (Lg : AlongG X σ₀ s₀ H g σ s) {Q : Option Value → Shared → Prop}
    (hnext : ∀ (t : Addr) (s₁ : Shared) (H' : List Addr) (h : j < (esc x.cps.toList 0 false).length), GenSt X A x ae fm a L g H' (j + 1) s₁ → AlongG X σ₀ s₀ H' g σ s₁ → a ∈ H' → t ∉ H' → σ t = none → X.base.get? t = none →
      AlongG X σ₀ s₀ H' g (σ.set t (.tuple [.int ((esc x.cps.toList 0 false)[j].1 : Nat), .str ⟨(esc x.cps.toList 0 false)[j].2.toArray⟩])) s₁ → Q (some (.ref t)) s₁)
    (hdone : ∀ (s₁ : Shared), j = (esc x.cps.toList 0 false).length → Real X σ s₁ → Step σ₀ s₀ σ s₁ → Q none s₁) :
    wpAny (model X.prog X.w) A (pyNext (.ref a)) Q (fun _ _ => False) s := by
  have hN := G.gen
  have hne := G.ne
  have R := Lg.real
  have hlim : s.heap.NoLimit := O.lim.keeps R.base
  -- how both ways end
  have common : ∀ (E I : Addr) (gs : GenState), s.gens[g]? = some gs → a ∉ [L, E, I] → (∀ b ∈ [a, L, E, I], b ∈ H ∨ s.heap.get? b = none) → (∀ b ∈ H, b ∈ [a, L, E, I]) →
      gs.Goes (model X.prog X.w) A.in1 (yR X [L, E, I]) (yproto X [L, E, I] (esc x.cps.toList 0 false)) ((esc x.cps.toList 0 false).length - j) (.send .none) (s.setGen g .running) →
      wpAny (model X.prog X.w) A (pyNext (.ref a)) Q (fun _ _ => False) s := by
    intro E I gs hgs ha hsub hsup hgo
    have ka : ∀ {s₁ : Shared}, (∀ b o, b ∉ [L, E, I] → (s.setGen g .running).heap.get? b = some o → s₁.heap.get? b = some o) → s₁.heap.IsGen a g := fun {s₁} hk => by
      obtain ⟨o, nm, qn, ho, r⟩ := hN; exact ⟨o, nm, qn, hk a o ha ho, r⟩
    refine pyNext_genQ hh hlim hroom hN hgs hgo (fun v s₁ gs' hbare hv => ?_) (fun s₁ hp h' hk' => ?_)
    · obtain ⟨t, i, c, hidx, rfl, htn, htH, htz, hk, hth, hgk, R₁, htb, hkap⟩ := hv
      have hσt : σ t = none := by
        cases q : σ t with
        | none => rfl
        | some p => obtain ⟨o, ho⟩ := (R.rz t p q).there; rw [show s.heap.get? t = none from htn] at ho; cases ho
      cases hn : (esc x.cps.toList 0 false).length - j with
      | zero => rw [hn] at hkap; exact (hkap s₁ R₁ fun _ _ _ e => e).elim
      | succ m =>
        rw [hn] at hkap hidx
        have hlt : j < (esc x.cps.toList 0 false).length := by omega
        have e : (esc x.cps.toList 0 false).length - 1 - (m + 1 - 1) = j := by omega
        rw [e, List.getElem?_eq_getElem hlt] at hidx
        have hic := Option.some.inj hidx
        have hth' : ∀ b ∈ [a, L, E, I], ∃ o, s₁.heap.get? b = some o := fun b hb => by
          rcases List.mem_cons.mp hb with rfl | hb
          · obtain ⟨o, _, _, ho, _⟩ := ka hk; exact ⟨o, ho⟩
          · exact hth b hb
        obtain ⟨Lg', hg'⟩ := Lg.moved (H' := [a, L, E, I]) (s₁ := s₁) (gs' := gs') hsub hsup (fun b o hb e => hk b o (fun z => hb (List.mem_cons_of_mem _ z)) e) hth' (.inr hgk) R₁ hbare
        have hta : t ≠ a := fun z => by obtain ⟨o, _, _, ho, _⟩ := hN; rw [← z] at ho; rw [show s.heap.get? t = none from htn] at ho; cases ho
        have htH' : t ∉ [a, L, E, I] := by
          intro hb
          rcases List.mem_cons.mp hb with h | h
          · exact hta h
          · exact htH h
        refine hnext t (s₁.setGen g gs') [a, L, E, I] hlt ⟨ka hk, hne, .inr ⟨E, I, gs', rfl, ha, hg', fun s'' R'' hk'' => ?_⟩⟩ Lg' (by simp) htH' hσt htb ?_
        · have := hkap s'' R'' hk''
          rw [show (esc x.cps.toList 0 false).length - (j + 1) = m by omega]
          exact this
        · rw [hic]
          have hst : Step σ₀ s₀ (σ.set t (.tuple [.int i, .str ⟨c.toArray⟩])) (s₁.setGen g gs') := by
            refine ⟨Lg'.step.keep, fun b p e => ?_, Lg'.step.gens, Lg'.step.gsize⟩
            by_cases hbt : b = t
            · subst hbt
              by_cases h0 : σ₀ b = none
              · refine .inr ?_
                cases q : s₀.heap.get? b with
                | none => rfl
                | some o => have := Lg.step.keep b o h0 q; rw [show s.heap.get? b = none from htn] at this; cases this
              · cases q : σ₀ b with
                | none => exact absurd q h0
                | some z => exact .inl ⟨z, rfl⟩
            · rw [AH.set_ne _ _ hbt] at e; exact Lg'.step.fresh b p e
          refine ⟨Lg'.real.put (by exact htz) htb, hst, fun b hb => ?_, Lg'.boff, Lg'.new, Lg'.there, Lg'.gg, Lg'.gl⟩
          rw [AH.set_ne _ _ (fun z => htH' (by rw [← z]; exact hb))]; exact Lg'.off b hb
    · obtain ⟨hn0, hk, hgk, R₁⟩ := hp
      have hjl : j = (esc x.cps.toList 0 false).length := by omega
      have hoff : ∀ b ∈ [L, E, I], σ b = none := fun b hb => (hsub b (List.mem_cons_of_mem _ hb)).elim (Lg.off b) fun h => by
        cases q : σ b with
        | none => rfl
        | some p => obtain ⟨o, ho⟩ := (R.rz b p q).there; rw [h] at ho; cases ho
      have hboff : ∀ b ∈ [L, E, I], X.base.get? b = none := fun b hb => (hsub b (List.mem_cons_of_mem _ hb)).elim (Lg.boff b) fun h => by
        cases q : X.base.get? b with
        | none => rfl
        | some o => rw [R.base b o q] at h; cases h
      have hnew : ∀ b ∈ [L, E, I], σ₀ b = none → s₀.heap.get? b = none := fun b hb h0 => (hsub b (List.mem_cons_of_mem _ hb)).elim (fun z => Lg.new b z h0) fun h => by
        cases q : s₀.heap.get? b with
        | none => rfl
        | some o => rw [Lg.step.keep b o h0 q] at h; cases h
      have hsz : s.gens.size ≤ s₁.gens.size ∧ ∀ i : Nat, i ≠ g → i < s.gens.size → s₁.gens[i]? = s.gens[i]? := by
        have e : (s.setGen g .running).gens.size = s.gens.size := by simp [Shared.setGen]
        refine ⟨by rw [← e]; exact hgk.1, fun i hne hi => ?_⟩
        rw [hgk.2 i (by rw [e]; exact hi)]
        simp [Shared.setGen, Ne.symm hne]
      refine hdone _ hjl ⟨fun b p e => ?_, fun b o e => ?_, R.apart, fun y hy => ?_, R₁.os, R₁.tk⟩ ⟨fun b o hσ e => ?_, fun b p e => Lg.step.fresh b p e, fun i hi => ?_, ?_⟩
      · exact (R.rz b p e).keep fun o ho => hk' b o (hk b o (fun z => by rw [hoff b z] at e; cases e) ho)
      · exact hk' b o (hk b o (fun z => by rw [hboff b z] at e; cases e) (R.base b o e))
      · obtain ⟨i, hi, rfl⟩ := Array.mem_iff_getElem.mp hy
        simp only [Shared.setGen] at hi ⊢
        simp only [Array.size_setIfInBounds] at hi
        by_cases hig : i = g
        · subst hig; simp [GenState.bare]
        · rw [Array.getElem_setIfInBounds (by simpa using hi), if_neg (Ne.symm hig)]
          exact R₁.gens _ (Array.getElem_mem _)
      · exact hk' b o (hk b o (fun z => by rw [hnew b z hσ] at e; cases e) (Lg.step.keep b o hσ e))
      · have hig : i ≠ g := Nat.ne_of_lt (Nat.lt_of_lt_of_le hi Lg.gg)
        show (s₁.setGen g .finished).gens[i]? = _
        simp only [Shared.setGen]
        rw [Array.getElem?_setIfInBounds_ne (Ne.symm hig), hsz.2 i hig (Nat.lt_of_lt_of_le hi Lg.step.gsize)]
        exact Lg.step.gens i hi
      · simp only [Shared.setGen, Array.size_setIfInBounds]
        exact Nat.le_trans Lg.step.gsize hsz.1
  rcases G.mode with ⟨hj0, hH, hgs, m, hz, hmx⟩ | ⟨E, I, gs, hH, ha, hgs, hgo⟩
  · subst hj0 hH
    have hfr := fresh_from R
    have hbL : X.base.get? L = none := Lg.boff L (by simp)
    have RL : Real X (one L m) (s.setGen g .running) := by
      have := (setRun_real (R.le (σ := noAH) (fun b q e => by cases e)) g).put (T := L) (po := .ns m) hz hbL
      refine this.le fun b q e => ?_
      obtain ⟨rfl, rfl⟩ := one_some e
      exact AH.set_self ..
    have hstart := esc_start (fm := fm) (a := ae) O hm hb (A := A.in1) hh hbL hend hmx RL
    have haZ : a < s.heap.objs.size := by obtain ⟨o, _, _, ho, _⟩ := hN; exact Heap.lt_size ho
    refine common (s.heap.objs.size + 1) s.heap.objs.size _ hgs ?_ (fun b hb => ?_) (fun b hb => ?_) ⟨rfl, hstart⟩
    · simp only [List.mem_cons, List.not_mem_nil, or_false, not_or]
      exact ⟨hne, Nat.ne_of_lt (Nat.lt_succ_of_lt haZ), Nat.ne_of_lt haZ⟩
    · simp only [List.mem_cons, List.not_mem_nil, or_false] at hb
      rcases hb with rfl | rfl | rfl | rfl
      · exact .inl (by simp)
      · exact .inl (by simp)
      · exact .inr (hfr _ (Nat.le_succ _)).2.2
      · exact .inr (hfr _ (Nat.le_refl _)).2.2
    · simp only [List.mem_cons, List.not_mem_nil, or_false] at hb ⊢
      rcases hb with rfl | rfl
      · exact .inl rfl
      · exact .inr (.inl rfl)
  · subst hH
    exact common E I gs hgs ha (fun b hb => .inl hb) (fun b hb => hb) (hgo _ (setRun_real (R.le (σ := noAH) fun b q e => by cases e) g) fun b _ o e => e)
end
end Mine
end

section
open PySem PySem.W PyProof.Rows
namespace Mine

section
variable {X : Cx} {A : Around} {env : Env} {σ : AH}
theorem letOwned_gen {prog : Program} {w : World} {s : Shared} {a : Addr} {g : Nat} (hg : s.heap.IsGen a g) {t : Expr} {v : Value} {Q : Unit → Shared → Prop} (h : Q () s) :
    wpAny (model prog w) A (letOwnedTupleGo t (.ref a) v) Q (fun _ _ => False) s := by
  obtain ⟨o, nm, qn, ho, hc, hd, _⟩ := hg
  exact letOwned_rec ho hc hd rfl h

def EscJ (X : Cx) (A : Around) (env : Env) (target : Expr) (body : List Stmt) (Q : PF → AH → Prop) (x : Str) (J : Nat → AH → Prop) (σ₁ : AH) : Prop :=
  escEnd x.cps.toList false = false ∧ J 0 σ₁ ∧
      (∀ (i : Nat) (hi : i < (esc x.cps.toList 0 false).length) (σ' : AH) (t : Addr), J i σ' → σ' t = none → X.base.get? t = none → ASG X A env target (.ref t) (σ'.set t (.tuple [.int ((esc x.cps.toList 0 false)[i].1 : Nat), .str ⟨(esc x.cps.toList 0 false)[i].2.toArray⟩])) fun σ'' =>
        XS X A env body σ'' fun f σ₃ => match f with
          | .next | .cont => J (i + 1) σ₃
          | .brk => Q .next σ₃
          | .ret v => Q (.ret v) σ₃) ∧
      (∀ σ', J (esc x.cps.toList 0 false).length σ' → Q .next σ')
/-- for t in _iter_escaped_chars(arg): .. -/
theorem EX.forEsc {target arg : Expr} {np cp pos : Pos} {body : List Stmt} {Q : PF → AH → Prop} {ae : Addr} {fm : FM} {k : Nat} (O : X.Ok) (r : Rm A (k + 1)) (hm : X.mg (Str.ofString "enumerate") = none) (hb : X.mb (Str.ofString "enumerate") = some (.type "enumerate"))
    (hx : X.mg (Str.ofString "_iter_escaped_chars") = some (.ref ae)) (F : Fn X ae escSrc fm)
    (h : EV X A env arg σ fun p σ₁ => ∃ (x : Str) (J : Nat → AH → Prop), p = .str x ∧ EscJ X A env target body Q x J σ₁)
    (hpl : plainArg arg = true := by rfl)
    (hg : env.globals = mainGlobals := by rfl) (hk : env.scope.kind = .function := by rfl) (hl : env.kindOf (Str.ofString "_iter_escaped_chars") = some .globalImplicit := by rfl) :
    EX X A env (.For target (.Call (.Name (Str.ofString "_iter_escaped_chars") np) [arg] [] cp) body [] pos) σ Q := by
  obtain ⟨⟨o, ho, hdata⟩, hcode⟩ := F
  refine WP.of fun s R => wpAny_For ?_
  refine wpAny_Call_Name_kw (Calls.Name_function_global hk hl (Calls.loadGlobal_global (env := env) (mg := X.mg) (by rw [hg]; exact O.g.keeps R.base) hx ?_))
  refine Calls.callWith_function (o := o) (fd := mkFn escSrc fm) (WP.go (evalArgs_wp (es := [arg]) (Q := fun ps σ₁ => ∃ p, ps = [p] ∧ (∃ (x : Str) (J : Nat → AH → Prop), p = .str x ∧ EscJ X A env target body Q x J σ₁)) (by show (plainArg arg && true) = true; rw [hpl]; rfl) (show AVS X A env [arg] σ _ from WP.mono h fun p σ₁ q => ⟨pv p, rfl, q⟩)) R (Step.refl σ s) fun va σ₁ s₁ R₁ S₁ ⟨⟨p, ep, x, J, ex, hend, h0, turn, done⟩, hkw⟩ => ⟨⟨R₁.base _ _ ho, hdata⟩, ?_⟩)
  subst ex
  obtain ⟨v, hvs, t, rfl⟩ : ∃ v, va.pos = [v] ∧ ∃ t, v = .str x t := by
    match hv : va.pos, ep with
    | [v], ep => exact ⟨v, rfl, pv_str (by simpa using ep)⟩
    | [], ep => simp at ep
    | _ :: _ :: _, ep => simp at ep
  rw [hkw, hvs]
  show wpAny _ A (call (.ref ae) [.str x t] []) _ _ s₁
  refine wpAny_call (codeAny_call_generator r.depth (R₁.base _ _ ho) hdata (by rfl) (by rfl) rfl (hcode.keeps R₁.base) ?_)
  rw [show bindArgs (mkFn escSrc fm) { pos := [.str x t], kw := [] } = pure [(Str.ofString "addr", .str x t)] by rfl]
  refine wpAny_pure (wpAny_newFunctionEnv (by show ∀ x ∈ escSrc.scope.names, x.2 ≠ .cell; decide +kernel) (by intro y hy; rw [List.mem_singleton.mp hy]; rfl) (fun h₀ hns hsb => ⟨(O.lim.keeps R₁.base).fresh _ hsb, ?_⟩) rfl)
  have hkeep : ∀ b o, s₁.heap.get? b = some o → h₀.get? b = some o := fun b o e => hsb.extBut b o (Nat.ne_of_lt (Heap.lt_size e)) (Heap.get?_push_of_some _ e)
  have hsz : h₀.objs.size = s₁.heap.objs.size + 1 := by rw [hsb.1, Heap.size_push]
  generalize hL : s₁.heap.objs.size = L at hns hsb hsz ⊢
  have hfr := fresh_from R₁
  rw [hL] at hfr
  have hbL : X.base.get? L = none := (hfr L (Nat.le_refl _)).2.1
  dsimp only
  rw [hsz]
  generalize hO : ({ cls := .type "generator", data := .fields #[.int s₁.gens.size 0, .str (mkFn escSrc fm).name (s₁.toks + [(Str.ofString "addr", Value.str x t)].length), .str (mkFn escSrc fm).qualname (s₁.toks + [(Str.ofString "addr", Value.str x t)].length + 1)] } : Obj) = og
  change wpAny _ _ _ _ _ (Shared.mk (h₀.push og) (s₁.gens.push (.fresh (.func escSrc.body (fnEnv escSrc fm L ae)))) s₁.drawn (s₁.toks + [(Str.ofString "addr", Value.str x t)].length + 1 + 1) s₁.os)
  generalize hS : (Shared.mk (h₀.push og) (s₁.gens.push (.fresh (.func escSrc.body (fnEnv escSrc fm L ae)))) s₁.drawn (s₁.toks + [(Str.ofString "addr", Value.str x t)].length + 1 + 1) s₁.os) = s₂
  have hgen : s₂.heap.IsGen (L + 1) s₁.gens.size := by
    rw [← hS]
    refine ⟨og, .str (mkFn escSrc fm).name (s₁.toks + [(Str.ofString "addr", Value.str x t)].length), .str (mkFn escSrc fm).qualname (s₁.toks + [(Str.ofString "addr", Value.str x t)].length + 1), ?_, ?_, ?_, ?_⟩
    · rw [← hsz]; exact Heap.get?_push_size _ (by rw [← hO]; rfl)
    · rw [← hO]
    · rw [← hO]
    · rw [← hO]
  have hk12 : ∀ b o, s₁.heap.get? b = some o → s₂.heap.get? b = some o := fun b o e => by rw [← hS]; exact Heap.get?_push_of_some _ (hkeep b o e)
  have hLs : s₂.heap.Ns L (fun y => [(Str.ofString "addr", Value.str x t)].reverse.lookup y) := by rw [← hS]; exact hns.push _
  have hgs : s₂.gens = s₁.gens.push (.fresh (.func escSrc.body (fnEnv escSrc fm L ae))) := by rw [← hS]
  have hgL : s₁.gens.size < s₂.gens.size := by rw [hgs, Array.size_push]; exact Nat.lt_succ_self _
  have R₂ : Real X σ₁ s₂ := by
    refine ⟨fun b p e => (R₁.rz b p e).keep fun o ho => hk12 b o ho, fun b o e => hk12 b o (R₁.base b o e), R₁.apart, fun y hy => ?_, ?_, ?_⟩
    · rw [hgs] at hy
      rcases Array.mem_push.mp hy with h | h
      · exact R₁.gens y h
      · rw [h]; rfl
    · rw [← hS]; exact R₁.os
    · rw [← hS]; exact Nat.succ_le_succ (Nat.zero_le _)
  have S₂ : Step σ₁ s₁ σ₁ s₂ := by
    refine ⟨fun b o _ e => hk12 b o e, fun b p e => .inl ⟨p, e⟩, fun i hi => ?_, Nat.le_of_lt hgL⟩
    rw [hgs, Array.getElem?_push_lt hi]; simp [hi]
  have hmem : ∀ b ∈ [L + 1, L], L ≤ b := fun b hb => by
    rcases List.mem_cons.mp hb with rfl | hb
    · exact Nat.le_succ _
    · rw [List.mem_singleton.mp hb]; exact Nat.le_refl _
  have Lg : AlongG X σ₁ s₁ [L + 1, L] s₁.gens.size σ₁ s₂ := by
    refine ⟨R₂, S₂, fun b hb => (hfr b (hmem b hb)).1, fun b hb => (hfr b (hmem b hb)).2.1, fun b hb _ => (hfr b (hmem b hb)).2.2, fun b hb => ?_, Nat.le_refl _, hgL⟩
    rcases List.mem_cons.mp hb with rfl | hb
    · obtain ⟨o, _, _, ho, _⟩ := hgen; exact ⟨o, ho⟩
    · rw [List.mem_singleton.mp hb]; obtain ⟨o, _, _, ho, _⟩ := hLs; exact ⟨o, ho⟩
  have G0 : GenSt X A x ae fm (L + 1) L s₁.gens.size [L + 1, L] 0 s₂ := by
    refine ⟨hgen, Nat.succ_ne_self L, .inl ⟨rfl, rfl, ?_, fun y => ([(Str.ofString "addr", Value.str x t)].reverse.lookup y).map pv, ⟨_, hLs, fun y => rfl⟩, ?_⟩⟩
    · rw [hgs]; simp
    · show (some (Value.str x t)).map pv = _; rfl
  clear hO hgs hns hsb
  refine wpAny_pyIter_gen hgen ?_
  refine codeAny_forLoop_any (fun kk s' => ∃ i σ' H, kk = (esc x.cps.toList 0 false).length - i ∧ i ≤ (esc x.cps.toList 0 false).length ∧ AlongG X σ₁ s₁ H s₁.gens.size σ' s' ∧ GenSt X A x ae fm (L + 1) L s₁.gens.size H i s' ∧ (L + 1) ∈ H ∧ J i σ') ?_ (esc x.cps.toList 0 false).length
    ⟨0, σ₁, [L + 1, L], rfl, Nat.zero_le _, Lg, G0, by simp, h0⟩
  rintro kk s' ⟨i, σ', H, rfl, hi, Lg', G', haH, j⟩
  refine wpAny_mono (gen_next O hm hb r.hh r.depth hend hi G' Lg' (Q := fun v s₃ => match v with
    | none => i = (esc x.cps.toList 0 false).length ∧ Real X σ' s₃ ∧ Step σ₁ s₁ σ' s₃
    | some v => ∃ (t : Addr) (H' : List Addr) (h : i < (esc x.cps.toList 0 false).length), v = .ref t ∧ GenSt X A x ae fm (L + 1) L s₁.gens.size H' (i + 1) s₃ ∧ (L + 1) ∈ H' ∧ σ' t = none ∧ X.base.get? t = none ∧
      AlongG X σ₁ s₁ H' s₁.gens.size (σ'.set t (.tuple [.int ((esc x.cps.toList 0 false)[i].1 : Nat), .str ⟨(esc x.cps.toList 0 false)[i].2.toArray⟩])) s₃)
    (fun t s₃ H' h g1 _ g3 g4 g5 g6 g7 => ⟨t, H', h, rfl, g1, g3, g5, g6, g7⟩) (fun s₃ h R₃ S₃ => ⟨h, R₃, S₃⟩)) (fun v s₃ h₃ => ?_) fun _ _ e => e.elim
  cases v with
  | none =>
    obtain ⟨he, R₃, S₃⟩ := h₃
    subst he
    exact wpAny_execs_nil ⟨σ', R₃, S₁.trans S₃, done σ' j⟩
  | some v =>
    obtain ⟨tt, H', hlt, rfl, G₃, haH', htn, htb, L₃⟩ := h₃
    refine wpAny_mono (letOwned_gen G₃.gen (Q := fun _ s => s = s₃) rfl) (fun _ s₄ h₄ => ?_) fun _ _ e => e.elim
    subst h₄
    refine wpAny_mono (L₃.go (turn i hlt σ' tt j htn htb (.ref tt) rfl) (Q' := fun _ s₅ => ∃ σ₅, AlongG X σ₁ s₁ H' s₁.gens.size σ₅ s₅ ∧ GenSt X A x ae fm (L + 1) L s₁.gens.size H' (i + 1) s₅ ∧ XS X A env body σ₅ _) fun _ σ₅ s₅ L₅ k₅ g₅ q => ⟨σ₅, L₅, G₃.keep k₅ g₅ haH', q⟩) (fun _ s₅ h₅ => ?_) fun _ _ e => e.elim
    obtain ⟨σ₅, L₅, G₅, q⟩ := h₅
    refine wpAny_mono (L₅.go (h := q) (Q' := fun f s₆ => ∃ σ₆, AlongG X σ₁ s₁ H' s₁.gens.size σ₆ s₆ ∧ GenSt X A x ae fm (L + 1) L s₁.gens.size H' (i + 1) s₆ ∧ _) fun f σ₆ s₆ L₆ k₆ g₆ q => ⟨σ₆, L₆, G₅.keep k₆ g₆ haH', q⟩) (fun f s₆ h₆ => ?_) fun _ _ e => e.elim
    obtain ⟨σ₆, L₆, G₆, q⟩ := h₆
    cases f with
    | next => exact ⟨_, by omega, i + 1, σ₆, H', rfl, hlt, L₆, G₆, haH', q⟩
    | cont => exact ⟨_, by omega, i + 1, σ₆, H', rfl, hlt, L₆, G₆, haH', q⟩
    | brk => exact ⟨σ₆, L₆.real, S₁.trans L₆.step, q⟩
    | ret v => exact ⟨σ₆, L₆.real, S₁.trans L₆.step, q⟩
end
end Mine
end

section
open PySem PySem.W PyProof.Rows
namespace Mine

theorem map1 {vals : List Value} {p : PV} (h : vals.map pv = [p]) : ∃ v, vals = [v] ∧ pv v = p := by
  match vals, h with
  | [v], h => exact ⟨v, rfl, by simpa using h⟩
  | [], h => simp at h
  | _ :: _ :: _, h => simp at h
theorem map2 {vals : List Value} {p q : PV} (h : vals.map pv = [p, q]) : ∃ v u, vals = [v, u] ∧ pv v = p ∧ pv u = q := by
  match vals, h with
  | [v, u], h => simp at h; exact ⟨v, u, rfl, h.1, h.2⟩
  | [], h => simp at h
  | [_], h => simp at h
  | _ :: _ :: _ :: _, h => simp at h
theorem map3 {vals : List Value} {p q r : PV} (h : vals.map pv = [p, q, r]) : ∃ v u w, vals = [v, u, w] ∧ pv v = p ∧ pv u = q ∧ pv w = r := by
  match vals, h with
  | [v, u, w], h => simp at h; exact ⟨v, u, w, rfl, h.1, h.2.1, h.2.2⟩
  | [], h => simp at h
  | [_], h => simp at h
  | [_, _], h => simp at h
  | _ :: _ :: _ :: _ :: _, h => simp at h

section
variable {X : Cx} {A : Around} {env : Env} {σ : AH} {Q : PV → AH → Prop}
theorem CV.lenList {l : Addr} {vs : List PV} (hl : σ l = some (.list vs)) (hs : vs.length ≤ sizeLine) (h : Q (.int vs.length) σ) : CV X A (.builtin "len") [.ref l] σ Q := fun vals e => WV.val (fun s R Q' hQ => by
  obtain ⟨v, rfl, ev⟩ := map1 e
  rw [pv_ref ev]
  obtain ⟨items, hp, em⟩ := R.rz _ _ hl
  have hlen : vs.length = items.size := by rw [← em, List.length_map, Array.length_toList]
  exact Calls.call_len_list hp.isList (by rw [← hlen]; exact Int.lt_of_le_of_lt (Int.ofNat_le.mpr hs) (by decide)) (hQ _ _ (by rw [hlen]; rfl))) h
theorem CV.lenBase {l : Addr} {items : Array Value} (hl : X.base.IsList l items) (hs : items.size ≤ sizeLine) (h : Q (.int items.size) σ) : CV X A (.builtin "len") [.ref l] σ Q := fun vals e => WV.val (fun s R Q' hQ => by
  obtain ⟨v, rfl, ev⟩ := map1 e
  rw [pv_ref ev]
  exact Calls.call_len_list (hl.at fun o e => R.base l o e) (Int.lt_of_le_of_lt (Int.ofNat_le.mpr hs) (by decide)) (hQ _ _ rfl)) h
theorem CV.lenStr {x : Str} (hs : x.length ≤ sizeLine) (h : Q (.int x.length) σ) : CV X A (.builtin "len") [.str x] σ Q := fun vals e => WV.val (fun s R Q' hQ => by
  obtain ⟨v, rfl, ev⟩ := map1 e
  obtain ⟨t, rfl⟩ := pv_str ev
  refine P.len_str ?_ (hQ _ _ rfl)
  have : (x.length : Int) ≤ (sizeLine : Nat) := Int.ofNat_le.mpr hs
  have h2 : ((sizeLine : Nat) : Int) < 2 ^ 63 := by decide
  omega) h
theorem CV.range1 {n : Int} (h : ∀ D, σ D = none → X.base.get? D = none → Q (.ref D) (σ.set D (.range 0 n 1))) : CV X A (.type "range") [.int n] σ Q := fun vals e => WP.of fun s R => by
  obtain ⟨v, rfl, ev⟩ := map1 e
  obtain ⟨t, rfl⟩ := pv_int ev
  refine call_range_1 ?_
  obtain ⟨R', S', hn, hb⟩ := R.new (h' := s.heap.push { cls := .type "range", data := .fields #[.int 0 s.toks, .int n t, .int 1 (s.toks + 1)] }) (tk := s.toks + 1 + 1) (p := .range 0 n 1) (by rw [Heap.size_push]; exact Nat.lt_succ_self _) (fun b o e => Heap.get?_push_of_some _ e) ⟨_, _, _, IsRange.new ..⟩ (Nat.succ_le_succ (Nat.zero_le _))
  exact ⟨_, R', S', h _ hn hb⟩
theorem CV.range2 {a n : Int} (h : ∀ D, σ D = none → X.base.get? D = none → Q (.ref D) (σ.set D (.range a n 1))) : CV X A (.type "range") [.int a, .int n] σ Q := fun vals e => WP.of fun s R => by
  obtain ⟨v, u, rfl, ev, eu⟩ := map2 e
  obtain ⟨t, rfl⟩ := pv_int ev
  obtain ⟨t', rfl⟩ := pv_int eu
  refine call_range_2 ?_
  obtain ⟨R', S', hn, hb⟩ := R.new (h' := s.heap.push { cls := .type "range", data := .fields #[.int a t, .int n t', .int 1 s.toks] }) (tk := s.toks + 1) (p := .range a n 1) (by rw [Heap.size_push]; exact Nat.lt_succ_self _) (fun b o e => Heap.get?_push_of_some _ e) ⟨_, _, _, IsRange.new ..⟩ (Nat.succ_le_succ (Nat.zero_le _))
  exact ⟨_, R', S', h _ hn hb⟩
theorem CV.range3 {a n c : Int} (hc : c ≠ 0) (hp : Builtin.divisionGoesByPylong (n - a) c = false) (h : ∀ D, σ D = none → X.base.get? D = none → Q (.ref D) (σ.set D (.range a n c))) : CV X A (.type "range") [.int a, .int n, .int c] σ Q := fun vals e => WP.of fun s R => by
  obtain ⟨v, u, w, rfl, ev, eu, ew⟩ := map3 e
  obtain ⟨t, rfl⟩ := pv_int ev
  obtain ⟨t', rfl⟩ := pv_int eu
  obtain ⟨t'', rfl⟩ := pv_int ew
  refine call_range_3 hc ?_ (.inl hp)
  obtain ⟨R', S', hn, hb⟩ := R.new (h' := s.heap.push { cls := .type "range", data := .fields #[.int a t, .int n t', .int c t''] }) (tk := s.toks) (p := .range a n c) (by rw [Heap.size_push]; exact Nat.lt_succ_self _) (fun b o e => Heap.get?_push_of_some _ e) ⟨_, _, _, IsRange.new ..⟩ R.tk
  exact ⟨_, R', S', h _ hn hb⟩
theorem CV.min2 {a b : Int} (hh : A.handled = none) (h : Q (.int (if b < a then b else a)) σ) : CV X A (.builtin "min") [.int a, .int b] σ Q := fun vals e => WP.of fun s R => by
  obtain ⟨v, u, rfl, ev, eu⟩ := map2 e
  obtain ⟨t, rfl⟩ := pv_int ev
  obtain ⟨t', rfl⟩ := pv_int eu
  refine with_tk (Nat.le_refl s.toks) (min_two_ints hh fun h' tk hk htk => ?_)
  obtain ⟨R', S'⟩ := R.grow (h' := h') (tk := tk) hk (Nat.le_trans R.tk htk)
  exact ⟨σ, R', S', by split <;> (rename_i hlt; simpa [pv, hlt] using h)⟩
theorem CV.typeStr {x : Str} (h : Q (.raw (.type "str")) σ) : CV X A (.type "type") [.str x] σ Q := fun vals e => WP.of fun s R => by
  obtain ⟨v, rfl, ev⟩ := map1 e
  obtain ⟨t, rfl⟩ := pv_str ev
  exact call_type_of (typeIs_str s x t) (by decide) ⟨σ, R, Step.refl σ s, h⟩
theorem CV.typeList {l : Addr} {vs : List PV} (hl : σ l = some (.list vs)) (h : Q (.raw (.type "list")) σ) : CV X A (.type "type") [.ref l] σ Q := fun vals e => WP.of fun s R => by
  obtain ⟨v, rfl, ev⟩ := map1 e
  rw [pv_ref ev]
  obtain ⟨items, hp, em⟩ := R.rz _ _ hl
  exact call_type_of hp.isList.typeIs (by decide) ⟨σ, R, Step.refl σ s, h⟩
theorem CV.append {l : Addr} {vs : List PV} {p : PV} (hl : σ l = some (.list vs)) (hs : vs.length ≤ sizeLine) (h : Q .none (σ.set l (.list (vs ++ [p])))) : CV X A (.builtin "list.append") [.ref l, p] σ Q := fun vals e => WP.of fun s R => by
  obtain ⟨v, u, rfl, ev, eu⟩ := map2 e
  rw [pv_ref ev]
  obtain ⟨items, hp, em⟩ := R.rz _ _ hl
  have hlen : vs.length = items.size := by rw [← em, List.length_map, Array.length_toList]
  refine wpAny_list_append_plain hp (fun h' hp' hs' => ?_) (by omega)
  obtain ⟨R', S'⟩ := R.turn hl (h' := h') (tk := s.toks) (p := .list (vs ++ [p])) (fun b o hb e => (hs'.2 b hb).trans e) ⟨_, hp', by simp [em, eu]⟩ R.tk
  exact ⟨_, R', S', h⟩
theorem CV.pop {l : Addr} {vs : List PV} {p : PV} (hl : σ l = some (.list (vs ++ [p]))) (hs : vs.length < sizeLine) (h : Q p (σ.set l (.list vs))) : CV X A (.builtin "list.pop") [.ref l] σ Q := fun vals e => WP.of fun s R => by
  obtain ⟨v, rfl, ev⟩ := map1 e
  rw [pv_ref ev]
  obtain ⟨items, ⟨n, hp⟩, em⟩ := R.rz _ _ hl
  have hlen : vs.length + 1 = items.size := by
    have := congrArg List.length em
    simpa using this.symm
  have hlast : ∃ y, items[items.size - 1]? = some y ∧ pv y = p ∧ (items.toList.take vs.length).map pv = vs := by
    have hl1 : items.size - 1 = vs.length := by omega
    have hlt : vs.length < items.size := by omega
    refine ⟨items[vs.length], by rw [hl1]; simp [hlt], ?_, ?_⟩
    · have := congrArg (fun l => l[vs.length]?) em
      simp [hlt] at this
      exact this
    · have := congrArg (List.take vs.length) em
      rw [← List.map_take] at this
      simpa using this
  obtain ⟨y, hy, ey, et⟩ := hlast
  refine call_meets PySem.F.slot_list_pop ⟨_, hp, rfl⟩ PySem.F.entry_list_pop (PySem.F.args_list_pop_1 _) (MeetsSeq.list_pop_last l items n y hy (by omega)) ⟨hp, ?_⟩
  obtain ⟨R', S'⟩ := R.turn hl (h' := s.heap.update l (Obj.mapSeq fun xs => xs.eraseIdxIfInBounds (items.size - 1))) (tk := s.toks) (p := .list vs) (fun b o hb e => (Heap.SameBut.update (h := s.heap) (a := l) ..).2 b hb |>.trans e) ⟨items.eraseIdxIfInBounds (items.size - 1), ⟨_, (Heap.get?_update_self _ hp (by rfl)).trans rfl⟩, (by
    have : items.size - 1 < items.size := by omega
    rw [Array.eraseIdxIfInBounds, dif_pos this]
    rw [← et]
    congr 1
    rw [Array.toList_eraseIdx, List.eraseIdx_eq_take_drop_succ]
    have : items.size - 1 = vs.length := by omega
    rw [this, List.drop_eq_nil_of_le (by simp; omega), List.append_nil])⟩ R.tk
  exact ⟨_, R', S', by show Q (pv y) _; rw [ey]; exact h⟩
end
end Mine
end

section
open PySem PySem.W PyProof.Rows Builtin Builtin.Str
namespace Mine

theorem backTo_any {env : Env} {pos : Pos} : ∀ {es : List Expr}, es.all plainArg = true → (backTo pos (starEach es env)).all (!·.1) = true
  | [], _ => rfl
  | e :: r, h => by
    obtain ⟨h1, h2⟩ := Bool.and_eq_true_iff.mp h
    rw [starEach_plain h1]
    show (true && (backTo pos (starEach r env)).all (!·.1)) = true
    rw [backTo_any h2]; rfl
theorem mcall {o : Expr} {name : Str} {ap pos : Pos} {es : List Expr} {kws : List Keyword} {env : Env} (hb : ∀ w, attributeBase o name env w = w) (hp : es.all plainArg = true) (hk : kws.all (·.arg.isSome) = true)
    (hn : es.length + kws.length < 29) (hl : (ap.endLine == pos.line) = true) :
    eval (.Call (.Attribute o name ap) es kws pos) env = (do
      let ov ← eval o env
      standAt ap.atName
      let (f, first) ← holding [ov] (getMethod ov name (do return (← importBound o env).getD true))
      callWith pos f first (backTo pos (starEach es env)) (backToKw pos (keywordEach kws env))) := by
  have hf : methodCallForm (es.length + kws.length) (backTo pos (starEach es env)) (backToKw pos (keywordEach kws env)) = true := by
    unfold methodCallForm
    rw [backTo_any hp, kw_isSome hk]
    simp only [Bool.true_and, decide_eq_true_eq]
    split <;> omega
  rw [arm_eval_Call, hb]
  unfold methodCall
  rw [hf]
  have hpz : ∀ (o : Expr), methodCallPos true o env ap pos = pure pos := fun o => by unfold methodCallPos; rw [hl]; rfl
  rw [hpz]
  rfl
section
variable (X : Cx) (A : Around)
/-- the method of a built-in type -/
def GMB (p : PV) (name : Str) (id : String) (σ : AH) : Prop := ∀ v, pv v = p → ∀ (pl : Sem Bool) s (Q' : Value × List Value → Shared → Prop), Real X σ s → Q' (.builtin id, [v]) s → wpAny (model X.prog X.w) A (getMethod v name pl) Q' (fun _ _ => False) s
end
section
variable {X : Cx} {A : Around} {env : Env} {σ : AH} {Q : PV → AH → Prop}
theorem callWith_bi1 {id : String} {pos : Pos} {es : List Expr} {v : Value} {p : PV} (e : pv v = p) (hp : es.all plainArg = true)
    (h : AVS X A env es σ fun ps σ₁ => CV X A (.builtin id) (p :: ps) σ₁ Q) : WV X A (callWith pos (.builtin id) [v] (backTo pos (starEach es env)) []) σ Q :=
  callWith_bi hp (by simpa [e] using h)
theorem EV.methBi {o : Expr} {name : Str} {ap pos : Pos} {es : List Expr} {id : String}
    (h : EV X A env o σ fun p σ₁ => GMB X A p name id σ₁ ∧ AVS X A env es σ₁ fun ps σ₂ => CV X A (.builtin id) (p :: ps) σ₂ Q) (hp : es.all plainArg = true := by rfl)
    (hb : ∀ w, attributeBase o name env w = w := by intro _; rfl) (hn : es.length + 0 < 29 := by decide) (hl : (ap.endLine == pos.line) = true := by rfl) :
    EV X A env (.Call (.Attribute o name ap) es [] pos) σ Q :=
  WP.of fun s R => MethodCall_ (he := mcall (kws := []) hb hp rfl hn hl) (h.go R (Step.refl σ s) fun v σ₁ s₁ R₁ S₁ ⟨g, q⟩ => g v rfl _ s₁ _ R₁ (WP.go (callWith_bi1 rfl hp q) R₁ S₁ fun v σ₂ s₂ R₂ S₂ q => ⟨σ₂, R₂, S₂, q⟩))
theorem GMB.append {l : Addr} {vs : List PV} (hl : σ l = some (.list vs)) : GMB X A (.ref l) (Str.ofString "append") "list.append" σ := fun v e pl s Q' R h => by
  rw [pv_ref e] at h ⊢
  obtain ⟨vals, ⟨n, hp⟩, em⟩ := R.rz _ _ hl
  exact getMethod_builtin ⟨_, hp, rfl⟩ PySem.F.plainAttrs_list slot_list_append rfl (fun a ha => by cases ha; exact ⟨_, hp, rfl⟩) h
theorem GMB.pop {l : Addr} {vs : List PV} (hl : σ l = some (.list vs)) : GMB X A (.ref l) (Str.ofString "pop") "list.pop" σ := fun v e pl s Q' R h => by
  rw [pv_ref e] at h ⊢
  obtain ⟨vals, ⟨n, hp⟩, em⟩ := R.rz _ _ hl
  exact getMethod_builtin ⟨_, hp, rfl⟩ PySem.F.plainAttrs_list PySem.F.slot_list_pop rfl (fun a ha => by cases ha; exact ⟨_, hp, rfl⟩) h
theorem GMB.lower {x : Str} : GMB X A (.str x) (Str.ofString "lower") "str.lower" σ := fun v e pl s Q' R h => by
  obtain ⟨t, rfl⟩ := pv_str e
  with_reducible exact GM.lower h
theorem GMB.upper {x : Str} : GMB X A (.str x) (Str.ofString "upper") "str.upper" σ := fun v e pl s Q' R h => by
  obtain ⟨t, rfl⟩ := pv_str e
  with_reducible exact GM.upper h
theorem GMB.join {x : Str} : GMB X A (.str x) (Str.ofString "join") "str.join" σ := fun v e pl s Q' R h => by
  obtain ⟨t, rfl⟩ := pv_str e
  with_reducible exact GM.join h
theorem GMB.index {x : Str} : GMB X A (.str x) (Str.ofString "index") "str.index" σ := fun v e pl s Q' R h => by
  obtain ⟨t, rfl⟩ := pv_str e
  with_reducible exact GM.index h
theorem CV.lower {x : Str} (hf : (Txt.lower x).length ≤ sizeLine) (h : Q (.str (Txt.lower x)) σ) : CV X A (.builtin "str.lower") [.str x] σ Q := fun vals e => WV.val (fun s R Q' hQ => by
  obtain ⟨v, rfl, ev⟩ := map1 e
  obtain ⟨t, rfl⟩ := pv_str ev
  exact SC.lower (by unfold tooLong; simpa using hf) (hQ _ _ rfl)) h
theorem CV.upper {x : Str} (hf : (Txt.upper x).length ≤ sizeLine) (h : Q (.str (Txt.upper x)) σ) : CV X A (.builtin "str.upper") [.str x] σ Q := fun vals e => WV.val (fun s R Q' hQ => by
  obtain ⟨v, rfl, ev⟩ := map1 e
  obtain ⟨t, rfl⟩ := pv_str ev
  exact SC.upper (by unfold tooLong; simpa using hf) (hQ _ _ rfl)) h
theorem strs_of : ∀ {vals : List Value} {texts : List Str}, vals.map pv = texts.map PV.str → ∃ l : List (Str × Tok), vals = strValues l ∧ l.map (·.1) = texts
  | [], [], _ => ⟨[], rfl, rfl⟩
  | [], _ :: _, h => by simp at h
  | _ :: _, [], h => by simp at h
  | v :: vs, x :: xs, h => by
    simp only [List.map_cons, List.cons.injEq] at h
    obtain ⟨t, rfl⟩ := pv_str h.1
    obtain ⟨l, rfl, rfl⟩ := strs_of h.2
    exact ⟨(x, t) :: l, rfl, rfl⟩
theorem CV.join {x : Str} {l : Addr} {texts : List Str} (hl : σ l = some (.list (texts.map PV.str))) (hok : JoinOk x texts = true) (h : Q (.str (Txt.join x texts)) σ) : CV X A (.builtin "str.join") [.str x, .ref l] σ Q := fun vals e => WV.val (fun s R Q' hQ => by
  obtain ⟨v, u, rfl, ev, eu⟩ := map2 e
  obtain ⟨t, rfl⟩ := pv_str ev
  rw [pv_ref eu]
  obtain ⟨items, hp, em⟩ := R.rz _ _ hl
  obtain ⟨ll, e1, e2⟩ := strs_of em
  have : items = (strValues ll).toArray := by rw [← e1]
  exact SC.join (this ▸ hp.isList) e2 hok fun t' k => hQ _ _ rfl) h
theorem EV.replace {o : Expr} {ap pos p1 p2 : Pos} {k1 k2 : Nat} {y z : Str} (hyz : (y == z) = false)
    (h : EV X A env o σ fun p σ₁ => ∃ x, p = .str x ∧ x.length + (x.length + 1) * z.length ≤ 16777216 ∧ Q (.str (Txt.replace x y z)) σ₁)
    (hb : ∀ w, attributeBase o (Str.ofString "replace") env w = w := by intro _; rfl) (hl : (ap.endLine == pos.line) = true := by rfl) :
    EV X A env (.Call (.Attribute o (Str.ofString "replace") ap) [.Constant (.str y) k1 p1, .Constant (.str z) k2 p2] [] pos) σ Q :=
  WP.of fun s R => MethodCall_ (he := mcall (kws := []) hb rfl rfl (by show 2 + 0 < 29; decide) hl) (h.go R (Step.refl σ s) fun v σ₁ s₁ R₁ S₁ ⟨x, e, hb, q⟩ => by
    obtain ⟨t, rfl⟩ := pv_str e
    with_reducible refine GM.replace ?_
    refine (Calls.callWith_builtin rfl (Calls.evalArgs_plain (wpAny_items_cons (Calls.Constant_str (wpAny_items_cons (Calls.Constant_str (wpAny_items_nil ?_)) rfl)) rfl)))
    refine with_tk (Nat.le_refl _) (SC.replace (Nat.ne_of_gt R₁.tk) (Nat.succ_ne_zero _) (Nat.ne_of_lt (Nat.lt_succ_self _)) hyz hb fun t' k htk => ?_)
    exact ⟨σ₁, R₁.toks k (Nat.le_trans (Nat.succ_le_succ (Nat.zero_le _)) htk), S₁.trans (Step.toks σ₁ s₁ k), q⟩)
theorem CV.index {x y : Str} {i : Nat} {rest : List Nat} (ho : occurrences x y 0 x.length 1 = i :: rest) (h : Q (.int i) σ) : CV X A (.builtin "str.index") [.str x, .str y] σ Q := fun vals e => WV.val (fun s R Q' hQ => by
  obtain ⟨v, u, rfl, ev, eu⟩ := map2 e
  obtain ⟨t, rfl⟩ := pv_str ev
  obtain ⟨t', rfl⟩ := pv_str eu
  exact call_gives F.slot_str_index (typeIs_str _ _ _) F.entry_str_index (F.args_str_index_2 _ _) (gives_str_index x y t t' i rest ho) (hQ _ _ rfl)) h
end
end Mine
end

section
open PySem PySem.W PyProof.Rows Builtin Builtin.Str
namespace Mine

/-- the class's own facts -/
structure Cl (K : Frag) (C : Addr) : Prop where
  keep : keepIn K (.ref C) = true
  makes : makesIn K C = true
  ga : findIn K (.ref C) "__getattribute__" = some (some (.builtin "object.__getattribute__"))
  gk : findIn K (.ref C) "__getattr__" = some none
  sa : findIn K (.ref C) "__setattr__" = some (some (.builtin "object.__setattr__"))
  po : plainOver K C = true
  tk : takerIn K C (Str.ofString "_headers") = some none
  hd : hasDictIn K C = true
  ah : findIn K (.ref C) (Str.ofString "_headers") = some none
  ns : noSeq K C = true
structure Me (X : Cx) (K : Frag) (C : Addr) (name : Str) (src : Src) (dV : Value) where
  f : Addr
  m : FM
  find : findIn K (.ref C) name = some (some (.ref f))
  ty : typeIn K (.ref f) = some (.type "function")
  fn : FnD X f src dV .none m

/-- the own dict of a table -/
def hObj (hs : Int) (tk : Tok) (l : Addr) : Obj := dictOf [⟨hs, .str (Str.ofString "_headers") tk, .ref l⟩] 1
structure Ins (σ : AH) (x C l : Addr) : Prop where
  go : ∃ dx hs tk, σ x = some (.inst C dx) ∧ σ dx = some (.obj (hObj hs tk l))
theorem Ins.at {X : Cx} {σ : AH} {x C l : Addr} {s : Shared} (I : Ins σ x C l) (R : Real X σ s) : ∃ dx hs tk, PySem.W.InstAt s.heap x (instObj C dx) C (some (hObj hs tk l)) := by
  obtain ⟨dx, hs, tk, h1, h2⟩ := I.go
  exact ⟨dx, hs, tk, R.rz x _ h1, rfl, rfl, R.rz dx _ h2⟩
theorem Ins.keep {σ σ' : AH} {x C l : Addr} (I : Ins σ x C l) (h : ∀ b p, (∀ vs, p ≠ .list vs) → (∀ m, p ≠ .ns m) → σ b = some p → σ' b = some p) : Ins σ' x C l := by
  obtain ⟨dx, hs, tk, h1, h2⟩ := I.go
  exact ⟨dx, hs, tk, h x _ (by simp) (by simp) h1, h dx _ (by simp) (by simp) h2⟩

section
variable {X : Cx} {A : Around} {env : Env} {σ : AH} {Q : PV → AH → Prop} {K : Frag} {C : Addr}
theorem EV.attrOwn {o : Expr} {pos : Pos} (hK : K.In X.base) (c : Cl K C)
    (h : EV X A env o σ fun p σ₁ => ∃ x l, p = .ref x ∧ Ins σ₁ x C l ∧ Q (.ref l) σ₁)
    (he : eval (.Attribute o (Str.ofString "_headers") pos) env = (do
      let o' ← eval o env
      standAt pos.atName
      let r ← holding [o'] (getAttr o' (Str.ofString "_headers") true)
      letTemporaryGo o o' r
      pure r) := by with_unfolding_all rfl) : EV X A env (.Attribute o (Str.ofString "_headers") pos) σ Q :=
  WP.of fun s R => Attribute_any_ (h.go R (Step.refl σ s) fun v σ₁ s₁ R₁ S₁ ⟨x, l, e, I, q⟩ => by
    rw [pv_ref e]
    obtain ⟨dx, hs, tk, I'⟩ := I.at R₁
    refine get_value (K := K) (fun a o e => R₁.base a o (hK a o e)) I' c.ga (findObj_own c.hd c.ah rfl (v := .ref l) ?_) rfl ⟨σ₁, R₁.tick _, S₁.trans (Step.toks σ₁ s₁ _), q⟩
    rfl) he

/-- the method of a table -/
theorem gm_inst {x l : Addr} {name : Str} {src : Src} {dV : Value} {pl : Sem Bool} {s : Shared} {Q' : Value × List Value → Shared → Prop} (hK : K.In X.base) (c : Cl K C) (me : Me X K C name src dV) (I : Ins σ x C l) (hn : ∀ hs tk, shadowIn (some (hObj hs tk l)) name = some false) (R : Real X σ s)
    (h : Q' (.ref me.f, [.ref x]) s) : wpAny (model X.prog X.w) A (getMethod (.ref x) name pl) Q' (fun _ _ => False) s := by
  obtain ⟨dx, hs, tk, I'⟩ := I.at R
  exact method_fn (K := K) (fun a o e => R.base a o (hK a o e)) I' c.ga c.gk me.find me.ty (hn hs tk) h

theorem EV.methI {o : Expr} {name : Str} {ap pos : Pos} {es : List Expr} {src : Src} {dV : Value} (hK : K.In X.base) (c : Cl K C) (me : Me X K C name src dV)
    (h : EV X A env o σ fun p σ₁ => ∃ x l, p = .ref x ∧ Ins σ₁ x C l ∧ AVS X A env es σ₁ fun ps σ₂ => CV X A (.ref me.f) (.ref x :: ps) σ₂ Q) (hp : es.all plainArg = true := by rfl)
    (hn : ∀ hs tk l, shadowIn (some (hObj hs tk l)) name = some false := by intro _ _ _; rfl)
    (hb : ∀ w, attributeBase o name env w = w := by intro _; rfl) (hnn : es.length + 0 < 29 := by decide) (hl : (ap.endLine == pos.line) = true := by rfl) :
    EV X A env (.Call (.Attribute o name ap) es [] pos) σ Q :=
  let ⟨o', ho, hd⟩ := me.fn.here
  WP.of fun s R => MethodCall_ (he := mcall (kws := []) hb hp rfl hnn hl) (h.go R (Step.refl σ s) fun v σ₁ s₁ R₁ S₁ ⟨x, l, e, I, q⟩ => by
    rw [pv_ref e]
    exact gm_inst hK c me I (fun hs tk => hn hs tk l) R₁ (WP.go (callWith_ref (first := [.ref x]) ho hd hp q) R₁ S₁ fun v σ₂ s₂ R₂ S₂ q => ⟨σ₂, R₂, S₂, q⟩))

theorem kw1 {M : Model} {kw : Str} {b : Bool} {k0 : Nat} {cp kp pos : Pos} {s : Shared} {Q : List Value → Shared → Prop} (h : Q [.bool b] s) :
    wpAny M A (evalAll ((backToKw pos (keywordEach [⟨some kw, .Constant (.bool b) k0 cp, kp⟩] env)).map (·.2))) Q (fun _ _ => False) s := by
  refine wpAny_evalAll_cons ?_
  show wpAny M A (do let v ← PySem.eval (.Constant (.bool b) k0 cp) env; standAt pos; pure v) _ _ _
  exact wpAny_bind (wpAny_Constant_bool (wpAny_bind (wpAny_standAt (wpAny_pure (wpAny_evalAll_nil h)))))
/-- with one word argument, a constant -/
theorem EV.methKw {o e1 : Expr} {name kw : Str} {ap pos kp cp : Pos} {src : Src} {dV : Value} {b : Bool} {k0 : Nat} (hK : K.In X.base) (c : Cl K C) (me : Me X K C name src dV)
    (h : EV X A env o σ fun p σ₁ => ∃ x l, p = .ref x ∧ Ins σ₁ x C l ∧ EV X A env e1 σ₁ fun p1 σ₂ => CK X A (.ref me.f) [.ref x, p1] [(kw, .bool b)] σ₂ Q) (hp : plainArg e1 = true := by rfl)
    (hn : ∀ hs tk l, shadowIn (some (hObj hs tk l)) name = some false := by intro _ _ _; rfl)
    (hb : ∀ w, attributeBase o name env w = w := by intro _; rfl) (hl : (ap.endLine == pos.line) = true := by rfl) :
    EV X A env (.Call (.Attribute o name ap) [e1] [⟨some kw, .Constant (.bool b) k0 cp, kp⟩] pos) σ Q :=
  let ⟨o', ho, hd⟩ := me.fn.here
  WP.of fun s R => methodCall_KW (he := mcall (kws := [⟨some kw, .Constant (.bool b) k0 cp, kp⟩]) hb (by show (plainArg e1 && true) = true; rw [hp]; rfl) rfl (by show 1 + 1 < 29; decide) hl) (h.go R (Step.refl σ s) fun v σ₁ s₁ R₁ S₁ ⟨x, l, e, I, q⟩ => by
    rw [pv_ref e]
    refine gm_inst hK c me I (fun hs tk => hn hs tk l) R₁ (callWith_function_kw (o := o') (fd := _) (evalArgs_kw2 rfl (wpAny_items_cons (WP.go q R₁ S₁ fun v1 σ₂ s₂ R₂ S₂ q2 => wpAny_items_nil (kw1 ⟨⟨R₂.base _ _ ho, hd⟩, ?_⟩)) (starEach_plain hp)) (starEach_plain hp)))
    exact WP.go (q2 [.ref x, v1] [(kw, .bool b)] rfl rfl) R₂ S₂ fun v σ₃ s₃ R₃ S₃ q => ⟨σ₃, R₃, S₃, q⟩)
end
end Mine
end

section
open PySem PySem.W PyProof.Rows Builtin Builtin.Str
namespace Mine

section
variable (X : Cx) (A : Around)
/-- a call as a code -/
def CC (f : Value) (args : Args) (σ : AH) (Q : PV → AH → Prop) : Prop :=
  ∀ s, Real X σ s → codeAny (model X.prog X.w) A (.call f args) (fun r s' => ∃ v σ', r = .ok (.ret v) ∧ Real X σ' s' ∧ Step σ s σ' s' ∧ Q (pv v) σ') s
end
section
variable {X : Cx} {A : Around} {env : Env} {σ : AH} {Q : PV → AH → Prop}
theorem CC.wv {f : Value} {args : Args} (h : CC X A f args σ Q) : WV X A (call f args.pos args.kw) σ Q :=
  WP.of fun s R => wpAny_call (codeAny_mono (h s R) fun r s' ⟨v, σ', e, q⟩ => by subst e; exact ⟨σ', q⟩)
/-- the call of a def without cells -/
theorem CC.def {a : Addr} {o : Obj} {fd : FuncData} {body : List Stmt} {args : Args} {k : Nat} (O : X.Ok) (r : Rm A (k + 1)) (ho : X.base.get? a = some o) (hdata : o.data = .func fd)
    (hcd : X.base.CodeRec fd.code fd.qualname) (hbody : fd.body = .stmts body)
    (hb : WP X A.in1 (bindArgs fd args) σ fun binds σ₁ => (∀ x ∈ binds, fd.scope.names.lookup x.1 = some .local) ∧ ∀ L : Nat, (∀ b : Nat, L ≤ b → σ₁ b = none ∧ X.base.get? b = none) →
      Rm (A.deeper (callEnv fd L a)) k → XS X (A.deeper (callEnv fd L a)) (callEnv fd L a) body (σ₁.set L (.ns (bindP binds))) fun f σ₂ => Q (rt f) σ₂)
    (hcell : ∀ x ∈ fd.scope.names, x.2 ≠ .cell) (hco : fd.scope.isCoroutine = false := by rfl) (hgen : fd.scope.isGenerator = false := by rfl) (hk : fd.scope.kind = .function := by rfl) :
    CC X A (.ref a) args σ Q := by
  refine fun s R => codeAny_call_function r.depth (R.base _ _ ho) hdata hco hgen hbody (hcd.keeps R.base) ?_
  refine wpAny_mono (WP.go hb R (Step.refl σ s) (Q' := fun binds s₁ => wpAny _ _ _ _ _ s₁) fun binds σ₁ s₁ R₁ S₁ ⟨hloc, q⟩ => ?_) (fun _ _ x => x) fun _ _ x => x.elim
  refine wpAny_newFunctionEnv hcell hloc (fun h₀ hns hsb => ⟨(O.lim.keeps R₁.base).fresh _ hsb, codeAny_func ?_⟩) hk
  have hkeep : ∀ b o, s₁.heap.get? b = some o → h₀.get? b = some o := fun b o e => hsb.extBut b o (Nat.ne_of_lt (Heap.lt_size e)) (Heap.get?_push_of_some _ e)
  have hsz : s₁.heap.objs.size < h₀.objs.size := by rw [hsb.1, Heap.size_push]; exact Nat.lt_succ_self _
  obtain ⟨R₂, S₂, hn, hbn⟩ := R₁.new (h' := h₀) (tk := s₁.toks + binds.length) (p := .ns (bindP binds)) hsz hkeep ⟨_, hns, fun x => rfl⟩ (Nat.le_trans R₁.tk (Nat.le_add_right _ _))
  have hfree : ∀ b, s₁.heap.objs.size ≤ b → σ₁ b = none ∧ X.base.get? b = none := fun b hb => ⟨(fresh_from R₁ b hb).1, (fresh_from R₁ b hb).2.1⟩
  refine wpAny_mono (WP.go (h := q s₁.heap.objs.size hfree (r.deeper _)) (Q' := fun f s' => ∃ σ', Real X σ' s' ∧ Step σ s σ' s' ∧ Q (rt (pf f)) σ') R₂ (S₁.trans S₂) fun f σ₃ s₃ R₃ S₃ q => ⟨σ₃, R₃, S₃, q⟩) (fun f s' ⟨σ', R', S', q'⟩ => ?_) fun _ _ x => x.elim
  exact ⟨_, σ', rfl, R', S', by cases f <;> exact q'⟩

theorem Rm.in1 {A : Around} {k : Nat} (h : Rm A (k + 1)) : Rm A.in1 k := ⟨h.hh, by have := h.d; show A.depth + k < 900; omega, by have := h.u; show A.units + 1 + 40 * k < 9000; omega, h.fr⟩
theorem Rm.make {A : Around} {k : Nat} (h : Rm A (k + 1)) (C : Addr) : Rm (A.under (.builtin "type.__call__" ⟨[.ref C], []⟩)) k := by
  have hw : (Code.builtin "type.__call__" ⟨[.ref C], []⟩).weight = 1 := by kernel_rfl
  have hu : (Code.builtin "type.__call__" ⟨[.ref C], []⟩).cUnits ≤ 10 := Nat.le_of_ble_eq_true (by kernel_rfl)
  have he : (Code.builtin "type.__call__" ⟨[.ref C], []⟩).envs = [] := by kernel_rfl
  refine ⟨h.hh, ?_, ?_, ?_⟩
  · have := h.d; show A.depth + _ + k < 900; rw [hw]; omega
  · have := h.u; show A.units + _ + 40 * k < 9000; omega
  · obtain ⟨fs, e⟩ := h.fr
    exact ⟨fs, by show pushEnvs (Code.builtin "type.__call__" ⟨[.ref C], []⟩).envs A.frames = some fs; rw [he, e]; rfl⟩
theorem bind_eq {fd : FuncData} {args : Args} {binds : List (Str × Value)} {Q : List (Str × Value) → AH → Prop} (e : bindArgs fd args = pure binds) (h : Q binds σ) : WP X A (bindArgs fd args) σ Q := by rw [e]; exact WP.pure h

/-- all the rest of a heap, object by object -/
def restOf (h : Heap) (L d : Addr) : List (Addr × Obj) := (List.range h.objs.size).filterMap fun b => if b = L ∨ b = d then none else (h.get? b).map fun o => (b, o)
theorem restOf_mem {h : Heap} {L d b : Addr} {o : Obj} (hb : h.get? b = some o) (hL : b ≠ L) (hd : b ≠ d) : (b, o) ∈ restOf h L d := by
  refine List.mem_filterMap.mpr ⟨b, List.mem_range.mpr (Heap.lt_size hb), ?_⟩
  simp [hL, hd, hb]
theorem restOf_of {h : Heap} {L d : Addr} {p : Addr × Obj} (hp : p ∈ restOf h L d) : h.get? p.1 = some p.2 ∧ p.1 ≠ L ∧ p.1 ≠ d := by
  obtain ⟨b, _, e⟩ := List.mem_filterMap.mp hp
  by_cases hc : b = L ∨ b = d
  · simp [hc] at e
  · simp only [hc, if_false] at e
    cases hb : h.get? b with
    | none => rw [hb] at e; cases e
    | some o =>
      rw [hb] at e
      cases e
      exact ⟨hb, fun z => hc (.inl z), fun z => hc (.inr z)⟩
def nul : Heap := { objs := #[] }
theorem nul_get (b : Addr) : nul.get? b = none := by
  cases q : nul.get? b with
  | none => rfl
  | some o => have := Heap.lt_size q; simp [nul] at this

theorem setH {x C dx l : Addr} {m : Str → Option PV} {L : Addr} {K : Frag} (hK : K.In X.base) (c : Cl K C) (hL : σ L = some (.ns m)) (h1 : σ x = some (.inst C dx)) (h2 : σ dx = some (.obj emptyDict)) {P : Unit → AH → Prop}
    (h : ∀ hs tk, P () (σ.set dx (.obj (hObj hs tk l)))) : WP X A (setAttr (.ref x) (Str.ofString "_headers") (.ref l)) σ P := WP.of fun s R => by
  have X' : K.In s.heap := fun a o e => R.base a o (hK a o e)
  have hx := R.rz x _ h1
  have hd := R.rz dx _ h2
  have I : PySem.W.InstAt s.heap x (instObj C dx) C (some emptyDict) := ⟨hx, rfl, rfl, hd⟩
  obtain ⟨m', hn, em⟩ := R.rz L _ hL
  have hdL : dx ≠ L := fun z => by rw [z, hL] at h2; cases h2
  have F : Fr nul L s.heap m' := ⟨hn, (fun b o e => by rw [nul_get] at e; cases e), Nat.zero_le _⟩
  have N : News nul L s.heap ([] ++ (dx, emptyDict) :: restOf s.heap L dx) := fun p hp => by
    rcases List.mem_cons.mp hp with rfl | hp
    · exact ⟨hd, hdL, nul_get _⟩
    · have := restOf_of hp; exact ⟨this.1, this.2.1, nul_get _⟩
  refine set_plain X' I c.sa (osa_dict (s := { s with toks := s.toks + 1 }) (od' := hObj (PyData.keyHash X.w.params (Str.ofString "_headers")) (s.toks + 1) l) (es := [⟨PyData.keyHash X.w.params (Str.ofString "_headers"), .str (Str.ofString "_headers") (s.toks + 1), .ref l⟩]) (n := 1) F N X' I rfl c.po c.tk c.hd (by rfl) (fun p hp => nomatch hp) (fun p hp => (restOf_of hp).2.2) ?_ rfl (by show 1 ≤ 1000; decide) fun h' F' N' => ?_)
  · have := putName_dict (Str.ofString "_headers") (PyData.keyHash X.w.params (Str.ofString "_headers")) (.str (Str.ofString "_headers") (s.toks + 1)) (.ref l) [] 0
    exact this
  · have hk : ∀ b o, b ≠ dx → s.heap.get? b = some o → b ≠ L → h'.get? b = some o := fun b o hb e hbL => (N' (b, o) (List.mem_cons_of_mem _ (restOf_mem e hbL hb))).1
    have hz : Rz h' dx (.obj (hObj (PyData.keyHash X.w.params (Str.ofString "_headers")) (s.toks + 1) l)) := (N' (dx, hObj (PyData.keyHash X.w.params (Str.ofString "_headers")) (s.toks + 1) l) (by simp)).1
    have hbL := R.apart L _ hL
    have hbd := R.apart dx _ h2
    refine ⟨σ.set dx (.obj (hObj (PyData.keyHash X.w.params (Str.ofString "_headers")) (s.toks + 1) l)), ⟨fun b p e => ?_, fun b o e => ?_, fun b p e => ?_, R.gens, R.os, Nat.succ_le_succ (Nat.zero_le _)⟩, ⟨fun b o hσ e => ?_, fun b p e => ?_, fun _ _ => rfl, Nat.le_refl _⟩, h _ _⟩
    · by_cases hb : b = dx
      · subst hb; rw [AH.set_self] at e; cases e; exact hz
      · rw [AH.set_ne _ _ hb] at e
        by_cases hbL' : b = L
        · subst hbL'; rw [hL] at e; cases e; exact ⟨m', F'.ns, em⟩
        · exact (R.rz b p e).keep fun o ho => hk b o hb ho hbL'
    · exact hk b o (fun z => by rw [z, hbd] at e; cases e) (R.base b o e) (fun z => by rw [z, hbL] at e; cases e)
    · by_cases hb : b = dx
      · subst hb; exact hbd
      · rw [AH.set_ne _ _ hb] at e; exact R.apart b p e
    · exact hk b o (fun z => by rw [z, h2] at hσ; cases hσ) e (fun z => by rw [z, hL] at hσ; cases hσ)
    · by_cases hb : b = dx
      · subst hb; exact .inl ⟨_, h2⟩
      · rw [AH.set_ne _ _ hb] at e; exact .inl ⟨p, e⟩

theorem EX.setHeaders {o value : Expr} {ap pos : Pos} {C : Addr} {Q : PF → AH → Prop} {K : Frag} (hK : K.In X.base) (c : Cl K C)
    (h : EV X A env value σ fun p σ₁ => EV X A env o σ₁ fun q σ₂ => ∃ x dx l m, p = .ref l ∧ q = .ref x ∧ σ₂ env.locals = some (.ns m) ∧ σ₂ x = some (.inst C dx) ∧ σ₂ dx = some (.obj emptyDict) ∧ ∀ hs tk, Q .next (σ₂.set dx (.obj (hObj hs tk l))))
    (hs : swapsWith value (some (.Attribute o (Str.ofString "_headers") ap)) pos.line env = pure false := by rfl) :
    EX X A env (.Assign [.Attribute o (Str.ofString "_headers") ap] value pos) σ Q :=
  WP.of fun s R => plainObj_wpAny_Assign_Attribute (h.go R (Step.refl σ s) fun v σ₁ s₁ R₁ S₁ h₁ => WP.go h₁ R₁ S₁ fun u σ₂ s₂ R₂ S₂ ⟨x, dx, l, m, e1, e2, hL, h1, h2, q⟩ => by
    rw [pv_ref e1, pv_ref e2]
    exact WP.go (setH (A := A) (P := fun _ σ' => Q .next σ') hK c hL h1 h2 q) R₂ S₂ fun _ σ₃ s₃ R₃ S₃ q => ⟨σ₃, R₃, S₃, q⟩) hs

theorem newH {C : Addr} {L : Addr} {m : Str → Option PV} {K : Frag} {fI : Addr} {k : Nat} (hK : K.In X.base) (c : Cl K C) (r : Rm A (k + 1)) (hi : findIn K (.ref C) "__init__" = some (some (.ref fI))) (hf : typeIn K (.ref fI) = some (.type "function")) (hL : σ L = some (.ns m))
    (h : ∀ A', Rm A' k → ∀ x dx, σ x = none → σ dx = none → X.base.get? x = none → X.base.get? dx = none → x ≠ dx → CC X A' (.ref fI) ⟨[.ref x], []⟩ ((σ.set dx (.obj emptyDict)).set x (.inst C dx)) fun v σ' => v = .none ∧ Q (.ref x) σ') :
    WV X A (call (.ref C) []) σ Q := WP.of fun s R => by
  have X' : K.In s.heap := fun a o e => R.base a o (hK a o e)
  obtain ⟨m', hn, em⟩ := R.rz L _ hL
  have F : Fr nul L s.heap m' := ⟨hn, (fun b o e => by rw [nul_get] at e; cases e), Nat.zero_le _⟩
  have N : News nul L s.heap (restOf s.heap L L) := fun p hp => by
    have := restOf_of hp; exact ⟨this.1, this.2.1, nul_get _⟩
  have hbL := R.apart L _ hL
  have hLs : L < s.heap.objs.size := by obtain ⟨o, ho⟩ := (R.rz L _ hL).there; exact Heap.lt_size ho
  refine wpAny_call (make_K F N X' c.makes hi hf fun x dx h' F' N' hlt hdx => ?_)
  have hfr := fresh_from R
  have hkO : ∀ b o, s.heap.get? b = some o → b ≠ L → h'.get? b = some o := fun b o e hb => (N' (b, o) (List.mem_cons_of_mem _ (List.mem_cons_of_mem _ (restOf_mem e hb hb)))).1
  have zx := N' (x, instObj C dx) (by simp)
  have zd := N' (dx, emptyDict) (by simp)
  have free : ∀ b, b ≠ L → dx ≤ b → s.heap.get? b = none := fun b hb hle => by
    cases q : s.heap.get? b with
    | none => rfl
    | some o => exact absurd (hlt (b, o) (restOf_mem q hb hb)) (Nat.not_lt.mpr hle)
  have fd := free dx zd.2.1 (Nat.le_refl _)
  have fx := free x zx.2.1 (Nat.le_of_lt hdx)
  have hnone : ∀ b, s.heap.get? b = none → σ b = none ∧ X.base.get? b = none := fun b hn => by
    constructor
    · cases q : σ b with
      | none => rfl
      | some p => obtain ⟨o, ho⟩ := (R.rz b p q).there; rw [hn] at ho; cases ho
    · cases q : X.base.get? b with
      | none => rfl
      | some o => rw [R.base b o q] at hn; cases hn
  have R' : Real X ((σ.set dx (.obj emptyDict)).set x (.inst C dx)) { s with heap := h' } := by
    refine ⟨fun b p e => ?_, fun b o e => ?_, fun b p e => ?_, R.gens, R.os, R.tk⟩
    · by_cases hb : b = x
      · subst hb; rw [AH.set_self] at e; cases e; exact zx.1
      · rw [AH.set_ne _ _ hb] at e
        by_cases hb2 : b = dx
        · subst hb2; rw [AH.set_self] at e; cases e; exact zd.1
        · rw [AH.set_ne _ _ hb2] at e
          by_cases hbL' : b = L
          · subst hbL'; rw [hL] at e; cases e; exact ⟨m', F'.ns, em⟩
          · exact (R.rz b p e).keep fun o ho => hkO b o ho hbL'
    · exact hkO b o (R.base b o e) (fun z => by rw [z, hbL] at e; cases e)
    · by_cases hb : b = x
      · subst hb; exact (hnone b fx).2
      · rw [AH.set_ne _ _ hb] at e
        by_cases hb2 : b = dx
        · subst hb2; exact (hnone b fd).2
        · rw [AH.set_ne _ _ hb2] at e; exact R.apart b p e
  have S' : Step σ s ((σ.set dx (.obj emptyDict)).set x (.inst C dx)) { s with heap := h' } := by
    refine ⟨fun b o hσ e => hkO b o e (fun z => by rw [z, hL] at hσ; cases hσ), fun b p e => ?_, fun _ _ => rfl, Nat.le_refl _⟩
    by_cases hb : b = x
    · subst hb; exact .inr fx
    · rw [AH.set_ne _ _ hb] at e
      by_cases hb2 : b = dx
      · subst hb2; exact .inr fd
      · rw [AH.set_ne _ _ hb2] at e; exact .inl ⟨p, e⟩
  refine codeAny_mono (h (A.under (.builtin "type.__call__" ⟨[.ref C], []⟩)) ?_ x dx (hnone x fx).1 (hnone dx fd).1 (hnone x fx).2 (hnone dx fd).2 (Nat.ne_of_gt hdx) _ R') fun r s' ⟨v, σ', e, R₂, S₂, ev, q⟩ => ?_
  · exact r.make C
  · subst e
    exact ⟨pv_none ev, σ', R₂, S'.trans S₂, q⟩
end
end Mine
end

section
open PySem PySem.W PyProof.Rows Builtin Builtin.Str
set_option maxRecDepth 100000
namespace Mine

section
variable {X : Cx} {A : Around} {env : Env} {σ : AH} {K : Frag} {C : Addr}
theorem setItemI {x l : Addr} {src : Src} {dV : Value} {k v : Value} {P : Unit → AH → Prop} (hK : K.In X.base) (c : Cl K C) (me : Me X K C (Str.ofString "__setitem__") src dV) (I : Ins σ x C l)
    (h : CV X A (.ref me.f) [.ref x, pv k, pv v] σ fun _ σ' => P () σ') : WP X A (setItem (.ref x) k v) σ P := WP.of fun s R => by
  have X' : K.In s.heap := fun a o e => R.base a o (hK a o e)
  obtain ⟨dx, hs, tk, I'⟩ := I.at R
  unfold setItem sequenceKey
  refine wpAny_holding (wpAny_bind (wpAny_bind (I'.type.here ?_)))
  refine wpAny_bind ((anyM_none X' c.ns).here ?_)
  rw [if_pos (show (!false) = true from rfl)]
  refine wpAny_pure (wpAny_bind (special_fn X' I' me.find me.ty (WP.go (h [.ref x, k, v] rfl) R (Step.refl σ s) fun _ σ₁ s₁ R₁ S₁ q => ?_)))
  exact wpAny_pure ⟨σ₁, R₁, S₁, q⟩
theorem delItemI {x l : Addr} {src : Src} {dV : Value} {k : Value} {P : Unit → AH → Prop} (hK : K.In X.base) (c : Cl K C) (me : Me X K C (Str.ofString "__delitem__") src dV) (I : Ins σ x C l)
    (h : CV X A (.ref me.f) [.ref x, pv k] σ fun _ σ' => P () σ') : WP X A (delItem (.ref x) k) σ P := WP.of fun s R => by
  have X' : K.In s.heap := fun a o e => R.base a o (hK a o e)
  obtain ⟨dx, hs, tk, I'⟩ := I.at R
  unfold delItem sequenceKey
  refine wpAny_holding (wpAny_bind (wpAny_bind (I'.type.here ?_)))
  refine wpAny_bind ((anyM_none X' c.ns).here ?_)
  rw [if_pos (show (!false) = true from rfl)]
  refine wpAny_pure (wpAny_bind (special_fn X' I' me.find me.ty (WP.go (h [.ref x, k] rfl) R (Step.refl σ s) fun _ σ₁ s₁ R₁ S₁ q => ?_)))
  exact wpAny_pure ⟨σ₁, R₁, S₁, q⟩

theorem EX.setItemI {o i value : Expr} {ip pos : Pos} {src : Src} {dV : Value} {Q : PF → AH → Prop} (hK : K.In X.base) (c : Cl K C) (me : Me X K C (Str.ofString "__setitem__") src dV)
    (h : EV X A env value σ fun p σ₁ => EV X A env o σ₁ fun q σ₂ => EV X A env i σ₂ fun r σ₃ => ∃ x l, q = .ref x ∧ Ins σ₃ x C l ∧ CV X A (.ref me.f) [.ref x, r, p] σ₃ fun _ σ₄ => Q .next σ₄)
    (hs : swapsWith value (some (.Subscript o i ip)) pos.line env = pure false := by rfl) :
    EX X A env (.Assign [.Subscript o i ip] value pos) σ Q :=
  WP.of fun s R => wpAny_Assign_Subscript (h.go R (Step.refl σ s) fun v σ₁ s₁ R₁ S₁ h₁ => WP.go h₁ R₁ S₁ fun u σ₂ s₂ R₂ S₂ h₂ => WP.go h₂ R₂ S₂ fun w σ₃ s₃ R₃ S₃ ⟨x, l, e, I, q⟩ => by
    rw [pv_ref e]
    exact WP.go (Mine.setItemI (P := fun _ σ' => Q .next σ') hK c me I q) R₃ S₃ fun _ σ₄ s₄ R₄ S₄ q => ⟨σ₄, R₄, S₄, q⟩) hs
theorem EX.delItemI {o i : Expr} {ip pos : Pos} {src : Src} {dV : Value} {Q : PF → AH → Prop} (hK : K.In X.base) (c : Cl K C) (me : Me X K C (Str.ofString "__delitem__") src dV)
    (h : EV X A env o σ fun q σ₂ => EV X A env i σ₂ fun r σ₃ => ∃ x l, q = .ref x ∧ Ins σ₃ x C l ∧ CV X A (.ref me.f) [.ref x, r] σ₃ fun _ σ₄ => Q .next σ₄) :
    EX X A env (.Delete [.Subscript o i ip] pos) σ Q := WP.of fun s R => by
  refine wpAny_Delete (wpAny_deleteEach_cons ?_)
  rw [arm_delete_Subscript]
  refine wpAny_bind (h.go R (Step.refl σ s) fun u σ₂ s₂ R₂ S₂ h₂ => wpAny_bind (wpAny_holding (WP.go h₂ R₂ S₂ fun w σ₃ s₃ R₃ S₃ ⟨x, l, e, I, q⟩ => wpAny_bind (wpAny_standAt ?_))))
  rw [pv_ref e]
  refine wpAny_bind (wpAny_holding (WP.go (Mine.delItemI (P := fun _ σ' => Q .next σ') hK c me I q) R₃ S₃ fun _ σ₄ s₄ R₄ S₄ q => ?_))
  exact wpAny_release (wpAny_deleteEach_nil ⟨σ₄, R₄, S₄, q⟩)

/-- the list's item, put anew -/

theorem setItem_plain {prog : Program} {w : World} {A : Around} {E : Value → Shared → Prop} {s : Shared} {l : Addr} {items : Array Value} {k : Int} {t : Tok} {v : Value} {Q : Unit → Shared → Prop} (hp : s.heap.PlainList l items)
    (h0 : 0 ≤ k) (hfit : k < 2 ^ 63) (hn : k < items.size)
    (hQ : ∀ h', h'.PlainList l (items.setIfInBounds k.toNat v) → Heap.SameBut l s.heap h' → Q () { s with heap := h' }) :
    wpAny (model prog w) A (setItem (.ref l) (.int k t) v) Q E s := by
  obtain ⟨n, ho⟩ := hp
  have hT : s.TypeIs (.ref l) "list" := ⟨_, ho, rfl⟩
  unfold setItem
  refine wpAny_holding (wpAny_bind (wpAny_sequenceKey hT (by decide) ?_))
  refine wpAny_bind (wpAny_callSpecial?_slot (name := Str.ofString "__setitem__") hT PySem.slot_list_setitem
    (wpAny_call_entry PySem.slot_list_setitem hT PySem.entry_list_setitem ?_ (PySem.args_list_setitem _ _ _)))
  show wpAny _ _ (Builtin.List.listSubscript? (.int k t) >>= _) _ _ s
  refine wpAny_bind (wpAny_listSubscript_int (fitsIndex_of h0 hfit) ?_)
  clear hfit
  obtain ⟨j, rfl⟩ := Int.eq_ofNat_of_zero_le h0
  have hj : j < items.size := by omega
  have hx' : items[j]? = some items[j] := Array.getElem?_eq_getElem hj
  show wpAny _ _ ((seqItemAt l j >>= fun r => pure (r.map (j, ·))) >>= _) _ _ s
  refine wpAny_bind (wpAny_bind (wpAny_seqItemAt ho rfl (wpAny_pure ?_)))
  rw [hx']
  show wpAny _ _ (setSeqItemAt l j v >>= _) _ _ s
  have hfin : (s.heap.update l (Obj.mapSeq (·.setIfInBounds j v))).PlainList l (items.setIfInBounds j v) :=
    ⟨_, (Heap.get?_update_self _ ho (by rfl)).trans rfl⟩
  refine wpAny_bind (wpAny_setSeqItemAt ho rfl ?_)
  first
    | exact wpAny_bind (wpAny_pure (wpAny_pure ⟨.none, rfl, wpAny_pure (hQ _ hfin (Heap.SameBut.update ..))⟩))
    | exact wpAny_pure ⟨.none, rfl, wpAny_pure (hQ _ hfin (Heap.SameBut.update ..))⟩
theorem setItemL {l : Addr} {vs : List PV} {k : Nat} {p : PV} {kv v : Value} {P : Unit → AH → Prop} (hl : σ l = some (.list vs)) (ek : pv kv = .int k) (ev : pv v = p) (hk : k < vs.length) (hs : vs.length ≤ sizeLine)
    (h : P () (σ.set l (.list (vs.set k p)))) : WP X A (setItem (.ref l) kv v) σ P := WP.of fun s R => by
  obtain ⟨t, rfl⟩ := pv_int ek
  obtain ⟨items, hp, em⟩ := R.rz _ _ hl
  have hlen : vs.length = items.size := by rw [← em, List.length_map, Array.length_toList]
  refine setItem_plain hp (Int.natCast_nonneg _) (Int.lt_of_lt_of_le (Int.ofNat_lt.mpr hk) (Int.le_trans (Int.ofNat_le.mpr hs) (by decide))) (by omega) fun h' hp' hs' => ?_
  obtain ⟨R', S'⟩ := R.turn hl (h' := h') (tk := s.toks) (p := .list (vs.set k p)) (fun b o hb e => (hs'.2 b hb).trans e) ⟨_, hp', by rw [Array.toList_setIfInBounds, List.map_set, em, ev]; rfl⟩ R.tk
  exact ⟨_, R', S', h⟩
theorem EX.setItemL {o i value : Expr} {ip pos : Pos} {Q : PF → AH → Prop}
    (h : EV X A env value σ fun p σ₁ => EV X A env o σ₁ fun q σ₂ => EV X A env i σ₂ fun r σ₃ => ∃ (l : Addr) (vs : List PV) (k : Nat), q = .ref l ∧ r = .int k ∧ σ₃ l = some (.list vs) ∧ k < vs.length ∧ vs.length ≤ sizeLine ∧ Q .next (σ₃.set l (.list (vs.set k p))))
    (hs : swapsWith value (some (.Subscript o i ip)) pos.line env = pure false := by rfl) :
    EX X A env (.Assign [.Subscript o i ip] value pos) σ Q :=
  WP.of fun s R => wpAny_Assign_Subscript (h.go R (Step.refl σ s) fun v σ₁ s₁ R₁ S₁ h₁ => WP.go h₁ R₁ S₁ fun u σ₂ s₂ R₂ S₂ h₂ => WP.go h₂ R₂ S₂ fun w σ₃ s₃ R₃ S₃ ⟨l, vs, k, e, ek, hl, hk, hs, q⟩ => by
    rw [pv_ref e]
    exact WP.go (Mine.setItemL (P := fun _ σ' => Q .next σ') hl ek rfl hk hs q) R₃ S₃ fun _ σ₄ s₄ R₄ S₄ q => ⟨σ₄, R₄, S₄, q⟩) hs
end
end Mine
end

section
open PySem PySem.W PyProof.Rows Builtin Builtin.Str
namespace Mine

def setCells (σ : AH) : List (Str × Addr) → (Str → Option PV) → AH
  | [], _ => σ
  | (n, c) :: r, cm => (setCells σ r cm).set c (.cell (cm n))
theorem setCells_some {σ : AH} {b : Addr} {p : PO} : ∀ {cs : List (Str × Addr)} {cm : Str → Option PV}, setCells σ cs cm b = some p → σ b = some p ∨ ∃ n, (n, b) ∈ cs
  | [], _, h => .inl h
  | (n, c) :: r, cm, h => by
    by_cases hb : b = c
    · subst hb; exact .inr ⟨n, List.mem_cons_self ..⟩
    · rw [setCells, AH.set_ne _ _ hb] at h
      exact (setCells_some h).imp id fun ⟨n', hn⟩ => ⟨n', List.mem_cons_of_mem _ hn⟩
theorem Real.cells {X : Cx} {σ : AH} {s : Shared} (R : Real X σ s) {cm : Str → Option PV} : ∀ {cs : List (Str × Addr)}, (∀ n c, (n, c) ∈ cs → Rz s.heap c (.cell (cm n)) ∧ X.base.get? c = none) → Real X (setCells σ cs cm) s
  | [], _ => R
  | (n, c) :: r, h => (R.cells (cs := r) fun n' c' hm => h n' c' (List.mem_cons_of_mem _ hm)).put (h n c (List.mem_cons_self ..)).1 (h n c (List.mem_cons_self ..)).2

section
variable {X : Cx} {A : Around} {σ : AH} {Q : PV → AH → Prop}
theorem CC.defC {a : Addr} {o : Obj} {fd : FuncData} {body : List Stmt} {args : Args} {k : Nat} (O : X.Ok) (r : Rm A (k + 1)) (ho : X.base.get? a = some o) (hdata : o.data = .func fd)
    (hcd : X.base.CodeRec fd.code fd.qualname) (hbody : fd.body = .stmts body) (hclo : fd.closure = [])
    (hcs : ∀ L : Nat, ∀ p ∈ cellsFrom (L + 1) fd.scope.names [], (cellsFrom (L + 1) fd.scope.names []).lookup p.1 = some p.2)
    (hb : WP X A.in1 (bindArgs fd args) σ fun binds σ₁ => (∀ L : Nat, ∀ x ∈ binds, fd.scope.names.lookup x.1 = some .local ∨ (fd.scope.names.lookup x.1 = some .cell ∧ ((cellsFrom (L + 1) fd.scope.names []).lookup x.1).isSome = true)) ∧ ∀ L : Nat, (∀ b : Nat, L ≤ b → σ₁ b = none ∧ X.base.get? b = none) →
      Rm (A.deeper (callEnvC fd L a)) k → XS X (A.deeper (callEnvC fd L a)) (callEnvC fd L a) body (setCells (σ₁.set L (.ns fun x => (bindL (callEnvC fd L a).kindOf binds (fun _ => Option.none) x).map pv)) (cellsFrom (L + 1) fd.scope.names []) fun x => (bindC (callEnvC fd L a).kindOf binds (fun _ => Option.none) x).map pv) fun f σ₂ => Q (rt f) σ₂)
    (hco : fd.scope.isCoroutine = false := by rfl) (hgen : fd.scope.isGenerator = false := by rfl) (hk : fd.scope.kind = .function := by rfl) :
    CC X A (.ref a) args σ Q := by
  refine fun s R => codeAny_call_function r.depth (R.base _ _ ho) hdata hco hgen hbody (hcd.keeps R.base) ?_
  refine wpAny_mono (WP.go hb R (Step.refl σ s) (Q' := fun binds s₁ => wpAny _ _ _ _ _ s₁) fun binds σ₁ s₁ R₁ S₁ ⟨hloc, q⟩ => ?_) (fun _ _ x => x) fun _ _ x => x.elim
  rw [hclo]
  refine wpAny_mono (with_tk (Nat.le_refl s₁.toks) (Q := fun env s₂ => s₂.heap.NoLimit ∧ codeAny _ _ _ _ s₂) (wpAny_newFunctionEnv_cells hk (hloc s₁.heap.objs.size) fun env he s₂ x htk => ?_)) (fun _ _ x => x) fun _ _ x => x.elim
  subst he
  have hfr := fresh_from R₁
  refine ⟨(O.lim.keeps R₁.base).keeps x.toInCall.keep, ?_⟩
  refine codeAny_func ?_
  obtain ⟨h₂, tk₂, hs₂⟩ := x.toInCall.same
  have hkeep := x.toInCall.keep
  have hns : s₂.heap.Ns s₁.heap.objs.size _ := x.toInCall.ns
  have hcell := x.cell
  have habove := x.above
  generalize hL : s₁.heap.objs.size = L at hns hcell habove hfr ⊢
  have hfree : ∀ b, L ≤ b → σ₁ b = none ∧ X.base.get? b = none := fun b hb => ⟨(hfr b hb).1, (hfr b hb).2.1⟩
  have hcm : ∀ n c, (n, c) ∈ cellsFrom (L + 1) fd.scope.names [] → L < c ∧ s₂.heap.IsCell c (bindC (callEnvC fd L a).kindOf _ (fun _ => Option.none) n) := fun n c hm => ⟨habove n c hm, hcell n c (hcs L (n, c) hm)⟩
  have R₂ : Real X σ₁ s₂ := by
    rw [hs₂] at hkeep ⊢
    exact (R₁.grow (h' := h₂) (tk := tk₂) hkeep (by rw [hs₂] at htk; exact Nat.le_trans R₁.tk htk)).1
  have R₃ : Real X (σ₁.set L (.ns fun x => (bindL (callEnvC fd L a).kindOf binds (fun _ => Option.none) x).map pv)) s₂ := R₂.put ⟨_, hns, fun y => rfl⟩ (hfree L (Nat.le_refl _)).2
  have R₄ := R₃.cells (cm := fun x => (bindC (callEnvC fd L a).kindOf binds (fun _ => Option.none) x).map pv) (cs := cellsFrom (L + 1) fd.scope.names []) fun n c hm => by
    obtain ⟨h1, o, h2, h3⟩ := hcm n c hm
    exact ⟨⟨o, _, h2, h3, rfl⟩, (hfree c (Nat.le_of_lt h1)).2⟩
  have S₄ : Step σ₁ s₁ (setCells (σ₁.set L (.ns fun x => (bindL (callEnvC fd L a).kindOf binds (fun _ => Option.none) x).map pv)) (cellsFrom (L + 1) fd.scope.names []) fun x => (bindC (callEnvC fd L a).kindOf binds (fun _ => Option.none) x).map pv) s₂ := by
    refine ⟨fun b o _ e => hkeep b o e, fun b p e => ?_, fun i hi => by rw [hs₂], by rw [hs₂]; exact Nat.le_refl _⟩
    rcases setCells_some e with h | ⟨n, hn⟩
    · by_cases hb : b = L
      · subst hb; exact .inr (hfr b (Nat.le_refl _)).2.2
      · rw [AH.set_ne _ _ hb] at h; exact .inl ⟨p, h⟩
    · exact .inr (hfr b (Nat.le_of_lt (hcm n b hn).1)).2.2
  refine wpAny_mono (WP.go (h := q L hfree (r.deeper _)) (Q' := fun f s' => ∃ σ', Real X σ' s' ∧ Step σ s σ' s' ∧ Q (rt (pf f)) σ') R₄ (S₁.trans S₄) fun f σ₃ s₃ R₃ S₃ q => ⟨σ₃, R₃, S₃, q⟩) (fun f s' ⟨σ', R', S', q'⟩ => ?_) fun _ _ x => x.elim
  exact ⟨_, σ', rfl, R', S', by cases f <;> exact q'⟩
end
end Mine
end

section
open PySem PySem.W PyProof.Rows Builtin Builtin.Str
set_option maxRecDepth 100000
namespace Mine

namespace RF
theorem plainAttrs : PlainAttrs "re.Pattern" :=
  ⟨⟨"object.__getattribute__", by rw [typeLookup_type, builtinLookup_eq_fast]; kernel_rfl, by decide +kernel⟩, by rw [typeLookup_type, builtinLookup_eq_fast]; kernel_rfl⟩
theorem slot : Slot "re.Pattern" "search" "re.Pattern.search" :=
  .of (owner := "re.Pattern") (n := "search") (by rw [typeLookup_type, builtinLookup_eq_fast]; kernel_rfl) (by decide +kernel) (by decide +kernel) (by decide +kernel)
    (by first | exact .inl (by decide +kernel) | exact .inr (by decide +kernel)) (by rw [isSubtype_type]; kernel_rfl)
theorem ty : typeOf (.builtin "re.Pattern.search") = pure (.type "method_descriptor") := by show builtinType _ = _; rw [builtinType_eq_fast]; kernel_rfl
theorem entry : entryFor table "re.Pattern.search" = some Builtin.«re.Pattern.search» := entryFor_of_tree (by kernel_rfl)
theorem args (a b : Value) : argsOk "re.Pattern.search" ⟨[a, b], []⟩ := by unfold argsOk; kernel_rfl
end RF

def driveP : Nat → Sre.M → Option Sre.M
  | 0, _ => none
  | n + 1, m =>
    let m := m.runFor Builtin.Re.reTurnSteps
    if m.outcome.isSome then some m else driveP n m
def noHit (code : Array Nat) (x : Str) : Bool := match driveP 200 (Sre.forSearch code x.cps 0 (Min.min (Int.toNat 0) x.cps.size) (Min.min (2 ^ 63 - 1 : Int).toNat x.cps.size) false) with
  | some m => (match m.outcome with | some .failed => true | _ => false)
  | none => false

section
variable {M : Model} {A : Around} {s : Shared}
theorem drive_ok {Q : Sre.M → Shared → Prop} {m' : Sre.M} (h : Q m' s) : ∀ (k n : Nat) (m : Sre.M), k ≤ n → driveP k m = some m' → wpAny M A (Builtin.Re.reDrive n m) Q (fun _ _ => False) s
  | 0, _, _, _, e => by cases e
  | k + 1, 0, _, hk, _ => by omega
  | k + 1, n + 1, m, hk, e => by
    unfold driveP at e
    unfold Builtin.Re.reDrive
    dsimp only at e ⊢
    split at e
    · rename_i hc
      rw [if_pos hc]
      cases e
      exact wpAny_pure h
    · rename_i hc
      rw [if_neg hc]
      exact wpAny_bind (wpAny_rule (drive_ok h k n _ (Nat.le_of_succ_le_succ hk) e))
theorem rules_ok {Q : PUnit → Shared → Prop} (h : Q ⟨⟩ s) (f : Nat → PUnit → Sem (ForInStep PUnit)) (hf : ∀ i u, (∃ t, f i u = (do rule t; pure (.yield ⟨⟩))) ∨ f i u = pure (.yield ⟨⟩)) :
    ∀ l : List Nat, wpAny M A (forIn l PUnit.unit f) Q (fun _ _ => False) s
  | [] => by rw [List.forIn_nil]; exact wpAny_pure h
  | i :: r => by
    rw [List.forIn_cons]
    rcases hf i ⟨⟩ with ⟨t, e⟩ | e
    · rw [e]; exact wpAny_bind (wpAny_bind (wpAny_rule (wpAny_pure (rules_ok h f hf r))))
    · rw [e]; exact wpAny_bind (wpAny_pure (rules_ok h f hf r))
theorem runToEnd_fail {Q : Option Sre.M → Shared → Prop} {m m' : Sre.M} (e : driveP 200 m = some m') (hf : m'.outcome = some .failed) (h : Q none s) : wpAny M A (Builtin.Re.reRunToEnd m) Q (fun _ _ => False) s := by
  unfold Builtin.Re.reRunToEnd
  refine wpAny_bind (drive_ok (m' := m') ?_ 200 (2 ^ 64) m (by decide) e)
  refine wpAny_bind (rules_ok ?_ _ (fun i u => ?_) _)
  · rw [hf]; exact wpAny_pure h
  · split
    · exact .inl ⟨_, rfl⟩
    · exact .inr rfl
end

theorem wp_else {α : Type} {M : Model} {A : Around} {s : Shared} {c : Bool} {t e : Sem α} {Q : α → Shared → Prop} {E : Value → Shared → Prop} (h : wpAny M A e Q E s) (hc : c = false) : wpAny M A (if c = true then t else e) Q E s := by
  subst hc; exact h
/-- a pattern of the text's own -/
def patObj (src : Value) (cd : Addr) : Obj := { cls := .type "re.Pattern", data := .fields #[src, .int 32 0, .int 0 0, .none, .none, .ref cd, .int 0 0] }
structure Pat (X : Cx) (a : Addr) (code : Array Nat) : Prop where
  go : ∃ src fl cd vals n, X.base.get? a = some { cls := .type "re.Pattern", data := .fields #[src, fl, .int 0 0, .none, .none, .ref cd, .int 0 0] } ∧ X.base.get? cd = some { cls := .type "tuple", data := .seq vals n } ∧ ((vals.map Builtin.Re.reRawOf).map (·.toNat)) = code

section
variable {X : Cx} {A : Around} {σ : AH} {Q : PV → AH → Prop}
theorem GMB.search {a : Addr} {code : Array Nat} (P : Pat X a code) : GMB X A (.ref a) (Str.ofString "search") "re.Pattern.search" σ := fun v e pl s Q' R h => by
  rw [pv_ref e] at h ⊢
  obtain ⟨src, fl, cd, vals, n, h1, h2, h3⟩ := P.go
  have ho := R.base _ _ h1
  exact getMethod_builtin ⟨_, ho, rfl⟩ RF.plainAttrs RF.slot RF.ty (fun a ha => by cases ha; exact ⟨_, ho, rfl⟩) h
theorem CV.search {a : Addr} {code : Array Nat} {x : Str} (P : Pat X a code) (hn : noHit code x = true) (h : Q .none σ) : CV X A (.builtin "re.Pattern.search") [.ref a, .str x] σ Q := fun vals e => WP.of fun s R => by
  obtain ⟨v, u, rfl, ev, eu⟩ := map2 e
  obtain ⟨t, rfl⟩ := pv_str eu
  rw [pv_ref ev]
  obtain ⟨src, fl, cd, vals, n, h1, h2, h3⟩ := P.go
  subst h3
  have ho := R.base _ _ h1
  have hc := R.base _ _ h2
  refine wpAny_call (codeAny_call_builtin RF.slot.plain RF.entry (RF.slot.check _ _ _ _ _ _ _ _ ⟨_, ho, rfl⟩ (RF.args _ _) ?_))
  have hm : ∃ m', driveP 200 (Sre.forSearch ((vals.map Builtin.Re.reRawOf).map (·.toNat)) x.cps 0 (Min.min (Int.toNat 0) x.cps.size) (Min.min (2 ^ 63 - 1 : Int).toNat x.cps.size) false) = some m' ∧ m'.outcome = some .failed := by
    unfold noHit at hn
    cases hd : driveP 200 (Sre.forSearch ((vals.map Builtin.Re.reRawOf).map (·.toNat)) x.cps 0 (Min.min (Int.toNat 0) x.cps.size) (Min.min (2 ^ 63 - 1 : Int).toNat x.cps.size) false) with
    | none => rw [hd] at hn; cases hn
    | some m' =>
      rw [hd] at hn
      dsimp only at hn
      split at hn
      · rename_i hf; exact ⟨m', rfl, hf⟩
      · cases hn
  obtain ⟨m', hd, hf⟩ := hm
  unfold Builtin.«re.Pattern.search»
  refine wpAny_bind ?_
  have e1 : Builtin.Re.reNamed "re.Pattern.search" "search" ["string", "pos", "endpos"] 1 [.str x t] [] = pure [some (.str x t), none, none] := by kernel_rfl
  unfold Builtin.Re.reTarget
  dsimp only
  rw [e1]
  refine wpAny_bind (wpAny_pure ?_)
  dsimp only
  refine wpAny_bind (wpAny_pure ?_)
  refine wpAny_bind (wpAny_pure ?_)
  refine wpAny_bind (wpAny_fieldsOf ho rfl ?_)
  have e2 : Builtin.Re.reTextOf (.str x t) = pure (x.cps, 0) := by kernel_rfl
  rw [e2]
  refine wpAny_bind (wpAny_pure ?_)
  dsimp only
  refine wp_else ?_ (by rfl)
  refine wp_else ?_ (by rfl)
  refine wpAny_bind (m := Builtin.Re.reNoCollectionInside (.str x t) 0) (wpAny_pure ?_)
  refine wpAny_bind (wpAny_bind (wpAny_seqItems hc rfl (wpAny_pure ?_)))
  refine wpAny_pure ?_
  unfold Builtin.Re.reAnswer
  refine wpAny_bind ?_
  show wpAny _ A.in1 (Builtin.Re.reRunToEnd (Sre.forSearch ((vals.map Builtin.Re.reRawOf).map (·.toNat)) x.cps 0 (Min.min (Int.toNat 0) x.cps.size) (Min.min (2 ^ 63 - 1 : Int).toNat x.cps.size) false)) _ _ _
  have hgo := fun (Q₀ : Option Sre.M → Shared → Prop) (h₀ : Q₀ none s) => runToEnd_fail (M := model X.prog X.w) (A := A.in1) (Q := Q₀) hd hf h₀
  exact wpAny_mono (hgo _ (wpAny_pure ⟨σ, R, Step.refl σ s, h⟩)) (fun _ _ x => x) fun _ _ (x : False) => x.elim
end
end Mine
end

section
open PySem PySem.W PyProof.Rows Builtin Builtin.Str
set_option maxRecDepth 100000
namespace Mine

inductive All2 {α β : Type} (R : α → β → Prop) : List α → List β → Prop
  | nil : All2 R [] []
  | cons {a b as bs} : R a b → All2 R as bs → All2 R (a :: as) (b :: bs)
theorem All2.map {α β γ : Type} {R : α → β → Prop} {f : γ → α} {g : γ → β} (h : ∀ c, R (f c) (g c)) : ∀ l : List γ, All2 R (l.map f) (l.map g)
  | [] => .nil
  | c :: r => .cons (h c) (All2.map h r)

def Rd (X : Cx) (σ : AH) (p : PV) (d : PyData) : Prop := ∀ s, Real X σ s → ∀ v, pv v = p → ∃ as, Reads s.heap v d as
section
variable {X : Cx} {A : Around} {σ : AH} {Q : PV → AH → Prop}
theorem Rd.int (i : Int) : Rd X σ (.int i) (.int i) := fun s R v e => by obtain ⟨t, rfl⟩ := pv_int e; exact ⟨_, .int i t⟩
theorem Rd.str (i : PySem.Str) : Rd X σ (.str i) (.str i) := fun s R v e => by obtain ⟨t, rfl⟩ := pv_str e; exact ⟨_, .str i t⟩
theorem rd_all {s : Shared} (R : Real X σ s) : ∀ {vs : List PV} {ds : List PyData} {items : List Value}, All2 (Rd X σ) vs ds → items.map pv = vs → ∃ as, ReadsAll s.heap items ds as
  | [], [], items, _, e => by
    have : items = [] := by simpa using e
    subst this; exact ⟨_, .nil⟩
  | v :: vs, d :: ds, items, .cons h r, e => by
    match items, e with
    | i :: is, e =>
      simp only [List.map_cons, List.cons.injEq] at e
      obtain ⟨as, h1⟩ := h s R i e.1
      obtain ⟨bs, h2⟩ := rd_all R r e.2
      exact ⟨_, .cons h1 h2⟩
    | [], e => simp at e
theorem Rd.list {l : Addr} {vs : List PV} {ds : List PyData} (hl : σ l = some (.list vs)) (h : All2 (Rd X σ) vs ds) : Rd X σ (.ref l) (.list ds) := fun s R v e => by
  rw [pv_ref e]
  obtain ⟨items, ⟨n, hp⟩, em⟩ := R.rz _ _ hl
  obtain ⟨as, h1⟩ := rd_all R h em
  exact ⟨_, .list hp rfl rfl h1⟩
theorem Rd.ints {l : Addr} {ns : List Int} (hl : σ l = some (.list (ns.map PV.int))) : Rd X σ (.ref l) (.list (ns.map PyData.int)) := Rd.list hl (All2.map (fun i => Rd.int i) ns)
theorem Rd.strs {l : Addr} {ns : List PySem.Str} (hl : σ l = some (.list (ns.map PV.str))) : Rd X σ (.ref l) (.list (ns.map PyData.str)) := Rd.list hl (All2.map (fun i => Rd.str i) ns)
theorem CMP.eqD {a b : PV} {da db : PyData} {k : Nat} (r : Rm A k) (ha : Rd X σ a da) (hb : Rd X σ b db) (sa : SeqAt.shaped da = true) (sb : SeqAt.shaped db = true) (h : Q (.bool (PyData.eqv da db)) σ) : CMP X A .Eq a b σ Q := fun va vb ea eb => WP.of fun s R => by
  obtain ⟨as, h1⟩ := ha s R va ea
  obtain ⟨bs, h2⟩ := hb s R vb eb
  exact SeqAt.compareEq_shaped h1 h2 sa sb (by have := r.u; show A.units + 64 < 9900; omega) ⟨σ, R, Step.refl σ s, h⟩
theorem CMP.neD {a b : PV} {da db : PyData} {k : Nat} (r : Rm A k) (ha : Rd X σ a da) (hb : Rd X σ b db) (sa : SeqAt.shaped da = true) (sb : SeqAt.shaped db = true) (h : Q (.bool (!PyData.eqv da db)) σ) : CMP X A .NotEq a b σ Q := fun va vb ea eb => WP.of fun s R => by
  obtain ⟨as, h1⟩ := ha s R va ea
  obtain ⟨bs, h2⟩ := hb s R vb eb
  exact SeqAt.compareNe_shaped h1 h2 sa sb (by have := r.u; show A.units + 64 < 9900; omega) ⟨σ, R, Step.refl σ s, h⟩

def eqInt (k : Int) : Value → Bool
  | .int i _ => i == k
  | _ => false
theorem CMP.inInts {l : Addr} {ns : List Int} {k : Int} (hl : σ l = some (.list (ns.map PV.int))) (h : Q (.bool (ns.any (· == k))) σ) : CMP X A .In (.int k) (.ref l) σ Q := fun va vb ea eb => WP.of fun s R => by
  obtain ⟨t, rfl⟩ := pv_int ea
  rw [pv_ref eb]
  obtain ⟨items, hp, em⟩ := R.rz _ _ hl
  have hany : ∀ {its : List Value} {ms : List Int}, its.map pv = ms.map PV.int → (its.any (eqInt k) = ms.any (· == k)) ∧ ∀ y ∈ its, ∃ i u, y = .int i u := by
    intro its
    induction its with
    | nil => intro ms e; cases ms with
      | nil => exact ⟨rfl, fun _ h => nomatch h⟩
      | cons _ _ => simp at e
    | cons y ys ih => intro ms e; cases ms with
      | nil => simp at e
      | cons m ms =>
        simp only [List.map_cons, List.cons.injEq] at e
        obtain ⟨u, rfl⟩ := pv_int e.1
        obtain ⟨h1, h2⟩ := ih e.2
        refine ⟨by simp [eqInt, h1], fun y hy => ?_⟩
        rcases List.mem_cons.mp hy with rfl | hy
        · exact ⟨_, _, rfl⟩
        · exact h2 y hy
  obtain ⟨h1, h2⟩ := hany em
  refine SeqInW.in_listW (eqInt k) (fun y hy => ?_) hp.isList ?_
  · obtain ⟨i, u, rfl⟩ := h2 y (by simpa using hy)
    exact MeetsSeq.EqGives.int i k u t
  · have : items.any (eqInt k) = ns.any (· == k) := by rw [← h1]; simp
    rw [this]; exact ⟨σ, R, Step.refl σ s, h⟩

theorem TRU.none {Q : Bool → AH → Prop} (h : Q false σ) : TRU X A .none σ Q := fun va e => WP.of fun s R => by
  rw [pv_none e]; exact PyProof.Rows.truthy_none ⟨σ, R, Step.refl σ s, h⟩

theorem BIN.floordiv {i j : Int} (hj : j ≠ 0) (hs : j.natAbs < 1073741824) (h : Q (.int (i.fdiv j)) σ) : BIN X A .FloorDiv (.int i) (.int j) σ Q := fun va vb ea eb => WP.of fun s R => by
  obtain ⟨t, rfl⟩ := pv_int ea; obtain ⟨u, rfl⟩ := pv_int eb
  exact AutoIntOps.floordiv_1 (by simpa using hj) (by rw [PyProof.noPylong_small hs]; exact Bool.false_ne_true) ⟨σ, R.tick _, Step.toks σ s _, h⟩
theorem BIN.pow {i : Int} {n : Nat} (h1 : 2 ≤ i) (hb : Builtin.Int.intTooBig (((Builtin.Int.intBits i : Nat) : Int) * n) = false) (h : Q (.int (i ^ n)) σ) : BIN X A .Pow (.int i) (.int n) σ Q := fun va vb ea eb => WP.of fun s R => by
  obtain ⟨t, rfl⟩ := pv_int ea; obtain ⟨u, rfl⟩ := pv_int eb
  cases n with
  | zero => exact AutoIntOps.pow_0 (Int.le_refl _) rfl ⟨σ, R.tick _, Step.toks σ s _, by simpa [pv] using h⟩
  | succ m => exact AutoIntOps.pow_4 (Int.natCast_nonneg _) (by simp; omega) (by simp; omega) (by simp; omega) (by rw [hb]; exact Bool.false_ne_true) ⟨σ, R.tick _, Step.toks σ s _, h⟩
theorem rep_size : ∀ (n : Nat) (acc c : Array Nat), (List.foldl (fun x1 x2 => x1 ++ x2) acc (List.replicate n c)).size = acc.size + n * c.size
  | 0, acc, c => by simp
  | n + 1, acc, c => by rw [List.replicate_succ, List.foldl_cons, rep_size n]; simp; rw [Nat.succ_mul]; omega
/-- a text, n times -/
def times (x : PySem.Str) (n : Int) : PySem.Str := ⟨(List.replicate n.toNat x.cps).foldl (· ++ ·) #[]⟩
theorem BIN.mulStr {x : PySem.Str} {n : Int} (h0 : x.length = 1) (hn : n ≤ 1000) (hl : -1000 ≤ n) (h : Q (.str (times x n)) σ) : BIN X A .Mult (.str x) (.int n) σ Q := fun va vb ea eb => WP.of fun s R => by
  obtain ⟨t, rfl⟩ := pv_str ea; obtain ⟨u, rfl⟩ := pv_int eb
  refine P.mul_str (by simp; omega) (fun h1 h2 => ?_) (fun h1 h2 => ?_) ?_
  · rw [h0]
    have : (1 : Int) ≤ (2 ^ 63 - 1) / n := by
      rw [Int.le_ediv_iff_mul_le (by omega)]; omega
    omega
  · rw [h0]; unfold tooLong sizeLine; simp; omega
  · by_cases h1 : n < 1
    · rw [if_pos h1]
      have e : times x n = PySem.Str.empty := by
        unfold times
        have : n.toNat = 0 := by omega
        rw [this]; rfl
      rw [e] at h
      exact ⟨by show 0 ≤ sizeLine; decide, σ, R.tick _, Step.toks σ s _, h⟩
    · rw [if_neg h1]
      by_cases h2 : (n == 1 || x.length == 0) = true
      · rw [if_pos h2]
        have hn1 : n = 1 := by simpa [h0] using h2
        have e : times x n = x := by
          unfold times
          rw [hn1]
          cases x with | mk c => simp
        rw [e] at h
        exact ⟨σ, R, Step.refl σ s, h⟩
      · rw [if_neg h2]
        refine ⟨?_, σ, R.tick _, Step.toks σ s _, h⟩
        show (List.foldl (fun x1 x2 => x1 ++ x2) #[] (List.replicate n.toNat x.cps)).size ≤ sizeLine
        rw [rep_size]
        have : x.cps.size = 1 := h0
        rw [this]; unfold sizeLine; simp; omega
end
end Mine
end

section
open PySem PySem.W PyProof.Rows Builtin Builtin.Str
set_option maxRecDepth 100000
namespace Mine

def dq : Str := Str.ofString "\""
def stripGo (x : Str) : List (Nat × List Nat) → Nat → Option Nat → List Str → Option (Nat × List Str)
  | [], st, _, res => some (st, res)
  | (p, c) :: r, st, op, res =>
    if (⟨c.toArray⟩ : Str) = dq then
      match op with
      | none => stripGo x r st (some p) res
      | some o => if st ≤ o ∧ o ≤ x.length then stripGo x r (p + 1) none (if st = o then res else res ++ [cut x st o]) else none
    else stripGo x r st op res
def stripP (x : Str) : Option Str :=
  if 1000 < x.length then none else
  if Txt.contains x dq = false then some x else
  if escEnd x.cps.toList false then none else
  match stripGo x (esc x.cps.toList 0 false) 0 none [] with
  | none => none
  | some (st, res) =>
    let l := if st < x.length then res ++ [cut x st x.length] else res
    if JoinOk (Str.ofString "") l = true then some (Txt.join (Str.ofString "") l) else none
theorem esc_len : ∀ (l : List Nat) (p : Nat) (f : Bool), (esc l p f).length ≤ l.length
  | [], _, _ => Nat.le_refl _
  | c :: r, p, true => Nat.succ_le_succ (esc_len r (p + 1) false)
  | c :: r, p, false => by
    unfold esc
    split
    · exact Nat.le_succ_of_le (esc_len r (p + 1) true)
    · exact Nat.succ_le_succ (esc_len r (p + 1) false)

/-- what is known of the text's own top: the reading of brackets -/
structure KnC (X : Cx) where
  ok : X.Ok
  aE : Addr
  mE : FM
  fE : Fn X aE escSrc mE
  gE : X.mg (Str.ofString "_iter_escaped_chars") = some (.ref aE)
  aS : Addr
  mS : FM
  fS : Fn X aS stripSrc mS
  gS : X.mg (Str.ofString "_strip_quoted_realnames") = some (.ref aS)
  aC : Addr
  mC : FM
  fC : Fn X aC checkSrc mC
  gC : X.mg (Str.ofString "_check_parenthesis") = some (.ref aC)
  nEnum : X.mg (Str.ofString "enumerate") = none
  bEnum : X.mb (Str.ofString "enumerate") = some (.type "enumerate")
  nLen : X.mg (Str.ofString "len") = none
  bLen : X.mb (Str.ofString "len") = some (.builtin "len")

def opP : Option Nat → PV
  | none => .none
  | some o => .int o

section
variable {X : Cx} {A : Around} {σ : AH} {Q : PV → AH → Prop}
theorem AH.le_setN {σ τ : AH} (h : σ.le τ) {a : Addr} {p : PO} (ha : σ a = none) : σ.le (τ.set a p) := fun b q e => by
  rw [AH.set_ne _ _ (fun z => by rw [z, ha] at e; cases e)]; exact h b q e

theorem ST.up {env : Env} {x : Str} {p : PV} {L : Addr} {m : Str → Option PV} {Q : AH → Prop} (h : Q (σ.set L (.ns (upd m x p)))) (hL : env.locals = L := by rfl)
    (hl : env.kindOf x = some .local := by rfl) (hp : (env.scope.kind == .class || (env.scope.kind == .module && env.locals != env.globals)) = false := by rfl) : ST X A env x p (σ.set L (.ns m)) Q := by
  subst hL
  exact ST.loc (AH.set_self ..) (by rw [AH.set_set]; exact h) hl hp
theorem ST.at {env : Env} {x : Str} {p : PV} {L : Addr} {m : Str → Option PV} {Q : AH → Prop} (hm : σ L = some (.ns m)) (h : Q (σ.set L (.ns (upd m x p)))) (hL : env.locals = L := by rfl)
    (hl : env.kindOf x = some .local := by rfl) (hp : (env.scope.kind == .class || (env.scope.kind == .module && env.locals != env.globals)) = false := by rfl) : ST X A env x p σ Q := by
  subst hL
  exact ST.loc hm h hl hp

theorem CV.strip (k : KnC X) {n : Nat} (r : Rm A (n + 2)) {x y : Str} (hs : stripP x = some y) (hQ : ∀ σ', σ.le σ' → Q (.str y) σ') : CV X A (.ref k.aS) [.str x] σ Q := by
  intro vals e
  obtain ⟨v, rfl, ev⟩ := map1 e
  obtain ⟨t, rfl⟩ := pv_str ev
  obtain ⟨⟨o, ho, hd⟩, hc⟩ := k.fS
  unfold stripP at hs
  by_cases h1000 : 1000 < x.length
  · rw [if_pos h1000] at hs; cases hs
  rw [if_neg h1000] at hs
  have hxs : x.length ≤ sizeLine := Nat.le_trans (Nat.not_lt.mp h1000) (by decide)
  refine CC.wv (args := ⟨[.str x t], []⟩) (CC.def k.ok r ho hd hc rfl (bind_eq (binds := [(Str.ofString "addr", .str x t)]) (by rfl) ⟨by intro y hy; rw [List.mem_singleton.mp hy]; rfl, fun L hL rL => ?_⟩) (by show ∀ x ∈ stripSrc.scope.names, x.2 ≠ .cell; decide +kernel))
  have hσL : σ L = none := (hL L (Nat.le_refl _)).1
  have hbL : X.base.get? L = none := (hL L (Nat.le_refl _)).2
  refine XS.cons (EX.if (TS.cmp (EV.str (EV.loc (AH.set_self ..) (by rfl) (CMP.notin_s ⟨_, rfl, ?_⟩)))))
  refine ⟨fun hc => ?_, fun hc => ?_⟩
  · refine XS.cons (EX.ret (EV.loc (AH.set_self ..) (by rfl) ?_))
    have hcon : Txt.contains x dq = false := by
      have h2 : (!Txt.contains x (Str.ofString "\"")) = true := hc
      show Txt.contains x (Str.ofString "\"") = false
      simpa using h2
    rw [if_pos hcon] at hs
    cases hs
    exact hQ _ (AH.le_setN (AH.le_refl _) hσL)
  · have hcon : ¬ Txt.contains x dq = false := by
      intro z
      rw [show Txt.contains x (Str.ofString "\"") = false from z] at hc
      cases hc
    rw [if_neg hcon] at hs
    refine XS.nil ?_
    by_cases hend : escEnd x.cps.toList false = true
    · rw [if_pos hend] at hs; cases hs
    rw [if_neg hend] at hs
    cases hgo : stripGo x (esc x.cps.toList 0 false) 0 none [] with
    | none => rw [hgo] at hs; cases hs
    | some fin =>
      rw [hgo] at hs
      dsimp only at hs
      refine XS.cons (EX.assign (EV.int (ST.up ?_)))
      refine XS.cons (EX.assign (EV.noneC (ST.up ?_)))
      refine XS.cons (EX.assign (EV.list ⟨Nat.zero_le _, fun D hD hDb => ?_⟩))
      have hDL : D ≠ L := fun z => by rw [z, AH.set_self] at hD; cases hD
      have hσD : σ D = none := by rw [AH.set_ne _ _ hDL] at hD; exact hD
      refine ST.at (by rw [AH.set_ne _ _ (Ne.symm hDL), AH.set_self]) ?_
      refine XS.cons (EX.forEsc k.ok rL k.nEnum k.bEnum k.gE k.fE (EV.loc (AH.set_self ..) (by rfl) ⟨x, fun i σ' => ∃ m st op res, σ.le σ' ∧ σ' L = some (.ns m) ∧ σ' D = some (.list (res.map PV.str)) ∧ m (Str.ofString "addr") = some (.str x) ∧ m (Str.ofString "result") = some (.ref D) ∧
          m (Str.ofString "start") = some (.int (st : Nat)) ∧ m (Str.ofString "open_pos") = some (opP op) ∧ res.length ≤ i ∧ stripGo x ((esc x.cps.toList 0 false).drop i) st op res = some fin, rfl, by simpa using hend, ?_, ?_, ?_⟩))
      · exact ⟨_, 0, none, [], AH.le_setN (AH.le_setN (AH.le_setN (AH.le_refl _) hσL) hσD) hσL, AH.set_self .., by rw [AH.set_ne _ _ hDL, AH.set_self]; rfl, rfl, rfl, rfl, rfl, Nat.zero_le _, hgo⟩
      · rintro i hi σ' T ⟨m, st, op, res, hle, hmL, hmD, h1, h2, h3, h4, hlen, hgo'⟩ hT hTb
        generalize hit : (esc x.cps.toList 0 false)[i] = it at *
        obtain ⟨p, c⟩ := it
        have hdrop : (esc x.cps.toList 0 false).drop i = (p, c) :: (esc x.cps.toList 0 false).drop (i + 1) := by rw [List.drop_eq_getElem_cons hi, hit]
        rw [hdrop] at hgo'
        have hTL : T ≠ L := fun z => by rw [z, hmL] at hT; cases hT
        have hTD : T ≠ D := fun z => by rw [z, hmD] at hT; cases hT
        refine ASG.tup2 rL.hh (AH.set_self ..) (ST.at (by rw [AH.set_ne _ _ (Ne.symm hTL)]; exact hmL) (ST.up ?_))
        generalize hτ : σ'.set T (.tuple [.int (p : Nat), .str ⟨c.toArray⟩]) = τ
        have hστ : σ.le τ := by rw [← hτ]; exact AH.le_setN hle (by cases q : σ T with | none => rfl | some z => rw [hle T z q] at hT; cases hT)
        have hτD : τ D = some (.list (res.map PV.str)) := by rw [← hτ, AH.set_ne _ _ (Ne.symm hTD)]; exact hmD
        generalize hm2 : upd (upd m (Str.ofString "pos") (.int (p : Nat))) (Str.ofString "ch") (.str ⟨c.toArray⟩) = m2
        have g1 : m2 (Str.ofString "addr") = some (.str x) := by rw [← hm2]; exact h1
        have g2 : m2 (Str.ofString "result") = some (.ref D) := by rw [← hm2]; exact h2
        have g3 : m2 (Str.ofString "start") = some (.int (st : Nat)) := by rw [← hm2]; exact h3
        have g4 : m2 (Str.ofString "open_pos") = some (opP op) := by rw [← hm2]; exact h4
        have g5 : m2 (Str.ofString "pos") = some (.int (p : Nat)) := by rw [← hm2]; rfl
        have g6 : m2 (Str.ofString "ch") = some (.str ⟨c.toArray⟩) := by rw [← hm2]; rfl
        clear hm2 h1 h2 h3 h4 hmL hmD hτ
        have hLs : (τ.set L (.ns m2)) L = some (.ns m2) := AH.set_self ..
        have hDs : (τ.set L (.ns m2)) D = some (.list (res.map PV.str)) := by rw [AH.set_ne _ _ hDL]; exact hτD
        unfold stripGo at hgo'
        refine XS.cons (EX.if (TS.cmp (EV.loc hLs g6 (EV.str (CMP.eq_s ⟨_, rfl, fun hc => ?_, fun hc => ?_⟩)))))
        · have hcd : (⟨c.toArray⟩ : Str) = dq := of_decide_eq_true hc
          rw [if_pos hcd] at hgo'
          refine XS.cons (EX.if (TS.cmp (EV.loc hLs g4 (EV.noneC (CMP.is_none ⟨_, rfl, fun ho => ?_, fun ho => ?_⟩)))))
          · cases op with
            | some o => simp [opP] at ho
            | none =>
              dsimp only at hgo'
              refine XS.cons (EX.assign (EV.loc hLs g5 (ST.up ?_)))
              refine XS.nil (XS.nil (XS.nil ?_))
              exact ⟨_, st, some p, res, AH.le_setN hστ hσL, AH.set_self .., by rw [AH.set_ne _ _ hDL]; exact hτD, g1, g2, g3, rfl, Nat.le_succ_of_le hlen, hgo'⟩
          · cases op with
            | none => simp [opP] at ho
            | some o =>
              dsimp only at hgo'
              by_cases hb : st ≤ o ∧ o ≤ x.length
              · rw [if_pos hb] at hgo'
                refine XS.cons (EX.if (TS.cmp (EV.loc hLs g3 (EV.loc hLs g4 (CMP.ne_i ⟨_, rfl, fun hn => ?_, fun hn => ?_⟩)))))
                · have hne : ¬ st = o := by
                    have : ((st : Int) != (o : Int)) = true := hn
                    simp at this; omega
                  rw [if_neg hne] at hgo'
                  refine XS.cons (EX.expr (EV.methBi (EV.loc hLs g2 ⟨GMB.append hDs, EV.sliceStr (EV.loc hLs g1 (EV.loc hLs g3 (EV.loc hLs g4 ⟨x, st, o, rfl, rfl, rfl, hxs, hb.1, hb.2, ?_⟩)))⟩)))
                  refine CV.append hDs (by simp; have := esc_len x.cps.toList 0 false; simp at this; have : res.length ≤ x.cps.size := by omega
                                           exact Nat.le_trans this hxs) ⟨fun a => by simp, ?_⟩
                  refine XS.nil ?_
                  have hLs2 : ((τ.set L (.ns m2)).set D (.list (res.map PV.str ++ [.str (cut x st o)]))) L = some (.ns m2) := by rw [AH.set_ne _ _ (Ne.symm hDL)]; exact hLs
                  refine XS.cons (EX.assign (EV.bin (EV.loc hLs2 g5 (EV.int (BIN.add (ST.at hLs2 ?_))))))
                  refine XS.cons (EX.assign (EV.noneC (ST.up ?_)))
                  refine XS.nil (XS.nil (XS.nil ?_))
                  exact ⟨_, p + 1, none, res ++ [cut x st o], AH.le_setN (AH.le_setN (AH.le_setN hστ hσL) hσD) hσL, AH.set_self .., by rw [AH.set_ne _ _ hDL, AH.set_self]; simp, g1, g2, by show some (PV.int _) = _; rfl, rfl, by simp; omega, hgo'⟩
                · have hne : st = o := by
                    have : ((st : Int) != (o : Int)) = false := hn
                    simp at this; omega
                  rw [if_pos hne] at hgo'
                  refine XS.nil ?_
                  refine XS.cons (EX.assign (EV.bin (EV.loc hLs g5 (EV.int (BIN.add (ST.up ?_))))))
                  refine XS.cons (EX.assign (EV.noneC (ST.up ?_)))
                  refine XS.nil (XS.nil (XS.nil ?_))
                  exact ⟨_, p + 1, none, res, AH.le_setN hστ hσL, AH.set_self .., by rw [AH.set_ne _ _ hDL]; exact hτD, g1, g2, rfl, rfl, Nat.le_succ_of_le hlen, hgo'⟩
              · rw [if_neg hb] at hgo'; cases hgo'
        · have hcd : ¬ (⟨c.toArray⟩ : Str) = dq := by
            intro z
            have h9 : decide ((⟨c.toArray⟩ : Str) = dq) = false := hc
            simp [z] at h9
          rw [if_neg hcd] at hgo'
          refine XS.nil (XS.nil ?_)
          exact ⟨m2, st, op, res, AH.le_setN hστ hσL, hLs, hDs, g1, g2, g3, g4, Nat.le_succ_of_le hlen, hgo'⟩
      · rintro σ' ⟨m, st, op, res, hle, hmL, hmD, h1, h2, h3, h4, hlen, hgo'⟩
        rw [List.drop_length] at hgo'
        have hfin : fin = (st, res) := by simpa [stripGo] using hgo'.symm
        subst hfin
        dsimp only at hs
        have hres : res.length ≤ sizeLine := by
          have h5 := esc_len x.cps.toList 0 false
          simp only [Array.length_toList] at h5
          exact Nat.le_trans (Nat.le_trans hlen h5) hxs
        refine XS.cons (EX.if (TS.cmp (EV.loc hmL h3 (EV.callBi k.ok k.nLen k.bLen (EV.loc hmL h1 (CV.lenStr hxs (CMP.lt_i ⟨_, rfl, fun hc => ?_, fun hc => ?_⟩)))))))
        · have hlt : st < x.length := by simpa using hc
          rw [if_pos hlt] at hs
          refine XS.cons (EX.expr (EV.methBi (EV.loc hmL h2 ⟨GMB.append hmD, EV.sliceStrFrom (EV.loc hmL h1 (EV.loc hmL h3 ⟨x, st, rfl, rfl, hxs, Nat.le_of_lt hlt, ?_⟩))⟩)))
          refine CV.append hmD (by simpa using hres) ⟨fun a => by simp, XS.nil ?_⟩
          split at hs
          · rename_i hok
            cases hs
            have hLs2 : (σ'.set D (.list (res.map PV.str ++ [.str (cut x st x.length)]))) L = some (.ns m) := by rw [AH.set_ne _ _ (Ne.symm hDL)]; exact hmL
            refine XS.cons (EX.ret (EV.methBi (EV.str ⟨GMB.join, ?_⟩)))
            · refine EV.loc hLs2 h2 ?_
              refine CV.join (texts := res ++ [cut x st x.length]) (by rw [AH.set_self]; simp) hok ?_
              exact hQ _ (AH.le_setN hle hσD)
          · cases hs
        · have hlt : ¬ st < x.length := by
            intro z
            have : decide ((st : Int) < (x.length : Int)) = true := by simpa using z
            rw [this] at hc; cases hc
          rw [if_neg hlt] at hs
          refine XS.nil ?_
          split at hs
          · rename_i hok
            cases hs
            refine XS.cons (EX.ret (EV.methBi (EV.str ⟨GMB.join, ?_⟩)))
            · refine EV.loc hmL h2 ?_
              refine CV.join hmD hok ?_
              exact hQ _ hle
          · cases hs
end
end Mine
end

section
open PySem PySem.W PyProof.Rows Builtin Builtin.Str
set_option maxRecDepth 100000
namespace Mine

def lb : Str := Str.ofString "("
def rb : Str := Str.ofString ")"
def parGo : List (Nat × List Nat) → Int → Bool
  | [], d => d == 0
  | (p, c) :: r, d => if (⟨c.toArray⟩ : Str) = lb then parGo r (d + 1) else if (⟨c.toArray⟩ : Str) = rb then (if d - 1 < 0 then false else parGo r (d - 1)) else parGo r d
def checkP (x : Str) : Option Bool := match stripP x with
  | none => none
  | some y => if escEnd y.cps.toList false then none else some (parGo (esc y.cps.toList 0 false) 0)

section
variable {X : Cx} {A : Around} {σ : AH} {Q : PV → AH → Prop}
theorem CV.check (k : KnC X) {n : Nat} (r : Rm A (n + 3)) {x : Str} {b : Bool} (hs : checkP x = some b) (hQ : ∀ σ', σ.le σ' → Q (.bool b) σ') : CV X A (.ref k.aC) [.str x] σ Q := by
  intro vals e
  obtain ⟨v, rfl, ev⟩ := map1 e
  obtain ⟨t, rfl⟩ := pv_str ev
  obtain ⟨⟨o, ho, hd⟩, hc⟩ := k.fC
  obtain ⟨⟨oS, hoS, hdS⟩, hcS⟩ := k.fS
  unfold checkP at hs
  cases hst : stripP x with
  | none => rw [hst] at hs; cases hs
  | some y =>
    rw [hst] at hs
    dsimp only at hs
    by_cases hend : escEnd y.cps.toList false = true
    · rw [if_pos hend] at hs; cases hs
    rw [if_neg hend] at hs
    have hb : parGo (esc y.cps.toList 0 false) 0 = b := Option.some.inj hs
    refine CC.wv (args := ⟨[.str x t], []⟩) (CC.def k.ok r ho hd hc rfl (bind_eq (binds := [(Str.ofString "addr", .str x t)]) (by rfl) ⟨by intro y hy; rw [List.mem_singleton.mp hy]; rfl, fun L hL rL => ?_⟩) (by show ∀ x ∈ checkSrc.scope.names, x.2 ≠ .cell; decide +kernel))
    have hσL : σ L = none := (hL L (Nat.le_refl _)).1
    refine XS.cons (EX.assign (EV.callDef k.ok k.gS hoS hdS (EV.loc (AH.set_self ..) (by rfl) (CV.strip k rL hst fun σ' hle => ?_))))
    have hσ' : σ.le σ' := AH.le_trans (AH.le_setN (AH.le_refl _) hσL) hle
    have hL' : σ' L = some (.ns (bindP [(Str.ofString "addr", .str x t)])) := hle L _ (AH.set_self ..)
    refine ST.at hL' ?_
    refine XS.cons (EX.assign (EV.int (ST.up ?_)))
    refine XS.cons (EX.forEsc k.ok rL k.nEnum k.bEnum k.gE k.fE (EV.loc (AH.set_self ..) (by rfl) ⟨y, fun i σ' => ∃ (m : Str → Option PV) (d : Int), σ.le σ' ∧ σ' L = some (.ns m) ∧ m (Str.ofString "opens") = some (.int d) ∧ parGo ((esc y.cps.toList 0 false).drop i) d = b, rfl, by simpa using hend, ?_, ?_, ?_⟩))
    · exact ⟨_, 0, AH.le_setN hσ' hσL, AH.set_self .., rfl, hb⟩
    · rintro i hi σ' T ⟨m, d, hle, hmL, h1, hgo⟩ hT hTb
      generalize hit : (esc y.cps.toList 0 false)[i] = it at *
      obtain ⟨p, c⟩ := it
      have hdrop : (esc y.cps.toList 0 false).drop i = (p, c) :: (esc y.cps.toList 0 false).drop (i + 1) := by rw [List.drop_eq_getElem_cons hi, hit]
      rw [hdrop] at hgo
      have hTL : T ≠ L := fun z => by rw [z, hmL] at hT; cases hT
      refine ASG.tup2 rL.hh (AH.set_self ..) (ST.at (by rw [AH.set_ne _ _ (Ne.symm hTL)]; exact hmL) (ST.up ?_))
      generalize hτ : σ'.set T (.tuple [.int (p : Nat), .str ⟨c.toArray⟩]) = τ
      have hστ : σ.le τ := by rw [← hτ]; exact AH.le_setN hle (by cases q : σ T with | none => rfl | some z => rw [hle T z q] at hT; cases hT)
      generalize hm2 : upd (upd m (Str.ofString "pos") (.int (p : Nat))) (Str.ofString "ch") (.str ⟨c.toArray⟩) = m2
      have g1 : m2 (Str.ofString "opens") = some (.int d) := by rw [← hm2]; exact h1
      have g6 : m2 (Str.ofString "ch") = some (.str ⟨c.toArray⟩) := by rw [← hm2]; rfl
      clear hm2 h1 hmL hτ
      have hLs : (τ.set L (.ns m2)) L = some (.ns m2) := AH.set_self ..
      unfold parGo at hgo
      refine XS.cons (EX.if (TS.cmp (EV.loc hLs g6 (EV.str (CMP.eq_s ⟨_, rfl, fun hc => ?_, fun hc => ?_⟩)))))
      · have hcd : (⟨c.toArray⟩ : Str) = lb := of_decide_eq_true hc
        rw [if_pos hcd] at hgo
        refine XS.cons (EX.aug hLs g1 (EV.int (IOP.add (ST.up ?_))))
        refine XS.nil (XS.nil ?_)
        exact ⟨_, d + 1, AH.le_setN hστ hσL, AH.set_self .., rfl, hgo⟩
      · have hcd : ¬ (⟨c.toArray⟩ : Str) = lb := of_decide_eq_false hc
        rw [if_neg hcd] at hgo
        refine XS.cons (EX.if (TS.cmp (EV.loc hLs g6 (EV.str (CMP.eq_s ⟨_, rfl, fun hc => ?_, fun hc => ?_⟩)))))
        · have hcd : (⟨c.toArray⟩ : Str) = rb := of_decide_eq_true hc
          rw [if_pos hcd] at hgo
          refine XS.cons (EX.aug hLs g1 (EV.int (IOP.sub (ST.up ?_))))
          refine XS.cons (EX.if (TS.cmp (EV.loc (AH.set_self ..) (by rfl) (EV.int (CMP.lt_i ⟨_, rfl, fun hc => ?_, fun hc => ?_⟩)))))
          · have hlt : d - 1 < 0 := of_decide_eq_true hc
            rw [if_pos hlt] at hgo
            refine XS.cons (EX.ret (EV.bool ?_))
            have := hQ _ (AH.le_setN hστ hσL (p := .ns (upd m2 (Str.ofString "opens") (.int (d - 1)))))
            rw [← hgo] at this
            exact this
          · have hlt : ¬ d - 1 < 0 := of_decide_eq_false hc
            rw [if_neg hlt] at hgo
            refine XS.nil (XS.nil (XS.nil (XS.nil ?_)))
            exact ⟨_, d - 1, AH.le_setN hστ hσL, AH.set_self .., rfl, hgo⟩
        · have hcd : ¬ (⟨c.toArray⟩ : Str) = rb := of_decide_eq_false hc
          rw [if_neg hcd] at hgo
          refine XS.nil (XS.nil (XS.nil ?_))
          exact ⟨m2, d, AH.le_setN hστ hσL, hLs, g1, hgo⟩
    · rintro σ' ⟨m, d, hle, hmL, h1, hgo⟩
      rw [List.drop_length] at hgo
      have hd0 : (d == 0) = b := by simpa [parGo] using hgo
      refine XS.cons (EX.ret (EV.cmp (EV.loc hmL h1 (EV.int (CMP.eq_i ?_)))))
      have := hQ _ hle
      rw [← hd0] at this
      exact this
end
end Mine
end

section
open PySem PySem.W PyProof.Rows Builtin Builtin.Str
set_option maxRecDepth 100000
namespace Mine

def codeN : Array Nat := #[14, 10, 4, 1, 1, 22, 0, 31, 16, 127, 0, 13, 7, 22, 0, 31, 16, 127, 0, 1]
def codeV : Array Nat := #[14, 14, 4, 1, 1, 9, 4294966783, 0, 0, 2147483648, 0, 0, 0, 0, 0, 13, 11, 9, 4294966783, 0, 0, 2147483648, 0, 0, 0, 0, 0, 1]
def okN (x : Str) : Bool := noHit codeN x && decide (x.length ≤ 1000)
def okV (x : Str) : Bool := noHit codeV x && decide (x.length ≤ 1000)

structure KnH (X : Cx) extends KnC X where
  K : Frag
  kin : K.In X.base
  C : Addr
  cl : Cl K C
  gC' : X.mg (Str.ofString "Headers") = some (.ref C)
  dI : Addr
  oI : ∃ o n, X.base.get? dI = some o ∧ o.data = .seq #[.none] n
  mI : Me X K C (Str.ofString "__init__") (srcAt hdrs 0) (.ref dI)
  mCv : Me X K C (Str.ofString "_convert_string_type") (srcAt hdrs 1) .none
  mSet : Me X K C (Str.ofString "__setitem__") (srcAt hdrs 3) .none
  mDel : Me X K C (Str.ofString "__delitem__") (srcAt hdrs 4) .none
  mAll : Me X K C (Str.ofString "get_all") (srcAt hdrs 7) .none
  dG : Addr
  oG : ∃ o n, X.base.get? dG = some o ∧ o.data = .seq #[.none] n
  mGet : Me X K C (Str.ofString "get") (srcAt hdrs 8) (.ref dG)
  mKeys : Me X K C (Str.ofString "keys") (srcAt hdrs 9) .none
  mAdd : Me X K C (Str.ofString "add_header") (srcAt hdrs 16) .none
  pN : Addr
  gN : X.mg (Str.ofString "_name_disallowed_re") = some (.ref pN)
  patN : Pat X pN codeN
  pV : Addr
  gV : X.mg (Str.ofString "_value_disallowed_re") = some (.ref pV)
  patV : Pat X pV codeV
  nType : X.mg (Str.ofString "type") = none
  bType : X.mb (Str.ofString "type") = some (.type "type")
  nStr : X.mg (Str.ofString "str") = none
  bStr : X.mb (Str.ofString "str") = some (.type "str")
  nList : X.mg (Str.ofString "list") = none
  bList : X.mb (Str.ofString "list") = some (.type "list")
  smod : ∃ o, X.base.get? sysModules = some o

section
variable {X : Cx} {A : Around} {σ : AH} {Q : PV → AH → Prop}
theorem CK.conv (k : KnH X) {n : Nat} (r : Rm A (n + 1)) {x : Addr} {v : Str} {b : Bool} (hn : noHit (if b = true then codeN else codeV) v = true) (hQ : ∀ σ', σ.le σ' → Q (.str v) σ') : CK X A (.ref k.mCv.f) [.ref x, .str v] [(Str.ofString "name", .bool b)] σ Q := by
  intro vals ks e ek
  obtain ⟨v1, v2, rfl, e1, e2⟩ := map2 e
  obtain ⟨t, rfl⟩ := pv_str e2
  have := pv_ref e1
  subst this
  obtain ⟨kv, rfl, ekv⟩ : ∃ kv, ks = [(Str.ofString "name", kv)] ∧ pv kv = .bool b := by
    match ks, ek with
    | [(a, c)], ek => simp at ek; exact ⟨c, by rw [ek.1], ek.2⟩
    | [], ek => simp at ek
    | _ :: _ :: _, ek => simp at ek
  have := pv_bool ekv
  subst this
  obtain ⟨⟨o, ho, hd⟩, hc⟩ := k.mCv.fn
  refine CC.wv (args := ⟨[.ref x, .str v t], [(Str.ofString "name", .bool b)]⟩) (CC.def k.ok r ho hd hc rfl (bind_eq (binds := [(Str.ofString "self", .ref x), (Str.ofString "value", .str v t), (Str.ofString "name", .bool b)]) (by rfl) ⟨fun y hy => ?_, fun L hL rL => ?_⟩) (by show ∀ x ∈ (srcAt hdrs 1).scope.names, x.2 ≠ .cell; decide +kernel))
  · simp only [List.mem_cons, List.not_mem_nil, or_false] at hy
    rcases hy with rfl | rfl | rfl <;> rfl
  have hσL : σ L = none := (hL L (Nat.le_refl _)).1
  have hle : σ.le (σ.set L (.ns (bindP [(Str.ofString "self", .ref x), (Str.ofString "value", .str v t), (Str.ofString "name", .bool b)]))) := AH.le_setN (AH.le_refl _) hσL
  refine XS.cons (EX.if (TS.cmp (EV.callTy k.ok k.nType k.bType (EV.loc (AH.set_self ..) (by rfl) (CV.typeStr (EV.bltn k.ok k.nStr k.bStr (CMP.is_raw rfl ⟨_, rfl, fun _ => ?_, fun hc => ?_⟩)))))))
  · refine XS.cons (EX.assign (EV.ifexp (TS.val (EV.loc (AH.set_self ..) (by rfl) (TRU.bool ⟨fun hb => ?_, fun hb => ?_⟩)))))
    · subst hb
      refine EV.glob k.ok k.gN (ST.up ?_)
      refine XS.cons (EX.if (TS.val (EV.methBi (EV.loc (AH.set_self ..) (by rfl) ⟨GMB.search k.patN, EV.loc (AH.set_self ..) (by rfl) (CV.search k.patN hn (TRU.none ⟨fun h => (nomatch h), fun _ => ?_⟩))⟩))))
      refine XS.nil (XS.cons (EX.ret (EV.loc (AH.set_self ..) (by rfl) ?_)))
      exact hQ _ (AH.le_setN (AH.le_refl _) hσL)
    · subst hb
      refine EV.glob k.ok k.gV (ST.up ?_)
      refine XS.cons (EX.if (TS.val (EV.methBi (EV.loc (AH.set_self ..) (by rfl) ⟨GMB.search k.patV, EV.loc (AH.set_self ..) (by rfl) (CV.search k.patV hn (TRU.none ⟨fun h => (nomatch h), fun _ => ?_⟩))⟩))))
      refine XS.nil (XS.cons (EX.ret (EV.loc (AH.set_self ..) (by rfl) ?_)))
      exact hQ _ (AH.le_setN (AH.le_refl _) hσL)
  · simp at hc
end
end Mine
end

section
open PySem PySem.W PyProof.Rows Builtin Builtin.Str
set_option maxRecDepth 100000
namespace Mine

section
variable {X : Cx} {A : Around} {env : Env} {σ : AH} {Q : PV → AH → Prop}
theorem EV.debug {pos : Pos} (h : Q (.bool true) σ) : EV X A env (.Name (Str.ofString "__debug__") pos) σ Q := WP.of fun s R => by
  rw [arm_eval_Name]
  refine wpAny_bind (wpAny_standAt ?_)
  rw [if_pos (by decide +kernel)]
  exact wpAny_bind (wpAny_rule (wpAny_pure ⟨σ, R, Step.refl σ s, h⟩))
theorem bind_def {fd : FuncData} {args : Args} {binds : List (Str × Value)} {T : Addr} {o : Obj} {items : Array Value} {n : Nat} {k : Option (Array Value) → Sem (List (Str × Value))} {Q : List (Str × Value) → AH → Prop}
    (hd : fd.defaults = .ref T) (ho : X.base.get? T = some o) (hs : o.data = .seq items n) (h₁ : bindArgs fd args = seqItems? fd.defaults >>= k) (h₂ : k (some items) = pure binds) (h : Q binds σ) : WP X A (bindArgs fd args) σ Q :=
  WP.of fun s R => BindsTo.of_defaults hd (R.base _ _ ho) hs h₁ h₂ _ _ _ _ ⟨σ, R, Step.refl σ s, h⟩

theorem CC.init (k : KnH X) {n : Nat} (r : Rm A (n + 1)) {x dx : Addr} (hx : σ x = none) (hdx : σ dx = none) (hne : x ≠ dx) {P : PV → AH → Prop}
    (h : ∀ σ' l, σ.le σ' → σ l = none → σ' l = some (.list []) → Ins σ' x k.C l → P .none σ') : CC X A (.ref k.mI.f) ⟨[.ref x], []⟩ ((σ.set dx (.obj emptyDict)).set x (.inst k.C dx)) P := by
  obtain ⟨⟨o, ho, hd⟩, hc⟩ := k.mI.fn
  obtain ⟨oD, nD, hoD, hsD⟩ := k.oI
  refine CC.def k.ok r ho hd hc rfl (bind_def (binds := [(Str.ofString "self", .ref x), (Str.ofString "headers", .none)]) rfl hoD hsD (by rfl) (by rfl) ⟨fun y hy => ?_, fun L hL rL => ?_⟩) (by show ∀ x ∈ (srcAt hdrs 0).scope.names, x.2 ≠ .cell; decide +kernel)
  · simp only [List.mem_cons, List.not_mem_nil, or_false] at hy
    rcases hy with rfl | rfl <;> rfl
  have hLn := (hL L (Nat.le_refl _)).1
  have hLx : L ≠ x := fun z => by rw [z, AH.set_self] at hLn; cases hLn
  have hLd : L ≠ dx := fun z => by rw [z, AH.set_ne _ _ hne.symm, AH.set_self] at hLn; cases hLn
  have hσL : σ L = none := by rw [AH.set_ne _ _ hLx, AH.set_ne _ _ hLd] at hLn; exact hLn
  refine XS.cons (EX.assign (EV.ifexp (TS.cmp (EV.loc (AH.set_self ..) (by rfl) (EV.noneC (CMP.isnot_none ⟨_, rfl, fun hc => absurd (show (!decide (PV.none = PV.none)) = true from hc) (by decide), fun _ => ?_⟩))))))
  refine EV.list ⟨Nat.zero_le _, fun l hl hlb => ?_⟩
  have hlL : l ≠ L := fun z => by rw [z, AH.set_self] at hl; cases hl
  rw [AH.set_ne _ _ hlL] at hl
  have hlx : l ≠ x := fun z => by rw [z, AH.set_self] at hl; cases hl
  rw [AH.set_ne _ _ hlx] at hl
  have hld : l ≠ dx := fun z => by rw [z, AH.set_self] at hl; cases hl
  rw [AH.set_ne _ _ hld] at hl
  refine ST.at (by rw [AH.set_ne _ _ hlL.symm, AH.set_self]) ?_
  generalize hτ : ((((σ.set dx (.obj emptyDict)).set x (.inst k.C dx)).set L (.ns (bindP [(Str.ofString "self", .ref x), (Str.ofString "headers", .none)]))).set l (.list [])).set L (.ns (upd (bindP [(Str.ofString "self", .ref x), (Str.ofString "headers", .none)]) (Str.ofString "headers") (.ref l))) = τ
  have tL : τ L = some (.ns (upd (bindP [(Str.ofString "self", .ref x), (Str.ofString "headers", .none)]) (Str.ofString "headers") (.ref l))) := by rw [← hτ, AH.set_self]
  have tl : τ l = some (.list []) := by rw [← hτ, AH.set_ne _ _ hlL, AH.set_self]
  have tx : τ x = some (.inst k.C dx) := by rw [← hτ, AH.set_ne _ _ hLx.symm, AH.set_ne _ _ hlx.symm, AH.set_ne _ _ hLx.symm, AH.set_self]
  have td : τ dx = some (.obj emptyDict) := by rw [← hτ, AH.set_ne _ _ hLd.symm, AH.set_ne _ _ hld.symm, AH.set_ne _ _ hLd.symm, AH.set_ne _ _ hne.symm, AH.set_self]
  have hστ : σ.le τ := by rw [← hτ]; exact AH.le_setN (AH.le_setN (AH.le_setN (AH.le_setN (AH.le_setN (AH.le_refl _) hdx) hx) hσL) hl) hσL
  refine XS.cons (EX.if (TS.cmp (EV.callTy k.ok k.nType k.bType (EV.loc tL (by rfl) (CV.typeList tl (EV.bltn k.ok k.nList k.bList (CMP.isnot_raw rfl ⟨_, rfl, fun hc => absurd (show (!(Value.type "list" == Value.type "list")) = true from hc) (by decide), fun _ => ?_⟩)))))))
  refine XS.nil (XS.cons (EX.setHeaders k.kin k.cl (EV.loc tL (by rfl) (EV.loc tL (by rfl) ⟨x, dx, l, _, rfl, rfl, tL, tx, td, fun hs tk => ?_⟩))))
  have hυ : ∀ b p, b ≠ dx → τ b = some p → (τ.set dx (.obj (hObj hs tk l))) b = some p := fun b p hb e => by rw [AH.set_ne _ _ hb]; exact e
  refine XS.cons (EX.if (TS.val (EV.bool (TRU.bool ⟨fun _ => ?_, fun h => (nomatch h)⟩))))
  refine XS.cons (EX.forList rL.hh (EV.loc (hυ L _ hLd tL) (by rfl) ⟨l, [], fun _ σ' => σ' = τ.set dx (.obj (hObj hs tk l)), rfl, hυ l _ hld tl, rfl, fun i σ' _ e => by rw [e]; exact hυ l _ hld tl, fun i σ' hi _ => absurd hi (Nat.not_lt_zero _), fun σ' e => ?_⟩))
  subst e
  refine XS.nil (XS.nil ?_)
  exact h _ l (AH.le_setN hστ hdx) hl (hυ l _ hld tl) ⟨dx, hs, tk, hυ x _ hne tx, AH.set_self ..⟩

theorem EV.newHeaders (k : KnH X) {n : Nat} (r : Rm A (n + 2)) {np pos : Pos} {m : Str → Option PV} {L : Addr} (hm : σ L = some (.ns m))
    (h : ∀ σ' x l, σ.le σ' → σ l = none → σ x = none → σ' l = some (.list []) → Ins σ' x k.C l → Q (.ref x) σ')
    (hg : env.globals = mainGlobals := by rfl) (hk : env.scope.kind = .function := by rfl) (hl : env.kindOf (Str.ofString "Headers") = some .globalImplicit := by rfl) :
    EV X A env (.Call (.Name (Str.ofString "Headers") np) [] [] pos) σ Q :=
  EV.callName (EV.glob k.ok k.gC' (fun v e => by
    rw [pv_ref e]
    refine WP.of fun s R => callWith_K0 (K := k.K) (fun a o e => R.base a o (k.kin a o e)) k.cl.keep ?_
    refine (newH k.kin k.cl r k.mI.find k.mI.ty hm fun A' r' x dx hx hdx hxb hdxb hne => ?_).run s R
    refine CC.init k r' hx hdx hne fun σ' l hle hl hl' I => ⟨rfl, h σ' x l hle hl hx hl' I⟩) hg hk hl)
end
end Mine
end

section
open PySem PySem.W PyProof.Rows Builtin Builtin.Str
set_option maxRecDepth 100000
namespace Mine

section
variable {X : Cx} {A : Around} {env : Env} {σ : AH}
theorem EX.forNoItems {target o : Expr} {ap cp pos : Pos} {body : List Stmt} {Q : PF → AH → Prop} (hh : A.handled = none) (hsm : ∃ o, X.base.get? sysModules = some o)
    (h : EV X A env o σ fun p σ₁ => ∃ D, p = .ref D ∧ σ₁ D = some (.obj emptyDict) ∧ Q .next σ₁)
    (hb : ∀ w, attributeBase o (Str.ofString "items") env w = w := by intro _; rfl) (hl : (ap.endLine == cp.line) = true := by rfl)
    (hs : ∀ x, foldedSetIterable (.Call (.Attribute o (Str.ofString "items") ap) [] [] cp) env x = pure x := by intro _; rfl) :
    EX X A env (.For target (.Call (.Attribute o (Str.ofString "items") ap) [] [] cp) body [] pos) σ Q := WP.of fun s R => by
  refine wpAny_For ?_ hs
  refine MethodCall_ (he := mcall (kws := []) hb rfl rfl (by show 0 + 0 < 29; decide) hl) (h.go R (Step.refl σ s) fun v σ₁ s₁ R₁ S₁ ⟨D, e, hD, q⟩ => ?_)
  rw [pv_ref e]
  have ho := R₁.rz D _ hD
  have hDsm : (D == sysModules) = false := by
    obtain ⟨o, hsm⟩ := hsm
    have := R₁.apart D _ hD
    simp only [beq_eq_false_iff_ne]
    intro z; rw [z, hsm] at this; cases this
  have hAt : s₁.heap.DictAt (strKind X.prog X.w) D [] 0 := ⟨_, #[], ho, ⟨rfl, rfl, rfl⟩, rfl, by intro e he; simp at he, .nil, List.nodup_nil⟩
  have hOf : s₁.heap.DictOf (strKind X.prog X.w) D [] := ⟨_, #[], 0, ho, ⟨rfl, rfl, rfl⟩, rfl, by intro e he; simp at he, .nil, List.nodup_nil⟩
  have hT : s₁.TypeIs (.ref D) "dict" := ⟨_, ho, rfl⟩
  refine getMethod_builtin hT PySem.F.plainAttrs_dict PySem.F.slot_dict_items PySem.F.type_dict_items (fun a ha => by cases ha; exact ⟨_, ho, rfl⟩) ?_
  refine callWith_method0 ?_
  refine call_meetsIn PySem.F.slot_dict_items hT PySem.F.entry_dict_items (PySem.F.args_dict_items_1 _) (meets_dict_items (strKind X.prog X.w) D hDsm) ⟨⟨[], hOf⟩, ?_⟩
  show wpAny _ A (pyIter (.ref s₁.heap.objs.size)) _ _ _
  have hf := fresh_from R₁
  generalize hV : s₁.heap.objs.size = V at hf
  have hv : (s₁.heap.push { cls := .type "dict_items", data := .fields #[.ref D] }).IsItemsView V D := ⟨_, by rw [← hV]; exact Heap.get?_push_size _ rfl, rfl, rfl⟩
  have hAt1 : (s₁.heap.push { cls := .type "dict_items", data := .fields #[.ref D] }).DictAt (strKind X.prog X.w) D [] 0 := by
    obtain ⟨o, es, h1, h2⟩ := hAt; exact ⟨o, es, Heap.get?_push_of_some _ h1, h2⟩
  refine wpAny_pyIter_items hv hAt1 ?_
  dsimp only
  have hsz : (s₁.heap.push { cls := .type "dict_items", data := .fields #[.ref D] }).objs.size = V + 1 := by rw [Heap.size_push, hV]
  rw [hsz]
  generalize hh2 : (s₁.heap.push { cls := .type "dict_items", data := .fields #[.ref D] }).push { cls := .type "dict_itemiterator", data := .fields #[.none, .bool false, .ref D, .int 0 0, .int ([] : List (Str × Value)).length 0, .int (0 : Nat) 0, .none, .none] } = h₂
  have hk2 : ∀ b o, s₁.heap.get? b = some o → h₂.get? b = some o := fun b o e => by rw [← hh2]; exact Heap.get?_push_of_some _ (Heap.get?_push_of_some _ e)
  have hit : IsItemIter h₂ (V + 1) D 0 ([] : List (Str × Value)).length 0 .none .none := by rw [← hh2, ← hsz]; exact Heap.get?_push_size _ rfl
  have hAt2 : h₂.DictAt (strKind X.prog X.w) D [] 0 := by
    obtain ⟨o, es, h1, h2⟩ := hAt; exact ⟨o, es, hk2 _ _ h1, h2⟩
  refine codeAny_forLoop_any (fun n s' => s' = { s₁ with heap := h₂ }) ?_ 0 rfl
  rintro n s' rfl
  refine wpAny_pyNext_items_end hh hit hAt2 rfl fun h' hx => wpAny_execs_nil ?_
  have hk' : ∀ b o, s₁.heap.get? b = some o → h'.get? b = some o := fun b o e => hx b o (Nat.ne_of_lt (Nat.lt_succ_of_lt (by rw [← hV]; exact Heap.lt_size e))) (hk2 b o e)
  obtain ⟨R', S'⟩ := R₁.grow (h' := h') (tk := s₁.toks) hk' R₁.tk
  exact ⟨σ₁, R', S₁.trans S', q⟩
end
end Mine
end

section
open PySem PySem.W PyProof.Rows Builtin Builtin.Str
set_option maxRecDepth 100000
namespace Mine

def leBut (σ σ' : AH) (l : Addr) : Prop := ∀ b p, b ≠ l → σ b = some p → σ' b = some p
theorem leBut.of {σ σ' : AH} {l : Addr} (h : σ.le σ') : leBut σ σ' l := fun b p _ e => h b p e
theorem leBut.trans {a b c : AH} {l : Addr} (x : leBut a b l) (y : leBut b c l) : leBut a c l := fun q p hq e => y q p hq (x q p hq e)
theorem leBut.setL {a b : AH} {l : Addr} {p : PO} (x : leBut a b l) : leBut a (b.set l p) l := fun q z hq e => by rw [AH.set_ne _ _ hq]; exact x q z hq e
theorem leBut.setN {a b : AH} {l c : Addr} {p : PO} (x : leBut a b l) (hc : a c = none) : leBut a (b.set c p) l := fun q z hq e => by rw [AH.set_ne _ _ (fun w => by rw [w, hc] at e; cases e)]; exact x q z hq e
theorem All2.imp {α β : Type} {R R' : α → β → Prop} (h : ∀ a b, R a b → R' a b) : ∀ {l : List α} {m : List β}, All2 R l m → All2 R' l m
  | _, _, .nil => .nil
  | _, _, .cons a r => .cons (h _ _ a) (All2.imp h r)
theorem All2.snoc {α β : Type} {R : α → β → Prop} {a : α} {b : β} (h : R a b) : ∀ {l : List α} {m : List β}, All2 R l m → All2 R (l ++ [a]) (m ++ [b])
  | _, _, .nil => .cons h .nil
  | _, _, .cons a r => .cons a (All2.snoc h r)
theorem All2.len {α β : Type} {R : α → β → Prop} : ∀ {l : List α} {m : List β}, All2 R l m → l.length = m.length
  | _, _, .nil => rfl
  | _, _, .cons _ r => congrArg (· + 1) (All2.len r)

/-- a table of headers in the heap -/
structure Tab (σ : AH) (x C l : Addr) (tbl : List (Str × Str)) : Prop where
  ins : Ins σ x C l
  lst : ∃ ts : List Addr, σ l = some (.list (ts.map PV.ref)) ∧ All2 (fun t e => σ t = some (.tuple [.str e.1, .str e.2])) ts tbl
theorem Tab.keep {σ σ' : AH} {x C l : Addr} {tbl : List (Str × Str)} (T : Tab σ x C l tbl) (h : ∀ b p, (∀ m, p ≠ .ns m) → σ b = some p → σ' b = some p) : Tab σ' x C l tbl :=
  let ⟨ts, h1, h2⟩ := T.lst
  ⟨T.ins.keep fun b p _ hp e => h b p hp e, ts, h l _ (by simp) h1, h2.imp fun t e he => h t _ (by simp) he⟩
theorem Tab.le {σ σ' : AH} {x C l : Addr} {tbl : List (Str × Str)} (T : Tab σ x C l tbl) (h : σ.le σ') : Tab σ' x C l tbl := T.keep fun b p _ e => h b p e
theorem Tab.nil {σ : AH} {x C l : Addr} (I : Ins σ x C l) (hl : σ l = some (.list [])) : Tab σ x C l [] := ⟨I, [], hl, .nil⟩

theorem leBut.keepN {σ σ' : AH} {x l C : Addr} (I : Ins σ x C l) (hl : ∃ vs, σ l = some (.list vs)) (h : leBut σ σ' l) : Ins σ' x C l := by
  obtain ⟨vs, hv⟩ := hl
  exact I.keep fun b p hp _ e => h b p (fun z => by rw [z, hv] at e; cases e; exact hp _ rfl) e

section
variable {X : Cx} {A : Around} {σ : AH} {Q : PV → AH → Prop}
theorem CV.add (k : KnH X) {n : Nat} (r : Rm A (n + 2)) {x l : Addr} {nm vl : Str} {tbl : List (Str × Str)} (T : Tab σ x k.C l tbl) (hn : okN nm = true) (hv : okV vl = true) (hsz : tbl.length ≤ 1000)
    (hQ : ∀ σ', leBut σ σ' l → Tab σ' x k.C l (tbl ++ [(nm, vl)]) → Q .none σ') : CV X A (.ref k.mAdd.f) [.ref x, .str nm, .str vl] σ Q := by
  intro vals e
  obtain ⟨v1, v2, v3, rfl, e1, e2, e3⟩ := map3 e
  obtain ⟨t2, rfl⟩ := pv_str e2
  obtain ⟨t3, rfl⟩ := pv_str e3
  have := pv_ref e1
  subst this
  obtain ⟨hn1, hn2⟩ := Bool.and_eq_true_iff.mp hn
  obtain ⟨hv1, hv2⟩ := Bool.and_eq_true_iff.mp hv
  obtain ⟨ts, hl, hts⟩ := T.lst
  obtain ⟨⟨o, ho, hd⟩, hc⟩ := k.mAdd.fn
  have hb : WP X A.in1 (bindArgs (mkFn (srcAt hdrs 16) k.mAdd.m) ⟨[.ref x, .str nm t2, .str vl t3], []⟩) σ fun binds σ₁ => ∃ D, σ D = none ∧ σ₁ = σ.set D (.obj emptyDict) ∧ binds = [(Str.ofString "self", .ref x), (Str.ofString "_name", .str nm t2), (Str.ofString "_value", .str vl t3), (Str.ofString "_params", .ref D)] := by
    rw [show bindArgs (mkFn (srcAt hdrs 16) k.mAdd.m) ⟨[.ref x, .str nm t2, .str vl t3], []⟩ = (alloc { cls := .type "dict", data := .dict #[] } >>= fun d => pure [(Str.ofString "self", .ref x), (Str.ofString "_name", .str nm t2), (Str.ofString "_value", .str vl t3), (Str.ofString "_params", .ref d)]) by rfl]
    refine WP.of fun s R => wpAny_bind (wpAny_alloc ?_)
    obtain ⟨R', S', hn, hb⟩ := R.new (h' := s.heap.push emptyDict) (tk := s.toks) (p := .obj emptyDict) (by rw [Heap.size_push]; exact Nat.lt_succ_self _) (fun b o e => Heap.get?_push_of_some _ e) (Heap.get?_push_size _ rfl) R.tk
    exact wpAny_pure ⟨_, R', S', _, hn, rfl, rfl⟩
  refine CC.wv (args := ⟨[.ref x, .str nm t2, .str vl t3], []⟩) (CC.def k.ok r ho hd hc rfl (hb.mono fun binds σ₁ ⟨D, hD, e1, e2⟩ => ?_) (by show ∀ x ∈ (srcAt hdrs 16).scope.names, x.2 ≠ .cell; decide +kernel))
  subst e1 e2
  refine ⟨fun y hy => ?_, fun L hL rL => ?_⟩
  · simp only [List.mem_cons, List.not_mem_nil, or_false] at hy
    rcases hy with rfl | rfl | rfl | rfl <;> rfl
  have hLn := (hL L (Nat.le_refl _)).1
  have hLD : L ≠ D := fun z => by rw [z, AH.set_self] at hLn; cases hLn
  have hσL : σ L = none := by rw [AH.set_ne _ _ hLD] at hLn; exact hLn
  have hlL : l ≠ L := fun z => by rw [z, hσL] at hl; cases hl
  have hlD : l ≠ D := fun z => by rw [z, hD] at hl; cases hl
  -- parts = []
  refine XS.cons (EX.assign (EV.list ⟨Nat.zero_le _, fun P hP hPb => ?_⟩))
  have hPL : P ≠ L := fun z => by rw [z, AH.set_self] at hP; cases hP
  rw [AH.set_ne _ _ hPL] at hP
  have hPD : P ≠ D := fun z => by rw [z, AH.set_self] at hP; cases hP
  rw [AH.set_ne _ _ hPD] at hP
  have hlP : l ≠ P := fun z => by rw [z, hP] at hl; cases hl
  refine ST.at (by rw [AH.set_ne _ _ hPL.symm, AH.set_self]) ?_
  generalize hτ : ((((σ.set D (.obj emptyDict)).set L (.ns (bindP [(Str.ofString "self", .ref x), (Str.ofString "_name", .str nm t2), (Str.ofString "_value", .str vl t3), (Str.ofString "_params", .ref D)]))).set P (.list [])).set L (.ns (upd (bindP [(Str.ofString "self", .ref x), (Str.ofString "_name", .str nm t2), (Str.ofString "_value", .str vl t3), (Str.ofString "_params", .ref D)]) (Str.ofString "parts") (.ref P)))) = τ
  have tL : τ L = some (.ns (upd (bindP [(Str.ofString "self", .ref x), (Str.ofString "_name", .str nm t2), (Str.ofString "_value", .str vl t3), (Str.ofString "_params", .ref D)]) (Str.ofString "parts") (.ref P))) := by rw [← hτ, AH.set_self]
  have tP : τ P = some (.list []) := by rw [← hτ, AH.set_ne _ _ hPL, AH.set_self]
  have tD : τ D = some (.obj emptyDict) := by rw [← hτ, AH.set_ne _ _ hLD.symm, AH.set_ne _ _ hPD.symm, AH.set_ne _ _ hLD.symm, AH.set_self]
  have hστ : σ.le τ := by rw [← hτ]; exact AH.le_setN (AH.le_setN (AH.le_setN (AH.le_setN (AH.le_refl _) hD) hσL) hP) hσL
  generalize hm : upd (bindP [(Str.ofString "self", .ref x), (Str.ofString "_name", .str nm t2), (Str.ofString "_value", .str vl t3), (Str.ofString "_params", .ref D)]) (Str.ofString "parts") (.ref P) = m at tL
  have m1 : m (Str.ofString "self") = some (.ref x) := by rw [← hm]; rfl
  have m2 : m (Str.ofString "_name") = some (.str nm) := by rw [← hm]; rfl
  have m3 : m (Str.ofString "_value") = some (.str vl) := by rw [← hm]; rfl
  have m4 : m (Str.ofString "_params") = some (.ref D) := by rw [← hm]; rfl
  have m5 : m (Str.ofString "parts") = some (.ref P) := by rw [← hm]; rfl
  clear hm hτ
  refine XS.cons (EX.if (TS.cmp (EV.loc tL m3 (EV.noneC (CMP.isnot_none ⟨_, rfl, fun _ => ?_, fun hc => absurd (show (!decide (PV.str vl = PV.none)) = false from hc) (by simp)⟩)))))
  refine XS.cons (EX.assign (EV.methKw k.kin k.cl k.mCv (EV.loc tL m1 ⟨x, l, rfl, T.ins.keep fun b p _ _ e => hστ b p e, EV.loc tL m3 (CK.conv k rL (by exact hv1) fun σ' hle => ?_)⟩)))
  refine ST.at (hle L _ tL) ?_
  have hτ' : σ.le (σ'.set L (.ns (upd m (Str.ofString "_value") (.str vl)))) := AH.le_setN (AH.le_trans hστ hle) hσL
  generalize hυ : σ'.set L (.ns (upd m (Str.ofString "_value") (.str vl))) = υ at hτ'
  generalize hm' : upd m (Str.ofString "_value") (.str vl) = m' at hυ
  have uL : υ L = some (.ns m') := by rw [← hυ, AH.set_self]
  have uP : υ P = some (.list []) := by rw [← hυ, AH.set_ne _ _ hPL]; exact hle P _ tP
  have uD : υ D = some (.obj emptyDict) := by rw [← hυ, AH.set_ne _ _ hLD.symm]; exact hle D _ tD
  have n1 : m' (Str.ofString "self") = some (.ref x) := by rw [← hm']; exact m1
  have n2 : m' (Str.ofString "_name") = some (.str nm) := by rw [← hm']; exact m2
  have n3 : m' (Str.ofString "_value") = some (.str vl) := by rw [← hm']; rfl
  have n4 : m' (Str.ofString "_params") = some (.ref D) := by rw [← hm']; exact m4
  have n5 : m' (Str.ofString "parts") = some (.ref P) := by rw [← hm']; exact m5
  clear hm' hυ m1 m2 m3 m4 m5 tL tP tD hle
  refine XS.cons (EX.expr (EV.methBi (EV.loc uL n5 ⟨GMB.append uP, EV.loc uL n3 (CV.append uP (Nat.zero_le _) ⟨fun a => by simp, ?_⟩)⟩)))
  refine XS.nil ?_
  have wL : (υ.set P (.list ([] ++ [.str vl]))) L = some (.ns m') := by rw [AH.set_ne _ _ hPL.symm]; exact uL
  have wD : (υ.set P (.list ([] ++ [.str vl]))) D = some (.obj emptyDict) := by rw [AH.set_ne _ _ hPD.symm]; exact uD
  have hσw : σ.le (υ.set P (.list ([] ++ [.str vl]))) := AH.le_setN hτ' hP
  generalize hw : υ.set P (.list ([] ++ [.str vl])) = w at *
  have wP : w P = some (.list ([vl].map PV.str)) := by rw [← hw, AH.set_self]; rfl
  refine XS.cons (EX.forNoItems rL.hh k.smod (EV.loc wL n4 ⟨D, rfl, wD, ?_⟩))
  have Tw := T.le hσw
  obtain ⟨dx, hs, tk, i1, i2⟩ := T.ins.go
  refine XS.cons (EX.expr (EV.methBi (EV.attrOwn k.kin k.cl (EV.loc wL n1 ⟨x, l, rfl, Tw.ins, GMB.append (hσw l _ hl), EV.tuple (EV.methKw k.kin k.cl k.mCv (EV.loc wL n1 ⟨x, l, rfl, Tw.ins, EV.loc wL n2 (CK.conv k rL (by exact hn1) fun σ'' hle => ?_)⟩))⟩))))
  refine EV.methBi (EV.str ⟨GMB.join, EV.loc (hle L _ wL) n5 (CV.join (texts := [vl]) (hle P _ wP) (by
    have : vl.length ≤ 1000 := of_decide_eq_true hv2
    unfold JoinOk
    have h2 : (Str.ofString "; ").length = 2 := by decide +kernel
    simp [tooLong, sizeLine, h2]; omega) ⟨by show 2 ≤ sizeLine; decide, fun E hE hEb => ?_⟩)⟩)
  have hj : Txt.join (Str.ofString "; ") [vl] = vl := rfl
  rw [hj]
  have hσs : σ.le σ'' := AH.le_trans hσw hle
  have hσE : σ E = none := by
    cases q : σ E with
    | none => rfl
    | some z => rw [hσs E z q] at hE; cases hE
  have hlE : l ≠ E := fun z => by rw [z, hσE] at hl; cases hl
  have zl : (σ''.set E (.tuple [.str nm, .str vl])) l = some (.list (ts.map PV.ref)) := by rw [AH.set_ne _ _ hlE]; exact hσs l _ hl
  have hlen : ts.length = tbl.length := hts.len
  refine CV.append zl (by rw [List.length_map, hlen]; exact Nat.le_trans hsz (by decide)) ⟨fun a => by simp, XS.nil (hQ _ ?_ ?_)⟩
  · exact ((leBut.of hσs).setN hσE).setL
  · have hk : ∀ b p, b ≠ l → σ b = some p → ((σ''.set E (.tuple [.str nm, .str vl])).set l (.list (ts.map PV.ref ++ [.ref E]))) b = some p := fun b p hb e => by
      rw [AH.set_ne _ _ hb, AH.set_ne _ _ (fun z => by rw [z, hσE] at e; cases e)]; exact hσs b p e
    refine ⟨T.ins.keep fun b p h1 _ e => hk b p (fun z => by rw [z, hl] at e; cases e; exact h1 _ rfl) e, ts ++ [E], by rw [AH.set_self]; simp, ?_⟩
    refine All2.snoc (by rw [AH.set_ne _ _ hlE.symm, AH.set_self]) (hts.imp fun t e he => hk t _ (fun z => by rw [z, hl] at he; cases he) he)
end
end Mine
end

section
open PySem PySem.W PyProof.Rows Builtin Builtin.Str
set_option maxRecDepth 100000
namespace Mine

section
variable {X : Cx} {A : Around} {env : Env} {σ : AH} {Q : PV → AH → Prop}
theorem EV.free {x : Str} {pos : Pos} {c : Addr} {p : PV} (hc : env.cells.lookup x = some c) (hx : σ c = some (.cell (some p))) (h : Q p σ)
    (hk : env.scope.kind = .function := by rfl) (hl : env.kindOf x = some .free := by rfl) (hd : (x == ("__debug__" : Str)) = false := by decide) (hn : (x == ("__classdict__" : Str)) = false := by decide) : EV X A env (.Name x pos) σ Q :=
  WV.val (fun s R Q' hQ => by
    obtain ⟨o, u, ho, hd', e⟩ := R.rz _ _ hx
    cases u with
    | none => cases e
    | some v => exact wpAny_Name (wpAny_loadName_free hk hl hc ⟨o, ho, hd'⟩ (hQ v s.toks (Option.some.inj e)) hn) hd) h

def lk (tbl : List (Str × Str)) (nm : Str) : List Str := (tbl.filter fun e => decide (Txt.lower e.1 = nm)).map (·.2)
def okT (tbl : List (Str × Str)) : Bool := tbl.all fun e => decide ((Txt.lower e.1).length ≤ sizeLine)
theorem lk_succ {tbl : List (Str × Str)} {nm : Str} {i : Nat} (hi : i < tbl.length) : lk (tbl.take (i + 1)) nm = lk (tbl.take i) nm ++ (if Txt.lower tbl[i].1 = nm then [tbl[i].2] else []) := by
  unfold lk
  rw [List.take_succ_eq_append_getElem hi, List.filter_append, List.map_append]
  congr 1
  by_cases h : Txt.lower tbl[i].1 = nm <;> simp [h]
theorem All2.get {α β : Type} {R : α → β → Prop} : ∀ {l : List α} {m : List β}, All2 R l m → ∀ i (h1 : i < l.length) (h2 : i < m.length), R l[i] m[i]
  | _, _, .cons a r, 0, _, _ => a
  | _, _, .cons a r, i + 1, h1, h2 => All2.get r i (Nat.lt_of_succ_lt_succ h1) (Nat.lt_of_succ_lt_succ h2)
  | _, _, .nil, _, h1, _ => absurd h1 (Nat.not_lt_zero _)
theorem getD_map {ts : List Addr} {i : Nat} (h : i < ts.length) : (ts.map PV.ref).getD i .none = .ref ts[i] := by
  rw [List.getD_eq_getElem?_getD, List.getElem?_map, List.getElem?_eq_getElem h]; rfl

theorem CV.getAll (k : KnH X) {n : Nat} (r : Rm A (n + 2)) {x l : Addr} {nm : Str} {tbl : List (Str × Str)} (T : Tab σ x k.C l tbl) (hn : okN (Txt.lower nm) = true) (hT : okT tbl = true) (hsz : tbl.length ≤ 1000)
    (hQ : ∀ σ' D, σ.le σ' → σ D = none → σ' D = some (.list ((lk tbl (Txt.lower nm)).map PV.str)) → Q (.ref D) σ') : CV X A (.ref k.mAll.f) [.ref x, .str nm] σ Q := by
  intro vals e
  obtain ⟨v1, v2, rfl, e1, e2⟩ := map2 e
  obtain ⟨t2, rfl⟩ := pv_str e2
  have := pv_ref e1
  subst this
  obtain ⟨hn1, hn2⟩ := Bool.and_eq_true_iff.mp hn
  have hn2 : (Txt.lower nm).length ≤ 1000 := of_decide_eq_true hn2
  obtain ⟨ts, hl, hts⟩ := T.lst
  obtain ⟨⟨o, ho, hd⟩, hc⟩ := k.mAll.fn
  refine CC.wv (args := ⟨[.ref x, .str nm t2], []⟩) (CC.defC k.ok r ho hd hc rfl rfl (fun L p hp => ?_) (bind_eq (binds := [(Str.ofString "self", .ref x), (Str.ofString "name", .str nm t2)]) (by rfl) ⟨fun L y hy => ?_, fun L hL rL => ?_⟩))
  · have hp' : p ∈ [(Str.ofString "name", L + 1)] := hp
    rw [List.mem_singleton.mp hp']; rfl
  · simp only [List.mem_cons, List.not_mem_nil, or_false] at hy
    rcases hy with rfl | rfl
    · exact .inl rfl
    · exact .inr ⟨rfl, rfl⟩
  have hσL : σ L = none := (hL L (Nat.le_refl _)).1
  have hσN : σ (L + 1) = none := (hL (L + 1) (Nat.le_succ _)).1
  have hNL : L + 1 ≠ L := Nat.succ_ne_self L
  have hlL : l ≠ L := fun z => by rw [z, hσL] at hl; cases hl
  have hlN : l ≠ L + 1 := fun z => by rw [z, hσN] at hl; cases hl
  show XS X _ _ _ ((σ.set L (.ns _)).set (L + 1) (.cell (some (.str nm)))) _
  generalize hm : (fun y => (bindL (callEnvC (mkFnD (srcAt hdrs 7) Value.none Value.none k.mAll.m) L k.mAll.f).kindOf [(Str.ofString "self", Value.ref x), (Str.ofString "name", Value.str nm t2)] (fun _ => Option.none) y).map pv) = m
  have m1 : m (Str.ofString "self") = some (.ref x) := by rw [← hm]; rfl
  clear hm
  generalize hτ : (σ.set L (.ns m)).set (L + 1) (.cell (some (.str nm))) = τ
  have hστ : σ.le τ := by rw [← hτ]; exact AH.le_setN (AH.le_setN (AH.le_refl _) hσL) hσN
  have tL : τ L = some (.ns m) := by rw [← hτ, AH.set_ne _ _ hNL.symm, AH.set_self]
  have tN : τ (L + 1) = some (.cell (some (.str nm))) := by rw [← hτ, AH.set_self]
  clear hτ
  refine XS.cons (EX.assign (EV.methKw k.kin k.cl k.mCv (EV.loc tL m1 ⟨x, l, rfl, (T.le hστ).ins, EV.methBi (EV.cell (c := L + 1) (by rfl) tN ⟨GMB.lower, CV.lower (Nat.le_trans hn2 (by decide)) (CK.conv k rL (by exact hn1) fun σ' hle => ?_)⟩)⟩)))
  refine ST.cell (c := L + 1) (by rfl) (hle _ _ tN) ?_
  generalize hυ : σ'.set (L + 1) (.cell (some (.str (Txt.lower nm)))) = υ
  have hσυ : σ.le υ := by rw [← hυ]; exact AH.le_setN (AH.le_trans hστ hle) hσN
  have uL : υ L = some (.ns m) := by rw [← hυ, AH.set_ne _ _ hNL.symm]; exact hle L _ tL
  have uN : υ (L + 1) = some (.cell (some (.str (Txt.lower nm)))) := by rw [← hυ, AH.set_self]
  clear hυ hle tL tN hστ
  have Tu := T.le hσυ
  have hlen : ts.length = tbl.length := hts.len
  refine XS.cons (EX.ret (EV.comp (cl := [(Str.ofString "name", L + 1)]) rL.hh rfl (EV.attrOwn k.kin k.cl (EV.loc uL m1 ⟨x, l, rfl, Tu.ins, (ts.map PV.ref).length, _, _, fun C i acc σ' => σ' = υ ∧ υ C = none ∧ acc = (lk (tbl.take i) (Txt.lower nm)).map PV.str, ISRC.list (hσυ l _ hl), ?_, fun C hC => ⟨rfl, (hC C (Nat.le_refl _)).1, rfl⟩, fun C i acc σ' hi ⟨e1, e2, e3⟩ => ⟨by rw [e1]; exact e2, by rw [e1]; exact hσυ l _ hl⟩, ?_, ?_⟩))))
  · rw [List.length_map, hlen]; exact Nat.le_trans hsz (by decide)
  · rintro C i acc σ' hC hi ⟨e1, hCn, e3⟩
    subst e3
    rw [e1]
    rw [List.length_map] at hi
    have hi' : i < tbl.length := by rw [← hlen]; exact hi
    have ht := hts.get i hi hi'
    have hit : (ts.map PV.ref).getD i .none = .ref ts[i] := getD_map hi
    rw [hit]
    have htC : ts[i] ≠ C := fun z => by have := hσυ _ _ ht; rw [z, hCn] at this; cases this
    have hNC : L + 1 ≠ C := fun z => by rw [z, hCn] at uN; cases uN
    have wt : (υ.set C (nsx (Str.ofString "kv") (some (.ref ts[i])))) ts[i] = some (.tuple [.str tbl[i].1, .str tbl[i].2]) := by rw [AH.set_ne _ _ htC]; exact hσυ _ _ ht
    have wC : (υ.set C (nsx (Str.ofString "kv") (some (.ref ts[i])))) C = some (nsx (Str.ofString "kv") (some (.ref ts[i]))) := AH.set_self ..
    have wN : (υ.set C (nsx (Str.ofString "kv") (some (.ref ts[i])))) (L + 1) = some (.cell (some (.str (Txt.lower nm)))) := by rw [AH.set_ne _ _ hNC]; exact uN
    have hlow : (Txt.lower tbl[i].1).length ≤ sizeLine := by
      have := List.all_eq_true.mp hT tbl[i] (List.getElem_mem _)
      exact of_decide_eq_true this
    refine TS.cmp (EV.methBi (EV.sub (EV.loc wC (by rfl) (EV.int (SUB.tuple wt (by decide) (by decide) rfl ⟨GMB.lower, CV.lower hlow (EV.cell (c := L + 1) (by rfl) wN (CMP.eq_s ⟨_, rfl, fun hc => ?_, fun hc => ?_⟩))⟩)))))
    · have hc' : Txt.lower tbl[i].1 = Txt.lower nm := of_decide_eq_true hc
      refine EV.sub (EV.loc wC (by rfl) (EV.int (SUB.tuple wt (by decide) (by decide) rfl ⟨υ, AH.le_refl _, rfl, hCn, ?_⟩)))
      rw [lk_succ hi', if_pos hc']; simp
    · have hc' : ¬ Txt.lower tbl[i].1 = Txt.lower nm := of_decide_eq_false hc
      refine ⟨υ, AH.le_refl _, rfl, hCn, ?_⟩
      rw [lk_succ hi', if_neg hc']; simp
  · rintro C D acc σ' hD hDC ⟨e1, hCn, e3⟩ hDn
    subst e3
    rw [e1] at hDn ⊢
    refine hQ _ D (AH.le_setN hσυ ?_) ?_ ?_
    · cases q : σ D with
      | none => rfl
      | some z => rw [hσυ D z q] at hDn; cases hDn
    · cases q : σ D with
      | none => rfl
      | some z => rw [hσυ D z q] at hDn; cases hDn
    · rw [AH.set_self, List.length_map, hlen, List.take_length]
end
end Mine
end

section
open PySem PySem.W PyProof.Rows Builtin Builtin.Str
set_option maxRecDepth 100000
namespace Mine

def q1 (v : Str) : Str := Txt.replace v (Str.ofString "\\") (Str.ofString "\\\\")
def q2 (v : Str) : Str := Txt.replace (q1 v) (Str.ofString "\"") (Str.ofString "\\\"")
def fmtP (p v : Str) : Str := if v.length > 0 then ((p ++ Str.ofString "=\"") ++ q2 v) ++ Str.ofString "\"" else p
def okF (p v : Str) : Bool := decide (p.length ≤ 1000) && decide (v.length ≤ 1000) && decide ((q1 v).length ≤ 1000) && decide ((q2 v).length ≤ 1000)
section
variable (X : Cx) (A : Around) (env : Env)
def JN : List Expr → Str → AH → (Str → AH → Prop) → Prop
  | [], out, σ, Q => Q out σ
  | e :: es, out, σ, Q => EV X A env e σ fun p σ₁ => ∃ y, p = .str y ∧ (out ++ y).length ≤ sizeLine ∧ JN es (out ++ y) σ₁ Q
end
section
variable {X : Cx} {A : Around} {env : Env} {σ : AH} {Q : PV → AH → Prop}
theorem JN.run : ∀ {es : List Expr} {out : Str} {σ : AH}, JN X A env es out σ (fun out σ₁ => out.length ≤ sizeLine ∧ Q (.str out) σ₁) → WV X A (joinParts out (evalEach es env)) σ Q
  | [], out, σ, h => WP.of fun s R => joinParts_nil ⟨σ, R.tick _, Step.toks σ s _, h.2⟩ h.1
  | e :: es, out, σ, h => WP.of fun s R => joinParts_cons (WP.go h R (Step.refl σ s) fun v σ₁ s₁ R₁ S₁ ⟨y, e1, hl, q⟩ => by
      obtain ⟨t, rfl⟩ := pv_str e1
      exact ⟨hl, WP.go (JN.run q) R₁ S₁ fun v σ₂ s₂ R₂ S₂ q => ⟨σ₂, R₂, S₂, q⟩⟩)
theorem EV.joined {v₁ v₂ : Expr} {rest : List Expr} {pos : Pos} (h : JN X A env (v₁ :: v₂ :: rest) PySem.Str.empty σ (fun out σ₁ => out.length ≤ sizeLine ∧ Q (.str out) σ₁)) : EV X A env (.JoinedStr (v₁ :: v₂ :: rest) pos) σ Q :=
  WP.of fun s R => JoinedStr_many ((JN.run h).run s R)
theorem EV.fmtS {value : Expr} {pos : Pos} (h : EV X A env value σ fun p σ₁ => ∃ x, p = .str x ∧ x.length ≤ sizeLine ∧ Q (.str x) σ₁) : EV X A env (.FormattedValue value 115 none pos) σ Q := WP.of fun s R => by
  rw [arm_eval_FormattedValue]
  refine wpAny_bind (h.go R (Step.refl σ s) fun v σ₁ s₁ R₁ S₁ ⟨x, e, hx, q⟩ => wpAny_bind (wpAny_standAt ?_))
  obtain ⟨t, rfl⟩ := pv_str e
  show wpAny _ _ (do let v' ← holding [Value.str x t] (habitSame "fstring-hands-on-the-str" (.str x t)); formatField v' PySem.Str.empty) _ _ s₁
  refine with_tk (Nat.le_refl s₁.toks) (wpAny_bind (wpAny_holding (habitSame_str (fun t' tk => formatField_str (fun t'' tk' htk => ?_) hx) hx)))
  exact ⟨σ₁, R₁.toks tk' (Nat.le_trans R₁.tk htk), S₁.trans (Step.toks σ₁ s₁ tk'), q⟩
end
structure KnF (X : Cx) extends KnH X where
  aF : Addr
  mF : FM
  dF : Addr
  fF : FnD X aF fmtSrc (.ref dF) .none mF
  oF : ∃ o n t, X.base.get? dF = some o ∧ o.data = .seq #[.none, .int 1 t] n
  gF : X.mg (Str.ofString "_formatparam") = some (.ref aF)
section
variable {X : Cx} {A : Around} {σ : AH} {Q : PV → AH → Prop}
theorem CV.fmt (k : KnF X) {n : Nat} (r : Rm A (n + 1)) {p v : Str} (hok : okF p v = true) (hQ : ∀ σ', σ.le σ' → Q (.str (fmtP p v)) σ') : CV X A (.ref k.aF) [.str p, .str v] σ Q := by
  intro vals e
  obtain ⟨v1, v2, rfl, e1, e2⟩ := map2 e
  obtain ⟨t1, rfl⟩ := pv_str e1
  obtain ⟨t2, rfl⟩ := pv_str e2
  unfold okF at hok
  simp only [Bool.and_eq_true, decide_eq_true_eq] at hok
  obtain ⟨⟨⟨h1, h2⟩, h3⟩, h4⟩ := hok
  obtain ⟨⟨o, ho, hd⟩, hc⟩ := k.fF
  obtain ⟨oD, nD, tD, hoD, hsD⟩ := k.oF
  refine CC.wv (args := ⟨[.str p t1, .str v t2], []⟩) (CC.def k.ok r ho hd hc rfl (bind_def (binds := [(Str.ofString "param", .str p t1), (Str.ofString "value", .str v t2), (Str.ofString "quote", .int 1 tD)]) rfl hoD hsD (by rfl) (by rfl) ⟨fun y hy => ?_, fun L hL rL => ?_⟩) (by show ∀ x ∈ fmtSrc.scope.names, x.2 ≠ .cell; decide +kernel))
  · simp only [List.mem_cons, List.not_mem_nil, or_false] at hy
    rcases hy with rfl | rfl | rfl <;> rfl
  have hσL : σ L = none := (hL L (Nat.le_refl _)).1
  have hvs : v.length ≤ sizeLine := Nat.le_trans h2 (by decide)
  refine XS.cons (EX.if (TS.and2 (TS.cmp (EV.loc (AH.set_self ..) (by rfl) (EV.noneC (CMP.isnot_none ⟨_, rfl, fun _ => ?_, fun hc => absurd (show (!decide (PV.str v = PV.none)) = false from hc) (by simp)⟩))))))
  refine TS.cmp (EV.callBi k.ok k.nLen k.bLen (EV.loc (AH.set_self ..) (by rfl) (CV.lenStr hvs (EV.int (CMP.gt_i ⟨_, rfl, fun hc => ?_, fun hc => ?_⟩)))))
  · have hlt : v.length > 0 := by
      have h9 : (v.length : Int) > 0 := of_decide_eq_true hc
      omega
    have hf : fmtP p v = ((p ++ Str.ofString "=\"") ++ q2 v) ++ Str.ofString "\"" := if_pos hlt
    refine XS.cons (EX.if (TS.or2 (TS.val (EV.loc (AH.set_self ..) (by rfl) (TRU.int ⟨fun _ => ⟨fun _ => ?_, fun h => (nomatch h)⟩, fun h => absurd h (by decide)⟩)))))
    refine XS.cons (EX.assign (EV.replace (by decide +kernel) (EV.replace (by decide +kernel) (EV.loc (AH.set_self ..) (by rfl) ⟨v, rfl, ?_, q1 v, rfl, ?_, ?_⟩))))
    · have : (Str.ofString "\\\\").length = 2 := by decide +kernel
      rw [this]; omega
    · have : (Str.ofString "\\\"").length = 2 := by decide +kernel
      rw [this]; omega
    refine ST.up ?_
    have l1 : (Str.ofString "=\"").length = 2 := by decide +kernel
    have l2 : (Str.ofString "\"").length = 1 := by decide +kernel
    have z1 : (p ++ Str.ofString "=\"").length = p.length + 2 := by rw [strLen_append, l1]
    have z2 : ((p ++ Str.ofString "=\"") ++ q2 v).length = p.length + 2 + (q2 v).length := by rw [strLen_append, z1]
    have z3 : (((p ++ Str.ofString "=\"") ++ q2 v) ++ Str.ofString "\"").length = p.length + 2 + (q2 v).length + 1 := by rw [strLen_append, z2, l2]
    have hsl : sizeLine = 16777216 := by decide
    refine XS.cons (EX.ret (EV.joined ?_))
    refine EV.fmtS (EV.loc (AH.set_self ..) (by rfl) ⟨p, rfl, by omega, p, rfl, by rw [Str.empty_append]; omega, ?_⟩)
    rw [Str.empty_append]
    refine EV.str ⟨_, rfl, by omega, ?_⟩
    refine EV.fmtS (EV.loc (AH.set_self ..) (by rfl) ⟨q2 v, rfl, by omega, q2 v, rfl, by omega, ?_⟩)
    refine EV.str ⟨_, rfl, by omega, by omega, ?_⟩
    rw [← hf]
    exact hQ _ (AH.le_setN (AH.le_refl _) hσL)
  · have hlt : ¬ v.length > 0 := by
      have h9 : ¬ (v.length : Int) > 0 := of_decide_eq_false hc
      omega
    have hf : fmtP p v = p := if_neg hlt
    refine XS.cons (EX.ret (EV.loc (AH.set_self ..) (by rfl) ?_))
    have := hQ _ (AH.le_setN (AH.le_refl σ) hσL (p := .ns (bindP [(Str.ofString "param", .str p t1), (Str.ofString "value", .str v t2), (Str.ofString "quote", .int 1 tD)])))
    rw [hf] at this
    exact this
end
end Mine
end

section
open PySem PySem.W PyProof.Rows Builtin Builtin.Str
set_option maxRecDepth 100000
namespace Mine
/-- _strip_quoted_realnames, a sign at a time: flag (behind a backslash), the piece ahead of an open quotation mark, what stands since the last closed one, what is out -/
def stripL : List Nat → Bool → Option (List Nat) → List Nat → List Nat → List Nat
  | [], _, _, cur, out => out ++ cur
  | c :: r, true, op, cur, out => stripL r false op (cur ++ [c]) out
  | c :: r, false, op, cur, out => if c = 92 then stripL r true op (cur ++ [c]) out else
      if c = 34 then (match op with
        | none => stripL r false (some cur) (cur ++ [c]) out
        | some q => stripL r false none [] (out ++ q))
      else stripL r false op (cur ++ [c]) out
/-- the brackets' count, a sign at a time -/
def parL : List Nat → Bool → Int → Bool
  | [], _, d => d == 0
  | c :: r, true, d => parL r false d
  | c :: r, false, d => if c = 92 then parL r true d else if c = 40 then parL r false (d + 1) else if c = 41 then (if d - 1 < 0 then false else parL r false (d - 1)) else parL r false d

theorem dq_eq : dq = ⟨#[34]⟩ := by decide +kernel
theorem lb_eq : lb = ⟨#[40]⟩ := by decide +kernel
theorem rb_eq : rb = ⟨#[41]⟩ := by decide +kernel
theorem one_is {a c : Nat} : ((⟨[a].toArray⟩ : Str) = ⟨#[c]⟩) ↔ a = c := by simp
theorem two_is {a b c : Nat} : ¬ ((⟨[a, b].toArray⟩ : Str) = ⟨#[c]⟩) := by simp

theorem par_run : ∀ (l : List Nat) (p : Nat) (f : Bool) (d : Int), escEnd l f = false → parGo (esc l p f) d = parL l f d
  | [], p, true, d, h => by cases h
  | [], p, false, d, _ => rfl
  | c :: r, p, true, d, h => by
    show parGo ((p, [92, c]) :: esc r (p + 1) false) d = parL r false d
    unfold parGo
    rw [lb_eq, rb_eq, if_neg two_is, if_neg two_is]
    exact par_run r (p + 1) false d h
  | c :: r, p, false, d, h => by
    unfold esc parL
    unfold escEnd at h
    by_cases hc : c = 92
    · rw [if_pos hc, if_pos hc]
      exact par_run r (p + 1) true d (by simpa [hc] using h)
    · rw [if_neg hc, if_neg hc]
      have h' : escEnd r false = false := by simpa [hc] using h
      unfold parGo
      rw [lb_eq, rb_eq]
      by_cases h1 : c = 40
      · rw [if_pos (one_is.mpr h1), if_pos h1]; exact par_run r (p + 1) false (d + 1) h'
      · rw [if_neg (fun z => h1 (one_is.mp z)), if_neg h1]
        by_cases h2 : c = 41
        · rw [if_pos (one_is.mpr h2), if_pos h2]
          split
          · rfl
          · exact par_run r (p + 1) false (d - 1) h'
        · rw [if_neg (fun z => h2 (one_is.mp z)), if_neg h2]; exact par_run r (p + 1) false d h'

theorem stripL_no : ∀ (l : List Nat) (f : Bool) (cur out : List Nat), 34 ∉ l → stripL l f none cur out = out ++ cur ++ l
  | [], f, cur, out, _ => by cases f <;> simp [stripL]
  | c :: r, true, cur, out, h => by
    unfold stripL
    rw [stripL_no r false _ _ (fun z => h (List.mem_cons_of_mem _ z))]; simp
  | c :: r, false, cur, out, h => by
    have hr : 34 ∉ r := fun z => h (List.mem_cons_of_mem _ z)
    have hc : c ≠ 34 := fun z => h (by rw [z]; exact List.mem_cons_self)
    unfold stripL
    split
    · rw [stripL_no r true _ _ hr]; simp
    · rw [stripL_no r false _ _ hr]; simp

def flat (l : List Str) : List Nat := (l.map fun x => x.cps.toList).flatten
theorem flat_snoc (l : List Str) (x : Str) : flat (l ++ [x]) = flat l ++ x.cps.toList := by simp [flat]
theorem join_flat : ∀ l : List Str, (Txt.join (Str.ofString "") l).cps.toList = flat l := by
  intro l
  show (glued (Str.ofString "") l).cps.toList = _
  rw [StrLaws.glued_eq_join]
  have e : Str.ofString "" = Str.empty := by decide +kernel
  rw [e]
  induction l with
  | nil => rfl
  | cons x r ih =>
    cases r with
    | nil => simp [flat, PySem.Str.join]
    | cons y r =>
      show ((x ++ Str.empty) ++ PySem.Str.join Str.empty (y :: r)).cps.toList = _
      have ap : ∀ a b : Str, (a ++ b).cps.toList = a.cps.toList ++ b.cps.toList := fun a b => by
        show (a.cps ++ b.cps).toList = _; simp
      rw [ap, ap, ih]
      show (x.cps.toList ++ []) ++ _ = _
      simp [flat]
theorem flat_len : ∀ l : List Str, (flat l).length = (l.map (·.length)).sum
  | [] => rfl
  | x :: r => by
    have : flat (x :: r) = x.cps.toList ++ flat r := rfl
    rw [this, List.length_append, flat_len r]
    simp [PySem.Str.length]
theorem joinOk_flat {l : List Str} (h : (flat l).length ≤ 100000) : JoinOk (Str.ofString "") l = true := by
  unfold JoinOk
  rw [Bool.not_eq_true', StrLaws.joinTotal, ← flat_len]
  have : (Str.ofString "").length = 0 := by decide +kernel
  rw [this]
  unfold tooLong sizeLine
  exact decide_eq_false (by omega)

theorem drop_snoc {pre : List Nat} {c st : Nat} (h : st ≤ pre.length) : (pre ++ [c]).drop st = pre.drop st ++ [c] := by
  rw [List.drop_append_of_le_length h]
theorem take_snoc {pre : List Nat} {c st o : Nat} (h : st ≤ pre.length) (h2 : o ≤ pre.length) : ((pre ++ [c]).drop st).take (o - st) = (pre.drop st).take (o - st) := by
  rw [drop_snoc h, List.take_append_of_le_length (by simp; omega)]

def opOk (pre : List Nat) (st : Nat) : Option Nat → Option (List Nat) → Prop
  | none, none => True
  | some o, some q => st ≤ o ∧ o ≤ pre.length ∧ q = (pre.drop st).take (o - st)
  | _, _ => False
theorem opOk.snoc {pre : List Nat} {st c : Nat} (hs : st ≤ pre.length) : ∀ {op : Option Nat} {q : Option (List Nat)}, opOk pre st op q → opOk (pre ++ [c]) st op q
  | none, none, _ => trivial
  | some o, some q, ⟨h1, h2, h3⟩ => ⟨h1, by simp; omega, by rw [take_snoc hs h2]; exact h3⟩
  | none, some _, h => h
  | some _, none, h => h

theorem strip_run (x : Str) : ∀ (l pre : List Nat) (f : Bool) (st : Nat) (op : Option Nat) (q : Option (List Nat)) (res : List Str), x.cps.toList = pre ++ l → escEnd l f = false → st ≤ pre.length → opOk pre st op q →
    ∃ st' res', stripGo x (esc l pre.length f) st op res = some (st', res') ∧ st' ≤ x.length ∧ flat res' ++ x.cps.toList.drop st' = stripL l f q (pre.drop st) (flat res)
  | [], pre, true, _, _, _, _, _, h, _, _ => by cases h
  | [], pre, false, st, op, q, res, hx, _, hs, ho => by
    refine ⟨st, res, rfl, ?_, ?_⟩
    · have := congrArg List.length hx
      simp at this
      show st ≤ x.cps.size
      omega
    · unfold stripL; rw [hx]; simp
  | c :: r, pre, true, st, op, q, res, hx, h, hs, ho => by
    have ih := strip_run x r (pre ++ [c]) false st op q res (by rw [hx]; simp) h (by simp; omega) (ho.snoc hs)
    rw [drop_snoc hs, List.length_append] at ih
    obtain ⟨st', res', e1, e2, e3⟩ := ih
    refine ⟨st', res', ?_, e2, e3⟩
    show stripGo x ((pre.length, [92, c]) :: esc r (pre.length + 1) false) st op res = _
    unfold stripGo
    rw [dq_eq, if_neg two_is]
    exact e1
  | c :: r, pre, false, st, op, q, res, hx, h, hs, ho => by
    have hlen : (pre ++ [c]).length = pre.length + 1 := by simp
    have hxl : x.length = pre.length + 1 + r.length := by
      have := congrArg List.length hx
      simp at this
      show x.cps.size = _
      omega
    unfold esc stripL
    unfold escEnd at h
    by_cases hc : c = 92
    · have h' : escEnd r true = false := by simpa [hc] using h
      rw [if_pos hc, if_pos hc]
      have ih := strip_run x r (pre ++ [c]) true st op q res (by rw [hx]; simp) h' (by simp; omega) (ho.snoc hs)
      rw [drop_snoc hs, hlen] at ih
      exact ih
    · have h' : escEnd r false = false := by simpa [hc] using h
      rw [if_neg hc, if_neg hc]
      by_cases hq : c = 34
      · rw [if_pos hq]
        have hdq : (⟨[c].toArray⟩ : Str) = dq := by rw [dq_eq]; exact one_is.mpr hq
        match op, q, ho with
        | none, none, _ =>
          have ih := strip_run x r (pre ++ [c]) false st (some pre.length) (some (pre.drop st)) res (by rw [hx]; simp) h' (by simp; omega) ⟨hs, by simp, by rw [take_snoc hs (Nat.le_refl _), List.take_of_length_le (by simp)]⟩
          rw [drop_snoc hs, hlen] at ih
          obtain ⟨st', res', e1, e2, e3⟩ := ih
          refine ⟨st', res', ?_, e2, e3⟩
          unfold stripGo
          rw [if_pos hdq]
          exact e1
        | some o, some q, ⟨h1, h2, h3⟩ =>
          have ih := strip_run x r (pre ++ [c]) false (pre.length + 1) none none (if st = o then res else res ++ [cut x st o]) (by rw [hx]; simp) h' (by simp) trivial
          have hd : (pre ++ [c]).drop (pre.length + 1) = [] := List.drop_of_length_le (by simp)
          have hf : flat (if st = o then res else res ++ [cut x st o]) = flat res ++ q := by
            split
            · rename_i e
              rw [h3, e]; simp
            · rw [flat_snoc]
              congr 1
              show (((x.cps.toList.drop st).take (o - st)).toArray).toList = q
              rw [hx, h3]
              simp only [List.drop_append_of_le_length hs]
              rw [List.take_append_of_le_length (by simp; omega)]
          rw [hd, hlen, hf] at ih
          obtain ⟨st', res', e1, e2, e3⟩ := ih
          refine ⟨st', res', ?_, e2, e3⟩
          unfold stripGo
          rw [if_pos hdq]
          dsimp only
          rw [if_pos ⟨h1, by omega⟩]
          exact e1
        | none, some _, h => exact h.elim
        | some _, none, h => exact h.elim
      · rw [if_neg hq]
        have ih := strip_run x r (pre ++ [c]) false st op q res (by rw [hx]; simp) h' (by simp; omega) (ho.snoc hs)
        rw [drop_snoc hs, hlen] at ih
        obtain ⟨st', res', e1, e2, e3⟩ := ih
        refine ⟨st', res', ?_, e2, e3⟩
        unfold stripGo
        rw [dq_eq, if_neg (fun z => hq (one_is.mp z))]
        exact e1

theorem stripL_len : ∀ (l : List Nat) (f : Bool) (q : Option (List Nat)) (cur out : List Nat), (∀ z, q = some z → z.length ≤ cur.length) → (stripL l f q cur out).length ≤ out.length + cur.length + l.length
  | [], f, q, cur, out, _ => by cases f <;> simp [stripL]
  | c :: r, true, q, cur, out, h => by
    unfold stripL
    have := stripL_len r false q (cur ++ [c]) out (fun z e => by have := h z e; simp; omega)
    simp at this ⊢; omega
  | c :: r, false, q, cur, out, h => by
    unfold stripL
    split
    · have := stripL_len r true q (cur ++ [c]) out (fun z e => by have := h z e; simp; omega)
      simp at this ⊢; omega
    · split
      · cases q with
        | none =>
          have := stripL_len r false (some cur) (cur ++ [c]) out (fun z e => by cases e; simp)
          simp at this ⊢; omega
        | some z =>
          have := stripL_len r false none [] (out ++ z) (fun _ e => by cases e)
          have h2 := h z rfl
          simp at this ⊢; omega
      · have := stripL_len r false q (cur ++ [c]) out (fun z e => by have := h z e; simp; omega)
        simp at this ⊢; omega

theorem stripP_eq {x : Str} (hl : x.length ≤ 1000) (he : escEnd x.cps.toList false = false) : stripP x = some ⟨(stripL x.cps.toList false none [] []).toArray⟩ := by
  unfold stripP
  rw [if_neg (by omega)]
  have hco : Txt.contains x dq = decide (34 ∈ x.cps.toList) := by
    rw [dq_eq]; exact StrLaws.found_one x 34
  by_cases hm : 34 ∈ x.cps.toList
  · rw [if_neg (by rw [hco]; simp [hm]), if_neg (by rw [he]; decide)]
    obtain ⟨st, res, e1, e2, e3⟩ := strip_run x x.cps.toList [] false 0 none none [] rfl he (Nat.le_refl _) trivial
    have e1' : stripGo x (esc x.cps.toList 0 false) 0 none [] = some (st, res) := e1
    rw [e1']
    have hsl : (stripL x.cps.toList false none [] []).length ≤ 1000 := by
      have := stripL_len x.cps.toList false none [] [] (fun _ e => by cases e)
      have h9 : x.cps.toList.length = x.length := by simp [PySem.Str.length]
      simp only [List.length_nil] at this
      omega
    have e3' : flat res ++ x.cps.toList.drop st = stripL x.cps.toList false none [] [] := e3
    have hfl : flat (if st < x.length then res ++ [cut x st x.length] else res) = stripL x.cps.toList false none [] [] := by
      rw [← e3']
      split
      · rw [flat_snoc]
        congr 1
        show (((x.cps.toList.drop st).take (x.length - st)).toArray).toList = _
        rw [List.take_of_length_le (by simp [PySem.Str.length])]
      · rw [List.drop_of_length_le (by simp [PySem.Str.length] at *; omega)]; simp
    dsimp only
    rw [if_pos (joinOk_flat (by rw [hfl]; omega)), ← hfl, ← join_flat]
  · rw [if_pos (by rw [hco]; simp [hm]), stripL_no _ _ _ _ hm]
    simp
/-- _check_parenthesis, a sign at a time -/
def chkL (l : List Nat) : Bool := parL (stripL l false none [] []) false 0
theorem checkP_eq {x : Str} (hl : x.length ≤ 1000) (he : escEnd x.cps.toList false = false) (he2 : escEnd (stripL x.cps.toList false none [] []) false = false) : checkP x = some (chkL x.cps.toList) := by
  unfold checkP
  rw [stripP_eq hl he]
  dsimp only
  rw [if_neg (by rw [he2]; decide)]
  congr 1
  exact par_run _ 0 false 0 he2
end Mine
end

section
open PySem PySem.W PyProof.Rows Builtin Builtin.Str
set_option maxRecDepth 100000
namespace Mine
def fdAt (K : Frag) (a : Addr) : Option FuncData := match K.lookup a with
  | some ⟨_, _, .func fd, _⟩ => some fd
  | _ => none
def fmOfFd (fd : FuncData) : FM := ⟨fd.name, fd.qualname, fd.doc, fd.pyModule, fd.annotations, fd.code, fd.closureTuple⟩
def fmAt (K : Frag) (a : Addr) : FM := match fdAt K a with
  | some fd => fmOfFd fd
  | none => ⟨PySem.Str.empty, PySem.Str.empty, .none, .none, none, .none, .none⟩
def globAt (K : Frag) (x : Str) : Option Value := match K.lookup mainGlobals with
  | some ⟨_, _, .dict es _, _⟩ => nsFind es x
  | _ => some .none
def seqAt (K : Frag) (a : Addr) : Option (Array Value) := match K.lookup a with
  | some ⟨_, _, .seq vs _, _⟩ => some vs
  | _ => none
/-- a function's object, as the heap has it -/
structure FnK (K : Frag) (a : Addr) (src : Src) (dV kV : Value) : Prop where
  fd : fdAt K a = some (mkFnD src dV kV (fmAt K a))
  cd : codeIn K (fmAt K a).cdv (fmAt K a).qual = true
structure MeK (K : Frag) (C : Addr) (name : Str) (f : Addr) (src : Src) (dV : Value) : Prop where
  fn : FnK K f src dV .none
  find : findIn K (.ref C) name = some (some (.ref f))
  ty : typeIn K (.ref f) = some (.type "function")
def patK (K : Frag) (a : Addr) : Option (Value × Value × Addr × Array Value) := match K.lookup a with
  | some ⟨.type t, none, .fields ⟨[src, fl, .int i ti, .none, .none, .ref cd, .int j tj]⟩, ⟨[]⟩⟩ => if t = "re.Pattern" ∧ i = 0 ∧ ti = 0 ∧ j = 0 ∧ tj = 0 then (match K.lookup cd with
      | some ⟨.type u, none, .seq vals _, ⟨[]⟩⟩ => if u = "tuple" then some (src, fl, cd, vals) else none
      | _ => none) else none
  | _ => none
section
variable {X : Cx} {K : Frag}
theorem fdAt_some {a : Addr} {fd : FuncData} (h : fdAt K a = some fd) : ∃ o, K.lookup a = some o ∧ o.data = .func fd := by
  unfold fdAt at h
  split at h
  · rename_i e; cases h; exact ⟨_, e, rfl⟩
  · cases h
theorem FnK.go {a : Addr} {src : Src} {dV kV : Value} (kx : K.In X.base) (h : FnK K a src dV kV) : FnD X a src dV kV (fmAt K a) :=
  ⟨let ⟨o, e, d⟩ := fdAt_some h.fd; ⟨o, kx _ _ e, d⟩, codeRec_of kx h.cd⟩
def MeK.go {C f : Addr} {name : Str} {src : Src} {dV : Value} (kx : K.In X.base) (h : MeK K C name f src dV) : Me X K C name src dV :=
  ⟨f, fmAt K f, h.find, h.ty, h.fn.go kx⟩
theorem globAt_mg {mg : Str → Option Value} {x : Str} {r : Option Value} (kx : K.In X.base) (hn : X.base.Ns mainGlobals mg) (h : globAt K x = r) (hr : r ≠ some .none) : mg x = r := by
  obtain ⟨o, es, ep, ho, hd, _, hf⟩ := hn
  unfold globAt at h
  split at h
  · rename_i c d es' n sl e
    have := kx _ _ e
    rw [ho] at this
    cases this
    cases hd
    rw [← hf, h]
  · exact absurd h.symm hr
theorem seqAt_some {a : Addr} {vs : Array Value} (kx : K.In X.base) (h : seqAt K a = some vs) : ∃ o n, X.base.get? a = some o ∧ o.data = .seq vs n := by
  unfold seqAt at h
  split at h
  · rename_i e; cases h; exact ⟨_, _, kx _ _ e, rfl⟩
  · cases h
theorem patK_go {a : Addr} {code : Array Nat} (kx : K.In X.base) (h : (patK K a).map (fun z => ((z.2.2.2.map Builtin.Re.reRawOf).map (·.toNat))) = some code) : Pat X a code := by
  cases hp : patK K a with
  | none => rw [hp] at h; cases h
  | some z =>
    rw [hp] at h
    unfold patK at hp
    split at hp
    · rename_i t src fl i ti cd j tj e
      split at hp
      · rename_i hc
        obtain ⟨rfl, rfl, rfl, rfl, rfl⟩ := hc
        split at hp
        · rename_i u vals n e2
          split at hp
          · rename_i hu
            subst hu
            cases hp
            exact ⟨_, _, _, _, _, kx _ _ e, kx _ _ e2, by simpa using h⟩
          · cases hp
        · cases hp
      · cases hp
    · cases hp
end
def oneDef : Option (Array Value) → Bool
  | some ⟨[.none, .int i _]⟩ => i == 1
  | _ => false
theorem oneDef_some {o : Option (Array Value)} (h : oneDef o = true) : ∃ t, o = some #[.none, .int 1 t] := by
  unfold oneDef at h
  split at h
  · rename_i i t
    have : i = 1 := eq_of_beq h
    subst this
    exact ⟨t, rfl⟩
  · cases h
/-- what the heap of the top holds, both laws -/
structure FxF (K : Frag) (aE aS aC aF C dI dG dF pN pV i1 i2 i3 i4 i5 i6 i7 i8 : Addr) : Prop where
  gE : globAt K (Str.ofString "_iter_escaped_chars") = some (.ref aE)
  gS : globAt K (Str.ofString "_strip_quoted_realnames") = some (.ref aS)
  gC : globAt K (Str.ofString "_check_parenthesis") = some (.ref aC)
  gF : globAt K (Str.ofString "_formatparam") = some (.ref aF)
  gH : globAt K (Str.ofString "Headers") = some (.ref C)
  gN : globAt K (Str.ofString "_name_disallowed_re") = some (.ref pN)
  gV : globAt K (Str.ofString "_value_disallowed_re") = some (.ref pV)
  fE : FnK K aE escSrc .none .none
  fS : FnK K aS stripSrc .none .none
  fC : FnK K aC checkSrc .none .none
  fF : FnK K aF fmtSrc (.ref dF) .none
  nEnum : globAt K (Str.ofString "enumerate") = none
  nLen : globAt K (Str.ofString "len") = none
  nType : globAt K (Str.ofString "type") = none
  nStr : globAt K (Str.ofString "str") = none
  nList : globAt K (Str.ofString "list") = none
  keep : keepIn K (.ref C) = true
  makes : makesIn K C = true
  ga : findIn K (.ref C) "__getattribute__" = some (some (.builtin "object.__getattribute__"))
  gk : findIn K (.ref C) "__getattr__" = some none
  sa : findIn K (.ref C) "__setattr__" = some (some (.builtin "object.__setattr__"))
  po : plainOver K C = true
  tk : takerIn K C (Str.ofString "_headers") = some none
  hd : hasDictIn K C = true
  ah : findIn K (.ref C) (Str.ofString "_headers") = some none
  ns : noSeq K C = true
  oI : seqAt K dI = some #[.none]
  oG : seqAt K dG = some #[.none]
  oF : oneDef (seqAt K dF) = true
  mI : MeK K C (Str.ofString "__init__") i1 (srcAt hdrs 0) (.ref dI)
  mCv : MeK K C (Str.ofString "_convert_string_type") i2 (srcAt hdrs 1) .none
  mSet : MeK K C (Str.ofString "__setitem__") i3 (srcAt hdrs 3) .none
  mDel : MeK K C (Str.ofString "__delitem__") i4 (srcAt hdrs 4) .none
  mAll : MeK K C (Str.ofString "get_all") i5 (srcAt hdrs 7) .none
  mGet : MeK K C (Str.ofString "get") i6 (srcAt hdrs 8) (.ref dG)
  mKeys : MeK K C (Str.ofString "keys") i7 (srcAt hdrs 9) .none
  mAdd : MeK K C (Str.ofString "add_header") i8 (srcAt hdrs 16) .none
  patN : (patK K pN).map (fun z => ((z.2.2.2.map Builtin.Re.reRawOf).map (·.toNat))) = some codeN
  patV : (patK K pV).map (fun z => ((z.2.2.2.map Builtin.Re.reRawOf).map (·.toNat))) = some codeV
  smod : (K.lookup sysModules).isSome = true
def knF {X : Cx} {K : Frag} {aE aS aC aF C dI dG dF pN pV i1 i2 i3 i4 i5 i6 i7 i8 : Addr} (kx : K.In X.base) (O : X.Ok) (hb : ∀ x : Str, x ≠ "__name__" → X.mb x = bootBuiltins x) (f : FxF K aE aS aC aF C dI dG dF pN pV i1 i2 i3 i4 i5 i6 i7 i8) : KnF X where
  ok := O
  aE := aE
  mE := fmAt K aE
  fE := f.fE.go kx
  gE := globAt_mg kx O.g f.gE (by simp)
  aS := aS
  mS := fmAt K aS
  fS := f.fS.go kx
  gS := globAt_mg kx O.g f.gS (by simp)
  aC := aC
  mC := fmAt K aC
  fC := f.fC.go kx
  gC := globAt_mg kx O.g f.gC (by simp)
  nEnum := globAt_mg kx O.g f.nEnum (by simp)
  bEnum := (hb _ (by decide +kernel)).trans (by kernel_rfl)
  nLen := globAt_mg kx O.g f.nLen (by simp)
  bLen := (hb _ (by decide +kernel)).trans (by kernel_rfl)
  K := K
  kin := kx
  C := C
  cl := ⟨f.keep, f.makes, f.ga, f.gk, f.sa, f.po, f.tk, f.hd, f.ah, f.ns⟩
  gC' := globAt_mg kx O.g f.gH (by simp)
  dI := dI
  oI := seqAt_some kx f.oI
  mI := f.mI.go kx
  mCv := f.mCv.go kx
  mSet := f.mSet.go kx
  mDel := f.mDel.go kx
  mAll := f.mAll.go kx
  dG := dG
  oG := seqAt_some kx f.oG
  mGet := f.mGet.go kx
  mKeys := f.mKeys.go kx
  mAdd := f.mAdd.go kx
  pN := pN
  gN := globAt_mg kx O.g f.gN (by simp)
  patN := patK_go kx f.patN
  pV := pV
  gV := globAt_mg kx O.g f.gV (by simp)
  patV := patK_go kx f.patV
  nType := globAt_mg kx O.g f.nType (by simp)
  bType := (hb _ (by decide +kernel)).trans (by kernel_rfl)
  nStr := globAt_mg kx O.g f.nStr (by simp)
  bStr := (hb _ (by decide +kernel)).trans (by kernel_rfl)
  nList := globAt_mg kx O.g f.nList (by simp)
  bList := (hb _ (by decide +kernel)).trans (by kernel_rfl)
  smod := let ⟨o, e⟩ := Option.isSome_iff_exists.mp f.smod; ⟨o, kx _ _ e⟩
  aF := aF
  mF := fmAt K aF
  dF := dF
  fF := f.fF.go kx
  oF := let ⟨t, e⟩ := oneDef_some f.oF; let ⟨o, n, h1, h2⟩ := seqAt_some kx e; ⟨o, n, t, h1, h2⟩
  gF := globAt_mg kx O.g f.gF (by simp)
end Mine
end

section
open PySem PySem.W PyProof.Rows
namespace Mine
/-- the frame of a comprehension with two names, behind a pair -/
def ns2 (τ : AH) (x x2 : Str) : Option PV → PO
  | some (.ref t) => match τ t with
    | some (.tuple [a, b]) => .ns fun z => if z = x2 then some b else if z = x then some a else .none
    | _ => .ns fun _ => .none
  | _ => .ns fun _ => .none
theorem ns2_some {τ : AH} {x x2 : Str} {t : Addr} {a b : PV} (h : τ t = some (.tuple [a, b])) : ns2 τ x x2 (some (.ref t)) = .ns fun z => if z = x2 then some b else if z = x then some a else .none := by
  simp only [ns2, h]
theorem ns2_is (τ : AH) (x x2 : Str) (o : Option PV) : ∃ m, ns2 τ x x2 o = .ns m ∧ ∀ z, z ≠ x → z ≠ x2 → m z = .none := by
  unfold ns2
  split
  · split
    · exact ⟨_, rfl, fun z h1 h2 => by simp [h1, h2]⟩
    · exact ⟨_, rfl, fun _ _ _ => rfl⟩
  · exact ⟨_, rfl, fun _ _ _ => rfl⟩
section
variable {X : Cx} {A : Around} {env : Env} {σ : AH}
/-- the block of a comprehension behind its source -/
theorem comp_blockT {elt iter : Expr} {ifs : List Expr} {scope : Scope} {pos px px2 tp : Pos} {kk : Nat} {x x2 : Str} {cl : List (Str × Addr)} {n : Nat} {item : Nat → PV} {Need : AH → Prop} {p : PV} {s : Shared} (hh : A.handled = none)
    (hcell : ∀ y ∈ scope.names, y.2 ≠ .cell) (hkind : scope.kind = .function) (hx : scope.names.lookup x = some .local) (hx2 : scope.names.lookup x2 = some .local) (hsrc : ISRC σ p n item Need) (hn : n ≤ sizeLine) (R : Real X σ s) {v : Value} (hv : pv v = p)
    (J : Nat → Nat → List PV → AH → Prop) {Q' : Value → Shared → Prop} {use : Option (Value → Sem Unit)}
    (h0 : ∀ C : Nat, (∀ b : Nat, C ≤ b → σ b = none ∧ X.base.get? b = none) → J C 0 [] σ)
    (hJ : ∀ (C : Nat) i acc σ', i ≤ n → J C i acc σ' → σ' C = none ∧ Need σ')
    (htup : ∀ (C : Nat) i acc σ', i < n → J C i acc σ' → ∃ t a b, item i = .ref t ∧ σ' t = some (.tuple [a, b]) ∧ σ t = some (.tuple [a, b]))
    (turn : ∀ (C : Nat) i acc σ', (∀ b : Nat, C ≤ b → σ b = none ∧ X.base.get? b = none) → i < n → J C i acc σ' → TSL X A (compEnvC scope cl C env) ifs (σ'.set C (ns2 σ x x2 (some (item i)))) fun ok σ₂ =>
      (ok = true → EV X A (compEnvC scope cl C env) elt σ₂ fun y σ₃ => ∃ σ₄, AH.le (σ₄.set C (ns2 σ x x2 (some (item i)))) σ₃ ∧ J C (i + 1) (acc ++ [y]) σ₄) ∧ (ok = false → ∃ σ₄, AH.le (σ₄.set C (ns2 σ x x2 (some (item i)))) σ₂ ∧ J C (i + 1) acc σ₄))
    (hR : ∀ (C D : Nat) o acc σ' s' ys, (∀ b : Nat, D ≤ b → σ b = none ∧ X.base.get? b = none) → D < C → J C n acc σ' → AlongH X σ s [D] (σ'.set C (ns2 σ x x2 o)) s' → s'.heap.PlainList D ys → ys.toList.map pv = acc → compPost (model X.prog X.w) A (fun _ _ => False) use Q' (.ref D) C (.ok .next) s') :
    wpAny (model X.prog X.w) A (pyIter v) (fun it s₂ => wpAny (model X.prog X.w) A (newList []) (fun acc s₃ =>
      wpAny (model X.prog X.w) A (newFunctionEnv scope env.globals cl [] env.qual none .none (some env)) (fun cenv s₄ =>
        codeAny (model X.prog X.w) A (.compStart (.ListComp elt [⟨.Tuple [.Name x px, .Name x2 px2] kk tp, iter, ifs, 0⟩] scope pos) 0 it acc { cenv with scope := relabel scope env }) (compPost (model X.prog X.w) A (fun _ _ => False) use Q' acc cenv.locals) s₄) (fun _ _ => False) s₃) (fun _ _ => False) s₂) (fun _ _ => False) s := by
  refine iter_src hh hsrc R hv fun St o T st0 hfo => ?_
  have hf := fresh_from R
  generalize hI : s.heap.objs.size = I at *
  have hs1 : (s.heap.push o).objs.size = I + 1 := by rw [Heap.size_push, hI]
  refine wpAny_newObj_type (wpAny_newFunctionEnv hcell (by intro y hy; simp at hy) (fun h₁ hns hsb => ?_) hkind)
  dsimp only at hns hsb ⊢
  generalize hH2 : (s.heap.push o).push { cls := .type "list", dict := none, data := .seq ([] : List Value).toArray } = H2 at hns hsb ⊢
  have hs2 : H2.objs.size = I + 2 := by rw [← hH2, Heap.size_push, hs1]
  rw [hs2] at hns hsb ⊢
  rw [hs1]
  have k1 : ∀ b o', s.heap.get? b = some o' → H2.get? b = some o' := fun b o' e => hH2 ▸ Heap.get?_push_of_some _ (Heap.get?_push_of_some _ e)
  have kI : H2.get? I = some o := hH2 ▸ Heap.get?_push_of_some _ (hI ▸ Heap.get?_push_size _ hfo)
  have kD : H2.get? (I + 1) = some { cls := .type "list", dict := none, data := .seq ([] : List Value).toArray } := by
    rw [← hs1, ← hH2]; exact Heap.get?_push_size _ rfl
  have up : ∀ b o', b ≠ I + 2 → H2.get? b = some o' → h₁.get? b = some o' := fun b o' hb e => hsb.extBut b o' hb (Heap.get?_push_of_some _ e)
  have old : ∀ b o', s.heap.get? b = some o' → h₁.get? b = some o' := fun b o' e => up b o' (Nat.ne_of_lt (Nat.lt_of_lt_of_le (Heap.lt_size e) (by rw [hI]; omega))) (k1 b o' e)
  have hI1 : h₁.get? I = some o := up _ _ (Nat.ne_of_lt (by omega : I < I + 2)) kI
  have hD1 : h₁.PlainList (I + 1) #[] := ⟨_, up _ _ (Nat.ne_of_lt (by omega : I + 1 < I + 2)) kD⟩
  have st1 : St 0 h₁ := T.frame _ _ _ st0 fun o' e => by
    have : (s.heap.push o).get? I = some o := hI ▸ Heap.get?_push_size _ hfo
    rw [this] at e; cases e; exact hI1
  have hfC : ∀ b, I + 2 ≤ b → σ b = none ∧ X.base.get? b = none := fun b hb => ⟨(hf b (by omega)).1, (hf b (by omega)).2.1⟩
  have fin : ∀ s₃ : Shared, s₃ = { s with heap := h₁, toks := s.toks + ([] : List (Str × Value)).length } →
      codeAny (model X.prog X.w) A (.compLoop (.ListComp elt [⟨.Tuple [.Name x px, .Name x2 px2] kk tp, iter, ifs, 0⟩] scope pos) 0 (.ref I) (.ref (I + 1)) (compEnvC scope cl (I + 2) env)) (compPost (model X.prog X.w) A (fun _ _ => False) use Q' (.ref (I + 1)) (I + 2)) s₃ := by
    rintro s₃ rfl
    refine comp_core (env := compEnvC scope cl (I + 2) env) (σ := σ) (σ₀ := σ) (s₀ := s) T (Nat.ne_of_lt (Nat.lt_succ_self I)) hn (J (I + 2)) (fun o σ' => σ'.set (I + 2) (ns2 σ x x2 o)) (fun i acc o σ' hi j => ?_) (fun i acc o σ' hi j => ?_) (fun i acc σ' hi j => turn _ i acc σ' hfC hi j) ?_ st1 hD1 (h0 _ hfC) (fun acc o σ' s' ys j L hp hy => hR (I + 2) (I + 1) o acc σ' s' ys (fun b hb => ⟨(hf b (by omega)).1, (hf b (by omega)).2.1⟩) (by omega) j L hp hy)
    · exact hsrc.set (hJ _ _ _ _ hi j).1 (hJ _ _ _ _ hi j).2
    · obtain ⟨t, a, b, e, ht, hσt⟩ := htup (I + 2) i acc σ' hi j
      obtain ⟨m0, hm0, hz⟩ := ns2_is σ x x2 o
      have htC : t ≠ I + 2 := fun z => by rw [z, (hJ _ _ _ _ (Nat.le_of_lt hi) j).1] at ht; cases ht
      rw [e, hm0]
      refine ASG.tup2 hh (p := a) (q := b) (by rw [AH.set_ne _ _ htC]; exact ht) ?_
      refine ST.loc (m := m0) (AH.set_self ..) ?_ (lookup_relabel_local hx) (by simp [compEnvC, relabel, hkind])
      refine ST.loc (m := upd m0 x a) (AH.set_self ..) ?_ (lookup_relabel_local hx2) (by simp [compEnvC, relabel, hkind])
      show ((σ'.set (I + 2) _).set (I + 2) _).set (I + 2) _ = _
      rw [AH.set_set, AH.set_set, ns2_some hσt]
      congr 2
      funext z
      simp only [upd]
      by_cases h1 : z = x2
      · simp [h1]
      · by_cases h2 : z = x
        · simp [h2]
        · simp [h1, h2, hz z h2 h1]
    · refine ⟨⟨fun a q e => ?_, fun b o' e => old b o' (R.base b o' e), fun a q e => ?_, R.gens, R.os, Nat.le_trans R.tk (Nat.le_add_right _ _)⟩, ⟨fun b o' _ e => old b o' e, fun b q e => ?_, fun _ _ => rfl, Nat.le_refl _⟩, fun b hb => ?_, fun b hb => ?_, fun b hb => ?_, fun b hb => ?_⟩
      · by_cases ha : a = I + 2
        · subst ha
          rw [AH.set_self] at e; cases e
          exact ⟨_, hns, fun y => rfl⟩
        · rw [AH.set_ne _ _ ha] at e; exact (R.rz a q e).keep fun o' ho => old a o' ho
      · by_cases ha : a = I + 2
        · subst ha; exact (hfC _ (Nat.le_refl _)).2
        · rw [AH.set_ne _ _ ha] at e; exact R.apart a q e
      · by_cases ha : b = I + 2
        · subst ha; exact .inr (hf _ (by omega)).2.2
        · rw [AH.set_ne _ _ ha] at e; exact .inl ⟨q, e⟩
      · rcases List.mem_cons.mp hb with rfl | hb
        · rw [AH.set_ne _ _ (Nat.ne_of_lt (Nat.lt_succ_of_lt (Nat.lt_succ_self _)))]; exact (hf _ (by omega)).1
        · rw [List.mem_singleton.mp hb, AH.set_ne _ _ (Nat.ne_of_lt (by omega : I + 1 < I + 2))]; exact (hf _ (by omega)).1
      · rcases List.mem_cons.mp hb with rfl | hb
        · exact (hf _ (by omega)).2.1
        · rw [List.mem_singleton.mp hb]; exact (hf _ (by omega)).2.1
      · rcases List.mem_cons.mp hb with rfl | hb
        · exact (hf _ (by omega)).2.2
        · rw [List.mem_singleton.mp hb]; exact (hf _ (by omega)).2.2
      · rcases List.mem_cons.mp hb with rfl | hb
        · exact ⟨_, hI1⟩
        · rw [List.mem_singleton.mp hb]; obtain ⟨k, e⟩ := hD1; exact ⟨_, e⟩
  exact codeAny_compStart_list (fin _ rfl) (wpAny_mono (T.self 0 _ st1 (fun it s' => it = .ref I ∧ s' = { s with heap := h₁, toks := s.toks + ([] : List (Str × Value)).length }) ⟨rfl, rfl⟩) (fun it s' ⟨e1, e2⟩ => by subst e1; exact fin s' e2) fun _ _ x => x.elim)

theorem EV.compT {elt iter : Expr} {ifs : List Expr} {scope : Scope} {pos px px2 tp : Pos} {kk : Nat} {x x2 : Str} {cl : List (Str × Addr)} {Q : PV → AH → Prop} (hh : A.handled = none) (hclos : closureFor scope env = pure cl)
    (h : EV X A env iter σ fun p σ₁ => ∃ (n : Nat) (item : Nat → PV) (Need : AH → Prop) (J : Nat → Nat → List PV → AH → Prop), ISRC σ₁ p n item Need ∧ n ≤ sizeLine ∧ (∀ C : Nat, (∀ b : Nat, C ≤ b → σ₁ b = none ∧ X.base.get? b = none) → J C 0 [] σ₁) ∧ (∀ (C : Nat) i acc σ', i ≤ n → J C i acc σ' → σ' C = none ∧ Need σ') ∧ (∀ (C : Nat) i acc σ', i < n → J C i acc σ' → ∃ t a b, item i = .ref t ∧ σ' t = some (.tuple [a, b]) ∧ σ₁ t = some (.tuple [a, b])) ∧
      (∀ (C : Nat) i acc σ', (∀ b : Nat, C ≤ b → σ₁ b = none ∧ X.base.get? b = none) → i < n → J C i acc σ' → TSL X A (compEnvC scope cl C env) ifs (σ'.set C (ns2 σ₁ x x2 (some (item i)))) fun ok σ₂ =>
        (ok = true → EV X A (compEnvC scope cl C env) elt σ₂ fun y σ₃ => ∃ σ₄, AH.le (σ₄.set C (ns2 σ₁ x x2 (some (item i)))) σ₃ ∧ J C (i + 1) (acc ++ [y]) σ₄) ∧ (ok = false → ∃ σ₄, AH.le (σ₄.set C (ns2 σ₁ x x2 (some (item i)))) σ₂ ∧ J C (i + 1) acc σ₄)) ∧
      (∀ (C D : Nat) acc σ', (∀ b : Nat, D ≤ b → σ₁ b = none ∧ X.base.get? b = none) → D < C → J C n acc σ' → σ' D = none → Q (.ref D) (σ'.set D (.list acc))))
    (hcell : ∀ y ∈ scope.names, y.2 ≠ .cell := by decide) (hkind : scope.kind = .function := by rfl) (hnames : ∀ y ∈ scope.names, y.2 = .local → scope.names.lookup y.1 = some .local := by decide) (hx : scope.names.lookup x = some .local := by rfl) (hx2 : scope.names.lookup x2 = some .local := by rfl)
    (hs : ∀ x, foldedSetIterable iter env x = pure x := by intro _; rfl) : EV X A env (.ListComp elt [⟨.Tuple [.Name x px, .Name x2 px2] kk tp, iter, ifs, 0⟩] scope pos) σ Q := by
  refine WP.of fun s R => ?_
  rw [eval_ListComp]
  refine wpAny_comprehension_free (use := none) rfl hs hclos hkind hnames (WP.go h R (Step.refl σ s) fun v σ₁ s₁ R₁ S₁ ⟨n, item, Need, J, hsrc, hn, h0, hJ, htup, turn, fin⟩ => ?_)
  refine comp_blockT hh hcell hkind hx hx2 hsrc hn R₁ rfl J h0 hJ htup turn fun C D o acc σ' s' ys hD hDC j L hp hy => ?_
  have hC := (hJ C n acc σ' (Nat.le_refl _) j).1
  have hDs : σ' D = none := by
    have := L.off D (by simp)
    rwa [AH.set_ne _ _ (Nat.ne_of_lt hDC)] at this
  obtain ⟨m, hns, _⟩ : ∃ m, s'.heap.Ns C m ∧ True := by
    obtain ⟨m0, hm0, _⟩ := ns2_is σ₁ x x2 o
    rw [hm0] at L
    obtain ⟨m, hm, _⟩ := L.real.rz C _ (AH.set_self ..); exact ⟨m, hm, trivial⟩
  refine ⟨m, hns, fun h' hs' => ⟨σ'.set D (.list acc), ?_, ?_, fin C D acc σ' hD hDC j hDs⟩⟩
  · have hbC : X.base.get? C = none := (hD C (Nat.le_of_lt hDC)).2
    refine ⟨fun a q e => ?_, fun b o' e => (hs'.2 b (fun z => by rw [z, hbC] at e; cases e)).trans (L.real.base b o' e), fun a q e => ?_, L.real.gens, L.real.os, L.real.tk⟩
    · by_cases ha : a = D
      · subst ha
        rw [AH.set_self] at e; cases e
        obtain ⟨k, e⟩ := hp
        exact ⟨ys, ⟨k, (hs'.2 a (Nat.ne_of_lt hDC)).trans e⟩, hy⟩
      · rw [AH.set_ne _ _ ha] at e
        have hne : a ≠ C := fun z => by rw [z, hC] at e; cases e
        exact (L.real.rz a q (by rw [AH.set_ne _ _ hne]; exact e)).keep fun o' ho => (hs'.2 a hne).trans ho
    · by_cases ha : a = D
      · subst ha; exact L.boff a (by simp)
      · rw [AH.set_ne _ _ ha] at e
        have hne : a ≠ C := fun z => by rw [z, hC] at e; cases e
        exact L.real.apart a q (by rw [AH.set_ne _ _ hne]; exact e)
  · refine S₁.trans ⟨fun b o' hb e => ?_, fun b q e => ?_, L.step.gens, L.step.gsize⟩
    · have h1 := L.step.keep b o' hb e
      refine (hs'.2 b fun z => ?_).trans h1
      subst z
      have := L.step.fresh b _ (AH.set_self ..)
      rcases this with ⟨q, hq⟩ | hq
      · rw [hb] at hq; cases hq
      · rw [e] at hq; cases hq
    · by_cases ha : b = D
      · subst ha; exact .inr (L.new b (by simp))
      · rw [AH.set_ne _ _ ha] at e
        have hne : b ≠ C := fun z => by rw [z, hC] at e; cases e
        exact L.step.fresh b q (by rw [AH.set_ne _ _ hne]; exact e)
end
end Mine
end

section
open PySem PySem.W PyProof.Rows Builtin Builtin.Str
set_option maxRecDepth 100000
namespace Mine
section
variable {X : Cx} {A : Around} {σ : AH} {Q : PV → AH → Prop}
theorem CV.keys (k : KnH X) {n : Nat} (r : Rm A (n + 1)) {x l : Addr} {tbl : List (Str × Str)} (T : Tab σ x k.C l tbl) (hsz : tbl.length ≤ 1000)
    (hQ : ∀ σ' D, σ.le σ' → σ D = none → σ' D = some (.list ((tbl.map (·.1)).map PV.str)) → Q (.ref D) σ') : CV X A (.ref k.mKeys.f) [.ref x] σ Q := by
  intro vals e
  obtain ⟨v1, rfl, e1⟩ := map1 e
  have := pv_ref e1
  subst this
  obtain ⟨ts, hl, hts⟩ := T.lst
  obtain ⟨⟨o, ho, hd⟩, hc⟩ := k.mKeys.fn
  refine CC.wv (args := ⟨[.ref x], []⟩) (CC.def k.ok r ho hd hc rfl (bind_eq (binds := [(Str.ofString "self", .ref x)]) (by rfl) ⟨fun y hy => by rw [List.mem_singleton.mp hy]; rfl, fun L hL rL => ?_⟩) (by show ∀ x ∈ (srcAt hdrs 9).scope.names, x.2 ≠ .cell; decide +kernel))
  have hσL : σ L = none := (hL L (Nat.le_refl _)).1
  have hστ : σ.le (σ.set L (.ns (bindP [(Str.ofString "self", .ref x)]))) := AH.le_setN (AH.le_refl _) hσL
  have tL : (σ.set L (.ns (bindP [(Str.ofString "self", .ref x)]))) L = some (.ns (bindP [(Str.ofString "self", .ref x)])) := AH.set_self ..
  generalize σ.set L (.ns (bindP [(Str.ofString "self", .ref x)])) = τ at *
  have hlen : ts.length = tbl.length := hts.len
  have htl := hστ l _ hl
  refine XS.cons (EX.ret (EV.compT (cl := []) rL.hh rfl (EV.attrOwn k.kin k.cl (EV.loc tL (by rfl) ⟨x, l, rfl, (T.le hστ).ins, (ts.map PV.ref).length, _, _, fun C i acc σ' => σ' = τ ∧ τ C = none ∧ acc = ((tbl.take i).map (·.1)).map PV.str, ISRC.list htl, ?_, fun C hC => ⟨rfl, (hC C (Nat.le_refl _)).1, rfl⟩, fun C i acc σ' hi ⟨e1, e2, e3⟩ => ⟨by rw [e1]; exact e2, by rw [e1]; exact htl⟩, ?_, ?_, ?_⟩))))
  · rw [List.length_map, hlen]; exact Nat.le_trans hsz (by decide)
  · rintro C i acc σ' hi ⟨e1, hCn, e3⟩
    rw [List.length_map] at hi
    have hi' : i < tbl.length := by rw [← hlen]; exact hi
    have ht := hστ _ _ (hts.get i hi hi')
    exact ⟨ts[i], _, _, getD_map hi, by rw [e1]; exact ht, ht⟩
  · rintro C i acc σ' hC hi ⟨e1, hCn, e3⟩
    subst e3
    rw [e1]
    rw [List.length_map] at hi
    have hi' : i < tbl.length := by rw [← hlen]; exact hi
    have ht := hστ _ _ (hts.get i hi hi')
    have hit : (ts.map PV.ref).getD i .none = .ref ts[i] := getD_map hi
    rw [hit, ns2_some ht]
    refine ⟨fun _ => ?_, fun h => (nomatch h)⟩
    refine EV.loc (AH.set_self ..) (by rfl) ⟨τ, AH.le_refl _, rfl, hCn, ?_⟩
    rw [List.take_succ_eq_append_getElem hi', List.map_append, List.map_append]; rfl
  · rintro C D acc σ' hD hDC ⟨e1, hCn, e3⟩ hDn
    subst e3
    rw [e1] at hDn ⊢
    refine hQ _ D (AH.le_trans hστ (AH.le_setN (AH.le_refl _) hDn)) ?_ ?_
    · cases q : σ D with
      | none => rfl
      | some z => rw [hστ D z q] at hDn; cases hDn
    · rw [AH.set_self, List.length_map, hlen, List.take_length]

def getP (tbl : List (Str × Str)) (nm : Str) : Option Str := match tbl with
  | [] => none
  | e :: r => if Txt.lower e.1 = nm then some e.2 else getP r nm
theorem CV.get (k : KnH X) {n : Nat} (r : Rm A (n + 2)) {x l : Addr} {nm v : Str} {tbl : List (Str × Str)} (T : Tab σ x k.C l tbl) (hn : okN (Txt.lower nm) = true) (hT : okT tbl = true) (hsz : tbl.length ≤ 1000) (hg : getP tbl (Txt.lower nm) = some v)
    (hQ : ∀ σ', σ.le σ' → Q (.str v) σ') : CV X A (.ref k.mGet.f) [.ref x, .str nm] σ Q := by
  intro vals e
  obtain ⟨v1, v2, rfl, e1, e2⟩ := map2 e
  obtain ⟨t2, rfl⟩ := pv_str e2
  have := pv_ref e1
  subst this
  obtain ⟨hn1, hn2⟩ := Bool.and_eq_true_iff.mp hn
  have hn2 : (Txt.lower nm).length ≤ 1000 := of_decide_eq_true hn2
  obtain ⟨ts, hl, hts⟩ := T.lst
  obtain ⟨⟨o, ho, hd⟩, hc⟩ := k.mGet.fn
  obtain ⟨oD, nD, hoD, hsD⟩ := k.oG
  refine CC.wv (args := ⟨[.ref x, .str nm t2], []⟩) (CC.def k.ok r ho hd hc rfl (bind_def (binds := [(Str.ofString "self", .ref x), (Str.ofString "name", .str nm t2), (Str.ofString "default", .none)]) rfl hoD hsD (by rfl) (by rfl) ⟨fun y hy => ?_, fun L hL rL => ?_⟩) (by show ∀ x ∈ (srcAt hdrs 8).scope.names, x.2 ≠ .cell; decide +kernel))
  · simp only [List.mem_cons, List.not_mem_nil, or_false] at hy
    rcases hy with rfl | rfl | rfl <;> rfl
  have hσL : σ L = none := (hL L (Nat.le_refl _)).1
  generalize hm : bindP [(Str.ofString "self", Value.ref x), (Str.ofString "name", Value.str nm t2), (Str.ofString "default", Value.none)] = m
  have m1 : m (Str.ofString "self") = some (.ref x) := by rw [← hm]; rfl
  have m2 : m (Str.ofString "name") = some (.str nm) := by rw [← hm]; rfl
  clear hm
  have hστ : σ.le (σ.set L (.ns m)) := AH.le_setN (AH.le_refl _) hσL
  have tL : (σ.set L (.ns m)) L = some (.ns m) := AH.set_self ..
  generalize σ.set L (.ns m) = τ at *
  refine XS.cons (EX.assign (EV.methKw k.kin k.cl k.mCv (EV.loc tL m1 ⟨x, l, rfl, (T.le hστ).ins, EV.methBi (EV.loc tL m2 ⟨GMB.lower, CV.lower (Nat.le_trans hn2 (by decide)) (CK.conv k rL (by exact hn1) fun σ' hle => ?_)⟩)⟩)))
  refine ST.at (hle _ _ tL) ?_
  have hσυ : σ.le (σ'.set L (.ns (upd m (Str.ofString "name") (.str (Txt.lower nm))))) := AH.le_setN (AH.le_trans hστ hle) hσL
  have uL : (σ'.set L (.ns (upd m (Str.ofString "name") (.str (Txt.lower nm))))) L = some (.ns (upd m (Str.ofString "name") (.str (Txt.lower nm)))) := AH.set_self ..
  generalize σ'.set L (.ns (upd m (Str.ofString "name") (.str (Txt.lower nm)))) = υ at *
  have n1 : upd m (Str.ofString "name") (.str (Txt.lower nm)) (Str.ofString "self") = some (.ref x) := by rw [upd_ne _ _ (by decide +kernel)]; exact m1
  have n2 : upd m (Str.ofString "name") (.str (Txt.lower nm)) (Str.ofString "name") = some (.str (Txt.lower nm)) := rfl
  have hlen : ts.length = tbl.length := hts.len
  refine XS.cons (EX.forList rL.hh (EV.attrOwn k.kin k.cl (EV.loc uL n1 ⟨x, l, rfl, (T.le hσυ).ins, l, ts.map PV.ref, fun i σ' => ∃ m', σ.le σ' ∧ σ' L = some (.ns m') ∧ m' (Str.ofString "name") = some (.str (Txt.lower nm)) ∧ getP (tbl.drop i) (Txt.lower nm) = some v, rfl, hσυ _ _ hl, ⟨_, hσυ, uL, n2, hg⟩, fun i σ' _ ⟨m', hle, _⟩ => hle _ _ hl, ?_, ?_⟩)))
  · rintro i σ' hi ⟨m', hle', L', nn, go⟩
    rw [List.length_map] at hi
    have hi' : i < tbl.length := by rw [← hlen]; exact hi
    have ht := hle' _ _ (hts.get i hi hi')
    rw [getD_map hi]
    rw [List.drop_eq_getElem_cons hi'] at go
    have hlow : (Txt.lower tbl[i].1).length ≤ sizeLine := of_decide_eq_true (List.all_eq_true.mp hT tbl[i] (List.getElem_mem _))
    refine ASG.tup2 rL.hh ht (ST.at L' (ST.up ?_))
    generalize hm2 : upd (upd m' (Str.ofString "k") (.str tbl[i].1)) (Str.ofString "v") (.str tbl[i].2) = m2
    have g1 : m2 (Str.ofString "name") = some (.str (Txt.lower nm)) := by rw [← hm2, upd_ne _ _ (by decide +kernel), upd_ne _ _ (by decide +kernel)]; exact nn
    have g2 : m2 (Str.ofString "k") = some (.str tbl[i].1) := by rw [← hm2]; rfl
    have g3 : m2 (Str.ofString "v") = some (.str tbl[i].2) := by rw [← hm2]; rfl
    clear hm2
    have wL : (σ'.set L (.ns m2)) L = some (.ns m2) := AH.set_self ..
    have hσw : σ.le (σ'.set L (.ns m2)) := AH.le_setN hle' hσL
    unfold getP at go
    refine XS.cons (EX.if (TS.cmp (EV.methBi (EV.loc wL g2 ⟨GMB.lower, CV.lower hlow (EV.loc wL g1 (CMP.eq_s ⟨_, rfl, fun hc => ?_, fun hc => ?_⟩))⟩))))
    · have hc' : Txt.lower tbl[i].1 = Txt.lower nm := of_decide_eq_true hc
      rw [if_pos hc'] at go
      cases go
      exact XS.cons (EX.ret (EV.loc wL g3 (hQ _ hσw)))
    · have hc' : ¬ Txt.lower tbl[i].1 = Txt.lower nm := of_decide_eq_false hc
      rw [if_neg hc'] at go
      exact XS.nil (XS.nil ⟨m2, hσw, wL, g1, go⟩)
  · rintro σ' ⟨m', _, _, _, go⟩
    rw [List.length_map, hlen, List.drop_length] at go
    cases go
end
end Mine
end

section
open PySem PySem.W PyProof.Rows Builtin Builtin.Str
set_option maxRecDepth 100000
namespace Mine
theorem setItem_all {prog : Program} {w : World} {A : Around} {E : Value → Shared → Prop} {s : Shared} {l sl D : Addr} {items new : Array Value} {Q : Unit → Shared → Prop} (hl : s.heap.PlainList l items) (hs : s.heap.IsSliceOf sl .none .none .none) (hD : s.heap.PlainList D new) (hne : l ≠ D)
    (hsz : items.size + new.size ≤ sizeLine) (hQ : ∀ h', h'.PlainList l new → Heap.SameBut l s.heap h' → Q () { s with heap := h' }) :
    wpAny (model prog w) A (setItem (.ref l) (.ref sl) (.ref D)) Q E s := by
  obtain ⟨n, ho⟩ := hl
  obtain ⟨nD, hoD⟩ := hD
  obtain ⟨os, hos, hcs, hds⟩ := id hs
  have hTs : s.TypeIs (.ref sl) "slice" := ⟨os, hos, hcs⟩
  have hT : s.TypeIs (.ref l) "list" := ⟨_, ho, rfl⟩
  have hTD : s.TypeIs (.ref D) "list" := ⟨_, hoD, rfl⟩
  unfold setItem
  refine wpAny_holding (wpAny_bind (wpAny_sequenceKey hT (by decide) ?_))
  refine wpAny_bind (wpAny_callSpecial?_slot (name := Str.ofString "__setitem__") hT PySem.slot_list_setitem
    (wpAny_call_entry PySem.slot_list_setitem hT PySem.entry_list_setitem ?_ (PySem.args_list_setitem _ _ _)))
  show wpAny _ _ (Builtin.List.listSubscript? (.ref sl) >>= _) _ _ s
  refine wpAny_bind ?_
  unfold Builtin.List.listSubscript?
  refine wpAny_bind (wpAny_specialOf hTs slice_no_index ?_)
  simp only [Option.isNone_none, if_true]
  refine wpAny_pure ?_
  show wpAny _ _ (typeOf (.ref sl) >>= _) _ _ s
  refine wpAny_bind (wpAny_typeOf hTs ?_)
  rw [if_neg (by decide)]
  rw [listSliceParts_eq]
  refine wpAny_bind (wpAny_bind (wpAny_field hos hds (x := .none) rfl (wpAny_bind (wpAny_listPart .none ?_))))
  rw [if_neg (show ¬ ((rawPart none == rawInt 0) = true) from Bool.false_ne_true)]
  refine wpAny_bind (wpAny_field hos hds (x := .none) rfl (wpAny_bind (wpAny_listPart .none ?_)))
  refine wpAny_bind (wpAny_field hos hds (x := .none) rfl (wpAny_bind (wpAny_listPart .none (wpAny_pure ?_))))
  have hsr : ¬ (Builtin.List.listSameRef (.ref l) (.ref D) = true) := by
    show ¬ ((l == D) = true)
    simpa using hne
  dsimp only
  rw [if_neg hsr]
  have lst : ∀ (A' : Around) (a : Addr) (xs : Array Value) (k : Nat) (R : Array Value → Shared → Prop), s.heap.get? a = some { cls := .type "list", data := .seq xs k } → R xs s → wpAny (model prog w) A' (Builtin.List.listItems (.ref a)) R E s := fun A' a xs k R h hR => by
    unfold Builtin.List.listItems
    exact wpAny_bind (wpAny_seqItems h rfl (wpAny_pure hR))
  have all : ∀ (A' : Around) (R : Array Value → Shared → Prop), R new s → wpAny (model prog w) A' (Builtin.List.listAllItems (.ref D) "must assign iterable to extended slice") R E s := fun A' R hR => by
    unfold Builtin.List.listAllItems
    refine wpAny_bind (wpAny_typeOf hTD ?_)
    rw [if_pos (by decide)]
    exact lst _ _ _ _ _ hoD hR
  refine wpAny_bind (all _ _ ?_)
  refine wpAny_bind (lst _ _ _ _ _ ho ?_)
  refine wpAny_bind (wpAny_of_eq (sliceIndices_raw none none none items.size (by simp)) ?_)
  have e : sliceBounds none none none items.size = (0, (items.size : Int), 1) := rfl
  rw [e]
  dsimp only
  rw [if_pos (by decide)]
  refine wpAny_bind (wpAny_rule ?_)
  rw [if_neg (by unfold Builtin.List.listTooLong; simp; omega)]
  have hf : items.extract 0 (0 : Int).toNat ++ new ++ items.extract (Max.max (0 : Int) (items.size : Int)).toNat = new := by
    have h1 : (Max.max (0 : Int) (items.size : Int)).toNat = items.size := by omega
    show items.extract 0 0 ++ new ++ items.extract (Max.max (0 : Int) (items.size : Int)).toNat = new
    rw [h1]; simp
  refine wpAny_bind (m := Builtin.List.listUpdate (.ref l) _) ?_
  unfold Builtin.List.listUpdate
  refine wpAny_updateSeq ho rfl ?_ (by omega) (by rw [hf]; omega)
  refine wpAny_bind (wpAny_letGo (wpAny_pure ⟨.none, rfl, wpAny_pure (hQ _ ?_ (Heap.SameBut.update ..))⟩))
  obtain ⟨k, hk⟩ : ∃ k, (s.heap.update l (Obj.mapSeq fun xs : Array Value => xs.extract 0 (0 : Int).toNat ++ new ++ xs.extract (Max.max (0 : Int) (items.size : Int)).toNat)).get? l = some { cls := .type "list", data := .seq (items.extract 0 (0 : Int).toNat ++ new ++ items.extract (Max.max (0 : Int) (items.size : Int)).toNat) k } := ⟨_, (Heap.get?_update_self _ ho (by rfl)).trans rfl⟩
  rw [hf] at hk
  exact ⟨k, hk⟩
section
variable {X : Cx} {A : Around} {env : Env} {σ : AH}
/-- l[:] = a list -/
theorem EX.setAll {o value : Expr} {ip sp pos : Pos} {Q : PF → AH → Prop}
    (h : EV X A env value σ fun p σ₁ => EV X A env o σ₁ fun q σ₂ => ∃ (l D : Addr) (vs us : List PV), q = .ref l ∧ p = .ref D ∧ l ≠ D ∧ σ₂ l = some (.list vs) ∧ σ₂ D = some (.list us) ∧ vs.length + us.length ≤ sizeLine ∧ Q .next (σ₂.set l (.list us)))
    (hs : swapsWith value (some (.Subscript o (.Slice none none none sp) ip)) pos.line env = pure false := by rfl) :
    EX X A env (.Assign [.Subscript o (.Slice none none none sp) ip] value pos) σ Q :=
  WP.of fun s R => wpAny_Assign_Subscript (h.go R (Step.refl σ s) fun v σ₁ s₁ R₁ S₁ h₁ => WP.go h₁ R₁ S₁ fun u σ₂ s₂ R₂ S₂ ⟨l, D, vs, us, e1, e2, hne, hl, hD, hsz, q⟩ => by
    refine wpAny_Slice ?_
    rw [evalPart_none]
    refine wpAny_pure (wpAny_pure (wpAny_pure ?_))
    rw [pv_ref e1, pv_ref e2]
    obtain ⟨R', S'⟩ := R₂.grow (h' := s₂.heap.push { cls := .type "slice", data := .fields #[.none, .none, .none] }) (tk := s₂.toks) (fun b o e => Heap.get?_push_of_some _ e) R₂.tk
    obtain ⟨items, hp, em⟩ := R'.rz _ _ hl
    obtain ⟨new, hn, en⟩ := R'.rz _ _ hD
    have l1 : vs.length = items.size := by rw [← em, List.length_map, Array.length_toList]
    have l2 : us.length = new.size := by rw [← en, List.length_map, Array.length_toList]
    refine setItem_all hp (Heap.IsSliceOf.new ..) hn hne (by omega) fun h' hp' hs' => ?_
    obtain ⟨R'', S''⟩ := R'.turn hl (h' := h') (tk := s₂.toks) (p := .list us) (fun b o hb e => (hs'.2 b hb).trans e) ⟨_, hp', en⟩ R₂.tk
    exact ⟨_, R'', S₂.trans (S'.trans S''), q⟩) hs
end
end Mine
end

section
open PySem PySem.W PyProof.Rows Builtin Builtin.Str
set_option maxRecDepth 100000
namespace Mine
def keepB (nm : Str) (e : Str × Str) : Bool := !decide (Txt.lower e.1 = nm)
def delP (tbl : List (Str × Str)) (nm : Str) : List (Str × Str) := tbl.filter (keepB nm)
def del2 (ts : List Addr) (tbl : List (Str × Str)) (nm : Str) (j : Nat) : List (Addr × (Str × Str)) := ((ts.zip tbl).take j).filter fun e => keepB nm e.2
theorem del2_succ {ts : List Addr} {tbl : List (Str × Str)} {nm : Str} {j : Nat} (h1 : j < ts.length) (h2 : j < tbl.length) : del2 ts tbl nm (j + 1) = del2 ts tbl nm j ++ (if keepB nm tbl[j] = true then [(ts[j], tbl[j])] else []) := by
  unfold del2
  have h : j < (ts.zip tbl).length := by simp; omega
  rw [List.take_succ_eq_append_getElem h, List.filter_append]
  congr 1
  simp only [List.getElem_zip, List.filter_cons, List.filter_nil]
theorem All2.zipf {R : Addr → (Str × Str) → Prop} {p : Str × Str → Bool} : ∀ {ts : List Addr} {tbl : List (Str × Str)}, All2 R ts tbl → All2 R (((ts.zip tbl).filter fun e => p e.2).map (·.1)) (tbl.filter p)
  | _, _, .nil => .nil
  | a :: as, b :: bs, .cons h r => by
    have ih := All2.zipf (p := p) r
    simp only [List.zip_cons_cons, List.filter_cons]
    cases hp : p b with
    | true => simp only [if_true, List.map_cons]; exact .cons h ih
    | false => simp only [Bool.false_eq_true, if_false]; exact ih
theorem del2_all {R : Addr → (Str × Str) → Prop} {ts : List Addr} {tbl : List (Str × Str)} {nm : Str} (h : All2 R ts tbl) : All2 R ((del2 ts tbl nm ts.length).map (·.1)) (delP tbl nm) := by
  unfold del2 delP
  rw [List.take_of_length_le (by simp; omega)]
  exact All2.zipf h
theorem delP_len (tbl : List (Str × Str)) (nm : Str) : (delP tbl nm).length ≤ tbl.length := List.length_filter_le _ _
section
variable {X : Cx} {A : Around} {σ : AH} {Q : PV → AH → Prop}
theorem CV.del (k : KnH X) {n : Nat} (r : Rm A (n + 2)) {x l : Addr} {nm : Str} {tbl : List (Str × Str)} (T : Tab σ x k.C l tbl) (hn : okN (Txt.lower nm) = true) (hT : okT tbl = true) (hsz : tbl.length ≤ 1000)
    (hQ : ∀ σ', leBut σ σ' l → Tab σ' x k.C l (delP tbl (Txt.lower nm)) → Q .none σ') : CV X A (.ref k.mDel.f) [.ref x, .str nm] σ Q := by
  intro vals e
  obtain ⟨v1, v2, rfl, e1, e2⟩ := map2 e
  obtain ⟨t2, rfl⟩ := pv_str e2
  have := pv_ref e1
  subst this
  obtain ⟨hn1, hn2⟩ := Bool.and_eq_true_iff.mp hn
  have hn2 : (Txt.lower nm).length ≤ 1000 := of_decide_eq_true hn2
  obtain ⟨ts, hl, hts⟩ := T.lst
  obtain ⟨⟨o, ho, hd⟩, hc⟩ := k.mDel.fn
  refine CC.wv (args := ⟨[.ref x, .str nm t2], []⟩) (CC.defC k.ok r ho hd hc rfl rfl (fun L p hp => ?_) (bind_eq (binds := [(Str.ofString "self", .ref x), (Str.ofString "name", .str nm t2)]) (by rfl) ⟨fun L y hy => ?_, fun L hL rL => ?_⟩))
  · have hp' : p ∈ [(Str.ofString "name", L + 1)] := hp
    rw [List.mem_singleton.mp hp']; rfl
  · simp only [List.mem_cons, List.not_mem_nil, or_false] at hy
    rcases hy with rfl | rfl
    · exact .inl rfl
    · exact .inr ⟨rfl, rfl⟩
  have hσL : σ L = none := (hL L (Nat.le_refl _)).1
  have hσN : σ (L + 1) = none := (hL (L + 1) (Nat.le_succ _)).1
  have hNL : L + 1 ≠ L := Nat.succ_ne_self L
  show XS X _ _ _ ((σ.set L (.ns _)).set (L + 1) (.cell (some (.str nm)))) _
  generalize hm : (fun y => (bindL (callEnvC (mkFnD (srcAt hdrs 4) Value.none Value.none k.mDel.m) L k.mDel.f).kindOf [(Str.ofString "self", Value.ref x), (Str.ofString "name", Value.str nm t2)] (fun _ => Option.none) y).map pv) = m
  have m1 : m (Str.ofString "self") = some (.ref x) := by rw [← hm]; rfl
  clear hm
  generalize hτ : (σ.set L (.ns m)).set (L + 1) (.cell (some (.str nm))) = τ
  have hστ : σ.le τ := by rw [← hτ]; exact AH.le_setN (AH.le_setN (AH.le_refl _) hσL) hσN
  have tL : τ L = some (.ns m) := by rw [← hτ, AH.set_ne _ _ hNL.symm, AH.set_self]
  have tN : τ (L + 1) = some (.cell (some (.str nm))) := by rw [← hτ, AH.set_self]
  clear hτ
  refine XS.cons (EX.assign (EV.methKw k.kin k.cl k.mCv (EV.loc tL m1 ⟨x, l, rfl, (T.le hστ).ins, EV.methBi (EV.cell (c := L + 1) (by rfl) tN ⟨GMB.lower, CV.lower (Nat.le_trans hn2 (by decide)) (CK.conv k rL (by exact hn1) fun σ' hle => ?_)⟩)⟩)))
  refine ST.cell (c := L + 1) (by rfl) (hle _ _ tN) ?_
  generalize hυ : σ'.set (L + 1) (.cell (some (.str (Txt.lower nm)))) = υ
  have hσυ : σ.le υ := by rw [← hυ]; exact AH.le_setN (AH.le_trans hστ hle) hσN
  have uL : υ L = some (.ns m) := by rw [← hυ, AH.set_ne _ _ hNL.symm]; exact hle L _ tL
  have uN : υ (L + 1) = some (.cell (some (.str (Txt.lower nm)))) := by rw [← hυ, AH.set_self]
  clear hυ hle tL tN hστ
  have Tu := T.le hσυ
  have hlen : ts.length = tbl.length := hts.len
  refine XS.cons (EX.setAll (EV.comp (cl := [(Str.ofString "name", L + 1)]) rL.hh rfl (EV.attrOwn k.kin k.cl (EV.loc uL m1 ⟨x, l, rfl, Tu.ins, (ts.map PV.ref).length, _, _, fun C i acc σ' => σ' = υ ∧ υ C = none ∧ acc = (del2 ts tbl (Txt.lower nm) i).map fun e => PV.ref e.1, ISRC.list (hσυ l _ hl), ?_, fun C hC => ⟨rfl, (hC C (Nat.le_refl _)).1, rfl⟩, fun C i acc σ' hi ⟨e1, e2, e3⟩ => ⟨by rw [e1]; exact e2, by rw [e1]; exact hσυ l _ hl⟩, ?_, ?_⟩))))
  · rw [List.length_map, hlen]; exact Nat.le_trans hsz (by decide)
  · rintro C i acc σ' hC hi ⟨e1, hCn, e3⟩
    subst e3
    rw [e1]
    rw [List.length_map] at hi
    have hi' : i < tbl.length := by rw [← hlen]; exact hi
    have ht := hts.get i hi hi'
    have hit : (ts.map PV.ref).getD i .none = .ref ts[i] := getD_map hi
    rw [hit]
    have htC : ts[i] ≠ C := fun z => by have := hσυ _ _ ht; rw [z, hCn] at this; cases this
    have hNC : L + 1 ≠ C := fun z => by rw [z, hCn] at uN; cases uN
    have wt : (υ.set C (nsx (Str.ofString "kv") (some (.ref ts[i])))) ts[i] = some (.tuple [.str tbl[i].1, .str tbl[i].2]) := by rw [AH.set_ne _ _ htC]; exact hσυ _ _ ht
    have wC : (υ.set C (nsx (Str.ofString "kv") (some (.ref ts[i])))) C = some (nsx (Str.ofString "kv") (some (.ref ts[i]))) := AH.set_self ..
    have wN : (υ.set C (nsx (Str.ofString "kv") (some (.ref ts[i])))) (L + 1) = some (.cell (some (.str (Txt.lower nm)))) := by rw [AH.set_ne _ _ hNC]; exact uN
    have hlow : (Txt.lower tbl[i].1).length ≤ sizeLine := of_decide_eq_true (List.all_eq_true.mp hT tbl[i] (List.getElem_mem _))
    refine TS.cmp (EV.methBi (EV.sub (EV.loc wC (by rfl) (EV.int (SUB.tuple wt (by decide) (by decide) rfl ⟨GMB.lower, CV.lower hlow (EV.cell (c := L + 1) (by rfl) wN (CMP.ne_s ⟨_, rfl, fun hc => ?_, fun hc => ?_⟩))⟩)))))
    · refine EV.loc wC (by rfl) ⟨υ, AH.le_refl _, rfl, hCn, ?_⟩
      have hk' : keepB (Txt.lower nm) tbl[i] = true := hc
      rw [del2_succ hi hi', if_pos hk']; simp
    · refine ⟨υ, AH.le_refl _, rfl, hCn, ?_⟩
      rw [del2_succ hi hi', if_neg (by show ¬ (!decide (Txt.lower tbl[i].1 = Txt.lower nm)) = true; rw [hc]; decide)]; simp
  · rintro C D acc σ' hD hDC ⟨e1, hCn, e3⟩ hDn
    subst e3
    rw [e1] at hDn ⊢
    have hul := hσυ l _ hl
    have hDL : L ≠ D := fun z => by rw [← z, uL] at hDn; cases hDn
    have hDl : l ≠ D := fun z => by rw [← z, hul] at hDn; cases hDn
    have hw1 : All2 (fun t e => σ t = some (.tuple [.str e.1, .str e.2])) ((del2 ts tbl (Txt.lower nm) (ts.map PV.ref).length).map (·.1)) (delP tbl (Txt.lower nm)) := by
      rw [List.length_map]; exact del2_all hts
    generalize del2 ts tbl (Txt.lower nm) (ts.map PV.ref).length = w at *
    have hwl : w.length ≤ tbl.length := by
      have h1 := hw1.len
      have h2 := delP_len tbl (Txt.lower nm)
      rw [List.length_map] at h1
      omega
    have kp : ∀ b p, υ b = some p → (υ.set D (.list (w.map fun e => PV.ref e.1))) b = some p := AH.le_setN (AH.le_refl _) hDn
    refine EV.attrOwn k.kin k.cl (EV.loc (kp _ _ uL) m1 ⟨x, l, rfl, (Tu.le kp).ins, l, D, _, _, rfl, rfl, hDl, kp _ _ hul, AH.set_self .., ?_, XS.nil (hQ _ ?_ ?_)⟩)
    · rw [List.length_map, List.length_map, hlen]
      exact Nat.le_trans (show tbl.length + w.length ≤ 1000 + 1000 by omega) (by decide)
    · exact ((leBut.of hσυ).trans (leBut.of kp)).setL
    · have hk : ∀ b p, b ≠ l → υ b = some p → ((υ.set D (.list (w.map fun e => PV.ref e.1))).set l (.list (w.map fun e => PV.ref e.1))) b = some p := fun b p hb e => by
        rw [AH.set_ne _ _ hb]; exact kp _ _ e
      refine ⟨Tu.ins.keep fun b p h1 _ e => hk b p (fun z => by rw [z, hul] at e; cases e; exact h1 _ rfl) e, w.map (·.1), by rw [AH.set_self, List.map_map]; rfl, hw1.imp fun t e he => ?_⟩
      have he' := hσυ _ _ he
      exact hk t _ (fun z => by rw [z, hul] at he'; cases he') he'
end
end Mine
end

section
open PySem PySem.W PyProof.Rows Builtin Builtin.Str
set_option maxRecDepth 100000
namespace Mine
def grainsSrc : Src := srcAt top 13
def highSrc : Src := srcAt top 14
def rowSrc2 : Src := srcAt top 15
def lawSrc2 : Src := srcAt top 16
structure Kn2 (X : Cx) extends KnF X where
  aG : Addr
  mG : FM
  fG : Fn X aG grainsSrc mG
  gG : X.mg (Str.ofString "_law_grains") = some (.ref aG)
  aH : Addr
  mH : FM
  fH : Fn X aH highSrc mH
  gH : X.mg (Str.ofString "_law_high") = some (.ref aH)
  aR : Addr
  mR : FM
  fR : Fn X aR rowSrc2 mR
  gR : X.mg (Str.ofString "_law_row") = some (.ref aR)
  nRange : X.mg (Str.ofString "range") = none
  bRange : X.mb (Str.ofString "range") = some (.type "range")
  nMin : X.mg (Str.ofString "min") = none
  bMin : X.mb (Str.ofString "min") = some (.builtin "min")
def setP (tbl : List (Str × Str)) (nm vl : Str) : List (Str × Str) := delP tbl (Txt.lower nm) ++ [(nm, vl)]
section
variable {X : Cx} {A : Around} {σ : AH} {Q : PV → AH → Prop}
theorem CV.set (k : KnH X) {n : Nat} (r : Rm A (n + 3)) {x l : Addr} {nm vl : Str} {tbl : List (Str × Str)} (T : Tab σ x k.C l tbl) (hn : okN nm = true) (hnl : okN (Txt.lower nm) = true) (hv : okV vl = true) (hT : okT tbl = true) (hsz : tbl.length ≤ 1000)
    (hQ : ∀ σ', leBut σ σ' l → Tab σ' x k.C l (setP tbl nm vl) → Q .none σ') : CV X A (.ref k.mSet.f) [.ref x, .str nm, .str vl] σ Q := by
  intro vals e
  obtain ⟨v1, v2, v3, rfl, e1, e2, e3⟩ := map3 e
  obtain ⟨t2, rfl⟩ := pv_str e2
  obtain ⟨t3, rfl⟩ := pv_str e3
  have := pv_ref e1
  subst this
  obtain ⟨hn1, hn2⟩ := Bool.and_eq_true_iff.mp hn
  obtain ⟨hv1, hv2⟩ := Bool.and_eq_true_iff.mp hv
  obtain ⟨⟨o, ho, hd⟩, hc⟩ := k.mSet.fn
  refine CC.wv (args := ⟨[.ref x, .str nm t2, .str vl t3], []⟩) (CC.def k.ok r ho hd hc rfl (bind_eq (binds := [(Str.ofString "self", .ref x), (Str.ofString "name", .str nm t2), (Str.ofString "val", .str vl t3)]) (by rfl) ⟨fun y hy => ?_, fun L hL rL => ?_⟩) (by show ∀ x ∈ (srcAt hdrs 3).scope.names, x.2 ≠ .cell; decide +kernel))
  · simp only [List.mem_cons, List.not_mem_nil, or_false] at hy
    rcases hy with rfl | rfl | rfl <;> rfl
  have hσL : σ L = none := (hL L (Nat.le_refl _)).1
  generalize hm : bindP [(Str.ofString "self", Value.ref x), (Str.ofString "name", Value.str nm t2), (Str.ofString "val", Value.str vl t3)] = m
  have m1 : m (Str.ofString "self") = some (.ref x) := by rw [← hm]; rfl
  have m2 : m (Str.ofString "name") = some (.str nm) := by rw [← hm]; rfl
  have m3 : m (Str.ofString "val") = some (.str vl) := by rw [← hm]; rfl
  clear hm
  have hστ : σ.le (σ.set L (.ns m)) := AH.le_setN (AH.le_refl _) hσL
  have tL : (σ.set L (.ns m)) L = some (.ns m) := AH.set_self ..
  have r1 : Rm _ (n + 1) := rL.up (Nat.le_succ _)
  generalize σ.set L (.ns m) = τ at *
  have Tt := T.le hστ
  refine XS.cons (EX.delItemI k.kin k.cl k.mDel (EV.loc tL m1 (EV.loc tL m2 ⟨x, l, rfl, Tt.ins, CV.del k rL Tt hnl hT hsz fun σ1 hb T1 => ?_⟩)))
  obtain ⟨ts, hl, hts⟩ := T1.lst
  have htl : ∃ vs, τ l = some (.list vs) := by obtain ⟨ts0, h0, _⟩ := Tt.lst; exact ⟨_, h0⟩
  have hLl : L ≠ l := fun z => by obtain ⟨vs, h0⟩ := htl; rw [← z, tL] at h0; cases h0
  have uL : σ1 L = some (.ns m) := hb L _ hLl tL
  refine XS.cons (EX.expr (EV.methBi (EV.attrOwn k.kin k.cl (EV.loc uL m1 ⟨x, l, rfl, T1.ins, GMB.append hl, EV.tuple (EV.methKw k.kin k.cl k.mCv (EV.loc uL m1 ⟨x, l, rfl, T1.ins, EV.loc uL m2 (CK.conv k r1 (by exact hn1) fun σ2 hle2 => ?_)⟩))⟩))))
  refine EV.methKw k.kin k.cl k.mCv (EV.loc (hle2 _ _ uL) m1 ⟨x, l, rfl, (T1.le hle2).ins, EV.loc (hle2 _ _ uL) m3 (CK.conv k r1 (by exact hv1) fun σ3 hle3 => ⟨by show 2 ≤ sizeLine; decide, fun E hE hEb => ?_⟩)⟩)
  have hle := AH.le_trans hle2 hle3
  have hl3 : σ3 l = some (.list (ts.map PV.ref)) := hle _ _ hl
  have hlE : l ≠ E := fun z => by rw [z, hE] at hl3; cases hl3
  have zl : (σ3.set E (.tuple [.str nm, .str vl])) l = some (.list (ts.map PV.ref)) := by rw [AH.set_ne _ _ hlE]; exact hl3
  have hlen : ts.length = (delP tbl (Txt.lower nm)).length := hts.len
  have hlen2 := delP_len tbl (Txt.lower nm)
  have l13 : ∀ b p, σ1 b = some p → (σ3.set E (.tuple [.str nm, .str vl])) b = some p := fun b p e => by
    have e3 := hle b p e
    rw [AH.set_ne _ _ (fun z => by rw [z, hE] at e3; cases e3)]; exact e3
  refine CV.append zl (by rw [List.length_map, hlen]; exact Nat.le_trans (Nat.le_trans hlen2 hsz) (by decide)) ⟨fun a => by simp, XS.nil (hQ _ ?_ ?_)⟩
  · exact (((leBut.of hστ).trans hb).trans (leBut.of l13)).setL
  · have hk : ∀ b p, b ≠ l → σ1 b = some p → ((σ3.set E (.tuple [.str nm, .str vl])).set l (.list (ts.map PV.ref ++ [.ref E]))) b = some p := fun b p hb e => by
      rw [AH.set_ne _ _ hb]; exact l13 b p e
    refine ⟨T1.ins.keep fun b p h1 _ e => hk b p (fun z => by rw [z, hl] at e; cases e; exact h1 _ rfl) e, ts ++ [E], by rw [AH.set_self]; simp, ?_⟩
    refine All2.snoc (by rw [AH.set_ne _ _ hlE.symm, AH.set_self]) (hts.imp fun t e he => hk t _ (fun z => by rw [z, hl] at he; cases he) he)

def oS (n : Int) : Str := times (Str.ofString "o") n
theorem CV.grains (k : Kn2 X) {n : Nat} (r : Rm A (n + 4)) {x l : Addr} {nm v : Str} {more : Int} {tbl : List (Str × Str)} (T : Tab σ x k.C l tbl) (hg : getP tbl (Txt.lower (Txt.lower nm)) = some v)
    (h1 : okN (Txt.lower (Txt.lower nm)) = true) (h2 : okN (Txt.upper nm) = true) (h3 : okN (Txt.lower (Txt.upper nm)) = true) (hl1 : (Txt.lower nm).length ≤ 1000) (hvl : v.length ≤ 1000) (hm0 : -1000 ≤ (v.length : Int) + more) (hm1 : (v.length : Int) + more ≤ 1000) (hv : okV (oS ((v.length : Int) + more)) = true) (hT : okT tbl = true) (hsz : tbl.length ≤ 1000)
    (hQ : ∀ σ', leBut σ σ' l → Tab σ' x k.C l (setP tbl (Txt.upper nm) (oS ((v.length : Int) + more))) → Q .none σ') : CV X A (.ref k.aG) [.ref x, .str nm, .int more] σ Q := by
  intro vals e
  obtain ⟨v1, v2, v3, rfl, e1, e2, e3⟩ := map3 e
  obtain ⟨t2, rfl⟩ := pv_str e2
  obtain ⟨t3, rfl⟩ := pv_int e3
  have := pv_ref e1
  subst this
  obtain ⟨⟨o, ho, hd⟩, hc⟩ := k.fG
  refine CC.wv (args := ⟨[.ref x, .str nm t2, .int more t3], []⟩) (CC.def k.ok r ho hd hc rfl (bind_eq (binds := [(Str.ofString "pile", .ref x), (Str.ofString "name", .str nm t2), (Str.ofString "more", .int more t3)]) (by rfl) ⟨fun y hy => ?_, fun L hL rL => ?_⟩) (by show ∀ x ∈ grainsSrc.scope.names, x.2 ≠ .cell; decide +kernel))
  · simp only [List.mem_cons, List.not_mem_nil, or_false] at hy
    rcases hy with rfl | rfl | rfl <;> rfl
  have hσL : σ L = none := (hL L (Nat.le_refl _)).1
  generalize hm : bindP [(Str.ofString "pile", Value.ref x), (Str.ofString "name", Value.str nm t2), (Str.ofString "more", Value.int more t3)] = m
  have m1 : m (Str.ofString "pile") = some (.ref x) := by rw [← hm]; rfl
  have m2 : m (Str.ofString "name") = some (.str nm) := by rw [← hm]; rfl
  have m3 : m (Str.ofString "more") = some (.int more) := by rw [← hm]; rfl
  clear hm
  have hστ : σ.le (σ.set L (.ns m)) := AH.le_setN (AH.le_refl _) hσL
  have tL : (σ.set L (.ns m)) L = some (.ns m) := AH.set_self ..
  have r2 : Rm _ (n + 2) := rL.up (Nat.le_succ _)
  generalize σ.set L (.ns m) = τ at *
  have Tt := T.le hστ
  have hup : (Txt.upper nm).length ≤ 1000 := of_decide_eq_true (Bool.and_eq_true_iff.mp h2).2
  refine XS.cons (EX.setItemI k.kin k.cl k.mSet (EV.bin (EV.str (EV.bin (EV.callBi k.ok k.nLen k.bLen (EV.methI k.kin k.cl k.mGet (EV.loc tL m1 ⟨x, l, rfl, Tt.ins, EV.methBi (EV.loc tL m2 ⟨GMB.lower, CV.lower (Nat.le_trans hl1 (by decide)) (CV.get k.toKnF.toKnH r2 Tt h1 hT hsz hg fun σ1 hle1 => ?_)⟩)⟩)))))))
  refine CV.lenStr (Nat.le_trans hvl (by decide)) (EV.loc (hle1 _ _ tL) m3 (BIN.add (BIN.mulStr (by decide +kernel) hm1 hm0 ?_)))
  have T1 := Tt.le hle1
  refine EV.loc (hle1 _ _ tL) m1 (EV.methBi (EV.loc (hle1 _ _ tL) m2 ⟨GMB.upper, CV.upper (Nat.le_trans hup (by decide)) ⟨x, l, rfl, T1.ins, CV.set k.toKnF.toKnH rL T1 h2 h3 hv hT hsz fun σ2 hb T2 => XS.nil (hQ _ ((leBut.of (AH.le_trans hστ hle1)).trans hb) T2)⟩⟩))
end
end Mine
end

section
open PySem PySem.W PyProof.Rows Builtin Builtin.Str
set_option maxRecDepth 100000
namespace Mine
theorem neLj {L j : Nat} (h : 1 ≤ j) : L + j ≠ L := by omega
theorem neLL {L i j : Nat} (h : i ≠ j) : L + i ≠ L + j := by omega
def isHigh (tbl : List (Str × Str)) (c : Int) (nm : Str) : Bool := match getP tbl (Txt.lower (Txt.lower nm)) with
  | some v => decide ((v.length : Int) ≥ c)
  | none => false
def highP (tbl : List (Str × Str)) (c : Int) : List Str := (tbl.map (·.1)).filter (isHigh tbl c)
def nameOk (tbl : List (Str × Str)) (nm : Str) : Bool := okN (Txt.lower (Txt.lower nm)) && decide ((Txt.lower nm).length ≤ 1000) && match getP tbl (Txt.lower (Txt.lower nm)) with
  | some v => decide (v.length ≤ 1000)
  | none => false
theorem nameOk_some {tbl : List (Str × Str)} {nm : Str} (h : nameOk tbl nm = true) : okN (Txt.lower (Txt.lower nm)) = true ∧ (Txt.lower nm).length ≤ 1000 ∧ ∃ v, getP tbl (Txt.lower (Txt.lower nm)) = some v ∧ v.length ≤ 1000 := by
  unfold nameOk at h
  simp only [Bool.and_eq_true, decide_eq_true_eq] at h
  refine ⟨h.1.1, h.1.2, ?_⟩
  have h2 := h.2
  split at h2
  · rename_i v hv; exact ⟨v, hv, of_decide_eq_true h2⟩
  · cases h2
theorem filt_succ {α : Type} {p : α → Bool} {l : List α} {i : Nat} (h : i < l.length) : (l.take (i + 1)).filter p = (l.take i).filter p ++ (if p l[i] = true then [l[i]] else []) := by
  rw [List.take_succ_eq_append_getElem h, List.filter_append]
  congr 1
  simp only [List.filter_cons, List.filter_nil]
theorem getD_str {l : List Str} {i : Nat} (h : i < l.length) : (l.map PV.str).getD i .none = .str l[i] := by
  rw [List.getD_eq_getElem?_getD, List.getElem?_map, List.getElem?_eq_getElem h]; rfl
section
variable {X : Cx} {A : Around} {σ : AH} {Q : PV → AH → Prop}
theorem CV.high (k : Kn2 X) {n : Nat} (r : Rm A (n + 3)) {x l : Addr} {c : Int} {tbl : List (Str × Str)} (T : Tab σ x k.C l tbl) (hall : (tbl.map (·.1)).all (nameOk tbl) = true) (hT : okT tbl = true) (hsz : tbl.length ≤ 1000)
    (hQ : ∀ σ' D, σ.le σ' → σ D = none → σ' D = some (.list ((highP tbl c).map PV.str)) → Q (.ref D) σ') : CV X A (.ref k.aH) [.ref x, .int c] σ Q := by
  intro vals e
  obtain ⟨v1, v2, rfl, e1, e2⟩ := map2 e
  obtain ⟨t2, rfl⟩ := pv_int e2
  have := pv_ref e1
  subst this
  obtain ⟨⟨o, ho, hd⟩, hc⟩ := k.fH
  refine CC.wv (args := ⟨[.ref x, .int c t2], []⟩) (CC.defC k.ok r ho hd hc rfl rfl (fun L p hp => ?_) (bind_eq (binds := [(Str.ofString "pile", .ref x), (Str.ofString "count", .int c t2)]) (by rfl) ⟨fun L y hy => ?_, fun L hL rL => ?_⟩))
  · have hp' : p ∈ [(Str.ofString "count", L + 2), (Str.ofString "pile", L + 1)] := hp
    simp only [List.mem_cons, List.not_mem_nil, or_false] at hp'
    rcases hp' with rfl | rfl <;> rfl
  · simp only [List.mem_cons, List.not_mem_nil, or_false] at hy
    rcases hy with rfl | rfl <;> exact .inr ⟨rfl, rfl⟩
  have hσL : σ L = none := (hL L (Nat.le_refl _)).1
  have hσ1 : σ (L + 1) = none := (hL (L + 1) (Nat.le_add_right _ _)).1
  have hσ2 : σ (L + 2) = none := (hL (L + 2) (Nat.le_add_right _ _)).1
  show XS X _ _ _ (((σ.set L (.ns _)).set (L + 1) (.cell (some (.ref x)))).set (L + 2) (.cell (some (.int c)))) _
  generalize (fun y => (bindL (callEnvC (mkFn highSrc k.mH) L k.aH).kindOf [(Str.ofString "pile", Value.ref x), (Str.ofString "count", Value.int c t2)] (fun _ => Option.none) y).map pv) = m
  generalize hτ : ((σ.set L (.ns m)).set (L + 1) (.cell (some (.ref x)))).set (L + 2) (.cell (some (.int c))) = τ
  have hστ : σ.le τ := by rw [← hτ]; exact AH.le_setN (AH.le_setN (AH.le_setN (AH.le_refl _) hσL) hσ1) hσ2
  have tP : τ (L + 1) = some (.cell (some (.ref x))) := by rw [← hτ, AH.set_ne _ _ (neLL (by decide)), AH.set_self]
  have tC : τ (L + 2) = some (.cell (some (.int c))) := by rw [← hτ, AH.set_self]
  clear hτ
  have Tt := T.le hστ
  have r2 : Rm (A.deeper (callEnvC (mkFn highSrc k.mH) L k.aH)) (n + 2) := rL
  refine XS.cons (EX.ret (EV.comp (cl := [(Str.ofString "pile", L + 1), (Str.ofString "count", L + 2)]) rL.hh rfl (EV.methI k.kin k.cl k.mKeys (EV.cell (c := L + 1) (by rfl) tP ⟨x, l, rfl, Tt.ins, CV.keys k.toKnF.toKnH (r2.up (by omega) : Rm _ (n + 1)) Tt hsz fun υ E hle hE0 hE => ?_⟩))))
  have uP := hle _ _ tP
  have uC := hle _ _ tC
  have Tu := Tt.le hle
  have hσυ := AH.le_trans hστ hle
  clear hle hE0
  refine ⟨((tbl.map (·.1)).map PV.str).length, _, _, fun C i acc σ' => σ' = υ ∧ υ C = none ∧ acc = (((tbl.map (·.1)).take i).filter (isHigh tbl c)).map PV.str, ISRC.list hE, ?_, fun C hC => ⟨rfl, (hC C (Nat.le_refl _)).1, rfl⟩, fun C i acc σ' hi ⟨e1, e2, e3⟩ => ⟨by rw [e1]; exact e2, by rw [e1]; exact hE⟩, ?_, ?_⟩
  · rw [List.length_map, List.length_map]; exact Nat.le_trans hsz (by decide)
  · rintro C i acc σ' hC hi ⟨e1, hCn, e3⟩
    subst e3
    rw [e1]
    rw [List.length_map] at hi
    rw [getD_str hi]
    obtain ⟨o1, o2, v, o3, o4⟩ := nameOk_some (List.all_eq_true.mp hall _ (List.getElem_mem hi))
    have hF : ∀ b : Bool, isHigh tbl c (tbl.map (·.1))[i] = b → (((tbl.map (·.1)).take (i + 1)).filter (isHigh tbl c)) = ((tbl.map (·.1)).take i).filter (isHigh tbl c) ++ (if b = true then [(tbl.map (·.1))[i]] else []) := fun b hb => by
      rw [filt_succ hi, hb]
    generalize (tbl.map (·.1))[i] = nm at *
    have kp : ∀ b p, υ b = some p → (υ.set C (nsx (Str.ofString "name") (some (.str nm)))) b = some p := fun b p e => by
      rw [AH.set_ne _ _ (fun z => by rw [z, hCn] at e; cases e)]; exact e
    have wC : (υ.set C (nsx (Str.ofString "name") (some (.str nm)))) C = some (nsx (Str.ofString "name") (some (.str nm))) := AH.set_self ..
    have Tw := Tu.le kp
    have wP := kp _ _ uP
    have wc := kp _ _ uC
    have hih : isHigh tbl c nm = decide ((v.length : Int) ≥ c) := by unfold isHigh; rw [o3]
    refine TS.cmp (EV.callBi k.ok k.nLen k.bLen (EV.methI k.kin k.cl k.mGet (EV.cell (c := L + 1) (by rfl) wP ⟨x, l, rfl, Tw.ins, EV.methBi (EV.loc wC (by rfl) ⟨GMB.lower, CV.lower (Nat.le_trans o2 (by decide)) (CV.get k.toKnF.toKnH r2 Tw o1 hT hsz o3 fun σ1 hle1 => ?_)⟩)⟩)))
    refine CV.lenStr (Nat.le_trans o4 (by decide)) (EV.cell (c := L + 2) (by rfl) (hle1 _ _ wc) (CMP.ge_i ⟨_, rfl, fun hc => ?_, fun hc => ?_⟩))
    · refine EV.loc (hle1 _ _ wC) (by rfl) ⟨υ, hle1, rfl, hCn, ?_⟩
      rw [hF true (by rw [hih]; exact hc)]; simp
    · refine ⟨υ, hle1, rfl, hCn, ?_⟩
      rw [hF false (by rw [hih]; exact hc)]; simp
  · rintro C D acc σ' hD hDC ⟨e1, hCn, e3⟩ hDn
    subst e3
    rw [e1] at hDn ⊢
    refine hQ _ D (AH.le_trans hσυ (AH.le_setN (AH.le_refl _) hDn)) ?_ ?_
    · cases q : σ D with
      | none => rfl
      | some z => rw [hσυ D z q] at hDn; cases hDn
    · rw [AH.set_self, List.length_map, List.take_length]; rfl
end
end Mine
end

section
open PySem PySem.W PyProof.Rows Builtin Builtin.Str
set_option maxRecDepth 100000
namespace Mine
abbrev nI (l : List Nat) : List PV := l.map fun n => PV.int (n : Nat)
theorem nI_get {l : List Nat} {i : Nat} (h : i < l.length) : (nI l)[i]? = some (.int (l[i] : Nat)) := by simp [nI, h]
def vN : Nat → Nat → Str
  | 0, h => ⟨#[86 + h]⟩
  | _, h => ⟨#[118 + h]⟩
def vW : Nat → Str
  | 0 => Str.ofString "VWXYZ"
  | _ => Str.ofString "vwxyz"
def oP : Nat → Str
  | 0 => Str.ofString "("
  | 1 => Str.ofString "\")\"("
  | _ => Str.ofString "\\)("
def cP : Nat → Str
  | 0 => Str.ofString ")"
  | _ => Str.ofString "\"(\")"
theorem vW_at : ∀ r : Nat, r < 2 → ∀ h : Nat, h ≤ 4 → ((vW r).cps[h]?).map (fun c => (⟨#[c]⟩ : Str)) = some (vN r h) := by decide +kernel
theorem vN_ok : ∀ r : Nat, r < 2 → ∀ h : Nat, h ≤ 4 → okN (vN r h) = true ∧ Txt.lower (vN r h) = vN 1 h := by decide +kernel
theorem oP_ok : ∀ r : Nat, r < 3 → okV (oP r) = true ∧ (oP r).length ≤ 4 := by decide +kernel
theorem cP_ok : ∀ r : Nat, r < 2 → okV (cP r) = true ∧ (cP r).length ≤ 4 := by decide +kernel
def tO (hs : List Nat) (i : Nat) : List (Str × Str) := (List.range i).map fun k => (vN (k % 2) (hs.getD k 0), oP (k % 3))
def tC (i : Nat) : List (Str × Str) := (List.range i).map fun v => (vN 1 v, cP (v % 2))
theorem tO_succ (hs : List Nat) (i : Nat) : tO hs (i + 1) = tO hs i ++ [(vN (i % 2) (hs.getD i 0), oP (i % 3))] := by simp [tO, List.range_succ]
theorem tC_succ (i : Nat) : tC (i + 1) = tC i ++ [(vN 1 i, cP (i % 2))] := by simp [tC, List.range_succ]
abbrev tR (hs : List Nat) : List (Str × Str) := tO hs hs.length ++ tC hs.length
/-- what stands at a level -/
def lvT (hs : List Nat) (v : Nat) : Str := Txt.join (Str.ofString "") (lk (tR hs) (vN 1 v))
def lvs (hs : List Nat) (i : Nat) : List Str := (List.range i).map fun j => lvT hs (hs.length - 1 - j)
def rowT (hs : List Nat) : Str := Txt.join (Str.ofString "") (lvs hs hs.length)
theorem flat_le {B : Nat} {l : List Str} (h : ∀ x ∈ l, x.length ≤ B) : (flat l).length ≤ l.length * B := by
  rw [flat_len]; exact StrLaws.sumLen_le l h
theorem tR_mem {hs : List Nat} (h4 : ∀ h ∈ hs, h ≤ 4) (hN : hs.length ≤ 4) {e : Str × Str} (he : e ∈ tR hs) : (Txt.lower e.1).length ≤ 1 ∧ e.2.length ≤ 4 := by
  rcases List.mem_append.mp he with h | h
  · obtain ⟨k, hk, rfl⟩ := List.mem_map.mp h
    rw [List.mem_range] at hk
    have hv : hs.getD k 0 ≤ 4 := by
      rw [List.getD_eq_getElem?_getD, List.getElem?_eq_getElem hk]; exact h4 _ (List.getElem_mem _)
    refine ⟨?_, (oP_ok (k % 3) (Nat.mod_lt _ (by decide))).2⟩
    show (Txt.lower (vN (k % 2) (hs.getD k 0))).length ≤ 1
    rw [(vN_ok (k % 2) (Nat.mod_lt _ (by decide)) _ hv).2]; exact Nat.le_refl _
  · obtain ⟨k, hk, rfl⟩ := List.mem_map.mp h
    rw [List.mem_range] at hk
    refine ⟨?_, (cP_ok (k % 2) (Nat.mod_lt _ (by decide))).2⟩
    show (Txt.lower (vN 1 k)).length ≤ 1
    rw [(vN_ok 1 (by decide) _ (by omega)).2]; exact Nat.le_refl _
theorem tR_len {hs : List Nat} (hN : hs.length ≤ 4) : (tR hs).length ≤ 8 := by simp [tO, tC]; omega
theorem lk_flat {hs : List Nat} (h4 : ∀ h ∈ hs, h ≤ 4) (hN : hs.length ≤ 4) (nm : Str) : (flat (lk (tR hs) nm)).length ≤ 32 := by
  have h1 : (flat (lk (tR hs) nm)).length ≤ (lk (tR hs) nm).length * 4 := flat_le fun x hx => by
    unfold lk at hx
    obtain ⟨e, he, rfl⟩ := List.mem_map.mp hx
    exact (tR_mem h4 hN (List.mem_filter.mp he).1).2
  have h2 : (lk (tR hs) nm).length ≤ (tR hs).length := by
    unfold lk; rw [List.length_map]; exact List.length_filter_le _ _
  have h3 := tR_len hN
  omega
theorem str_len_flat (x : Str) : x.length = x.cps.toList.length := by simp [PySem.Str.length]
theorem okT_tR {hs : List Nat} (h4 : ∀ h ∈ hs, h ≤ 4) (hN : hs.length ≤ 4) : okT (tR hs) = true := by
  unfold okT
  rw [List.all_eq_true]
  exact fun e he => decide_eq_true (Nat.le_trans (tR_mem h4 hN he).1 (by decide))
theorem lvs_flat {hs : List Nat} (h4 : ∀ h ∈ hs, h ≤ 4) (hN : hs.length ≤ 4) : (flat (lvs hs hs.length)).length ≤ 128 := by
  have h1 : (flat (lvs hs hs.length)).length ≤ (lvs hs hs.length).length * 32 := flat_le fun x hx => by
    obtain ⟨j, _, rfl⟩ := List.mem_map.mp hx
    rw [str_len_flat]
    unfold lvT
    rw [join_flat]
    exact lk_flat h4 hN _
  have h2 : (lvs hs hs.length).length ≤ 4 := by simp [lvs]; exact hN
  omega
theorem rs3 : ∀ N : Nat, N ≤ 4 → Builtin.Range.rangeSize ((N : Nat) - 1) (-1) (-1) = (N : Nat) ∧ Builtin.Range.small ((N : Nat) - 1) (-1) (-1) = true ∧ Builtin.divisionGoesByPylong ((-1 : Int) - ((N : Nat) - 1)) (-1) = false := by decide +kernel
end Mine
end

section
open PySem PySem.W PyProof.Rows Builtin Builtin.Str
set_option maxRecDepth 100000
namespace Mine
/-- what lasts: all but frames and cells -/
def Lat (σ σ' : AH) : Prop := ∀ b p, (∀ m, p ≠ .ns m) → (∀ v, p ≠ .cell v) → σ b = some p → σ' b = some p
theorem Lat.le {σ σ' : AH} (h : σ.le σ') : Lat σ σ' := fun b p _ _ e => h b p e
theorem Lat.trans {a b c : AH} (x : Lat a b) (y : Lat b c) : Lat a c := fun q p h1 h2 e => y q p h1 h2 (x q p h1 h2 e)
theorem Lat.ns {σ : AH} {L : Addr} {m m' : Str → Option PV} (h : σ L = some (.ns m)) : Lat σ (σ.set L (.ns m')) := fun b p h1 h2 e => by
  rw [AH.set_ne _ _ (fun z => by rw [z, h] at e; cases e; exact h1 _ rfl)]; exact e
theorem Lat.cell {σ : AH} {c : Addr} {v v' : Option PV} (h : σ c = some (.cell v)) : Lat σ (σ.set c (.cell v')) := fun b p h1 h2 e => by
  rw [AH.set_ne _ _ (fun z => by rw [z, h] at e; cases e; exact h2 _ rfl)]; exact e
theorem Lat.fresh {σ : AH} {c : Addr} {p : PO} (h : σ c = none) : Lat σ (σ.set c p) := Lat.le (AH.le_setN (AH.le_refl _) h)
theorem Tab.lat {σ σ' : AH} {x C l : Addr} {tbl : List (Str × Str)} (T : Tab σ x C l tbl) (h : Lat σ σ') : Tab σ' x C l tbl := by
  obtain ⟨ts, h1, h2⟩ := T.lst
  obtain ⟨dx, hs, tk, i1, i2⟩ := T.ins.go
  exact ⟨⟨dx, hs, tk, h x _ (by simp) (by simp) i1, h dx _ (by simp) (by simp) i2⟩, ts, h l _ (by simp) (by simp) h1, h2.imp fun t e he => h t _ (by simp) (by simp) he⟩
theorem leBut.kp {σ σ' : AH} {x C l : Addr} {tbl : List (Str × Str)} (h : leBut σ σ' l) (T : Tab σ x C l tbl) {b : Addr} {p : PO} (e : σ b = some p) (hp : ∀ vs, p ≠ .list vs) : σ' b = some p := by
  obtain ⟨ts, h1, _⟩ := T.lst
  exact h b p (fun z => by rw [z, h1] at e; cases e; exact hp _ rfl) e
theorem leBut.off {σ₀ σ σ' : AH} {l : Addr} (h : leBut σ σ' l) (hle : σ₀.le σ) (hl : σ₀ l = none) : σ₀.le σ' := fun b p e => h b p (fun z => by rw [z, hl] at e; cases e) (hle b p e)
section
variable {X : Cx} {A : Around} {σ : AH} {Q : PV → AH → Prop}
theorem modN (k n : Nat) (hn : 0 < n) : ((k : Nat) : Int).fmod (n : Nat) = ((k % n : Nat) : Int) := by
  rw [Int.fmod_eq_emod_of_nonneg _ (by omega)]; norm_cast
theorem getD_lt {l : List Nat} {i : Nat} (h : i < l.length) : l[i]? = some (l.getD i 0) := by
  rw [List.getD_eq_getElem?_getD, List.getElem?_eq_getElem h]; rfl
theorem nI_getD {l : List Nat} {i : Nat} (h : i < l.length) : (nI l)[(i : Int).toNat]? = some (.int (l.getD i 0 : Nat)) := by
  rw [Int.toNat_natCast, nI_get h, List.getD_eq_getElem?_getD, List.getElem?_eq_getElem h]; rfl
theorem SUB.vw {value slice : Expr} {r h : Nat} (hr : r < 2) (hh : h ≤ 4) (hq : Q (.str (vN r h)) σ)
    (hs : (match slice with | .Slice .. => false | _ => true) = true := by rfl) : SUB X A value slice (.str (vW r)) (.int (h : Nat)) σ Q := by
  have := vW_at r hr h hh
  cases hc : (vW r).cps[h]? with
  | none => rw [hc] at this; cases this
  | some c =>
    rw [hc] at this
    have e : (⟨#[c]⟩ : Str) = vN r h := Option.some.inj this
    refine SUB.str (c := c) (by omega) (by omega) (by simpa using hc) ?_ hs
    rw [e]; exact hq
theorem CV.row (k : Kn2 X) {n : Nat} (r : Rm A (n + 3)) {H : Addr} {hs : List Nat} (hH : σ H = some (.list (nI hs))) (hN : hs.length ≤ 4) (h4 : ∀ h ∈ hs, h ≤ 4)
    (hQ : ∀ σ', σ.le σ' → Q (.str (rowT hs)) σ') : CV X A (.ref k.aR) [.ref H] σ Q := by
  intro vals e
  obtain ⟨v1, rfl, e1⟩ := map1 e
  have := pv_ref e1
  subst this
  obtain ⟨⟨o, ho, hd⟩, hc⟩ := k.fR
  refine CC.wv (args := ⟨[.ref H], []⟩) (CC.defC k.ok r ho hd hc rfl rfl (fun L p hp => ?_) (bind_eq (binds := [(Str.ofString "heights", .ref H)]) (by rfl) ⟨fun L y hy => by rw [List.mem_singleton.mp hy]; exact .inl rfl, fun L hL rL => ?_⟩))
  · have hp' : p ∈ [(Str.ofString "levels", L + 1)] := hp
    rw [List.mem_singleton.mp hp']; rfl
  have hσL : σ L = none := (hL L (Nat.le_refl _)).1
  have hσ1 : σ (L + 1) = none := (hL (L + 1) (Nat.le_succ _)).1
  have hNL : L + 1 ≠ L := neLj (by decide)
  have hNL' := hNL.symm
  show XS X _ _ _ ((σ.set L (.ns _)).set (L + 1) (.cell none)) _
  generalize hm : (fun y => (bindL (callEnvC (mkFn rowSrc2 k.mR) L k.aR).kindOf [(Str.ofString "heights", Value.ref H)] (fun _ => Option.none) y).map pv) = m
  have m1 : m (Str.ofString "heights") = some (.ref H) := by rw [← hm]; rfl
  clear hm
  generalize hτ : (σ.set L (.ns m)).set (L + 1) (.cell none) = τ
  have hστ : σ.le τ := by rw [← hτ]; exact AH.le_setN (AH.le_setN (AH.le_refl _) hσL) hσ1
  have tL : τ L = some (.ns m) := by rw [← hτ, AH.set_ne _ _ hNL', AH.set_self]
  have t1 : τ (L + 1) = some (.cell none) := by rw [← hτ, AH.set_self]
  clear hτ
  generalize hNe : hs.length = N at *
  have r3 : Rm (A.deeper (callEnvC (mkFn rowSrc2 k.mR) L k.aR)) (n + 2) := rL
  refine XS.cons (EX.assign (EV.callBi k.ok k.nLen k.bLen (EV.loc tL m1 (CV.lenList (hστ _ _ hH) (by simp [nI, hNe]; exact Nat.le_trans hN (by decide)) ?_))))
  refine ST.at tL ?_
  have hcnt : (((nI hs).length : Nat) : Int) = (N : Nat) := by simp [nI, hNe]
  rw [hcnt]
  have hσυ : σ.le (τ.set L (.ns (upd m (Str.ofString "count") (.int (N : Nat))))) := AH.le_setN hστ hσL
  have uL : (τ.set L (.ns (upd m (Str.ofString "count") (.int (N : Nat))))) L = some (.ns (upd m (Str.ofString "count") (.int (N : Nat)))) := AH.set_self ..
  have u1 : (τ.set L (.ns (upd m (Str.ofString "count") (.int (N : Nat))))) (L + 1) = some (.cell none) := by rw [AH.set_ne _ _ hNL]; exact t1
  have n1 : upd m (Str.ofString "count") (.int (N : Nat)) (Str.ofString "heights") = some (.ref H) := by rw [upd_ne _ _ (by decide +kernel)]; exact m1
  have n2 : upd m (Str.ofString "count") (.int (N : Nat)) (Str.ofString "count") = some (.int (N : Nat)) := rfl
  generalize upd m (Str.ofString "count") (.int (N : Nat)) = m' at *
  generalize τ.set L (.ns m') = υ at *
  clear tL t1 m1 hστ τ m
  refine XS.cons (EX.assign (EV.newHeaders k.toKnF.toKnH r3 uL fun σ1 x l hle hl0 hx0 hl1 I1 => ?_))
  refine ST.cell (c := L + 1) (by rfl) (hle _ _ u1) ?_
  have hσl : σ l = none := by
    cases q : σ l with
    | none => rfl
    | some z => rw [hσυ l z q] at hl0; cases hl0
  have wle : σ.le (σ1.set (L + 1) (.cell (some (.ref x)))) := AH.le_setN (AH.le_trans hσυ hle) hσ1
  have wL : (σ1.set (L + 1) (.cell (some (.ref x)))) L = some (.ns m') := by rw [AH.set_ne _ _ hNL']; exact hle _ _ uL
  have w1 : (σ1.set (L + 1) (.cell (some (.ref x)))) (L + 1) = some (.cell (some (.ref x))) := AH.set_self ..
  have wT : Tab (σ1.set (L + 1) (.cell (some (.ref x)))) x k.C l [] := (Tab.nil I1 hl1).lat (Lat.cell (hle _ _ u1))
  generalize σ1.set (L + 1) (.cell (some (.ref x))) = ω at *
  clear hl1 I1 hle u1 uL hσυ hl0 hx0
  -- the heaps
  refine XS.cons (EX.forRange rL.hh (EV.callTy k.ok k.nRange k.bRange (EV.loc wL n2 (CV.range1 fun D hD hDb => ⟨D, 0, N, 1, N, fun i σ' => ∃ m, σ.le σ' ∧ σ' L = some (.ns m) ∧ m (Str.ofString "heights") = some (.ref H) ∧ m (Str.ofString "count") = some (.int (N : Nat)) ∧ σ' (L + 1) = some (.cell (some (.ref x))) ∧ Tab σ' x k.C l (tO hs i), rfl, AH.set_self .., PySem.small_one (by omega) (by omega) (by omega) (by omega), ?_, ?_, ?_, ?_⟩))))
  · rw [rangeSize_nat]; simp
  · have hDs := AH.le_setN (AH.le_refl ω) hD (p := .range 0 N 1)
    exact ⟨m', AH.le_trans wle hDs, hDs _ _ wL, n1, n2, hDs _ _ w1, wT.le hDs⟩
  · rintro i σ' hi ⟨m, hle, L', a1, a2, c1, T'⟩
    have ei : (0 : Int) + (i : Int) * 1 = (i : Nat) := by omega
    rw [ei]
    have hil : i < hs.length := by omega
    have hv : hs.getD i 0 ≤ 4 := by
      rw [List.getD_eq_getElem?_getD, List.getElem?_eq_getElem hil]; exact h4 _ (List.getElem_mem _)
    refine ASG.name (ST.at L' ?_)
    have hle2 : σ.le (σ'.set L (.ns (upd m (Str.ofString "k") (.int (i : Nat))))) := AH.le_setN hle hσL
    have L2 : (σ'.set L (.ns (upd m (Str.ofString "k") (.int (i : Nat))))) L = some (.ns (upd m (Str.ofString "k") (.int (i : Nat)))) := AH.set_self ..
    have c2 : (σ'.set L (.ns (upd m (Str.ofString "k") (.int (i : Nat))))) (L + 1) = some (.cell (some (.ref x))) := by rw [AH.set_ne _ _ hNL]; exact c1
    have T2 := T'.lat (Lat.ns (m' := upd m (Str.ofString "k") (.int (i : Nat))) L')
    have b1 : upd m (Str.ofString "k") (.int (i : Nat)) (Str.ofString "heights") = some (.ref H) := by rw [upd_ne _ _ (by decide +kernel)]; exact a1
    have b2 : upd m (Str.ofString "k") (.int (i : Nat)) (Str.ofString "count") = some (.int (N : Nat)) := by rw [upd_ne _ _ (by decide +kernel)]; exact a2
    have b3 : upd m (Str.ofString "k") (.int (i : Nat)) (Str.ofString "k") = some (.int (i : Nat)) := rfl
    generalize upd m (Str.ofString "k") (.int (i : Nat)) = m2 at *
    generalize σ'.set L (.ns m2) = υ at *
    refine XS.cons (EX.expr (EV.methI k.kin k.cl k.mAdd (EV.cell (c := L + 1) (by rfl) c2 ⟨x, l, rfl, T2.ins, ?_⟩)))
    refine EV.sub (EV.sub (EV.list (EV.str (EV.str ⟨by show 2 ≤ sizeLine; decide, fun D1 hD1 _ => ?_⟩))))
    have k1 : ∀ b p, υ b = some p → (υ.set D1 (.list ([vW 0, vW 1].map PV.str))) b = some p := AH.le_setN (AH.le_refl _) hD1
    have d1 : (υ.set D1 (.list ([vW 0, vW 1].map PV.str))) D1 = some (.list ([vW 0, vW 1].map PV.str)) := AH.set_self ..
    show EV X _ _ _ (υ.set D1 (.list ([vW 0, vW 1].map PV.str))) _
    generalize υ.set D1 (.list ([vW 0, vW 1].map PV.str)) = υ1 at *
    have e2 : ((i : Nat) : Int).fmod 2 = ((i % 2 : Nat) : Int) := modN i 2 (by decide)
    have e3 : ((i : Nat) : Int).fmod 3 = ((i % 3 : Nat) : Int) := modN i 3 (by decide)
    have m2lt : i % 2 < 2 := Nat.mod_lt _ (by decide)
    have m3lt : i % 3 < 3 := Nat.mod_lt _ (by decide)
    refine EV.bin (EV.loc (k1 _ _ L2) b3 (EV.int (BIN.fmod (by decide) ?_)))
    rw [e2]
    refine SUB.list (p := .str (vW (i % 2))) d1 (by omega) (by omega) ?_ ?_
    · rw [Int.toNat_natCast]
      have : i % 2 = 0 ∨ i % 2 = 1 := by omega
      rcases this with z | z <;> rw [z] <;> rfl
    refine EV.sub (EV.loc (k1 _ _ L2) b1 (EV.loc (k1 _ _ L2) b3 (SUB.list (k1 _ _ (hle2 _ _ hH)) (by omega) (by omega) (nI_getD hil) (SUB.vw m2lt hv ?_))))
    refine EV.sub (EV.list (EV.str (EV.str (EV.str ⟨by show 3 ≤ sizeLine; decide, fun D2 hD2 _ => ?_⟩))))
    have k2 : ∀ b p, υ1 b = some p → (υ1.set D2 (.list ([oP 0, oP 1, oP 2].map PV.str))) b = some p := AH.le_setN (AH.le_refl _) hD2
    have d2 : (υ1.set D2 (.list ([oP 0, oP 1, oP 2].map PV.str))) D2 = some (.list ([oP 0, oP 1, oP 2].map PV.str)) := AH.set_self ..
    show EV X _ _ _ (υ1.set D2 (.list ([oP 0, oP 1, oP 2].map PV.str))) _
    generalize υ1.set D2 (.list ([oP 0, oP 1, oP 2].map PV.str)) = υ2 at *
    have k12 : ∀ b p, υ b = some p → υ2 b = some p := fun b p e => k2 _ _ (k1 _ _ e)
    refine EV.bin (EV.loc (k12 _ _ L2) b3 (EV.int (BIN.fmod (by decide) ?_)))
    rw [e3]
    refine SUB.list (p := .str (oP (i % 3))) d2 (by omega) (by omega) ?_ ?_
    · rw [Int.toNat_natCast]
      have : i % 3 = 0 ∨ i % 3 = 1 ∨ i % 3 = 2 := by omega
      rcases this with z | z | z <;> rw [z] <;> rfl
    have T3 := T2.le k12
    refine CV.add k.toKnF.toKnH r3 T3 (vN_ok _ m2lt _ hv).1 (oP_ok _ m3lt).1 (by simp [tO]; omega) fun σ3 hb T4 => ⟨fun a => by simp, XS.nil ?_⟩
    refine ⟨m2, hb.off (AH.le_trans hle2 k12) hσl, hb.kp T3 (k12 _ _ L2) (by simp), b1, b2, hb.kp T3 (k12 _ _ c2) (by simp), ?_⟩
    rw [tO_succ]; exact T4
  rintro ω2 ⟨m4, wle2, wL2, p1, p2, w12, wT2⟩
  -- the closing ones
  refine XS.cons (EX.forRange rL.hh (EV.callTy k.ok k.nRange k.bRange (EV.loc wL2 p2 (CV.range1 fun D hD hDb => ⟨D, 0, N, 1, N, fun i σ' => ∃ m, σ.le σ' ∧ σ' L = some (.ns m) ∧ m (Str.ofString "count") = some (.int (N : Nat)) ∧ σ' (L + 1) = some (.cell (some (.ref x))) ∧ Tab σ' x k.C l (tO hs N ++ tC i), rfl, AH.set_self .., PySem.small_one (by omega) (by omega) (by omega) (by omega), ?_, ?_, ?_, ?_⟩))))
  · rw [rangeSize_nat]; simp
  · have hDs := AH.le_setN (AH.le_refl ω2) hD (p := .range 0 N 1)
    exact ⟨m4, AH.le_trans wle2 hDs, hDs _ _ wL2, p2, hDs _ _ w12, by simpa [tC] using wT2.le hDs⟩
  · rintro i σ' hi ⟨m, hle, L', a2, c1, T'⟩
    have ei : (0 : Int) + (i : Int) * 1 = (i : Nat) := by omega
    rw [ei]
    refine ASG.name (ST.at L' ?_)
    have hle2 : σ.le (σ'.set L (.ns (upd m (Str.ofString "level") (.int (i : Nat))))) := AH.le_setN hle hσL
    have L2 : (σ'.set L (.ns (upd m (Str.ofString "level") (.int (i : Nat))))) L = some (.ns (upd m (Str.ofString "level") (.int (i : Nat)))) := AH.set_self ..
    have c2 : (σ'.set L (.ns (upd m (Str.ofString "level") (.int (i : Nat))))) (L + 1) = some (.cell (some (.ref x))) := by rw [AH.set_ne _ _ hNL]; exact c1
    have T2 := T'.lat (Lat.ns (m' := upd m (Str.ofString "level") (.int (i : Nat))) L')
    have b2 : upd m (Str.ofString "level") (.int (i : Nat)) (Str.ofString "count") = some (.int (N : Nat)) := by rw [upd_ne _ _ (by decide +kernel)]; exact a2
    have b3 : upd m (Str.ofString "level") (.int (i : Nat)) (Str.ofString "level") = some (.int (i : Nat)) := rfl
    generalize upd m (Str.ofString "level") (.int (i : Nat)) = m2 at *
    generalize σ'.set L (.ns m2) = υ at *
    refine XS.cons (EX.expr (EV.methI k.kin k.cl k.mAdd (EV.cell (c := L + 1) (by rfl) c2 ⟨x, l, rfl, T2.ins, ?_⟩)))
    have m2lt : i % 2 < 2 := Nat.mod_lt _ (by decide)
    have e2 : ((i : Nat) : Int).fmod 2 = ((i % 2 : Nat) : Int) := modN i 2 (by decide)
    refine EV.sub (EV.str (EV.loc L2 b3 (SUB.vw (r := 1) (by decide) (by omega) ?_)))
    refine EV.sub (EV.list (EV.str (EV.str ⟨by show 2 ≤ sizeLine; decide, fun D2 hD2 _ => ?_⟩)))
    have k2 : ∀ b p, υ b = some p → (υ.set D2 (.list ([cP 0, cP 1].map PV.str))) b = some p := AH.le_setN (AH.le_refl _) hD2
    have d2 : (υ.set D2 (.list ([cP 0, cP 1].map PV.str))) D2 = some (.list ([cP 0, cP 1].map PV.str)) := AH.set_self ..
    show EV X _ _ _ (υ.set D2 (.list ([cP 0, cP 1].map PV.str))) _
    generalize υ.set D2 (.list ([cP 0, cP 1].map PV.str)) = υ2 at *
    refine EV.bin (EV.loc (k2 _ _ L2) b3 (EV.int (BIN.fmod (by decide) ?_)))
    rw [e2]
    refine SUB.list (p := .str (cP (i % 2))) d2 (by omega) (by omega) ?_ ?_
    · rw [Int.toNat_natCast]
      have : i % 2 = 0 ∨ i % 2 = 1 := by omega
      rcases this with z | z <;> rw [z] <;> rfl
    have T3 := T2.le k2
    refine CV.add k.toKnF.toKnH r3 T3 (vN_ok 1 (by decide) i (by omega)).1 (cP_ok _ m2lt).1 (by simp [tO, tC]; omega) fun σ3 hb T4 => ⟨fun a => by simp, XS.nil ?_⟩
    refine ⟨m2, hb.off (AH.le_trans hle2 k2) hσl, hb.kp T3 (k2 _ _ L2) (by simp), b2, hb.kp T3 (k2 _ _ c2) (by simp), ?_⟩
    rw [tC_succ, ← List.append_assoc]; exact T4
  rintro ω3 ⟨m5, wle3, wL3, q2, w13, wT3⟩
  have hTR : Tab ω3 x k.C l (tR hs) := by unfold tR; rw [hNe]; exact wT3
  have hN' : hs.length ≤ 4 := by omega
  obtain ⟨z1, z2, z3⟩ := rs3 N hN
  refine XS.cons (EX.ret (EV.methBi (EV.str ⟨GMB.join, EV.comp (cl := [(Str.ofString "levels", L + 1)]) rL.hh rfl (EV.callTy k.ok k.nRange k.bRange (EV.bin (EV.loc wL3 q2 (EV.int (BIN.sub (EV.neg (EV.int ⟨1, rfl, EV.neg (EV.int ⟨1, rfl, CV.range3 (by decide) z3 fun D hD _ => ⟨N, _, _, fun C i acc σ' => σ' = ω3.set D (.range ((N : Nat) - 1) (-1) (-1)) ∧ σ' C = none ∧ acc = (lvs hs i).map PV.str, ISRC.range (AH.set_self ..) z2 z1, Nat.le_trans hN (by decide), fun C hC => ⟨rfl, (hC C (Nat.le_refl _)).1, rfl⟩, fun C i acc σ' hi h => ⟨h.2.1, trivial⟩, ?_, ?_⟩⟩)⟩)))))))⟩)))
  · rintro C i acc σ' hC hi ⟨e1, hCn, e3⟩
    subst e3
    rw [e1] at hCn ⊢
    have ei : ((N : Nat) : Int) - 1 + (i : Int) * -1 = ((N - 1 - i : Nat) : Int) := by omega
    rw [ei]
    have kp : ∀ b p, ω3 b = some p → ((ω3.set D (.range ((N : Nat) - 1) (-1) (-1))).set C (nsx (Str.ofString "level") (some (.int ((N - 1 - i : Nat) : Int))))) b = some p := fun b p e => by
      have e2 : (ω3.set D (.range ((N : Nat) - 1) (-1) (-1))) b = some p := by rw [AH.set_ne _ _ (fun z => by rw [z, hD] at e; cases e)]; exact e
      rw [AH.set_ne _ _ (fun z => by rw [z, hCn] at e2; cases e2)]; exact e2
    have wC : ((ω3.set D (.range ((N : Nat) - 1) (-1) (-1))).set C (nsx (Str.ofString "level") (some (.int ((N - 1 - i : Nat) : Int))))) C = some (nsx (Str.ofString "level") (some (.int ((N - 1 - i : Nat) : Int)))) := AH.set_self ..
    refine ⟨fun _ => ?_, fun h => (nomatch h)⟩
    have Tw := hTR.le kp
    refine EV.methBi (EV.str ⟨GMB.join, EV.methI k.kin k.cl k.mAll (EV.cell (c := L + 1) (by rfl) (kp _ _ w13) ⟨x, l, rfl, Tw.ins, EV.sub (EV.str (EV.loc wC (by rfl) (SUB.vw (r := 0) (by decide) (by omega) ?_)))⟩)⟩)
    have hvn := vN_ok 0 (by decide) (N - 1 - i) (by omega)
    refine CV.getAll k.toKnF.toKnH r3 (nm := vN 0 (N - 1 - i)) Tw (by rw [hvn.2]; exact (vN_ok 1 (by decide) _ (by omega)).1) (okT_tR h4 hN') (Nat.le_trans (tR_len hN') (by decide)) fun σ2 D2 hle2 hD2 hDl => ?_
    rw [hvn.2] at hDl
    refine CV.join hDl (joinOk_flat (Nat.le_trans (lk_flat h4 hN' _) (by decide))) ⟨_, hle2, rfl, hCn, ?_⟩
    show (lvs hs i).map PV.str ++ [.str (lvT hs (N - 1 - i))] = _
    rw [← hNe]
    simp [lvs, List.range_succ]
  · rintro C E acc σ' hE hEC ⟨e1, hCn, e3⟩ hEn
    subst e3
    rw [e1] at hEn ⊢
    have hfl := lvs_flat h4 hN'
    rw [hNe] at hfl
    refine CV.join (AH.set_self ..) (joinOk_flat (Nat.le_trans hfl (by decide))) ?_
    have e4 : rowT hs = Txt.join (Str.ofString "") (lvs hs N) := by unfold rowT; rw [hNe]
    have hσD : σ D = none := by
      cases q : σ D with
      | none => rfl
      | some z => rw [wle3 D z q] at hD; cases hD
    have hσE : σ E = none := by
      cases q : σ E with
      | none => rfl
      | some z =>
        have := wle3 E z q
        rw [AH.set_ne _ _ (fun y => by rw [y, hσD] at q; cases q), this] at hEn; cases hEn
    have := hQ _ (AH.le_setN (AH.le_setN wle3 hσD (p := .range ((N : Nat) - 1) (-1) (-1))) hσE (p := .list ((lvs hs N).map PV.str)))
    rw [e4] at this
    exact this
end
end Mine
end

section
namespace Mine
/-- how many below N -/
def cnt (N : Nat) (P : Nat → Bool) : Nat := (List.range N).countP P
theorem cnt_succ (N : Nat) (P : Nat → Bool) : cnt (N + 1) P = cnt N P + (if P N = true then 1 else 0) := by
  unfold cnt; rw [List.range_succ, List.countP_append]; simp [List.countP_cons]
theorem cnt_le : ∀ (N : Nat) (P : Nat → Bool), cnt N P ≤ N
  | 0, _ => Nat.le_refl _
  | N + 1, P => by rw [cnt_succ]; have := cnt_le N P; split <;> omega
theorem cnt_not : ∀ (N : Nat) (P : Nat → Bool), cnt N (fun i => !P i) + cnt N P = N
  | 0, _ => rfl
  | N + 1, P => by rw [cnt_succ, cnt_succ]; have := cnt_not N P; cases P N <;> simp <;> omega
theorem cnt_congr : ∀ (N : Nat) (P P' : Nat → Bool), (∀ i, i < N → P i = P' i) → cnt N P = cnt N P'
  | 0, _, _, _ => rfl
  | N + 1, P, P', h => by rw [cnt_succ, cnt_succ, cnt_congr N P P' fun i hi => h i (by omega), h N (by omega)]
theorem cnt_but : ∀ (N : Nat) (P : Nat → Bool) (j : Nat), cnt N P ≤ cnt N (fun i => P i && !decide (i = j)) + 1
  | 0, _, _ => by simp [cnt]
  | N + 1, P, j => by
    rw [cnt_succ, cnt_succ]
    by_cases h : N = j
    · subst h
      have e : cnt N (fun i => P i && !decide (i = N)) = cnt N P := cnt_congr _ _ _ fun i hi => by
        have : ¬ i = N := by omega
        simp [this]
      rw [e]; split <;> omega
    · have := cnt_but N P j
      simp only [h, decide_false, Bool.not_false, Bool.and_true]
      omega
theorem cnt_add : ∀ (N : Nat) (P : Nat → Bool) (j : Nat), j < N → P j = false → cnt N (fun i => P i || decide (i = j)) = cnt N P + 1
  | 0, _, _, h, _ => by omega
  | N + 1, P, j, h, hp => by
    rw [cnt_succ, cnt_succ]
    by_cases e : N = j
    · subst e
      have e : cnt N (fun i => P i || decide (i = N)) = cnt N P := cnt_congr _ _ _ fun i hi => by
        have : ¬ i = N := by omega
        simp [this]
      rw [e, hp]; simp
    · have := cnt_add N P j (by omega) hp
      rw [this]
      simp only [e, decide_false, Bool.or_false]
      omega
theorem cnt_zero : ∀ (N : Nat) (P : Nat → Bool), cnt N P = 0 → ∀ i, i < N → P i = false
  | 0, _, _, _, h => by omega
  | N + 1, P, h, i, hi => by
    rw [cnt_succ] at h
    by_cases e : i = N
    · subst e; cases hp : P i with
      | false => rfl
      | true => rw [hp] at h; simp at h
    · exact cnt_zero N P (by omega) i (by omega)

abbrev Hts := Nat → Nat
/-- heap j falls -/
def fall (N : Nat) (h : Hts) (j : Nat) : Hts := fun i => if i = j then h i - N else h i + 1
def InvB (N : Nat) (h : Hts) (t : Nat → Bool) : Prop := ∀ P : Nat → Bool, (∃ i, i < N ∧ P i = true) → (∀ i, i < N → P i = true → t i = true) → ∃ i, i < N ∧ P i = true ∧ cnt N P ≤ h i + 1
theorem InvB.up {N : Nat} {h h' : Hts} {t : Nat → Bool} (b : InvB N h t) (hh : ∀ i, i < N → h i ≤ h' i) : InvB N h' t := fun P h1 h2 => by
  obtain ⟨i, hi, hp, hc⟩ := b P h1 h2
  exact ⟨i, hi, hp, by have := hh i hi; omega⟩
theorem InvB.fall {N : Nat} {h : Hts} {t : Nat → Bool} {j : Nat} (b : InvB N h t) (hj : j < N) : InvB N (fall N h j) (fun i => t i || decide (i = j)) := fun P h1 h2 => by
  cases hp : P j with
  | false =>
    have hne : ∀ i, P i = true → i ≠ j := fun i hi z => by rw [z, hp] at hi; cases hi
    obtain ⟨i, hi, hpi, hc⟩ := b P h1 fun i hi hpi => by
      have := h2 i hi hpi
      simpa [hne i hpi] using this
    refine ⟨i, hi, hpi, ?_⟩
    unfold Mine.fall
    rw [if_neg (hne i hpi)]; omega
  | true =>
    have hb := cnt_but N P j
    by_cases he : ∃ i, i < N ∧ (P i && !decide (i = j)) = true
    · obtain ⟨i, hi, hpi, hc⟩ := b (fun i => P i && !decide (i = j)) he fun i hi hpi => by
        simp only [Bool.and_eq_true, Bool.not_eq_true', decide_eq_false_iff_not] at hpi
        have := h2 i hi hpi.1
        simpa [hpi.2] using this
      simp only [Bool.and_eq_true, Bool.not_eq_true', decide_eq_false_iff_not] at hpi
      refine ⟨i, hi, hpi.1, ?_⟩
      unfold Mine.fall
      rw [if_neg hpi.2]; omega
    · refine ⟨j, hj, hp, ?_⟩
      have hz : cnt N (fun i => P i && !decide (i = j)) = 0 := by
        have e : cnt N (fun i => P i && !decide (i = j)) = cnt N (fun _ => false) := cnt_congr _ _ _ fun i hi => by
          cases hq : (P i && !decide (i = j)) with
          | false => rfl
          | true => exact absurd ⟨i, hi, hq⟩ he
        rw [e]; simp [cnt]
      omega
/-- every set of heaps has one that burns -/
def Burn (N : Nat) (h : Hts) : Prop := ∀ P : Nat → Bool, (∃ i, i < N ∧ P i = true) → ∃ i, i < N ∧ P i = true ∧ cnt N P ≤ h i + 1
def Stable (N : Nat) (h : Hts) : Prop := ∀ i, i < N → h i < N
def Never (N K : Nat) (h : Hts) (t : Nat → Bool) : Prop := ∀ i, i < N → t i = false → K ≤ h i
theorem burn_of {N : Nat} {h : Hts} {t : Nat → Bool} (b : InvB N h t) (u : Never N (N - 1) h t) : Burn N h := fun P hp => by
  by_cases ha : ∀ i, i < N → P i = true → t i = true
  · exact b P hp ha
  · have : ∃ i, i < N ∧ P i = true ∧ t i = false := Classical.byContradiction fun hn => ha fun i hi hpi => by
      cases q : t i with
      | true => rfl
      | false => exact absurd ⟨i, hi, hpi, q⟩ hn
    obtain ⟨i, hi, hpi, ht⟩ := this
    refine ⟨i, hi, hpi, ?_⟩
    have h1 := u i hi ht
    have h2 := cnt_le N P
    omega
/-- the last round, from h0 -/
structure Last (N : Nat) (h0 h : Hts) (tt : Nat → Bool) : Prop where
  eq : ∀ i, i < N → h i + (N + 1) * (if tt i = true then 1 else 0) = h0 i + 1 + cnt N tt
theorem Last.start {N : Nat} {h0 h : Hts} (hh : ∀ i, i < N → h i = h0 i + 1) : Last N h0 h (fun _ => false) := ⟨fun i hi => by
  have : cnt N (fun _ => false) = 0 := by simp [cnt]
  rw [this, hh i hi]; simp⟩
theorem Last.fall {N : Nat} {h0 h : Hts} {tt : Nat → Bool} {j : Nat} (l : Last N h0 h tt) (s : Stable N h0) (hj : j < N) (hN : N ≤ h j) : Last N h0 (fall N h j) (fun i => tt i || decide (i = j)) := by
  have hf : tt j = false := by
    cases q : tt j with
    | false => rfl
    | true =>
      have h1 := l.eq j hj
      rw [q] at h1
      have h2 := s j hj
      have h3 := cnt_le N tt
      simp at h1; omega
  refine ⟨fun i hi => ?_⟩
  rw [cnt_add N tt j hj hf]
  have h1 := l.eq i hi
  unfold Mine.fall
  by_cases e : i = j
  · subst e
    rw [if_pos rfl]
    rw [hf] at h1
    simp at h1 ⊢; omega
  · rw [if_neg e]
    simp only [e, decide_false, Bool.or_false]
    omega
theorem Last.fin {N : Nat} {h0 h : Hts} {tt : Nat → Bool} (l : Last N h0 h tt) (b : Burn N h0) (s : Stable N h) : ∀ i, i < N → h i = h0 i := by
  have hall : ∀ i, i < N → tt i = true := by
    refine Classical.byContradiction fun hn => ?_
    have : ∃ i, i < N ∧ (fun i => !tt i) i = true := Classical.byContradiction fun hm => hn fun i hi => by
      cases q : tt i with
      | true => rfl
      | false => exact absurd ⟨i, hi, by simp [q]⟩ hm
    obtain ⟨i, hi, hp, hc⟩ := b _ this
    have h1 := l.eq i hi
    have hf : tt i = false := by simpa using hp
    rw [hf] at h1
    have h2 := s i hi
    have h3 := cnt_not N tt
    simp at h1
    omega
  intro i hi
  have h1 := l.eq i hi
  rw [hall i hi] at h1
  have h2 := cnt_not N tt
  have h3 : cnt N (fun i => !tt i) = 0 := by
    have e : cnt N (fun i => !tt i) = cnt N (fun _ => false) := cnt_congr _ _ _ fun i hi => by rw [hall i hi]; rfl
    rw [e]; simp [cnt]
  simp at h1
  omega
def Res (N : Nat) (f h : Hts) : Prop := ∃ m, ∀ i, i < N → h i % (N + 1) = (f i + m) % (N + 1)
theorem Res.up {N : Nat} {f h h' : Hts} (r : Res N f h) (hh : ∀ i, i < N → h' i = h i + 1) : Res N f h' := by
  obtain ⟨m, e⟩ := r
  refine ⟨m + 1, fun i hi => ?_⟩
  rw [hh i hi, ← Nat.add_assoc, Nat.add_mod, e i hi, ← Nat.add_mod]
theorem Res.fall {N : Nat} {f h : Hts} {j : Nat} (r : Res N f h) (hN : N ≤ h j) : Res N f (fall N h j) := by
  obtain ⟨m, e⟩ := r
  refine ⟨m + 1, fun i hi => ?_⟩
  have h1 : ∀ x, (x + 1) % (N + 1) = (x % (N + 1) + 1) % (N + 1) := fun x => (Nat.mod_add_mod x (N + 1) 1).symm
  have h2 : (f i + (m + 1)) % (N + 1) = (h i + 1) % (N + 1) := by rw [← Nat.add_assoc, h1, ← e i hi, ← h1]
  rw [h2]
  unfold Mine.fall
  split
  · rename_i hij
    subst hij
    have : h i + 1 = (h i - N) + (N + 1) := by omega
    rw [this, Nat.add_mod_right]
  · rfl
/-- within a round that began at h0, K rounds done with it -/
structure Rnd (N K : Nat) (f h0 h : Hts) : Prop where
  inv : ∃ t, InvB N h t ∧ Never N K h t
  res : Res N f h
  last : Burn N h0 → Stable N h0 → ∃ tt, Last N h0 h tt
theorem Rnd.fall {N K : Nat} {f h0 h : Hts} {j : Nat} (r : Rnd N K f h0 h) (hj : j < N) (hN : N ≤ h j) : Rnd N K f h0 (fall N h j) := by
  obtain ⟨t, b, u⟩ := r.inv
  refine ⟨⟨_, b.fall hj, fun i hi ht => ?_⟩, r.res.fall hN, fun hb hs => ?_⟩
  · have hne : ¬ i = j := fun z => by simp [z] at ht
    have h1 : t i = false := by simpa [hne] using ht
    have := u i hi h1
    unfold Mine.fall
    rw [if_neg hne]; omega
  · obtain ⟨tt, l⟩ := r.last hb hs
    exact ⟨_, l.fall hs hj hN⟩
/-- between rounds, K done -/
structure Btw (N K : Nat) (f h : Hts) : Prop where
  inv : ∃ t, InvB N h t ∧ Never N K h t
  res : Res N f h
theorem Btw.start {N : Nat} {f : Hts} : Btw N 0 f f := ⟨⟨fun _ => false, fun P ⟨i, hi, hp⟩ ha => absurd (ha i hi hp) (by simp), fun _ _ _ => Nat.zero_le _⟩, ⟨0, fun i _ => rfl⟩⟩
theorem Btw.round {N K : Nat} {f h h' : Hts} (r : Btw N K f h) (hh : ∀ i, i < N → h' i = h i + 1) : Rnd N (K + 1) f h h' := by
  obtain ⟨t, b, u⟩ := r.inv
  refine ⟨⟨t, b.up fun i hi => by rw [hh i hi]; omega, fun i hi ht => by have := u i hi ht; rw [hh i hi]; omega⟩, r.res.up hh, fun _ _ => ⟨_, Last.start hh⟩⟩
theorem Rnd.done {N K : Nat} {f h0 h : Hts} (r : Rnd N K f h0 h) : Btw N K f h := ⟨r.inv, r.res⟩
def tot (N : Nat) (h : Hts) : Nat := ((List.range N).map h).sum
theorem tot_succ (N : Nat) (h : Hts) : tot (N + 1) h = tot N h + h N := by simp [tot, List.range_succ]
theorem tot_congr : ∀ (N : Nat) (h h' : Hts), (∀ i, i < N → h i = h' i) → tot N h = tot N h'
  | 0, _, _, _ => rfl
  | N + 1, h, h', e => by rw [tot_succ, tot_succ, tot_congr N h h' fun i hi => e i (by omega), e N (by omega)]
theorem tot_up : ∀ (N : Nat) (h : Hts), tot N (fun i => h i + 1) = tot N h + N
  | 0, _ => rfl
  | N + 1, h => by rw [tot_succ, tot_succ, tot_up N h]; omega
theorem tot_fall : ∀ (M N : Nat) (h : Hts) (j : Nat), j < M → N ≤ h j → tot M (fall N h j) + N + 1 = tot M h + M
  | 0, _, _, _, hj, _ => by omega
  | M + 1, N, h, j, hj, hN => by
    rw [tot_succ, tot_succ]
    by_cases e : M = j
    · subst e
      have h1 : tot M (fall N h M) = tot M (fun i => h i + 1) := tot_congr _ _ _ fun i hi => by
        unfold fall; rw [if_neg (by omega)]
      have h2 : fall N h M M = h M - N := by unfold fall; rw [if_pos rfl]
      rw [h1, tot_up, h2]; omega
    · have h1 := tot_fall M N h j (by omega) hN
      have h2 : fall N h j M = h M + 1 := by unfold fall; rw [if_neg e]
      rw [h2]; omega
theorem le_tot : ∀ (N : Nat) (h : Hts) (i : Nat), i < N → h i ≤ tot N h
  | 0, _, _, hi => by omega
  | N + 1, h, i, hi => by
    rw [tot_succ]
    by_cases e : i = N
    · subst e; omega
    · have := le_tot N h i (by omega); omega
end Mine
end

section
open PySem PySem.W PyProof.Rows Builtin Builtin.Str
set_option maxRecDepth 100000
namespace Mine
abbrev St2 := List (Nat × Nat)
def nmC (c : Nat) : Str := if c < 4 then ⟨#[97 + c]⟩ else ⟨#[61 + c]⟩
def sm (q : Nat) : Str := ⟨#[97 + q]⟩
theorem sm_inj {p q : Nat} (h : sm p = sm q) : p = q := by
  unfold sm at h
  simp at h
  exact h
theorem nmC_ok : ∀ c : Nat, c < 8 → Txt.lower (nmC c) = sm (c % 4) ∧ Txt.upper (nmC c) = nmC (c % 4 + 4) ∧ okN (nmC c) = true := by decide +kernel
theorem nmC_inj : ∀ c : Nat, c < 8 → ∀ d : Nat, d < 8 → nmC c = nmC d → c = d := by decide +kernel
theorem sm_ok : ∀ q : Nat, q < 4 → Txt.lower (sm q) = sm q ∧ okN (sm q) = true := by decide +kernel
theorem oS_ok : ∀ n : Nat, n ≤ 44 → okV (oS (n : Nat)) = true := by decide +kernel
theorem oS_len (n : Nat) : (oS (n : Nat)).length = n := by
  show (List.foldl (fun x1 x2 => x1 ++ x2) #[] (List.replicate ((n : Nat) : Int).toNat (Str.ofString "o").cps)).size = n
  rw [rep_size]
  have : (Str.ofString "o").cps.size = 1 := by decide +kernel
  rw [this]; simp
theorem oS_toNat (n : Int) : oS n = oS (n.toNat : Nat) := by unfold oS times; rw [Int.toNat_natCast]
def tabS (st : St2) : List (Str × Str) := st.map fun e => (nmC e.1, oS (e.2 : Nat))
def getH : St2 → Nat → Option Nat
  | [], _ => none
  | e :: r, q => if e.1 % 4 = q then some e.2 else getH r q
def hF (st : St2) : Hts := fun q => (getH st q).getD 0
structure WF (N : Nat) (st : St2) : Prop where
  perm : (st.map fun e => e.1 % 4).Perm (List.range N)
  le : ∀ e ∈ st, e.1 < 8 ∧ e.2 ≤ 44
theorem WF.len {N : Nat} {st : St2} (w : WF N st) : st.length = N := by have := w.perm.length_eq; simpa using this
theorem getP_tabS : ∀ (st : St2) (q : Nat), (∀ e ∈ st, e.1 < 8) → getP (tabS st) (sm q) = (getH st q).map fun h => oS (h : Nat)
  | [], _, _ => rfl
  | e :: r, q, h => by
    show (if Txt.lower (nmC e.1) = sm q then some (oS (e.2 : Nat)) else getP (tabS r) (sm q)) = (if e.1 % 4 = q then some e.2 else getH r q).map _
    rw [(nmC_ok e.1 (h e List.mem_cons_self)).1, getP_tabS r q fun x hx => h x (List.mem_cons_of_mem _ hx)]
    by_cases hq : e.1 % 4 = q
    · rw [if_pos (by rw [hq]), if_pos hq]; rfl
    · rw [if_neg (fun z => hq (sm_inj z)), if_neg hq]
theorem getH_mem : ∀ (st : St2) (q : Nat), q ∈ st.map (fun e => e.1 % 4) → ∃ h, getH st q = some h ∧ ∃ e ∈ st, e.2 = h
  | [], _, h => by simp at h
  | e :: r, q, h => by
    unfold getH
    by_cases hq : e.1 % 4 = q
    · rw [if_pos hq]; exact ⟨_, rfl, e, List.mem_cons_self, rfl⟩
    · rw [if_neg hq]
      have : q ∈ r.map (fun e => e.1 % 4) := by
        rcases List.mem_cons.mp h with z | z
        · exact absurd z.symm hq
        · exact z
      obtain ⟨x, h1, y, hy, h2⟩ := getH_mem r q this
      exact ⟨x, h1, y, List.mem_cons_of_mem _ hy, h2⟩
theorem WF.get {N : Nat} {st : St2} (w : WF N st) {q : Nat} (hq : q < N) : getH st q = some (hF st q) ∧ hF st q ≤ 44 := by
  obtain ⟨h, h1, e, he, h2⟩ := getH_mem st q (w.perm.mem_iff.mpr (List.mem_range.mpr hq))
  unfold hF
  rw [h1]
  exact ⟨rfl, by show h ≤ 44; rw [← h2]; exact (w.le e he).2⟩
def grainS (st : St2) (c h : Nat) : St2 := st.filter (fun e => !decide (e.1 % 4 = c % 4)) ++ [(c % 4 + 4, h)]
theorem delP_tabS (st : St2) (q : Nat) (h : ∀ e ∈ st, e.1 < 8) : delP (tabS st) (sm q) = tabS (st.filter fun e => !decide (e.1 % 4 = q)) := by
  unfold delP tabS
  rw [List.filter_map]
  congr 1
  apply List.filter_congr
  intro e he
  show (!decide (Txt.lower (nmC e.1) = sm q)) = _
  rw [(nmC_ok e.1 (h e he)).1]
  by_cases hq : e.1 % 4 = q
  · rw [hq]; simp
  · rw [decide_eq_false (fun z => hq (sm_inj z)), decide_eq_false hq]
theorem setP_tabS {N : Nat} {st : St2} {c h : Nat} (w : WF N st) (hc : c < 8) : setP (tabS st) (nmC (c % 4 + 4)) (oS (h : Nat)) = tabS (grainS st c h) := by
  unfold setP grainS
  have : Txt.lower (nmC (c % 4 + 4)) = sm (c % 4) := by
    rw [(nmC_ok (c % 4 + 4) (by omega)).1, show (c % 4 + 4) % 4 = c % 4 by omega]
  rw [this, delP_tabS st _ fun e he => (w.le e he).1]
  unfold tabS
  rw [List.map_append]; rfl
theorem getH_app : ∀ (a b : St2) (q : Nat), getH (a ++ b) q = match getH a q with
    | some h => some h
    | none => getH b q
  | [], b, q => rfl
  | e :: r, b, q => by
    show (if e.1 % 4 = q then some e.2 else getH (r ++ b) q) = match (if e.1 % 4 = q then some e.2 else getH r q) with | some h => some h | none => getH b q
    split
    · rfl
    · exact getH_app r b q
theorem getH_filt (p : Nat) : ∀ (a : St2) (q : Nat), getH (a.filter fun e => !decide (e.1 % 4 = p)) q = if q = p then none else getH a q
  | [], q => by simp [getH]
  | e :: r, q => by
    have ih := getH_filt p r q
    rw [List.filter_cons]
    by_cases h : e.1 % 4 = p
    · rw [if_neg (by simp [h]), ih]
      by_cases hq : q = p
      · rw [if_pos hq, if_pos hq]
      · rw [if_neg hq, if_neg hq]
        show _ = if e.1 % 4 = q then some e.2 else getH r q
        rw [if_neg (fun z => hq (by omega))]
    · rw [if_pos (by simp [h])]
      show (if e.1 % 4 = q then some e.2 else _) = _
      rw [ih]
      by_cases hq : q = p
      · rw [if_pos hq, if_pos hq, if_neg (by omega)]
      · rw [if_neg hq, if_neg hq]; rfl
theorem hF_grain {st : St2} {c h k : Nat} : hF (grainS st c h) k = if k = c % 4 then h else hF st k := by
  unfold hF grainS
  rw [getH_app, getH_filt]
  by_cases hk : k = c % 4
  · rw [if_pos hk, if_pos hk]
    show (if (c % 4 + 4) % 4 = k then some h else none).getD 0 = h
    rw [if_pos (by omega)]; rfl
  · rw [if_neg hk, if_neg hk]
    cases getH st k with
    | some x => rfl
    | none =>
      show (if (c % 4 + 4) % 4 = k then some h else none).getD 0 = _
      rw [if_neg (by omega)]
theorem WF.grain {N : Nat} {st : St2} {c h : Nat} (w : WF N st) (hc : c % 4 < N) (hh : h ≤ 44) : WF N (grainS st c h) := by
  refine ⟨?_, fun e he => ?_⟩
  · unfold grainS
    rw [List.map_append]
    have e1 : (st.filter fun e => !decide (e.1 % 4 = c % 4)).map (fun e => e.1 % 4) = (st.map fun e => e.1 % 4).filter fun x => !decide (x = c % 4) := by
      rw [List.filter_map]; rfl
    rw [e1]
    have hn : (st.map fun e => e.1 % 4).Nodup := w.perm.nodup_iff.mpr List.nodup_range
    have hm : c % 4 ∈ st.map (fun e => e.1 % 4) := w.perm.mem_iff.mpr (List.mem_range.mpr hc)
    have e2 : (st.map fun e => e.1 % 4).filter (fun x => !decide (x = c % 4)) = (st.map fun e => e.1 % 4).erase (c % 4) := by
      rw [hn.erase_eq_filter]
      apply List.filter_congr
      intro x _
      by_cases z : x = c % 4 <;> simp [z]
    rw [e2]
    have e3 : ([(c % 4 + 4, h)] : St2).map (fun e => e.1 % 4) = [c % 4] := by
      show [(c % 4 + 4) % 4] = [c % 4]
      rw [show (c % 4 + 4) % 4 = c % 4 by omega]
    rw [e3]
    refine List.Perm.trans ?_ w.perm
    refine List.Perm.trans List.perm_append_comm ?_
    exact (List.perm_cons_erase hm).symm
  · unfold grainS at he
    rcases List.mem_append.mp he with z | z
    · exact w.le e (List.mem_filter.mp z).1
    · rw [List.mem_singleton.mp z]
      exact ⟨by show c % 4 + 4 < 8; omega, hh⟩
theorem okT_tabS {N : Nat} {st : St2} (w : WF N st) : okT (tabS st) = true := by
  unfold okT
  rw [List.all_eq_true]
  intro e he
  obtain ⟨z, hz, rfl⟩ := List.mem_map.mp he
  refine decide_eq_true ?_
  show (Txt.lower (nmC z.1)).length ≤ _
  rw [(nmC_ok z.1 (w.le z hz).1).1]
  exact Nat.le_trans (show 1 ≤ 16777216 by decide) (by decide)
theorem tabS_len (st : St2) : (tabS st).length = st.length := by simp [tabS]
section
variable {X : Cx} {A : Around} {σ : AH} {Q : PV → AH → Prop}
theorem CV.getS (k : KnH X) {n : Nat} (r : Rm A (n + 2)) {x l : Addr} {nm : Str} {N q : Nat} {st : St2} (T : Tab σ x k.C l (tabS st)) (w : WF N st) (hN : N ≤ 4) (hq : q < N) (hnm : Txt.lower nm = sm q)
    (hQ : ∀ σ', σ.le σ' → Q (.str (oS (hF st q : Nat))) σ') : CV X A (.ref k.mGet.f) [.ref x, .str nm] σ Q :=
  CV.get k r T (by rw [hnm]; exact (sm_ok q (by omega)).2) (okT_tabS w) (by rw [tabS_len, w.len]; omega) (by rw [hnm, getP_tabS st q fun e he => (w.le e he).1, (w.get hq).1]; rfl) hQ
theorem CV.grainsS (k : Kn2 X) {n : Nat} (r : Rm A (n + 4)) {x l : Addr} {N c h : Nat} {more : Int} {st : St2} (T : Tab σ x k.C l (tabS st)) (w : WF N st) (hN : N ≤ 4) (hc8 : c < 8) (hc : c % 4 < N)
    (hm0 : -1000 ≤ (hF st (c % 4) : Int) + more) (hm1 : (hF st (c % 4) : Int) + more ≤ 44) (hh : ((hF st (c % 4) : Int) + more).toNat = h)
    (hQ : ∀ σ', leBut σ σ' l → Tab σ' x k.C l (tabS (grainS st c h)) → Q .none σ') : CV X A (.ref k.aG) [.ref x, .str (nmC c), .int more] σ Q := by
  obtain ⟨n1, n2, n3⟩ := nmC_ok c hc8
  have hsm := sm_ok (c % 4) (by omega)
  obtain ⟨g1, g2⟩ := w.get hc
  have hup := nmC_ok (c % 4 + 4) (by omega)
  have hm4 : (c % 4 + 4) % 4 = c % 4 := by omega
  rw [hm4] at hup
  refine CV.grains k r (v := oS (hF st (c % 4) : Nat)) T (by rw [n1, hsm.1, getP_tabS st _ fun e he => (w.le e he).1, g1]; rfl) (by rw [n1, hsm.1]; exact hsm.2) (by rw [n2]; exact hup.2.2) (by rw [n2, hup.1]; exact hsm.2) (by rw [n1]; exact Nat.le_trans (show 1 ≤ 1000 by decide) (Nat.le_refl _)) (by rw [oS_len]; omega) (by rw [oS_len]; exact hm0) (by rw [oS_len]; omega) ?_ (okT_tabS w) (by rw [tabS_len, w.len]; omega) ?_
  · rw [oS_len, oS_toNat, hh]
    exact oS_ok h (by omega)
  · rw [oS_len, oS_toNat ((hF st (c % 4) : Int) + more), hh, n2, setP_tabS w hc8]
    exact hQ
end
end Mine
end

section
open PySem PySem.W PyProof.Rows Builtin Builtin.Str
set_option maxRecDepth 100000
namespace Mine
abbrev lawEnv2 (fm : FM) (L a : Addr) : Env := callEnvC (mkFn lawSrc2 fm) L a
/-- the ground under the law's own run: what stands still -/
structure Gd (F σ : AH) (L : Nat) : Prop where
  le : F.le σ
  fl : F L = none
  fc : ∀ j : Nat, 1 ≤ j → j ≤ 4 → F (L + j) = none
  sl : ∃ m, σ L = some (.ns m)
  sc : ∀ j : Nat, 1 ≤ j → j ≤ 4 → ∃ v, σ (L + j) = some (.cell v)
section
variable {F σ : AH} {L : Nat}
theorem Gd.loc (G : Gd F σ L) {m : Str → Option PV} : Gd F (σ.set L (.ns m)) L :=
  ⟨AH.le_setN G.le G.fl, G.fl, G.fc, ⟨m, AH.set_self ..⟩, fun j h1 h2 => by rw [AH.set_ne _ _ (neLj h1)]; exact G.sc j h1 h2⟩
theorem Gd.cell {j : Nat} (G : Gd F σ L) (h1 : 1 ≤ j) (h2 : j ≤ 4) {p : Option PV} : Gd F (σ.set (L + j) (.cell p)) L :=
  ⟨AH.le_setN G.le (G.fc j h1 h2), G.fl, G.fc, by rw [AH.set_ne _ _ (neLj h1).symm]; exact G.sl, fun i i1 i2 => by
    by_cases h : i = j
    · subst h; exact ⟨p, AH.set_self ..⟩
    · rw [AH.set_ne _ _ (neLL h)]; exact G.sc i i1 i2⟩
theorem Gd.more (G : Gd F σ L) {σ' : AH} (h : σ.le σ') : Gd F σ' L :=
  ⟨AH.le_trans G.le h, G.fl, G.fc, let ⟨m, e⟩ := G.sl; ⟨m, h _ _ e⟩, fun j h1 h2 => let ⟨v, e⟩ := G.sc j h1 h2; ⟨v, h _ _ e⟩⟩
theorem Gd.ne (G : Gd F σ L) {D : Nat} (h : σ D = none) : D ≠ L ∧ (∀ j : Nat, 1 ≤ j → j ≤ 4 → D ≠ L + j) ∧ F D = none := by
  refine ⟨fun z => ?_, fun j h1 h2 z => ?_, ?_⟩
  · obtain ⟨m, e⟩ := G.sl; rw [← z, h] at e; cases e
  · obtain ⟨v, e⟩ := G.sc j h1 h2; rw [← z, h] at e; cases e
  · cases q : F D with
    | none => rfl
    | some p => rw [G.le D p q] at h; cases h
theorem Gd.put (G : Gd F σ L) {D : Nat} (h : σ D = none) {p : PO} : Gd F (σ.set D p) L := G.more (AH.le_setN (AH.le_refl _) h)
theorem Gd.freeze (G : Gd F σ L) {D : Nat} (hL : D ≠ L) (hj : ∀ j : Nat, 1 ≤ j → j ≤ 4 → D ≠ L + j) {p : PO} (h : σ D = some p) : Gd (F.set D p) σ L :=
  ⟨fun b q e => by
    by_cases hb : b = D
    · subst hb; rw [AH.set_self] at e; cases e; exact h
    · rw [AH.set_ne _ _ hb] at e; exact G.le b q e, by rw [AH.set_ne _ _ hL.symm]; exact G.fl, fun j h1 h2 => by rw [AH.set_ne _ _ (hj j h1 h2).symm]; exact G.fc j h1 h2, G.sl, G.sc⟩
theorem Gd.but {σ' : AH} {l : Nat} (G : Gd F σ L) (h : leBut σ σ' l) (hl : ∃ vs, σ l = some (.list vs)) (hF : F l = none) : Gd F σ' L := by
  obtain ⟨vs, hv⟩ := hl
  refine ⟨fun b p e => h b p (fun z => by rw [z, hF] at e; cases e) (G.le b p e), G.fl, G.fc, ?_, fun j h1 h2 => ?_⟩
  · obtain ⟨m, e⟩ := G.sl; exact ⟨m, h _ _ (fun z => by rw [z, hv] at e; cases e) e⟩
  · obtain ⟨v, e⟩ := G.sc j h1 h2; exact ⟨v, h _ _ (fun z => by rw [z, hv] at e; cases e) e⟩
theorem AH.le_none {F F' : AH} (h : F.le F') {b : Addr} (e : F' b = none) : F b = none := by
  cases q : F b with
  | none => rfl
  | some p => rw [h b p q] at e; cases e
theorem Gd.weak {F' : AH} (G : Gd F' σ L) (h : F.le F') : Gd F σ L :=
  ⟨AH.le_trans h G.le, AH.le_none h G.fl, fun j h1 h2 => AH.le_none h (G.fc j h1 h2), G.sl, G.sc⟩
end
/-- what the law's run has laid, once the pile stands -/
structure Ls (F σ : AH) (L : Nat) (m : Str → Option PV) (N : Nat) (FD x C l : Addr) (st : St2) : Prop where
  gd : Gd F σ L
  ns : σ L = some (.ns m)
  c2 : σ (L + 2) = some (.cell (some (.int (N : Nat))))
  c3 : σ (L + 3) = some (.cell (some (.ref FD)))
  c4 : σ (L + 4) = some (.cell (some (.ref x)))
  tab : Tab σ x C l (tabS st)
  wf : WF N st
  lF : F l = none
section
variable {F σ σ' : AH} {L N : Nat} {m : Str → Option PV} {FD x C l : Addr} {st : St2}
theorem Ls.more (S : Ls F σ L m N FD x C l st) (h : σ.le σ') : Ls F σ' L m N FD x C l st :=
  ⟨S.gd.more h, h _ _ S.ns, h _ _ S.c2, h _ _ S.c3, h _ _ S.c4, S.tab.le h, S.wf, S.lF⟩
theorem Ls.loc (S : Ls F σ L m N FD x C l st) {m' : Str → Option PV} : Ls F (σ.set L (.ns m')) L m' N FD x C l st :=
  ⟨S.gd.loc, AH.set_self .., by rw [AH.set_ne _ _ (neLj (by decide))]; exact S.c2, by rw [AH.set_ne _ _ (neLj (by decide))]; exact S.c3, by rw [AH.set_ne _ _ (neLj (by decide))]; exact S.c4, S.tab.lat (Lat.ns S.ns), S.wf, S.lF⟩
theorem Ls.but (S : Ls F σ L m N FD x C l st) (h : leBut σ σ' l) {st' : St2} (T : Tab σ' x C l (tabS st')) (w : WF N st') : Ls F σ' L m N FD x C l st' := by
  have hl : ∃ vs, σ l = some (.list vs) := by obtain ⟨ts, e, _⟩ := S.tab.lst; exact ⟨_, e⟩
  exact ⟨S.gd.but h hl S.lF, h.kp S.tab S.ns (by simp), h.kp S.tab S.c2 (by simp), h.kp S.tab S.c3 (by simp), h.kp S.tab S.c4 (by simp), T, w, S.lF⟩
theorem Ls.freeze (S : Ls F σ L m N FD x C l st) {D : Nat} {p : PO} (h0 : F D = none) (hL : D ≠ L) (hj : ∀ j : Nat, 1 ≤ j → j ≤ 4 → D ≠ L + j) (hl : D ≠ l) (h : σ D = some p) : Ls (F.set D p) σ L m N FD x C l st :=
  ⟨S.gd.freeze hL hj h, S.ns, S.c2, S.c3, S.c4, S.tab, S.wf, by rw [AH.set_ne _ _ hl.symm]; exact S.lF⟩
theorem Ls.weak {F' : AH} (S : Ls F' σ L m N FD x C l st) (h : F.le F') : Ls F σ L m N FD x C l st :=
  ⟨S.gd.weak h, S.ns, S.c2, S.c3, S.c4, S.tab, S.wf, AH.le_none h S.lF⟩
theorem Ls.lne (S : Ls F σ L m N FD x C l st) {D : Nat} (h : σ D = none) : D ≠ l := fun z => by
  obtain ⟨ts, e, _⟩ := S.tab.lst
  rw [← z, h] at e; cases e
end
theorem keys_tabS (st : St2) : (tabS st).map (·.1) = st.map fun e => nmC e.1 := by unfold tabS; rw [List.map_map]; rfl
def highS (N : Nat) (st : St2) : List Nat := (st.filter fun e => decide (N ≤ hF st (e.1 % 4))).map (·.1)
theorem mem_lt {N : Nat} {st : St2} (w : WF N st) {e : Nat × Nat} (he : e ∈ st) : e.1 % 4 < N := by
  have : e.1 % 4 ∈ st.map (fun e => e.1 % 4) := List.mem_map.mpr ⟨e, he, rfl⟩
  exact List.mem_range.mp (w.perm.mem_iff.mp this)
theorem high_tabS {N c : Nat} {st : St2} (w : WF N st) (hN : N ≤ 4) : highP (tabS st) (c : Nat) = (highS c st).map nmC := by
  unfold highP highS
  rw [keys_tabS, List.filter_map, List.map_map]
  have e : st.filter (isHigh (tabS st) (c : Nat) ∘ fun e => nmC e.1) = st.filter fun e => decide (c ≤ hF st (e.1 % 4)) := by
    apply List.filter_congr
    intro e he
    have hq := mem_lt w he
    show isHigh (tabS st) (c : Nat) (nmC e.1) = _
    unfold isHigh
    rw [(nmC_ok e.1 (w.le e he).1).1, (sm_ok (e.1 % 4) (by omega)).1, getP_tabS st _ fun x hx => (w.le x hx).1, (w.get hq).1]
    show decide (((oS (hF st (e.1 % 4) : Nat)).length : Int) ≥ (c : Nat)) = _
    rw [oS_len]
    by_cases z : c ≤ hF st (e.1 % 4)
    · rw [decide_eq_true z]; exact decide_eq_true (by omega)
    · rw [decide_eq_false z]; exact decide_eq_false (by omega)
  rw [e]; rfl
theorem all_tabS {N : Nat} {st : St2} (w : WF N st) (hN : N ≤ 4) : ((tabS st).map (·.1)).all (nameOk (tabS st)) = true := by
  rw [keys_tabS, List.all_eq_true]
  intro nm hnm
  obtain ⟨e, he, rfl⟩ := List.mem_map.mp hnm
  have hq := mem_lt w he
  have hs := sm_ok (e.1 % 4) (by omega)
  have hg := w.get hq
  unfold nameOk
  rw [(nmC_ok e.1 (w.le e he).1).1, hs.1, hs.2, getP_tabS st _ fun x hx => (w.le x hx).1, hg.1]
  show (true && decide ((sm (e.1 % 4)).length ≤ 1000) && decide ((oS (hF st (e.1 % 4) : Nat)).length ≤ 1000)) = true
  rw [oS_len, decide_eq_true (show hF st (e.1 % 4) ≤ 1000 by omega), decide_eq_true (show (sm (e.1 % 4)).length ≤ 1000 from Nat.le_trans (show 1 ≤ 1000 by decide) (Nat.le_refl _))]
  rfl
theorem highS_nil {N c : Nat} {st : St2} (w : WF N st) (h : highS c st = []) : ∀ i, i < N → hF st i < c := fun i hi => by
  have : i ∈ st.map (fun e => e.1 % 4) := w.perm.mem_iff.mpr (List.mem_range.mpr hi)
  obtain ⟨e, he, hei⟩ := List.mem_map.mp this
  unfold highS at h
  rw [List.map_eq_nil_iff, List.filter_eq_nil_iff] at h
  have := h e he
  simp only [decide_eq_true_eq] at this
  have hei' : e.1 % 4 = i := hei
  rw [hei'] at this
  omega
theorem highS_mem {N c d : Nat} {st : St2} (w : WF N st) (h : d ∈ highS c st) : d < 8 ∧ d % 4 < N ∧ c ≤ hF st (d % 4) := by
  unfold highS at h
  obtain ⟨e, he, rfl⟩ := List.mem_map.mp h
  obtain ⟨h1, h2⟩ := List.mem_filter.mp he
  exact ⟨(w.le e h1).1, mem_lt w h1, of_decide_eq_true h2⟩
section
variable {X : Cx} {A : Around} {σ : AH} {Q : PV → AH → Prop}
theorem CV.keysS (k : KnH X) {n : Nat} (r : Rm A (n + 1)) {x l : Addr} {N : Nat} {st : St2} (T : Tab σ x k.C l (tabS st)) (w : WF N st) (hN : N ≤ 4)
    (hQ : ∀ σ' D, σ.le σ' → σ D = none → σ' D = some (.list ((st.map fun e => nmC e.1).map PV.str)) → Q (.ref D) σ') : CV X A (.ref k.mKeys.f) [.ref x] σ Q :=
  CV.keys k r T (by rw [tabS_len, w.len]; omega) fun σ' D h1 h2 h3 => hQ σ' D h1 h2 (by rw [← keys_tabS]; exact h3)
theorem CV.highT (k : Kn2 X) {n : Nat} (r : Rm A (n + 3)) {x l : Addr} {N c : Nat} {st : St2} (T : Tab σ x k.C l (tabS st)) (w : WF N st) (hN : N ≤ 4)
    (hQ : ∀ σ' D, σ.le σ' → σ D = none → σ' D = some (.list (((highS c st).map nmC).map PV.str)) → Q (.ref D) σ') : CV X A (.ref k.aH) [.ref x, .int (c : Nat)] σ Q :=
  CV.high k r T (all_tabS w hN) (okT_tabS w) (by rw [tabS_len, w.len]; omega) fun σ' D h1 h2 h3 => hQ σ' D h1 h2 (by rw [← high_tabS w hN]; exact h3)
end
/-- the heaps behind i names of a row of keys, but those that are passed over -/
def Up (N : Nat) (st0 : St2) (sk : Nat → Bool) (i : Nat) (st : St2) : Prop := ∀ k, k < N → hF st k = hF st0 k + (if k ∈ (st0.map fun e => e.1 % 4).take i ∧ sk k = false then 1 else 0)
theorem Up.start {N : Nat} {st0 : St2} {sk : Nat → Bool} : Up N st0 sk 0 st0 := fun k hk => by simp
theorem take_mem {l : List Nat} {i k : Nat} (hi : i < l.length) : k ∈ l.take (i + 1) ↔ k ∈ l.take i ∨ k = l[i] := by
  rw [List.take_succ_eq_append_getElem hi, List.mem_append, List.mem_singleton]
theorem Up.skip {N i : Nat} {st0 st : St2} {sk : Nat → Bool} (u : Up N st0 sk i st) (hi : i < st0.length) (hs : sk (st0[i].1 % 4) = true) : Up N st0 sk (i + 1) st := fun k hk => by
  rw [u k hk]
  have hl : i < (st0.map fun e => e.1 % 4).length := by simpa using hi
  congr 1
  have hg : (st0.map fun e => e.1 % 4)[i] = st0[i].1 % 4 := by simp
  by_cases h : k ∈ (st0.map fun e => e.1 % 4).take i ∧ sk k = false
  · rw [if_pos h, if_pos ⟨(take_mem hl).mpr (.inl h.1), h.2⟩]
  · rw [if_neg h, if_neg]
    rintro ⟨h1, h2⟩
    rcases (take_mem hl).mp h1 with z | z
    · exact h ⟨z, h2⟩
    · rw [z, hg, hs] at h2; cases h2
theorem Up.step {N i : Nat} {st0 st : St2} {sk : Nat → Bool} (w : WF N st0) (u : Up N st0 sk i st) (hi : i < st0.length) (hs : sk (st0[i].1 % 4) = false) :
    hF st (st0[i].1 % 4) = hF st0 (st0[i].1 % 4) ∧ Up N st0 sk (i + 1) (grainS st st0[i].1 (hF st0 (st0[i].1 % 4) + 1)) := by
  have hl : i < (st0.map fun e => e.1 % 4).length := by simpa using hi
  have hg : (st0.map fun e => e.1 % 4)[i] = st0[i].1 % 4 := by simp
  have hn : (st0.map fun e => e.1 % 4).Nodup := w.perm.nodup_iff.mpr List.nodup_range
  have hq : st0[i].1 % 4 < N := mem_lt w (List.getElem_mem _)
  have hno : st0[i].1 % 4 ∉ (st0.map fun e => e.1 % 4).take i := fun h => by
    rw [← hg] at h
    have h2 := hn
    rw [← List.take_append_drop i (st0.map fun e => e.1 % 4), List.drop_eq_getElem_cons hl] at h2
    exact (List.nodup_append.mp h2).2.2 _ h _ List.mem_cons_self rfl
  refine ⟨?_, fun k hk => ?_⟩
  · rw [u _ hq, if_neg (fun h => hno h.1)]; rfl
  · rw [hF_grain]
    by_cases hk2 : k = st0[i].1 % 4
    · rw [if_pos hk2, hk2, if_pos ⟨(take_mem hl).mpr (.inr hg.symm), hs⟩]
    · rw [if_neg hk2, u k hk]
      congr 1
      by_cases h : k ∈ (st0.map fun e => e.1 % 4).take i ∧ sk k = false
      · rw [if_pos h, if_pos ⟨(take_mem hl).mpr (.inl h.1), h.2⟩]
      · rw [if_neg h, if_neg]
        rintro ⟨h1, h2⟩
        rcases (take_mem hl).mp h1 with z | z
        · exact h ⟨z, h2⟩
        · exact hk2 (by rw [z, hg])
theorem Up.fin {N : Nat} {st0 st : St2} {sk : Nat → Bool} (w : WF N st0) (u : Up N st0 sk st0.length st) : ∀ k, k < N → hF st k = hF st0 k + (if sk k = false then 1 else 0) := fun k hk => by
  rw [u k hk]
  congr 1
  have hm : k ∈ (st0.map fun e => e.1 % 4).take st0.length := by
    rw [List.take_of_length_le (by simp)]
    exact w.perm.mem_iff.mpr (List.mem_range.mpr hk)
  by_cases h : sk k = false
  · rw [if_pos h, if_pos ⟨hm, h⟩]
  · rw [if_neg h, if_neg (fun z => h z.2)]
end Mine
end

section
open PySem PySem.W PyProof.Rows Builtin Builtin.Str
set_option maxRecDepth 100000
namespace Mine
def ifThen : Stmt → List Stmt
  | .If _ b _ _ => b
  | _ => []
def whB : Stmt → List Stmt
  | .While _ b _ _ => b
  | _ => []
abbrev roundB : List Stmt := forBody (stAt lawSrc2.body 5)
abbrev fallB : List Stmt := whB (stAt roundB 3)
theorem code_inj : ∀ {st : St2}, (st.map fun e => e.1 % 4).Nodup → ∀ {e e' : Nat × Nat}, e ∈ st → e' ∈ st → e.1 % 4 = e'.1 % 4 → e = e'
  | [], _, _, _, h, _, _ => nomatch h
  | z :: r, hn, e, e', h, h', eq => by
    have hn' : (z.1 % 4 :: r.map fun e => e.1 % 4).Nodup := hn
    obtain ⟨h1, h2⟩ := List.nodup_cons.mp hn'
    rcases List.mem_cons.mp h with x | x <;> rcases List.mem_cons.mp h' with y | y
    · rw [x, y]
    · subst x; exact absurd (List.mem_map.mpr ⟨e', y, eq.symm⟩) h1
    · subst y; exact absurd (List.mem_map.mpr ⟨e, x, eq⟩) h1
    · exact code_inj h2 x y eq
section
variable {X : Cx} {A : Around} {σ : AH}
theorem loopA {fm : FM} {L N FD x l : Nat} {a : Addr} {F : AH} {n : Nat} (k : Kn2 X) (r : Rm A (n + 4)) {m : Str → Option PV} {Q : PF → AH → Prop} {st0 : St2} {s : Stmt} (hN : N ≤ 4)
    (S : Ls F σ L m N FD x k.C l st0) (hb : ∀ i, i < N → hF st0 i ≤ 40)
    (h : ∀ σ' m' st, Ls F σ' L m' N FD x k.C l st → (∀ y, y ≠ Str.ofString "name" → m' y = m y) → (∀ i, i < N → hF st i = hF st0 i + 1) → Q .next σ')
    (hs : s = stAt roundB 1) : EX X A (lawEnv2 fm L a) s σ Q := by
  subst hs
  obtain ⟨⟨oG, hoG, hdG⟩, hcG⟩ := k.fG
  refine EX.forList r.hh (EV.methI k.kin k.cl k.mKeys (EV.cell (c := L + 4) (by rfl) S.c4 ⟨x, l, rfl, S.tab.ins, CV.keysS k.toKnF.toKnH (r.up (by omega) : Rm A (0 + 1)) S.tab S.wf hN fun σ1 D hle hD hDl => ?_⟩))
  have nD := S.gd.ne hD
  have S1 := (S.more hle).freeze nD.2.2 nD.1 nD.2.1 (S.lne hD) hDl
  have hFD : (F.set D (.list ((st0.map fun e => nmC e.1).map PV.str))) D = some (.list ((st0.map fun e => nmC e.1).map PV.str)) := AH.set_self ..
  have hFle : F.le (F.set D (.list ((st0.map fun e => nmC e.1).map PV.str))) := AH.le_setN (AH.le_refl _) nD.2.2
  generalize F.set D (.list ((st0.map fun e => nmC e.1).map PV.str)) = F1 at *
  refine ⟨D, (st0.map fun e => nmC e.1).map PV.str, fun i σ' => ∃ m' st, Ls F1 σ' L m' N FD x k.C l st ∧ (∀ y, y ≠ Str.ofString "name" → m' y = m y) ∧ Up N st0 (fun _ => false) i st, rfl, hDl, ⟨m, st0, S1, fun _ _ => rfl, Up.start⟩, fun i σ' _ ⟨m', st, S', _⟩ => S'.gd.le _ _ hFD, ?_, ?_⟩
  · rintro i σ' hi ⟨m', st, S', y', u⟩
    have hi0 : i < st0.length := by simpa using hi
    have hit : ((st0.map fun e => nmC e.1).map PV.str).getD i .none = .str (nmC st0[i].1) := by
      rw [getD_str (by simpa using hi0)]; simp
    rw [hit]
    have hc8 : st0[i].1 < 8 := (S.wf.le _ (List.getElem_mem _)).1
    have hcN : st0[i].1 % 4 < N := mem_lt S.wf (List.getElem_mem _)
    obtain ⟨u1, u2⟩ := u.step S.wf hi0 rfl
    have hb1 := hb _ hcN
    generalize st0[i].1 = c at *
    refine ASG.name (ST.at S'.ns ?_)
    have S2 := S'.loc (m' := upd m' (Str.ofString "name") (.str (nmC c)))
    refine XS.cons (EX.expr (EV.callDef k.ok k.gG hoG hdG (EV.cell (c := L + 4) (by rfl) S2.c4 (EV.loc S2.ns (by rfl) (EV.int (CV.grainsS k r (h := hF st0 (c % 4) + 1) S2.tab S2.wf hN hc8 hcN (by omega) (by omega) (by omega) fun σ3 hbut T3 => ⟨fun a => by simp, XS.nil ?_⟩))))))
    exact ⟨_, _, S2.but hbut T3 (S2.wf.grain hcN (by omega)), fun y hy => by rw [upd_ne _ _ hy]; exact y' y hy, u2⟩
  · rintro σ' ⟨m', st, S', y', u⟩
    rw [List.length_map, List.length_map] at u
    exact h σ' m' st (S'.weak hFle) y' fun i hi => by rw [u.fin S.wf i hi]; rfl
theorem loopB {fm : FM} {L N FD x l HD : Nat} {a : Addr} {F : AH} {n hi : Nat} {rest : List Nat} (k : Kn2 X) (r : Rm A (n + 4)) {m : Str → Option PV} {Q : PF → AH → Prop} {st0 : St2} {s : Stmt} (hN : N ≤ 4)
    (S : Ls F σ L m N FD x k.C l st0) (hb : ∀ i, i < N → hF st0 i ≤ 40) (hm : m (Str.ofString "high") = some (.ref HD)) (hH : F HD = some (.list (((hi :: rest).map nmC).map PV.str))) (hmem : ∃ e ∈ st0, e.1 = hi)
    (h : ∀ σ' m' st, Ls F σ' L m' N FD x k.C l st → (∀ y, y ≠ Str.ofString "name" → m' y = m y) → (∀ i, i < N → hF st i = hF st0 i + (if i = hi % 4 then 0 else 1)) → Q .next σ')
    (hs : s = stAt fallB 0) : EX X A (lawEnv2 fm L a) s σ Q := by
  subst hs
  obtain ⟨⟨oG, hoG, hdG⟩, hcG⟩ := k.fG
  obtain ⟨eh, heh, hehi⟩ := hmem
  have hhi8 : hi < 8 := by rw [← hehi]; exact (S.wf.le _ heh).1
  have hnd : (st0.map fun e => e.1 % 4).Nodup := S.wf.perm.nodup_iff.mpr List.nodup_range
  refine EX.forList r.hh (EV.methI k.kin k.cl k.mKeys (EV.cell (c := L + 4) (by rfl) S.c4 ⟨x, l, rfl, S.tab.ins, CV.keysS k.toKnF.toKnH (r.up (by omega) : Rm A (0 + 1)) S.tab S.wf hN fun σ1 D hle hD hDl => ?_⟩))
  have nD := S.gd.ne hD
  have S1 := (S.more hle).freeze nD.2.2 nD.1 nD.2.1 (S.lne hD) hDl
  have hFD : (F.set D (.list ((st0.map fun e => nmC e.1).map PV.str))) D = some (.list ((st0.map fun e => nmC e.1).map PV.str)) := AH.set_self ..
  have hFle : F.le (F.set D (.list ((st0.map fun e => nmC e.1).map PV.str))) := AH.le_setN (AH.le_refl _) nD.2.2
  generalize F.set D (.list ((st0.map fun e => nmC e.1).map PV.str)) = F1 at *
  refine ⟨D, (st0.map fun e => nmC e.1).map PV.str, fun i σ' => ∃ m' st, Ls F1 σ' L m' N FD x k.C l st ∧ (∀ y, y ≠ Str.ofString "name" → m' y = m y) ∧ Up N st0 (fun q => decide (q = hi % 4)) i st, rfl, hDl, ⟨m, st0, S1, fun _ _ => rfl, Up.start⟩, fun i σ' _ ⟨m', st, S', _⟩ => S'.gd.le _ _ hFD, ?_, ?_⟩
  · rintro i σ' hi' ⟨m', st, S', y', u⟩
    have hi0 : i < st0.length := by simpa using hi'
    have hit : ((st0.map fun e => nmC e.1).map PV.str).getD i .none = .str (nmC st0[i].1) := by
      rw [getD_str (by simpa using hi0)]; simp
    rw [hit]
    have hc8 : st0[i].1 < 8 := (S.wf.le _ (List.getElem_mem _)).1
    have hcN : st0[i].1 % 4 < N := mem_lt S.wf (List.getElem_mem _)
    have hinj : st0[i].1 % 4 = hi % 4 → st0[i].1 = hi := fun z => by
      have := code_inj hnd (List.getElem_mem hi0) heh (by rw [hehi]; exact z)
      rw [this, hehi]
    have ust := fun hs => u.step S.wf hi0 hs
    have usk := fun hs => u.skip hi0 hs
    have hb1 := hb _ hcN
    generalize st0[i].1 = c at *
    refine ASG.name (ST.at S'.ns ?_)
    have S2 := S'.loc (m' := upd m' (Str.ofString "name") (.str (nmC c)))
    have b1 : upd m' (Str.ofString "name") (.str (nmC c)) (Str.ofString "name") = some (.str (nmC c)) := rfl
    have b2 : upd m' (Str.ofString "name") (.str (nmC c)) (Str.ofString "high") = some (.ref HD) := by rw [upd_ne _ _ (by decide +kernel), y' _ (by decide +kernel)]; exact hm
    have yy : ∀ y, y ≠ Str.ofString "name" → upd m' (Str.ofString "name") (.str (nmC c)) y = m y := fun y hy => by rw [upd_ne _ _ hy]; exact y' y hy
    generalize upd m' (Str.ofString "name") (.str (nmC c)) = m2 at *
    have hHσ := S2.gd.le _ _ (hFle _ _ hH)
    refine XS.cons (EX.if (TS.cmp (EV.loc S2.ns b1 (EV.sub (EV.loc S2.ns b2 (EV.int (SUB.list (p := .str (nmC hi)) hHσ (by decide) (by decide) rfl (CMP.ne_s ⟨_, rfl, fun hc => ?_, fun hc => ?_⟩))))))))
    · have hne : c ≠ hi := fun z => by rw [z] at hc; simp at hc
      have hsk : decide (c % 4 = hi % 4) = false := decide_eq_false fun z => hne (hinj z)
      obtain ⟨u1, u2⟩ := ust hsk
      refine XS.cons (EX.expr (EV.callDef k.ok k.gG hoG hdG (EV.cell (c := L + 4) (by rfl) S2.c4 (EV.loc S2.ns b1 (EV.int (CV.grainsS k r (h := hF st0 (c % 4) + 1) S2.tab S2.wf hN hc8 hcN (by omega) (by omega) (by omega) fun σ3 hbut T3 => ⟨fun a => by simp, XS.nil (XS.nil ?_)⟩))))))
      exact ⟨_, _, S2.but hbut T3 (S2.wf.grain hcN (by omega)), yy, u2⟩
    · have heq : c = hi := nmC_inj c hc8 hi hhi8 (by simpa using hc)
      have hsk : decide (c % 4 = hi % 4) = true := decide_eq_true (by rw [heq])
      exact XS.nil (XS.nil ⟨_, _, S2, yy, usk hsk⟩)
  · rintro σ' ⟨m', st, S', y', u⟩
    rw [List.length_map, List.length_map] at u
    refine h σ' m' st (S'.weak hFle) y' fun i hi' => ?_
    rw [u.fin S.wf i hi']
    by_cases z : i = hi % 4
    · simp [z]
    · simp [z]
end
end Mine
end

section
open PySem PySem.W PyProof.Rows Builtin Builtin.Str
set_option maxRecDepth 100000
namespace Mine
theorem nmC_strOk : ∀ c : Nat, c < 8 → PyData.strOk (nmC c) = true := by decide +kernel
theorem canS : ∀ ns : List Str, (∀ x ∈ ns, PyData.strOk x = true) → PyData.canLayAll0 (ns.map PyData.str) = true
  | [], _ => rfl
  | x :: r, h => by simp [PyData.canLayAll0, PyData.canLay0, canS r fun y hy => h y (List.mem_cons_of_mem _ hy), h x List.mem_cons_self]
theorem depS : ∀ ns : List Str, PyData.depthAll (ns.map PyData.str) = 0
  | [] => rfl
  | _ :: r => by simp [PyData.depthAll, PyData.depth, depS r]
theorem shS (l : List Str) (h : ∀ x ∈ l, PyData.strOk x = true) : SeqAt.shaped (.list (l.map PyData.str)) = true := by
  unfold SeqAt.shaped
  rw [Bool.and_eq_true]
  refine ⟨canS l h, decide_eq_true ?_⟩
  show PyData.depthAll (l.map PyData.str) + 1 ≤ 64
  rw [depS]; decide
theorem eqvS (l : List Str) : PyData.eqv (.list (l.map PyData.str)) (.list []) = decide (l = []) := by
  cases l with
  | nil => rfl
  | cons x r => rfl
section
variable {X : Cx} {A : Around} {σ : AH}
/-- high = _law_high(pile, count) -/
theorem highStep {fm : FM} {L N FD x l : Nat} {a : Addr} {F : AH} {n : Nat} (k : Kn2 X) (r : Rm A (n + 4)) {m : Str → Option PV} {Q : PF → AH → Prop} {st : St2} {s : Stmt} (hN : N ≤ 4)
    (S : Ls F σ L m N FD x k.C l st)
    (h : ∀ σ' F' HD, Ls F' σ' L (upd m (Str.ofString "high") (.ref HD)) N FD x k.C l st → F.le F' → F' HD = some (.list (((highS N st).map nmC).map PV.str)) → Q .next σ')
    (hs : s = stAt roundB 2 ∨ s = stAt fallB 2) : EX X A (lawEnv2 fm L a) s σ Q := by
  obtain ⟨⟨oH, hoH, hdH⟩, hcH⟩ := k.fH
  have fin : ∀ σ1 D, σ.le σ1 → σ D = none → σ1 D = some (.list (((highS N st).map nmC).map PV.str)) → ST X A (lawEnv2 fm L a) (Str.ofString "high") (.ref D) σ1 fun σ' => Q .next σ' := fun σ1 D hle hD hDl => by
    have nD := S.gd.ne hD
    have S1 := (S.more hle).freeze nD.2.2 nD.1 nD.2.1 (S.lne hD) hDl
    exact ST.at (hle _ _ S.ns) (h _ _ D S1.loc (AH.le_setN (AH.le_refl _) nD.2.2) (AH.set_self ..))
  rcases hs with hs | hs <;> subst hs <;>
  exact EX.assign (EV.callDef k.ok k.gH hoH hdH (EV.cell (c := L + 4) (by rfl) S.c4 (EV.cell (c := L + 2) (by rfl) S.c2 (CV.highT k (r.up (by omega) : Rm A (n + 3)) S.tab S.wf hN fun σ1 D h1 h2 h3 => fin σ1 D h1 h2 h3))))
theorem hF_ext {N : Nat} {h h' : Hts} (e : ∀ i, i < N → h i = h' i) {K : Nat} {f h0 : Hts} (r : Rnd N K f h0 h) : Rnd N K f h0 h' := by
  obtain ⟨t, b, u⟩ := r.inv
  obtain ⟨mm, re⟩ := r.res
  refine ⟨⟨t, b.up fun i hi => by rw [e i hi]; omega, fun i hi ht => by rw [← e i hi]; exact u i hi ht⟩, ⟨mm, fun i hi => by rw [← e i hi]; exact re i hi⟩, fun hb hs => ?_⟩
  obtain ⟨tt, l⟩ := r.last hb hs
  exact ⟨tt, ⟨fun i hi => by rw [← e i hi]; exact l.eq i hi⟩⟩
theorem fallLoop {fm : FM} {L N FD x l HD : Nat} {a : Addr} {F : AH} {n K : Nat} (k : Kn2 X) (r : Rm A (n + 4)) {m : Str → Option PV} {Q : PF → AH → Prop} {st : St2} {f h0 : Hts} {s : Stmt} (hN : N ≤ 4)
    (S : Ls F σ L m N FD x k.C l st) (hm : m (Str.ofString "high") = some (.ref HD)) (hH : F HD = some (.list (((highS N st).map nmC).map PV.str))) (ht : tot N (hF st) ≤ 40) (hr : Rnd N K f h0 (hF st))
    (h : ∀ σ' m' st', Ls F σ' L m' N FD x k.C l st' → (∀ y, y ≠ Str.ofString "name" → y ≠ Str.ofString "high" → m' y = m y) → tot N (hF st') ≤ tot N (hF st) → Rnd N K f h0 (hF st') → Stable N (hF st') → Q .next σ')
    (hs : s = stAt roundB 3) : EX X A (lawEnv2 fm L a) s σ Q := by
  subst hs
  obtain ⟨⟨oG, hoG, hdG⟩, hcG⟩ := k.fG
  refine EX.while (fun t σ' => ∃ m' F' st' HD', F.le F' ∧ Ls F' σ' L m' N FD x k.C l st' ∧ (∀ y, y ≠ Str.ofString "name" → y ≠ Str.ofString "high" → m' y = m y) ∧ m' (Str.ofString "high") = some (.ref HD') ∧ F' HD' = some (.list (((highS N st').map nmC).map PV.str)) ∧ t = tot N (hF st') ∧ t ≤ tot N (hF st) ∧ Rnd N K f h0 (hF st')) (tot N (hF st)) ⟨m, F, st, HD, AH.le_refl _, S, fun _ _ _ => rfl, hm, hH, rfl, Nat.le_refl _, hr⟩ ?_
  rintro t σ' ⟨m', F', st', HD', hFF, S', y', hm', hH', rfl, ht', hr'⟩
  refine TS.cmp (EV.loc S'.ns hm' (EV.list ⟨Nat.zero_le _, fun D hD _ => ?_⟩))
  have le1 := AH.le_setN (AH.le_refl σ') hD (p := .list [])
  have S1 := S'.more le1
  refine CMP.neD r (Rd.strs (ns := (highS N st').map nmC) (le1 _ _ (S'.gd.le _ _ hH'))) (Rd.list (vs := []) (AH.set_self ..) .nil) (shS _ fun x hx => by
    obtain ⟨c, hc, rfl⟩ := List.mem_map.mp hx
    exact nmC_strOk c (highS_mem S'.wf hc).1) (by decide) ⟨_, rfl, fun hc => ?_, fun hc => ?_⟩
  · rw [eqvS] at hc
    have hnil : highS N st' = [] := by
      have : (highS N st').map nmC = [] := by simpa using hc
      exact List.map_eq_nil_iff.mp this
    exact h _ m' st' (S1.weak hFF) y' ht' hr' (highS_nil S'.wf hnil)
  · rw [eqvS] at hc
    cases hhs : highS N st' with
    | nil => rw [hhs] at hc; simp at hc
    | cons hi rest =>
      rw [hhs] at hH'
      obtain ⟨q1, q2, q3⟩ := highS_mem S'.wf (show hi ∈ highS N st' by rw [hhs]; exact List.mem_cons_self)
      have hmem : ∃ e ∈ st', e.1 = hi := by
        have : hi ∈ highS N st' := by rw [hhs]; exact List.mem_cons_self
        unfold highS at this
        obtain ⟨e, he, h2⟩ := List.mem_map.mp this
        exact ⟨e, (List.mem_filter.mp he).1, h2⟩
      refine XS.cons (loopB k r hN S1 (fun i hi' => Nat.le_trans (le_tot N _ i hi') (by omega)) hm' hH' hmem (fun σ2 m2 st2 S2 y2 e2 => ?_) rfl)
      have m2h : m2 (Str.ofString "high") = some (.ref HD') := by rw [y2 _ (by decide +kernel)]; exact hm'
      have hHσ := S2.gd.le _ _ hH'
      have hfall : hF st2 (hi % 4) = hF st' (hi % 4) := by rw [e2 _ q2]; simp
      have hle40 : hF st' (hi % 4) ≤ 40 := Nat.le_trans (le_tot N _ _ q2) (by omega)
      refine XS.cons (EX.expr (EV.callDef k.ok k.gG hoG hdG (EV.cell (c := L + 4) (by rfl) S2.c4 (EV.sub (EV.loc S2.ns m2h (EV.int (SUB.list (p := .str (nmC hi)) hHσ (by decide) (by decide) rfl ?_)))))))
      refine EV.neg (EV.cell (c := L + 2) (by rfl) S2.c2 ⟨_, rfl, CV.grainsS k r (h := hF st' (hi % 4) - N) S2.tab S2.wf hN q1 q2 (by omega) (by omega) (by omega) fun σ3 hbut T3 => ⟨fun a => by simp, ?_⟩⟩)
      have S3 := S2.but hbut T3 (S2.wf.grain q2 (by omega))
      refine XS.cons (highStep k r hN S3 (fun σ4 F4 HD4 S4 hF4 hH4 => ?_) (.inr rfl))
      have hext : ∀ i, i < N → fall N (hF st') (hi % 4) i = hF (grainS st2 hi (hF st' (hi % 4) - N)) i := fun i hi' => by
        rw [hF_grain]
        unfold fall
        by_cases z : i = hi % 4
        · rw [if_pos z, if_pos z, z]
        · rw [if_neg z, if_neg z, e2 i hi', if_neg z]
      have htot := tot_fall N N (hF st') (hi % 4) q2 q3
      rw [tot_congr N _ _ hext] at htot
      refine XS.nil ⟨tot N (hF (grainS st2 hi (hF st' (hi % 4) - N))), by omega, _, F4, _, HD4, AH.le_trans hFF hF4, S4, fun y y1 y3 => ?_, rfl, hH4, rfl, by omega, hF_ext hext (hr'.fall q2 q3)⟩
      rw [upd_ne _ _ y3, y2 y y1]; exact y' y y1 y3
end
end Mine
end

section
open PySem PySem.W PyProof.Rows Builtin Builtin.Str
set_option maxRecDepth 100000
namespace Mine
def hts (N : Nat) (h : Hts) : List Nat := (List.range N).map h
theorem hts_congr {N : Nat} {h h' : Hts} (e : ∀ i, i < N → h i = h' i) : hts N h = hts N h' := List.map_congr_left fun i hi => e i (List.mem_range.mp hi)
theorem abcd_at : ∀ i : Nat, i < 4 → (Str.ofString "ABCD").cps[i]? = some (65 + i) ∧ Txt.lower (⟨#[65 + i]⟩ : Str) = sm i := by decide +kernel
section
variable {X : Cx} {A : Around} {σ : AH}
theorem beforeStep {fm : FM} {L N FD x l : Nat} {a : Addr} {F : AH} {n : Nat} (k : Kn2 X) (r : Rm A (n + 4)) {m : Str → Option PV} {Q : PF → AH → Prop} {st : St2} {s : Stmt} (hN : N ≤ 4)
    (S : Ls F σ L m N FD x k.C l st)
    (h : ∀ σ' F' D, Ls F' σ' L (upd m (Str.ofString "before") (.ref D)) N FD x k.C l st → F.le F' → F' D = some (.list (nI (hts N (hF st)))) → Q .next σ')
    (hs : s = stAt roundB 0) : EX X A (lawEnv2 fm L a) s σ Q := by
  subst hs
  refine EX.compUsed (cl := [(Str.ofString "pile", L + 4)]) r.hh rfl (EV.callTy k.ok k.nRange k.bRange (EV.cell (c := L + 2) (by rfl) S.c2 (CV.range1 fun R hR hRb => ⟨N, _, _, fun C i acc σ' => σ' = σ.set R (.range 0 (N : Nat) 1) ∧ σ' C = none ∧ acc = nI ((List.range i).map (hF st)), ISRC.range (AH.set_self ..) ?_ ?_, Nat.le_trans hN (by decide), fun C hC => ⟨rfl, (hC C (Nat.le_refl _)).1, rfl⟩, fun C i acc σ' hi h => ⟨h.2.1, trivial⟩, ?_, ?_⟩)))
  · exact PySem.small_one (by omega) (by omega) (by omega) (by omega)
  · rw [rangeSize_nat]; simp
  · rintro C i acc σ' hC hi ⟨e1, hCn, e3⟩
    subst e3
    rw [e1] at hCn ⊢
    have ei : (0 : Int) + (i : Int) * 1 = (i : Nat) := by omega
    rw [ei]
    have kp : σ.le ((σ.set R (.range 0 (N : Nat) 1)).set C (nsx (Str.ofString "k") (some (.int (i : Nat))))) := fun b p e => by
      have e2 : (σ.set R (.range 0 (N : Nat) 1)) b = some p := by rw [AH.set_ne _ _ (fun z => by rw [z, hR] at e; cases e)]; exact e
      rw [AH.set_ne _ _ (fun z => by rw [z, hCn] at e2; cases e2)]; exact e2
    have wC : ((σ.set R (.range 0 (N : Nat) 1)).set C (nsx (Str.ofString "k") (some (.int (i : Nat))))) C = some (nsx (Str.ofString "k") (some (.int (i : Nat)))) := AH.set_self ..
    refine ⟨fun _ => ?_, fun h => (nomatch h)⟩
    obtain ⟨g1, g2⟩ := abcd_at i (by omega)
    have Tw := S.tab.le kp
    refine EV.callBi k.ok k.nLen k.bLen (EV.methI k.kin k.cl k.mGet (EV.cell (c := L + 4) (by rfl) (kp _ _ S.c4) ⟨x, l, rfl, Tw.ins, EV.sub (EV.str (EV.loc wC (by rfl) (SUB.str (c := 65 + i) (by omega) (by omega) (by simpa using g1) (CV.getS k.toKnF.toKnH (r.up (by omega) : Rm A (n + 2)) (q := i) Tw S.wf hN hi g2 fun σ2 hle2 => ?_))))⟩))
    have h44 := (S.wf.get hi).2
    refine CV.lenStr (by rw [oS_len]; exact Nat.le_trans (show hF st i ≤ 44 from h44) (by decide)) ⟨_, hle2, rfl, hCn, ?_⟩
    rw [oS_len]
    simp [nI, List.range_succ]
  · rintro C E acc σ' hE hEC ⟨e1, hCn, e3⟩ hEn
    subst e3
    rw [e1] at hEn ⊢
    have S1 := S.more (AH.le_setN (AH.le_refl _) hR (p := .range 0 (N : Nat) 1))
    have nE := S1.gd.ne hEn
    have S2 := (S1.more (AH.le_setN (AH.le_refl _) hEn (p := .list (nI (hts N (hF st)))))).freeze nE.2.2 nE.1 nE.2.1 (S1.lne hEn) (AH.set_self ..)
    exact ST.at S2.ns (h _ _ E S2.loc (AH.le_setN (AH.le_refl _) nE.2.2) (AH.set_self ..))
theorem heightStep {fm : FM} {L N FD x l : Nat} {a : Addr} {F : AH} {n : Nat} (k : Kn2 X) (r : Rm A (n + 4)) {m : Str → Option PV} {Q : PF → AH → Prop} {st : St2} {s : Stmt} (hN : N ≤ 4)
    (S : Ls F σ L m N FD x k.C l st)
    (h : ∀ σ' F' D, Ls F' σ' L (upd m (Str.ofString "heights") (.ref D)) N FD x k.C l st → F.le F' → F' D = some (.list (nI (hts N (hF st)))) → Q .next σ')
    (hs : s = stAt lawSrc2.body 6) : EX X A (lawEnv2 fm L a) s σ Q := by
  subst hs
  refine EX.compUsed (cl := [(Str.ofString "pile", L + 4)]) r.hh rfl (EV.callTy k.ok k.nRange k.bRange (EV.cell (c := L + 2) (by rfl) S.c2 (CV.range1 fun R hR hRb => ⟨N, _, _, fun C i acc σ' => σ' = σ.set R (.range 0 (N : Nat) 1) ∧ σ' C = none ∧ acc = nI ((List.range i).map (hF st)), ISRC.range (AH.set_self ..) ?_ ?_, Nat.le_trans hN (by decide), fun C hC => ⟨rfl, (hC C (Nat.le_refl _)).1, rfl⟩, fun C i acc σ' hi h => ⟨h.2.1, trivial⟩, ?_, ?_⟩)))
  · exact PySem.small_one (by omega) (by omega) (by omega) (by omega)
  · rw [rangeSize_nat]; simp
  · rintro C i acc σ' hC hi ⟨e1, hCn, e3⟩
    subst e3
    rw [e1] at hCn ⊢
    have ei : (0 : Int) + (i : Int) * 1 = (i : Nat) := by omega
    rw [ei]
    have kp : σ.le ((σ.set R (.range 0 (N : Nat) 1)).set C (nsx (Str.ofString "k") (some (.int (i : Nat))))) := fun b p e => by
      have e2 : (σ.set R (.range 0 (N : Nat) 1)) b = some p := by rw [AH.set_ne _ _ (fun z => by rw [z, hR] at e; cases e)]; exact e
      rw [AH.set_ne _ _ (fun z => by rw [z, hCn] at e2; cases e2)]; exact e2
    have wC : ((σ.set R (.range 0 (N : Nat) 1)).set C (nsx (Str.ofString "k") (some (.int (i : Nat))))) C = some (nsx (Str.ofString "k") (some (.int (i : Nat)))) := AH.set_self ..
    refine ⟨fun _ => ?_, fun h => (nomatch h)⟩
    obtain ⟨g1, g2⟩ := abcd_at i (by omega)
    have Tw := S.tab.le kp
    refine EV.callBi k.ok k.nLen k.bLen (EV.methI k.kin k.cl k.mGet (EV.cell (c := L + 4) (by rfl) (kp _ _ S.c4) ⟨x, l, rfl, Tw.ins, EV.sub (EV.str (EV.loc wC (by rfl) (SUB.str (c := 65 + i) (by omega) (by omega) (by simpa using g1) (CV.getS k.toKnF.toKnH (r.up (by omega) : Rm A (n + 2)) (q := i) Tw S.wf hN hi g2 fun σ2 hle2 => ?_))))⟩))
    have h44 := (S.wf.get hi).2
    refine CV.lenStr (by rw [oS_len]; exact Nat.le_trans (show hF st i ≤ 44 from h44) (by decide)) ⟨_, hle2, rfl, hCn, ?_⟩
    rw [oS_len]
    simp [nI, List.range_succ]
  · rintro C E acc σ' hE hEC ⟨e1, hCn, e3⟩ hEn
    subst e3
    rw [e1] at hEn ⊢
    have S1 := S.more (AH.le_setN (AH.le_refl _) hR (p := .range 0 (N : Nat) 1))
    have nE := S1.gd.ne hEn
    have S2 := (S1.more (AH.le_setN (AH.le_refl _) hEn (p := .list (nI (hts N (hF st)))))).freeze nE.2.2 nE.1 nE.2.1 (S1.lne hEn) (AH.set_self ..)
    exact ST.at S2.ns (h _ _ E S2.loc (AH.le_setN (AH.le_refl _) nE.2.2) (AH.set_self ..))
theorem roundStep {fm : FM} {L N FD x l : Nat} {a : Addr} {F : AH} {n K : Nat} (k : Kn2 X) (r : Rm A (n + 4)) {m : Str → Option PV} {Q : PF → AH → Prop} {st : St2} {f : Hts} (hN : N ≤ 4)
    (S : Ls F σ L m N FD x k.C l st) (ht : tot N (hF st) + N ≤ 40) (hb : Btw N K f (hF st))
    (h : ∀ σ' m' F' BD st', Ls F' σ' L m' N FD x k.C l st' → F.le F' → (∀ y, y ≠ Str.ofString "name" → y ≠ Str.ofString "high" → y ≠ Str.ofString "before" → m' y = m y) → m' (Str.ofString "before") = some (.ref BD) → F' BD = some (.list (nI (hts N (hF st)))) →
      tot N (hF st') ≤ tot N (hF st) + N → Btw N (K + 1) f (hF st') → Stable N (hF st') → (Burn N (hF st) → Stable N (hF st) → ∀ i, i < N → hF st' i = hF st i) → Q .next σ') :
    XS X A (lawEnv2 fm L a) roundB σ Q := by
  refine XS.cons (beforeStep k r hN S (fun σ1 F1 BD S1 f1 hBD => ?_) rfl)
  refine XS.cons (loopA k r hN S1 (fun i hi => by have := le_tot N (hF st) i hi; omega) (fun σ2 m2 st2 S2 y2 e2 => ?_) rfl)
  refine XS.cons (highStep k r hN S2 (fun σ3 F3 HD S3 f3 hHD => ?_) (.inl rfl))
  have htot : tot N (hF st2) = tot N (hF st) + N := by
    rw [tot_congr N (hF st2) (fun i => hF st i + 1) e2, tot_up]
  refine XS.cons (fallLoop k r (h0 := hF st) (f := f) (K := K + 1) hN S3 rfl hHD (by omega) (hb.round e2) (fun σ4 m4 st4 S4 y4 t4 r4 s4 => XS.nil ?_) rfl)
  refine h σ4 m4 F3 BD st4 S4 (AH.le_trans f1 f3) (fun y h1 h2 h3 => ?_) ?_ (f3 _ _ hBD) (by omega) r4.done s4 fun hbu hst i hi => ?_
  · rw [y4 y h1 h2, upd_ne _ _ h2, y2 y h1, upd_ne _ _ h3]
  · rw [y4 _ (by decide +kernel) (by decide +kernel), upd_ne _ _ (by decide +kernel), y2 _ (by decide +kernel)]; rfl
  · obtain ⟨tt, lst⟩ := r4.last hbu hst
    exact lst.fin hbu s4 i hi
theorem roundsLoop {fm : FM} {L N FD x l : Nat} {a : Addr} {F : AH} {n : Nat} (k : Kn2 X) (r : Rm A (n + 4)) {m : Str → Option PV} {Q : PF → AH → Prop} {st : St2} {f : Hts} {s : Stmt} (hN : N ≤ 4) (hN2 : 2 ≤ N)
    (S : Ls F σ L m N FD x k.C l st) (ht : tot N (hF st) ≤ 24) (hb : Btw N 0 f (hF st))
    (h : ∀ σ' m' F' BD st', Ls F' σ' L m' N FD x k.C l st' → F.le F' → m' (Str.ofString "before") = some (.ref BD) → F' BD = some (.list (nI (hts N (hF st')))) → Burn N (hF st') → Stable N (hF st') → Res N f (hF st') → Q .next σ')
    (hs : s = stAt lawSrc2.body 5) : EX X A (lawEnv2 fm L a) s σ Q := by
  subst hs
  refine EX.forRange r.hh (EV.callTy k.ok k.nRange k.bRange (EV.cell (c := L + 2) (by rfl) S.c2 (CV.range1 fun D hD hDb => ⟨D, 0, N, 1, N, fun i σ' => ∃ m' F' st', F.le F' ∧ Ls F' σ' L m' N FD x k.C l st' ∧ Btw N i f (hF st') ∧ tot N (hF st') ≤ 24 + N * i ∧ (1 ≤ i → Stable N (hF st')) ∧ (i = N → ∃ BD, m' (Str.ofString "before") = some (.ref BD) ∧ F' BD = some (.list (nI (hts N (hF st')))) ∧ Burn N (hF st')), rfl, AH.set_self .., PySem.small_one (by omega) (by omega) (by omega) (by omega), ?_, ?_, ?_, ?_⟩)))
  · rw [rangeSize_nat]; simp
  · exact ⟨m, F, st, AH.le_refl _, S.more (AH.le_setN (AH.le_refl _) hD), hb, by omega, fun h => by omega, fun h => by omega⟩
  · rintro i σ' hi ⟨m', F', st', hFF, S', hb', ht', hs', _⟩
    refine ASG.name (ST.at S'.ns ?_)
    have hNi : N * i + N ≤ 16 := by
      have h1 : N * i + N = N * (i + 1) := by rw [Nat.mul_succ]
      have h2 : N * (i + 1) ≤ 4 * 4 := Nat.mul_le_mul hN (by omega)
      omega
    refine roundStep k r (K := i) (f := f) hN S'.loc (by omega) hb' fun σ2 m2 F2 BD st2 S2 f2 y2 bm hBD t2 b2 s2 last => ?_
    refine ⟨m2, F2, st2, AH.le_trans hFF f2, S2, b2, by rw [Nat.mul_succ]; omega, fun _ => s2, fun he => ?_⟩
    have hK : i = N - 1 := by omega
    obtain ⟨t, hi1, hi2⟩ := hb'.inv
    have hbu : Burn N (hF st') := burn_of hi1 (by rw [← hK]; exact hi2)
    have heq := last hbu (hs' (by omega))
    refine ⟨BD, bm, ?_, fun P hp => ?_⟩
    · rw [hts_congr heq]; exact hBD
    · obtain ⟨j, hj, hpj, hc⟩ := hbu P hp
      exact ⟨j, hj, hpj, by rw [heq j hj]; exact hc⟩
  · rintro σ' ⟨m', F', st', hFF, S', hb', ht', hs', hlast⟩
    obtain ⟨BD, bm, hBD, hbu⟩ := hlast rfl
    exact h σ' m' F' BD st' S' hFF bm hBD hbu (hs' (by omega)) hb'.res
end
end Mine
end

section
open PySem PySem.W PyProof.Rows
namespace Mine
theorem newEnv_onecell {M : Model} {A : Around} {E : Value → Shared → Prop} {s : Shared} {scope : Scope} {d0 x d1 d2 : Str} {globals : Addr} {cl : List (Str × Addr)} {qual : Str} {env : Env} {Q : Env → Shared → Prop}
    (hnm : scope.names = [(d0, .local), (x, .cell), (d1, .free), (d2, .free)])
    (h : ∀ h₁ : Heap, h₁.Ns s.heap.objs.size (fun _ => none) → h₁.get? (s.heap.objs.size + 1) = some { cls := .type "cell", data := .cell none } → (∀ b o, s.heap.get? b = some o → h₁.get? b = some o) →
      Q { scope, locals := s.heap.objs.size, globals, cells := (x, s.heap.objs.size + 1) :: cl, qual, func := none, code := env.code, frame := env.frame, builtins := env.builtins } { s with heap := h₁ }) :
    wpAny M A (newFunctionEnv scope globals cl [] qual none .none (some env)) Q E s := by
  simp only [newFunctionEnv, Option.isSome_some, if_true]
  refine wpAny_bind (wpAny_alloc ?_)
  refine wpAny_bind (wpAny_layCells _ (fun name kind cells => by cases hkc : kind == NameKind.cell <;> simp [hkc]) _ _ _ _ ?_)
  rw [hnm]
  rw [show ({ s with heap := s.heap.push { cls := .type "dict", data := .dict #[] } } : Shared).heap.objs.size = s.heap.objs.size + 1 from Heap.size_push ..]
  refine wpAny_bind ?_
  rw [List.forIn_nil]
  refine wpAny_pure (wpAny_pure ?_)
  refine h _ ((Heap.Ns.new s.heap (.type "dict")).keeps (pushCells_keeps _ _)) ?_ (fun b o e => pushCells_keeps _ _ b o (Heap.get?_push_of_some _ e))
  have := Heap.get?_push_size (s.heap.push { cls := .type "dict", data := .dict #[] }) (o := { cls := .type "cell", data := .cell none }) rfl
  rwa [Heap.size_push] at this
section
variable {X : Cx} {A : Around} {env : Env} {σ : AH}
/-- the block of a comprehension behind its source -/
theorem comp_blockC {elt iter : Expr} {ifs : List Expr} {scope : Scope} {pos px : Pos} {x d0 d1 d2 : Str} {cl : List (Str × Addr)} {n : Nat} {item : Nat → PV} {Need : AH → Prop} {p : PV} {s : Shared} (hh : A.handled = none)
    (hnm : scope.names = [(d0, .local), (x, .cell), (d1, .free), (d2, .free)]) (hkind : scope.kind = .function) (hkx : ∀ C cl, (compEnvC scope cl C env).kindOf x = some .cell) (hsrc : ISRC σ p n item Need) (hn : n ≤ sizeLine) (R : Real X σ s) {v : Value} (hv : pv v = p)
    (J : Nat → Nat → List PV → AH → Prop) {Q' : Value → Shared → Prop} {use : Option (Value → Sem Unit)}
    (h0 : ∀ C : Nat, (∀ b : Nat, C ≤ b → σ b = none ∧ X.base.get? b = none) → J C 0 [] σ)
    (hJ : ∀ (C : Nat) i acc σ', i ≤ n → J C i acc σ' → σ' C = none ∧ σ' (C + 1) = none ∧ Need σ')
    (turn : ∀ (C : Nat) i acc σ', (∀ b : Nat, C ≤ b → σ b = none ∧ X.base.get? b = none) → i < n → J C i acc σ' → TSL X A (compEnvC scope ((x, C + 1) :: cl) C env) ifs ((σ'.set C (.ns fun _ => .none)).set (C + 1) (.cell (some (item i)))) fun ok σ₂ =>
      (ok = true → EV X A (compEnvC scope ((x, C + 1) :: cl) C env) elt σ₂ fun y σ₃ => ∃ σ₄, AH.le ((σ₄.set C (.ns fun _ => .none)).set (C + 1) (.cell (some (item i)))) σ₃ ∧ J C (i + 1) (acc ++ [y]) σ₄) ∧ (ok = false → ∃ σ₄, AH.le ((σ₄.set C (.ns fun _ => .none)).set (C + 1) (.cell (some (item i)))) σ₂ ∧ J C (i + 1) acc σ₄))
    (hR : ∀ (C D : Nat) o acc σ' s' ys, (∀ b : Nat, D ≤ b → σ b = none ∧ X.base.get? b = none) → D < C → J C n acc σ' → AlongH X σ s [D] ((σ'.set C (.ns fun _ => .none)).set (C + 1) (.cell o)) s' → s'.heap.PlainList D ys → ys.toList.map pv = acc → compPost (model X.prog X.w) A (fun _ _ => False) use Q' (.ref D) C (.ok .next) s') :
    wpAny (model X.prog X.w) A (pyIter v) (fun it s₂ => wpAny (model X.prog X.w) A (newList []) (fun acc s₃ =>
      wpAny (model X.prog X.w) A (newFunctionEnv scope env.globals cl [] env.qual none .none (some env)) (fun cenv s₄ =>
        codeAny (model X.prog X.w) A (.compStart (.ListComp elt [⟨.Name x px, iter, ifs, 0⟩] scope pos) 0 it acc { cenv with scope := relabel scope env }) (compPost (model X.prog X.w) A (fun _ _ => False) use Q' acc cenv.locals) s₄) (fun _ _ => False) s₃) (fun _ _ => False) s₂) (fun _ _ => False) s := by
  refine iter_src hh hsrc R hv fun St o T st0 hfo => ?_
  have hf := fresh_from R
  generalize hI : s.heap.objs.size = I at *
  have hs1 : (s.heap.push o).objs.size = I + 1 := by rw [Heap.size_push, hI]
  refine wpAny_newObj_type (newEnv_onecell hnm fun h₁ hns hcl hkp => ?_)
  dsimp only at hns hcl hkp ⊢
  generalize hH2 : (s.heap.push o).push { cls := .type "list", dict := none, data := .seq ([] : List Value).toArray } = H2 at hns hcl hkp ⊢
  have hs2 : H2.objs.size = I + 2 := by rw [← hH2, Heap.size_push, hs1]
  rw [hs2] at hns hcl ⊢
  rw [hs1]
  have k1 : ∀ b o', s.heap.get? b = some o' → H2.get? b = some o' := fun b o' e => hH2 ▸ Heap.get?_push_of_some _ (Heap.get?_push_of_some _ e)
  have kI : H2.get? I = some o := hH2 ▸ Heap.get?_push_of_some _ (hI ▸ Heap.get?_push_size _ hfo)
  have kD : H2.get? (I + 1) = some { cls := .type "list", dict := none, data := .seq ([] : List Value).toArray } := by
    rw [← hs1, ← hH2]; exact Heap.get?_push_size _ rfl
  have up : ∀ b o', b ≠ I + 2 → H2.get? b = some o' → h₁.get? b = some o' := fun b o' _ e => hkp b o' e
  have old : ∀ b o', s.heap.get? b = some o' → h₁.get? b = some o' := fun b o' e => up b o' (Nat.ne_of_lt (Nat.lt_of_lt_of_le (Heap.lt_size e) (by rw [hI]; omega))) (k1 b o' e)
  have hI1 : h₁.get? I = some o := up _ _ (Nat.ne_of_lt (by omega : I < I + 2)) kI
  have hD1 : h₁.PlainList (I + 1) #[] := ⟨_, up _ _ (Nat.ne_of_lt (by omega : I + 1 < I + 2)) kD⟩
  have st1 : St 0 h₁ := T.frame _ _ _ st0 fun o' e => by
    have : (s.heap.push o).get? I = some o := hI ▸ Heap.get?_push_size _ hfo
    rw [this] at e; cases e; exact hI1
  have hfC : ∀ b, I + 2 ≤ b → σ b = none ∧ X.base.get? b = none := fun b hb => ⟨(hf b (by omega)).1, (hf b (by omega)).2.1⟩
  have fin : ∀ s₃ : Shared, s₃ = { s with heap := h₁, toks := s.toks } →
      codeAny (model X.prog X.w) A (.compLoop (.ListComp elt [⟨.Name x px, iter, ifs, 0⟩] scope pos) 0 (.ref I) (.ref (I + 1)) (compEnvC scope ((x, I + 3) :: cl) (I + 2) env)) (compPost (model X.prog X.w) A (fun _ _ => False) use Q' (.ref (I + 1)) (I + 2)) s₃ := by
    rintro s₃ rfl
    refine comp_core (env := compEnvC scope ((x, I + 3) :: cl) (I + 2) env) (σ := σ) (σ₀ := σ) (s₀ := s) T (Nat.ne_of_lt (Nat.lt_succ_self I)) hn (J (I + 2)) (fun o σ' => (σ'.set (I + 2) (.ns fun _ => .none)).set (I + 3) (.cell o)) (fun i acc o σ' hi j => ?_) (fun i acc o σ' hi j => ?_) (fun i acc σ' hi j => turn _ i acc σ' hfC hi j) ?_ st1 hD1 (h0 _ hfC) (fun acc o σ' s' ys j L hp hy => hR (I + 2) (I + 1) o acc σ' s' ys (fun b hb => ⟨(hf b (by omega)).1, (hf b (by omega)).2.1⟩) (by omega) j L hp hy)
    · obtain ⟨j1, j2, j3⟩ := hJ _ _ _ _ hi j
      exact hsrc.set (by rw [AH.set_ne _ _ (Nat.ne_of_gt (Nat.lt_succ_self _))]; exact j2) (hsrc.set j1 j3)
    · refine ASG.name (ST.cell (c := I + 3) (by simp [compEnvC]) (AH.set_self ..) ?_ (by simp [compEnvC, relabel, hkind]) (hkx _ _))
      rw [AH.set_set]
    · refine ⟨⟨fun a q e => ?_, fun b o' e => old b o' (R.base b o' e), fun a q e => ?_, R.gens, R.os, R.tk⟩, ⟨fun b o' _ e => old b o' e, fun b q e => ?_, fun _ _ => rfl, Nat.le_refl _⟩, fun b hb => ?_, fun b hb => ?_, fun b hb => ?_, fun b hb => ?_⟩
      · by_cases hc : a = I + 3
        · subst hc
          rw [AH.set_self] at e; cases e
          exact ⟨_, _, hcl, rfl, rfl⟩
        rw [AH.set_ne _ _ hc] at e
        by_cases ha : a = I + 2
        · subst ha
          rw [AH.set_self] at e; cases e
          exact ⟨_, hns, fun y => rfl⟩
        · rw [AH.set_ne _ _ ha] at e; exact (R.rz a q e).keep fun o' ho => old a o' ho
      · by_cases hc : a = I + 3
        · subst hc; exact (hfC _ (by omega)).2
        rw [AH.set_ne _ _ hc] at e
        by_cases ha : a = I + 2
        · subst ha; exact (hfC _ (Nat.le_refl _)).2
        · rw [AH.set_ne _ _ ha] at e; exact R.apart a q e
      · by_cases hc : b = I + 3
        · subst hc; exact .inr (hf _ (by omega)).2.2
        rw [AH.set_ne _ _ hc] at e
        by_cases ha : b = I + 2
        · subst ha; exact .inr (hf _ (by omega)).2.2
        · rw [AH.set_ne _ _ ha] at e; exact .inl ⟨q, e⟩
      · rcases List.mem_cons.mp hb with rfl | hb
        · rw [AH.set_ne _ _ (Nat.ne_of_lt (Nat.lt_succ_of_lt (Nat.lt_succ_of_lt (Nat.lt_succ_self _)))), AH.set_ne _ _ (Nat.ne_of_lt (Nat.lt_succ_of_lt (Nat.lt_succ_self _)))]; exact (hf _ (by omega)).1
        · rw [List.mem_singleton.mp hb, AH.set_ne _ _ (Nat.ne_of_lt (by omega : I + 1 < I + 3)), AH.set_ne _ _ (Nat.ne_of_lt (by omega : I + 1 < I + 2))]; exact (hf _ (by omega)).1
      · rcases List.mem_cons.mp hb with rfl | hb
        · exact (hf _ (by omega)).2.1
        · rw [List.mem_singleton.mp hb]; exact (hf _ (by omega)).2.1
      · rcases List.mem_cons.mp hb with rfl | hb
        · exact (hf _ (by omega)).2.2
        · rw [List.mem_singleton.mp hb]; exact (hf _ (by omega)).2.2
      · rcases List.mem_cons.mp hb with rfl | hb
        · exact ⟨_, hI1⟩
        · rw [List.mem_singleton.mp hb]; obtain ⟨k, e⟩ := hD1; exact ⟨_, e⟩
  exact codeAny_compStart_list (fin _ rfl) (wpAny_mono (T.self 0 _ st1 (fun it s' => it = .ref I ∧ s' = { s with heap := h₁, toks := s.toks }) ⟨rfl, rfl⟩) (fun it s' ⟨e1, e2⟩ => by subst e1; exact fin s' e2) fun _ _ x => x.elim)

theorem comp_dropC {s s' : Shared} {σ' : AH} {C D : Nat} {o : Option PV} {acc : List PV} {ys : Array Value} (L : AlongH X σ s [D] ((σ'.set C (.ns fun _ => .none)).set (C + 1) (.cell o)) s') (hC : σ' C = none) (hC1 : σ' (C + 1) = none) (hDC : D < C) (hσC : σ C = none)
    (hp : s'.heap.PlainList D ys) (hy : ys.toList.map pv = acc) :
    Real X (σ'.set D (.list acc)) s' ∧ Step σ s (σ'.set D (.list acc)) s' ∧ (∃ m, s'.heap.Ns C m) ∧ σ' D = none ∧ s.heap.get? C = none := by
  have hDs : σ' D = none := by
    have := L.off D (by simp)
    rwa [AH.set_ne _ _ (Nat.ne_of_lt (Nat.lt_succ_of_lt hDC)), AH.set_ne _ _ (Nat.ne_of_lt hDC)] at this
  have hCs : ((σ'.set C (.ns fun _ => .none)).set (C + 1) (.cell o)) C = some (.ns fun _ => .none) := by rw [AH.set_ne _ _ (Nat.ne_of_lt (Nat.lt_succ_self C)), AH.set_self]
  have hns : ∃ m, s'.heap.Ns C m := by obtain ⟨m, hm, _⟩ := L.real.rz C _ hCs; exact ⟨m, hm⟩
  have hnew : s.heap.get? C = none := by
    rcases L.step.fresh C _ hCs with ⟨q, hq⟩ | hq
    · rw [hσC] at hq; cases hq
    · exact hq
  have big : ∀ a q, σ' a = some q → ((σ'.set C (.ns fun _ => .none)).set (C + 1) (.cell o)) a = some q := fun a q e => by
    rw [AH.set_ne _ _ (fun z => by rw [z, hC1] at e; cases e), AH.set_ne _ _ (fun z => by rw [z, hC] at e; cases e)]; exact e
  refine ⟨⟨fun a q e => ?_, L.real.base, fun a q e => ?_, L.real.gens, L.real.os, L.real.tk⟩, ⟨L.step.keep, fun b q e => ?_, L.step.gens, L.step.gsize⟩, hns, hDs, hnew⟩
  · by_cases ha : a = D
    · subst ha
      rw [AH.set_self] at e; cases e
      exact ⟨ys, hp, hy⟩
    · rw [AH.set_ne _ _ ha] at e; exact L.real.rz a q (big a q e)
  · by_cases ha : a = D
    · subst ha; exact L.boff a (by simp)
    · rw [AH.set_ne _ _ ha] at e; exact L.real.apart a q (big a q e)
  · by_cases ha : b = D
    · subst ha; exact .inr (L.new b (by simp))
    · rw [AH.set_ne _ _ ha] at e; exact L.step.fresh b q (big b q e)
theorem EX.compUsedC {elt iter : Expr} {ifs : List Expr} {scope : Scope} {pos px py spos : Pos} {x y d0 d1 d2 : Str} {cl : List (Str × Addr)} {Q : PF → AH → Prop} (hh : A.handled = none) (hclos : closureFor scope env = pure cl)
    (h : EV X A env iter σ fun p σ₁ => ∃ (n : Nat) (item : Nat → PV) (Need : AH → Prop) (J : Nat → Nat → List PV → AH → Prop), ISRC σ₁ p n item Need ∧ n ≤ sizeLine ∧ (∀ C : Nat, (∀ b : Nat, C ≤ b → σ₁ b = none ∧ X.base.get? b = none) → J C 0 [] σ₁) ∧ (∀ (C : Nat) i acc σ', i ≤ n → J C i acc σ' → σ' C = none ∧ σ' (C + 1) = none ∧ Need σ') ∧
      (∀ (C : Nat) i acc σ', (∀ b : Nat, C ≤ b → σ₁ b = none ∧ X.base.get? b = none) → i < n → J C i acc σ' → TSL X A (compEnvC scope ((x, C + 1) :: cl) C env) ifs ((σ'.set C (.ns fun _ => .none)).set (C + 1) (.cell (some (item i)))) fun ok σ₂ =>
        (ok = true → EV X A (compEnvC scope ((x, C + 1) :: cl) C env) elt σ₂ fun y σ₃ => ∃ σ₄, AH.le ((σ₄.set C (.ns fun _ => .none)).set (C + 1) (.cell (some (item i)))) σ₃ ∧ J C (i + 1) (acc ++ [y]) σ₄) ∧ (ok = false → ∃ σ₄, AH.le ((σ₄.set C (.ns fun _ => .none)).set (C + 1) (.cell (some (item i)))) σ₂ ∧ J C (i + 1) acc σ₄)) ∧
      (∀ (C D : Nat) acc σ', (∀ b : Nat, D ≤ b → σ₁ b = none ∧ X.base.get? b = none) → D < C → J C n acc σ' → σ' D = none → ST X A env y (.ref D) (σ'.set D (.list acc)) fun σ₂ => Q .next σ₂))
    (hsw : swapsWith (.ListComp elt [⟨.Name x px, iter, ifs, 0⟩] scope pos) (some (.Name y py)) spos.line env = pure true := by rfl)
    (hnm : scope.names = [(d0, .local), (x, .cell), (d1, .free), (d2, .free)] := by rfl) (hkx : ∀ C cl, (compEnvC scope cl C env).kindOf x = some .cell := by intro _ _; rfl) (hkind : scope.kind = .function := by rfl) (hnames : ∀ y ∈ scope.names, y.2 = .local → scope.names.lookup y.1 = some .local := by decide)
    (hs : ∀ x, foldedSetIterable iter env x = pure x := by intro _; rfl) : EX X A env (.Assign [.Name y py] (.ListComp elt [⟨.Name x px, iter, ifs, 0⟩] scope pos) spos) σ Q := by
  refine WP.of fun s R => ?_
  rw [exec_Assign_Name_used _ _ _ _ hsw]
  refine wpAny_bind (wpAny_standAt (wpAny_bind ?_))
  show wpAny _ A (do let _ ← comprehension (.ListComp elt [⟨.Name x px, iter, ifs, 0⟩] scope pos) scope env _ (newList []) false (eval iter env) (some (PySem.assign (.Name y py) env))) _ _ s
  refine wpAny_bind (wpAny_mono (wpAny_comprehension_free (use := some (PySem.assign (.Name y py) env)) (Q := fun _ s' => ∃ σ', Real X σ' s' ∧ Step σ s σ' s' ∧ Q .next σ') (E := fun _ _ => False) rfl hs hclos hkind hnames ?_) (fun _ s' hq => wpAny_pure (wpAny_pure hq)) fun _ _ (e : False) => e.elim)
  refine WP.go h R (Step.refl σ s) fun v σ₁ s₁ R₁ S₁ ⟨n, item, Need, J, hsrc, hn, h0, hJ, turn, fin⟩ => ?_
  refine comp_blockC hh hnm hkind hkx hsrc hn R₁ rfl J h0 hJ turn fun C D o acc σ' s' ys hD hDC j L hp hy => ?_
  obtain ⟨hC, hC1, _⟩ := hJ C n acc σ' (Nat.le_refl _) j
  have hbC := (hD C (Nat.le_of_lt hDC)).2
  obtain ⟨R', S', ⟨m, hns⟩, hDs, hnew⟩ := comp_dropC L hC hC1 hDC (hD C (Nat.le_of_lt hDC)).1 hp hy
  show wpAny _ A (PySem.assign (.Name y py) env (.ref D)) _ _ _
  have hCD : (σ'.set D (.list acc)) C = none := by rw [AH.set_ne _ _ (Nat.ne_of_gt hDC)]; exact hC
  refine wpAny_assign_Name (WP.go (fin C D acc σ' hD hDC j hDs (.ref D) rfl) R' (Step.refl _ s') fun _ σ₅ s₅ R₅ S₅ q => ?_)
  have hC5 : σ₅ C = none := by
    cases z : σ₅ C with
    | none => rfl
    | some p =>
      rcases S₅.fresh C p z with ⟨q, hq⟩ | hq
      · rw [hCD] at hq; cases hq
      · obtain ⟨oo, _, _, ho, _⟩ := hns; rw [ho] at hq; cases hq
  refine ⟨m, hns.at' fun o' e => S₅.keep C o' hCD e, fun h' hs' => ⟨σ₅, R₅.drop hC5 hbC hs', ?_, q⟩⟩
  exact S₁.trans ((S'.trans S₅).drop hnew hs')
end
end Mine
end

section
open PySem PySem.W PyProof.Rows Builtin Builtin.Str
set_option maxRecDepth 100000
namespace Mine
def pieceL : Nat → List Nat
  | 0 => [40]
  | 1 => [34, 41, 34, 40]
  | 2 => [92, 41, 40]
  | 3 => [41]
  | _ => [34, 40, 34, 41]
def visL : Nat → List Nat
  | 0 => [40]
  | 1 => [40]
  | 2 => [92, 41, 40]
  | 3 => [41]
  | _ => [41]
def pcs (l : List Nat) : List Nat := (l.map pieceL).flatten
def vss (l : List Nat) : List Nat := (l.map visL).flatten
def balN : List Nat → Nat → Bool
  | [], d => d == 0
  | c :: r, d => if c < 3 then balN r (d + 1) else match d with
    | 0 => false
    | d + 1 => balN r d
theorem strip_pcs : ∀ (l cur out : List Nat), stripL (pcs l) false none cur out = out ++ cur ++ vss l
  | [], cur, out => by show out ++ cur = out ++ cur ++ []; simp
  | c :: l, cur, out => by
    have ih := strip_pcs l
    have e1 : pcs (c :: l) = pieceL c ++ pcs l := rfl
    have e2 : vss (c :: l) = visL c ++ vss l := rfl
    rw [e1, e2]
    match c with
    | 0 =>
      show stripL (pcs l) false none (cur ++ [40]) out = _
      rw [ih]; simp [visL]
    | 1 =>
      show stripL (pcs l) false none ([] ++ [40]) (out ++ cur) = _
      rw [ih]; simp [visL]
    | 2 =>
      show stripL (pcs l) false none (((cur ++ [92]) ++ [41]) ++ [40]) out = _
      rw [ih]; simp [visL]
    | 3 =>
      show stripL (pcs l) false none (cur ++ [41]) out = _
      rw [ih]; simp [visL]
    | _ + 4 =>
      show stripL (pcs l) false none ([] ++ [41]) (out ++ cur) = _
      rw [ih]; simp [visL]
theorem end_pcs : ∀ l : List Nat, escEnd (pcs l) false = false
  | [] => rfl
  | c :: l => by
    refine Eq.trans ?_ (end_pcs l)
    show escEnd (pieceL c ++ pcs l) false = _
    match c with
    | 0 => rfl
    | 1 => rfl
    | 2 => rfl
    | 3 => rfl
    | _ + 4 => rfl
theorem end_vss : ∀ l : List Nat, escEnd (vss l) false = false
  | [] => rfl
  | c :: l => by
    refine Eq.trans ?_ (end_vss l)
    show escEnd (visL c ++ vss l) false = _
    match c with
    | 0 => rfl
    | 1 => rfl
    | 2 => rfl
    | 3 => rfl
    | _ + 4 => rfl
theorem par_vss : ∀ (l : List Nat) (d : Nat), parL (vss l) false (d : Nat) = balN l d
  | [], d => by
    show (((d : Nat) : Int) == 0) = (d == 0)
    by_cases h : d = 0
    · subst h; rfl
    · have h2 : ¬ ((d : Nat) : Int) = 0 := by omega
      rw [beq_eq_false_iff_ne.mpr h, beq_eq_false_iff_ne.mpr h2]
  | c :: l, d => by
    have ih := par_vss l
    show parL (visL c ++ vss l) false (d : Nat) = if c < 3 then balN l (d + 1) else match d with | 0 => false | d + 1 => balN l d
    have cls : parL (41 :: vss l) false (d : Nat) = match d with | 0 => false | d + 1 => balN l d := by
      cases d with
      | zero => rfl
      | succ d =>
        show (if (((d + 1 : Nat) : Int) - 1) < 0 then false else parL (vss l) false (((d + 1 : Nat) : Int) - 1)) = balN l d
        have e : ((d + 1 : Nat) : Int) - 1 = (d : Nat) := by omega
        rw [e, if_neg (by omega), ih]
    have opn : parL (40 :: vss l) false (d : Nat) = balN l (d + 1) := by
      show parL (vss l) false ((d : Int) + 1) = _
      rw [← ih]; rfl
    match c with
    | 0 => rw [if_pos (by decide)]; exact opn
    | 1 => rw [if_pos (by decide)]; exact opn
    | 2 => rw [if_pos (by decide)]; exact opn
    | 3 => rw [if_neg (by decide)]; exact cls
    | _ + 4 => rw [if_neg (by omega)]; exact cls
theorem vN1_inj : ∀ a b : Nat, vN 1 a = vN 1 b → a = b := fun a b h => by
  have h2 : (⟨#[118 + a]⟩ : Str) = ⟨#[118 + b]⟩ := h
  simp at h2
  exact h2
theorem pick4 : ∀ N : Nat, N ≤ 5 → ∀ p : Nat, p < N → (List.range N).filter (fun q => decide (q = p)) = [p] := by decide +kernel
theorem oP_list : ∀ r : Nat, r < 3 → (oP r).cps.toList = pieceL r := by decide +kernel
theorem cP_list : ∀ r : Nat, r < 2 → (cP r).cps.toList = pieceL (3 + r) := by decide +kernel
def lvC (hs : List Nat) (v : Nat) : List Nat := ((List.range hs.length).filter fun k => decide (hs.getD k 0 = v)).map (· % 3) ++ [3 + v % 2]
def codes (hs : List Nat) : List Nat := ((List.range hs.length).map fun j => lvC hs (hs.length - 1 - j)).flatten
theorem lk_app (a b : List (Str × Str)) (nm : Str) : lk (a ++ b) nm = lk a nm ++ lk b nm := by simp [lk]
theorem lk_level {hs : List Nat} {v : Nat} (h4 : ∀ h ∈ hs, h ≤ 4) (hN : hs.length ≤ 4) (hv : v < hs.length) : flat (lk (tR hs) (vN 1 v)) = pcs (lvC hs v) := by
  have hg : ∀ k, k < hs.length → hs.getD k 0 ≤ 4 := fun k hk => by
    rw [List.getD_eq_getElem?_getD, List.getElem?_eq_getElem hk]; exact h4 _ (List.getElem_mem _)
  have e1 : lk (tO hs hs.length) (vN 1 v) = ((List.range hs.length).filter fun k => decide (hs.getD k 0 = v)).map fun k => oP (k % 3) := by
    unfold lk tO
    rw [List.filter_map, List.map_map]
    have : (List.range hs.length).filter ((fun e : Str × Str => decide (Txt.lower e.1 = vN 1 v)) ∘ fun k => (vN (k % 2) (hs.getD k 0), oP (k % 3))) = (List.range hs.length).filter fun k => decide (hs.getD k 0 = v) := by
      apply List.filter_congr
      intro k hk
      rw [List.mem_range] at hk
      show decide (Txt.lower (vN (k % 2) (hs.getD k 0)) = vN 1 v) = _
      rw [(vN_ok (k % 2) (Nat.mod_lt _ (by decide)) _ (hg k hk)).2]
      by_cases z : hs.getD k 0 = v
      · rw [z]; simp
      · rw [decide_eq_false z, decide_eq_false (fun q => z (vN1_inj _ _ q))]
    rw [this]; rfl
  have e2 : lk (tC hs.length) (vN 1 v) = [cP (v % 2)] := by
    unfold lk tC
    rw [List.filter_map, List.map_map]
    have : (List.range hs.length).filter ((fun e : Str × Str => decide (Txt.lower e.1 = vN 1 v)) ∘ fun k => (vN 1 k, cP (k % 2))) = [v] := by
      rw [← pick4 hs.length (by omega) v hv]
      apply List.filter_congr
      intro k hk
      rw [List.mem_range] at hk
      show decide (Txt.lower (vN 1 k) = vN 1 v) = _
      rw [(vN_ok 1 (by decide) k (by omega)).2]
      by_cases z : k = v
      · rw [z]; simp
      · rw [decide_eq_false z, decide_eq_false (fun q => z (vN1_inj _ _ q))]
    rw [this]; rfl
  unfold tR
  rw [lk_app, e1, e2]
  unfold flat pcs lvC
  rw [List.map_append, List.flatten_append, List.map_append, List.flatten_append, List.map_map, List.map_map]
  congr 1
  · congr 1
    apply List.map_congr_left
    intro k _
    exact oP_list (k % 3) (Nat.mod_lt _ (by decide))
  · show [(cP (v % 2)).cps.toList].flatten = [pieceL (3 + v % 2)].flatten
    rw [cP_list (v % 2) (Nat.mod_lt _ (by decide))]
theorem rowT_list {hs : List Nat} (h4 : ∀ h ∈ hs, h ≤ 4) (hN : hs.length ≤ 4) : (rowT hs).cps.toList = pcs (codes hs) := by
  unfold rowT
  rw [join_flat]
  unfold flat lvs pcs codes
  rw [List.map_map, List.map_flatten, List.flatten_flatten, List.map_map, List.map_map]
  congr 1
  apply List.map_congr_left
  intro j hj
  rw [List.mem_range] at hj
  show (lvT hs (hs.length - 1 - j)).cps.toList = ((lvC hs (hs.length - 1 - j)).map pieceL).flatten
  unfold lvT
  rw [join_flat]
  exact lk_level h4 hN (by omega)
theorem check_row {hs : List Nat} (h4 : ∀ h ∈ hs, h ≤ 4) (hN : hs.length ≤ 4) : checkP (rowT hs) = some (balN (codes hs) 0) := by
  have hl := rowT_list h4 hN
  have hlen : (rowT hs).length ≤ 1000 := by
    rw [str_len_flat]
    unfold rowT
    rw [join_flat]
    exact Nat.le_trans (lvs_flat h4 hN) (by decide)
  have s1 : stripL (rowT hs).cps.toList false none [] [] = vss (codes hs) := by rw [hl, strip_pcs]; rfl
  rw [checkP_eq hlen (by rw [hl]; exact end_pcs _) (by rw [s1]; exact end_vss _)]
  unfold chkL
  rw [s1]
  exact congrArg some (par_vss (codes hs) 0)
/-- the recurrent ones and their turns -/
def allL : Nat → Nat → List (List Nat)
  | 0, _ => [[]]
  | n + 1, b => (allL n b).flatMap fun l => (List.range b).map fun x => x :: l
theorem allL_mem {b : Nat} : ∀ l : List Nat, (∀ x ∈ l, x < b) → l ∈ allL l.length b
  | [], _ => List.mem_singleton.mpr rfl
  | x :: r, h => by
    have ih := allL_mem r fun y hy => h y (List.mem_cons_of_mem _ hy)
    show x :: r ∈ (allL r.length b).flatMap fun l => (List.range b).map fun x => x :: l
    rw [List.mem_flatMap]
    exact ⟨r, ih, List.mem_map.mpr ⟨x, List.mem_range.mpr (h x List.mem_cons_self), rfl⟩⟩
def burnL (N : Nat) (l : List Nat) : Bool := (List.range N).all fun v => decide (l.countP (fun x => decide (x ≤ v)) ≤ v + 1)
def turnL (N s : Nat) (l : List Nat) : List Nat := l.map fun x => (x + s) % (N + 1)
def oneL (N : Nat) (l : List Nat) : Bool := !burnL N l || (balN (codes l) 0 && (List.range N).all fun s => !balN (codes (turnL N (s + 1) l)) 0)
theorem one2 : (allL 2 2).all (oneL 2) = true := by decide +kernel
theorem one3 : (allL 3 3).all (oneL 3) = true := by decide +kernel
theorem one4 : (allL 4 4).all (oneL 4) = true := by decide +kernel
theorem one_all {N : Nat} (h2 : 2 ≤ N) (h4 : N ≤ 4) : (allL N N).all (oneL N) = true := by
  have : N = 2 ∨ N = 3 ∨ N = 4 := by omega
  rcases this with rfl | rfl | rfl
  · exact one2
  · exact one3
  · exact one4
end Mine
end

section
open PySem PySem.W PyProof.Rows Builtin Builtin.Str
set_option maxRecDepth 100000
namespace Mine
def shiftL (N m : Nat) (l : List Nat) : List Nat := l.map fun x => (x + m) % (N + 1)
def rowsP (N : Nat) (l : List Nat) : List (List Nat) := (List.range (N + 1)).map fun m => shiftL N m l
theorem burn_cnt {N : Nat} {h : Hts} (b : Burn N h) (v : Nat) : cnt N (fun i => decide (h i ≤ v)) ≤ v + 1 := by
  by_cases he : ∃ i, i < N ∧ (fun i => decide (h i ≤ v)) i = true
  · obtain ⟨i, hi, hp, hc⟩ := b _ he
    have hp' : h i ≤ v := of_decide_eq_true hp
    omega
  · have hz : cnt N (fun i => decide (h i ≤ v)) = 0 := by
      have e : cnt N (fun i => decide (h i ≤ v)) = cnt N (fun _ => false) := cnt_congr _ _ _ fun i hi => by
        cases hq : decide (h i ≤ v) with
        | false => rfl
        | true => exact absurd ⟨i, hi, hq⟩ he
      rw [e]; simp [cnt]
    omega
theorem burnL_of {N : Nat} {h : Hts} (b : Burn N h) : burnL N (hts N h) = true := by
  unfold burnL
  rw [List.all_eq_true]
  intro v _
  refine decide_eq_true ?_
  have h1 := burn_cnt b v
  unfold hts
  rw [List.countP_map]
  exact h1
theorem hts_len (N : Nat) (h : Hts) : (hts N h).length = N := by simp [hts]
theorem hts_get {N : Nat} {h : Hts} {i : Nat} (hi : i < (hts N h).length) : (hts N h)[i] = h i := by simp [hts]
theorem taken_eq {N : Nat} {l : List Nat} {h : Hts} (h2 : 2 ≤ N) (h4 : N ≤ 4) (hl : l.length = N) (b : Burn N h) (s : Stable N h) (r : Res N (fun i => l.getD i 0) h) :
    (rowsP N l).filter (fun r => balN (codes r) 0) = [hts N h] := by
  have hmem : hts N h ∈ allL N N := by
    have := allL_mem (b := N) (hts N h) fun x hx => by
      obtain ⟨i, hi, rfl⟩ := List.mem_map.mp hx
      exact s i (List.mem_range.mp hi)
    rwa [hts_len] at this
  have h1 := List.all_eq_true.mp (one_all h2 h4) _ hmem
  unfold oneL at h1
  rw [burnL_of b] at h1
  simp only [Bool.not_true, Bool.false_or, Bool.and_eq_true, List.all_eq_true, List.mem_range, Bool.not_eq_true'] at h1
  obtain ⟨hb, hs⟩ := h1
  obtain ⟨m, hm⟩ := r
  have hm1 : m % (N + 1) < N + 1 := Nat.mod_lt _ (by omega)
  have hres : ∀ i, (hi : i < l.length) → h i = (l[i] + m % (N + 1)) % (N + 1) := fun i hi => by
    have e := hm i (by omega)
    have e2 : l.getD i 0 = l[i] := by rw [List.getD_eq_getElem?_getD, List.getElem?_eq_getElem hi]; rfl
    rw [Nat.mod_eq_of_lt (Nat.lt_succ_of_lt (s i (by omega)))] at e
    show h i = _
    rw [e]
    show (l.getD i 0 + m) % (N + 1) = _
    rw [e2, Nat.add_mod_mod]
  generalize m % (N + 1) = m1 at *
  have g1 : shiftL N m1 l = hts N h := by
    apply List.ext_getElem
    · simp [shiftL, hts_len, hl]
    · intro i hi hi2
      rw [hts_get hi2]
      have hi3 : i < l.length := by simpa [shiftL] using hi
      rw [hres i hi3]
      simp [shiftL]
  have g2 : ∀ m', m' < N + 1 → m' ≠ m1 → ∃ t, t < N ∧ shiftL N m' l = turnL N (t + 1) (hts N h) := fun m' hm' hne => by
    have key : ∀ t, (m1 + (t + 1) = m' ∨ m1 + (t + 1) = m' + (N + 1)) → shiftL N m' l = turnL N (t + 1) (hts N h) := fun t ht => by
      apply List.ext_getElem
      · simp [shiftL, turnL, hts_len, hl]
      · intro i hi hi2
        have hi3 : i < l.length := by simpa [shiftL] using hi
        have hi4 : i < (hts N h).length := by rw [hts_len]; omega
        have e1 : (shiftL N m' l)[i] = (l[i] + m') % (N + 1) := by simp [shiftL]
        have e2 : (turnL N (t + 1) (hts N h))[i] = ((hts N h)[i] + (t + 1)) % (N + 1) := by simp [turnL]
        rw [e1, e2, hts_get hi4, hres i hi3, Nat.mod_add_mod, Nat.add_assoc]
        rcases ht with z | z
        · rw [z]
        · rw [z, ← Nat.add_assoc, Nat.add_mod_right]
    by_cases hgt : m1 < m'
    · exact ⟨m' - m1 - 1, by omega, key _ (.inl (by omega))⟩
    · exact ⟨m' + (N + 1) - m1 - 1, by omega, key _ (.inr (by omega))⟩
  unfold rowsP
  rw [List.filter_map]
  have e : (List.range (N + 1)).filter ((fun r => balN (codes r) 0) ∘ fun m => shiftL N m l) = [m1] := by
    rw [← pick4 (N + 1) (by omega) m1 hm1]
    apply List.filter_congr
    intro q hq
    rw [List.mem_range] at hq
    show balN (codes (shiftL N q l)) 0 = _
    by_cases z : q = m1
    · rw [z, g1, hb]; simp
    · obtain ⟨t, ht, et⟩ := g2 q hq z
      rw [et, hs t ht, decide_eq_false z]
  rw [e]
  show [shiftL N m1 l] = _
  rw [g1]
theorem rowsP_mem {N : Nat} {l r : List Nat} (hr : r ∈ rowsP N l) (h4 : N ≤ 4) (hl : l.length = N) : r.length ≤ 4 ∧ ∀ x ∈ r, x ≤ 4 := by
  obtain ⟨m, _, rfl⟩ := List.mem_map.mp hr
  refine ⟨by simp [shiftL]; omega, fun x hx => ?_⟩
  obtain ⟨y, _, rfl⟩ := List.mem_map.mp hx
  have := Nat.mod_lt (y + m) (show 0 < N + 1 by omega)
  omega
end Mine
end

section
open PySem PySem.W PyProof.Rows Builtin Builtin.Str
set_option maxRecDepth 100000
namespace Mine
theorem nI_getD' {l : List Nat} {t : Nat} (h : t < l.length) : (nI l).getD t .none = .int (l[t] : Nat) := by rw [List.getD_eq_getElem?_getD, nI_get h]; rfl
section
variable {X : Cx} {A : Around} {σ : AH}
theorem rowsStep {fm : FM} {L N FD x l : Nat} {a : Addr} {F : AH} {n : Nat} (k : Kn2 X) (r : Rm A (n + 4)) {m : Str → Option PV} {Q : PF → AH → Prop} {st : St2} {fl : List Nat} {s : Stmt} (hN : N ≤ 4)
    (S : Ls F σ L m N FD x k.C l st) (hfl : fl.length = N) (hFD : F FD = some (.list (nI fl)))
    (h : ∀ σ' RD ts, Ls F σ' L (upd m (Str.ofString "rows") (.ref RD)) N FD x k.C l st → σ' RD = some (.list (ts.map PV.ref)) → All2 (fun t r => σ' t = some (.list (nI r))) ts (rowsP N fl) → Q .next σ')
    (hs : s = stAt lawSrc2.body 7) : EX X A (lawEnv2 fm L a) s σ Q := by
  subst hs
  refine EX.compUsedC (cl := [(Str.ofString "first", L + 3), (Str.ofString "count", L + 2)]) r.hh rfl (EV.callTy k.ok k.nRange k.bRange (EV.bin (EV.cell (c := L + 2) (by rfl) S.c2 (EV.int (BIN.add (CV.range1 fun R hR hRb => ?_))))))
  have le1 : σ.le (σ.set R (.range 0 ((N : Nat) + 1) 1)) := AH.le_setN (AH.le_refl _) hR
  have wR : (σ.set R (.range 0 ((N : Nat) + 1) 1)) R = some (.range 0 ((N : Nat) + 1) 1) := AH.set_self ..
  generalize σ.set R (.range 0 ((N : Nat) + 1) 1) = σ1 at *
  have S1 := S.more le1
  refine ⟨N + 1, _, _, fun C i acc σ' => ∃ ts : List Addr, acc = ts.map PV.ref ∧ σ1.le σ' ∧ σ' C = none ∧ σ' (C + 1) = none ∧ All2 (fun t r => σ' t = some (.list (nI r))) ts ((List.range i).map fun m => shiftL N m fl), ISRC.range wR ?_ ?_, Nat.le_trans (show N + 1 ≤ 5 by omega) (by decide), fun C hC => ⟨[], rfl, AH.le_refl _, (hC C (Nat.le_refl _)).1, (hC (C + 1) (Nat.le_succ _)).1, .nil⟩, fun C i acc σ' hi ⟨ts, _, _, h1, h2, _⟩ => ⟨h1, h2, trivial⟩, ?_, ?_⟩
  · exact PySem.small_one (by omega) (by omega) (by omega) (by omega)
  · rw [show ((N : Nat) : Int) + 1 = ((N + 1 : Nat) : Int) by omega, rangeSize_nat]; simp
  · rintro C i acc σ' hC hi ⟨ts, rfl, hle, hC0, hC1, hall⟩
    have ei : (0 : Int) + (i : Int) * 1 = (i : Nat) := by omega
    rw [ei]
    refine ⟨fun _ => ?_, fun h => (nomatch h)⟩
    have kp : σ'.le ((σ'.set C (.ns fun _ => .none)).set (C + 1) (.cell (some (.int (i : Nat))))) := AH.le_setN (AH.le_setN (AH.le_refl _) hC0) hC1
    have tC : ((σ'.set C (.ns fun _ => .none)).set (C + 1) (.cell (some (.int (i : Nat))))) C = some (.ns fun _ => .none) := by rw [AH.set_ne _ _ (neLj (by decide)).symm, AH.set_self]
    have tM : ((σ'.set C (.ns fun _ => .none)).set (C + 1) (.cell (some (.int (i : Nat))))) (C + 1) = some (.cell (some (.int (i : Nat)))) := AH.set_self ..
    generalize hτ : (σ'.set C (.ns fun _ => .none)).set (C + 1) (.cell (some (.int (i : Nat)))) = τ at *
    have Sτ := (S1.more hle).more kp
    have hFl := Sτ.gd.le _ _ hFD
    refine EV.comp (cl := [(Str.ofString "more", C + 1), (Str.ofString "count", L + 2)]) r.hh rfl (EV.cell (c := L + 3) (by rfl) Sτ.c3 ⟨(nI fl).length, _, _, fun C2 t acc2 σ'' => σ'' = τ ∧ τ C2 = none ∧ acc2 = nI ((fl.take t).map fun x => (x + i) % (N + 1)), ISRC.list hFl, by simp [nI, hfl]; exact Nat.le_trans hN (by decide), fun C2 hC2 => ⟨rfl, (hC2 C2 (Nat.le_refl _)).1, rfl⟩, fun C2 t acc2 σ'' _ ⟨z1, z2, z3⟩ => ⟨by rw [z1]; exact z2, by rw [z1]; exact hFl⟩, ?_, ?_⟩)
    · rintro C2 t acc2 σ'' hC2 ht ⟨z1, hC2n, z3⟩
      subst z3
      rw [z1]
      have ht' : t < fl.length := by simpa [nI] using ht
      rw [nI_getD' ht']
      have kp2 : τ.le (τ.set C2 (nsx (Str.ofString "x") (some (.int (fl[t] : Nat))))) := AH.le_setN (AH.le_refl _) hC2n
      have wC2 : (τ.set C2 (nsx (Str.ofString "x") (some (.int (fl[t] : Nat))))) C2 = some (nsx (Str.ofString "x") (some (.int (fl[t] : Nat)))) := AH.set_self ..
      refine ⟨fun _ => ?_, fun h => (nomatch h)⟩
      refine EV.bin (EV.bin (EV.loc wC2 (by rfl) (EV.cell (c := C + 1) (by rfl) (kp2 _ _ tM) (BIN.add (EV.bin (EV.cell (c := L + 2) (by rfl) (kp2 _ _ Sτ.c2) (EV.int (BIN.add (BIN.fmod (by omega) ?_)))))))))
      refine ⟨τ, AH.le_refl _, rfl, hC2n, ?_⟩
      have e1 : (((fl[t] : Nat) : Int) + (i : Nat)).fmod ((N : Nat) + 1) = (((fl[t] + i) % (N + 1) : Nat) : Int) := by
        rw [show ((fl[t] : Nat) : Int) + (i : Nat) = ((fl[t] + i : Nat) : Int) by push_cast; rfl, show ((N : Nat) : Int) + 1 = ((N + 1 : Nat) : Int) by push_cast; rfl]
        exact modN _ _ (by omega)
      rw [e1, List.take_succ_eq_append_getElem ht', List.map_append]
      show _ = ((fl.take t).map (fun x => (x + i) % (N + 1)) ++ [(fl[t] + i) % (N + 1)]).map fun n => PV.int (n : Nat)
      rw [List.map_append]; rfl
    · rintro C2 D2 acc2 σ'' hD2 hDC2 ⟨z1, hC2n, z3⟩ hD2n
      subst z3
      rw [z1] at hD2n ⊢
      have e0 : (fl.take (nI fl).length).map (fun x => (x + i) % (N + 1)) = shiftL N i fl := by
        rw [List.take_of_length_le (by simp [nI])]; rfl
      rw [e0]
      have d1 : D2 ≠ C := fun z => by rw [z, tC] at hD2n; cases hD2n
      have d2 : D2 ≠ C + 1 := fun z => by rw [z, tM] at hD2n; cases hD2n
      have hD2' : σ' D2 = none := by
        rw [← hτ, AH.set_ne _ _ d2, AH.set_ne _ _ d1] at hD2n; exact hD2n
      have lk : σ'.le (σ'.set D2 (.list (nI (shiftL N i fl)))) := AH.le_setN (AH.le_refl _) hD2'
      refine ⟨σ'.set D2 (.list (nI (shiftL N i fl))), ?_, ts ++ [D2], by simp, AH.le_trans hle lk, by rw [AH.set_ne _ _ d1.symm]; exact hC0, by rw [AH.set_ne _ _ d2.symm]; exact hC1, ?_⟩
      · rw [← hτ]
        intro b p e
        by_cases hb2 : b = C + 1
        · rw [hb2, AH.set_self] at e
          rw [hb2, AH.set_ne _ _ d2.symm, AH.set_self]; exact e
        · rw [AH.set_ne _ _ hb2] at e
          by_cases hb1 : b = C
          · rw [hb1, AH.set_self] at e
            rw [hb1, AH.set_ne _ _ d1.symm, AH.set_ne _ _ (neLj (by decide)).symm, AH.set_self]; exact e
          · rw [AH.set_ne _ _ hb1] at e
            by_cases hb0 : b = D2
            · rw [hb0, AH.set_self] at e
              rw [hb0, AH.set_self]; exact e
            · rw [AH.set_ne _ _ hb0] at e
              rw [AH.set_ne _ _ hb0, AH.set_ne _ _ hb2, AH.set_ne _ _ hb1]; exact e
      · rw [List.range_succ, List.map_append]
        exact All2.snoc (R := fun t r => (σ'.set D2 (.list (nI (shiftL N i fl)))) t = some (.list (nI r))) (AH.set_self ..) (hall.imp fun t r e => lk _ _ e)
  · rintro C D acc σ' hD hDC ⟨ts, rfl, hle, hC0, hC1, hall⟩ hDn
    have S2 := (S1.more hle).more (AH.le_setN (AH.le_refl _) hDn (p := .list (ts.map PV.ref)))
    have nD := (S1.more hle).gd.ne hDn
    have lk : ∀ b p, b ≠ L → σ' b = some p → ((σ'.set D (.list (ts.map PV.ref))).set L (.ns (upd m (Str.ofString "rows") (.ref D)))) b = some p := fun b p hb e => by
      rw [AH.set_ne _ _ hb, AH.set_ne _ _ (fun z => by rw [z, hDn] at e; cases e)]; exact e
    have hLn := (S1.more hle).ns
    refine ST.at S2.ns (h _ D ts S2.loc (by rw [AH.set_ne _ _ nD.1, AH.set_self]) (hall.imp fun t r e => lk t _ (fun z => by rw [z, hLn] at e; cases e) e))
end
end Mine
end

section
open PySem PySem.W PyProof.Rows Builtin Builtin.Str
set_option maxRecDepth 100000
namespace Mine
theorem nI_int (rg : List Nat) : nI rg = (rg.map fun n => ((n : Nat) : Int)).map PV.int := by simp [nI]
abbrev pdN (l : List Nat) : PyData := .list ((l.map fun n => ((n : Nat) : Int)).map PyData.int)
theorem canN : ∀ ns : List Int, PyData.canLayAll0 (ns.map PyData.int) = true
  | [] => rfl
  | _ :: r => by simp [PyData.canLayAll0, PyData.canLay0, canN r]
theorem depN : ∀ ns : List Int, PyData.depthAll (ns.map PyData.int) = 0
  | [] => rfl
  | _ :: r => by simp [PyData.depthAll, PyData.depth, depN r]
theorem shN (l : List Nat) : SeqAt.shaped (pdN l) = true := by
  unfold SeqAt.shaped
  rw [Bool.and_eq_true]
  refine ⟨canN _, decide_eq_true ?_⟩
  show PyData.depthAll _ + 1 ≤ 64
  rw [depN]; decide
theorem shNN1 (l : List Nat) : SeqAt.shaped (.list [pdN l]) = true := by
  unfold SeqAt.shaped
  rw [Bool.and_eq_true]
  refine ⟨?_, decide_eq_true ?_⟩
  · show (PyData.canLay0 (pdN l) && true) = true
    rw [Bool.and_true]
    exact canN _
  · show max (PyData.depthAll ((l.map fun n => ((n : Nat) : Int)).map PyData.int) + 1) 0 + 1 ≤ 64
    rw [depN]; decide
theorem eqvAll_int : ∀ l : List Int, PyData.eqvAll (l.map PyData.int) (l.map PyData.int) = true
  | [] => by simp [PyData.eqvAll]
  | x :: r => by simp [PyData.eqvAll, PyData.eqv, eqvAll_int r]
theorem eqvN (l : List Nat) : PyData.eqv (pdN l) (pdN l) = true := by
  show PyData.eqvAll _ _ = true
  exact eqvAll_int _
theorem eqvNN1 (l : List Nat) : PyData.eqv (.list [pdN l]) (.list [pdN l]) = true := by
  show PyData.eqvAll [pdN l] [pdN l] = true
  show (PyData.eqv (pdN l) (pdN l) && true) = true
  rw [eqvN]; rfl
def takL (ts : List Addr) (rs : List (List Nat)) (j : Nat) : List (Addr × List Nat) := ((ts.zip rs).take j).filter fun e => balN (codes e.2) 0
theorem takL_succ {ts : List Addr} {rs : List (List Nat)} {j : Nat} (h1 : j < ts.length) (h2 : j < rs.length) : takL ts rs (j + 1) = takL ts rs j ++ (if balN (codes rs[j]) 0 = true then [(ts[j], rs[j])] else []) := by
  unfold takL
  have h : j < (ts.zip rs).length := by simp; omega
  rw [List.take_succ_eq_append_getElem h, List.filter_append]
  congr 1
  simp only [List.getElem_zip, List.filter_cons, List.filter_nil]
theorem All2.zipg {R : Addr → List Nat → Prop} {p : List Nat → Bool} : ∀ {ts : List Addr} {tbl : List (List Nat)}, All2 R ts tbl → All2 R (((ts.zip tbl).filter fun e => p e.2).map (·.1)) (tbl.filter p)
  | _, _, .nil => .nil
  | a :: as, b :: bs, .cons h r => by
    have ih := All2.zipg (p := p) r
    simp only [List.zip_cons_cons, List.filter_cons]
    cases hp : p b with
    | true => simp only [if_true, List.map_cons]; exact .cons h ih
    | false => simp only [Bool.false_eq_true, if_false]; exact ih
section
variable {X : Cx} {A : Around} {σ : AH}
theorem takenStep {fm : FM} {L N FD x l RD : Nat} {a : Addr} {F : AH} {n : Nat} (k : Kn2 X) (r : Rm A (n + 4)) {m : Str → Option PV} {Q : PF → AH → Prop} {st : St2} {ts : List Addr} {rs : List (List Nat)} {H : List Nat} {s : Stmt} (hN : N ≤ 4)
    (S : Ls F σ L m N FD x k.C l st) (hm : m (Str.ofString "rows") = some (.ref RD)) (hRD : σ RD = some (.list (ts.map PV.ref))) (hts : All2 (fun t r => σ t = some (.list (nI r))) ts rs) (hlen : rs.length ≤ 5) (hrs : ∀ r ∈ rs, r.length ≤ 4 ∧ ∀ x ∈ r, x ≤ 4) (hone : rs.filter (fun r => balN (codes r) 0) = [H])
    (h : ∀ σ' TD t, Ls F σ' L (upd m (Str.ofString "taken") (.ref TD)) N FD x k.C l st → σ' TD = some (.list [.ref t]) → σ' t = some (.list (nI H)) → Q .next σ')
    (hs : s = stAt lawSrc2.body 8) : EX X A (lawEnv2 fm L a) s σ Q := by
  subst hs
  obtain ⟨⟨oC, hoC, hdC⟩, hcC⟩ := k.fC
  obtain ⟨⟨oR, hoR, hdR⟩, hcR⟩ := k.fR
  have hl2 : ts.length = rs.length := hts.len
  have r3 : Rm A (n + 3) := r.up (by omega)
  refine EX.compUsed (cl := []) r.hh rfl (EV.loc S.ns hm ⟨(ts.map PV.ref).length, _, _, fun C i acc σ' => σ' = σ ∧ σ C = none ∧ acc = (takL ts rs i).map fun e => PV.ref e.1, ISRC.list hRD, ?_, fun C hC => ⟨rfl, (hC C (Nat.le_refl _)).1, rfl⟩, fun C i acc σ' hi ⟨e1, e2, e3⟩ => ⟨by rw [e1]; exact e2, by rw [e1]; exact hRD⟩, ?_, ?_⟩)
  · rw [List.length_map, hl2]; exact Nat.le_trans hlen (by decide)
  · rintro C i acc σ' hC hi ⟨e1, hCn, e3⟩
    subst e3
    rw [e1]
    rw [List.length_map] at hi
    have hi' : i < rs.length := by rw [← hl2]; exact hi
    have ht := hts.get i hi hi'
    rw [getD_map hi]
    have kp : σ.le (σ.set C (nsx (Str.ofString "row") (some (.ref ts[i])))) := AH.le_setN (AH.le_refl _) hCn
    have wC : (σ.set C (nsx (Str.ofString "row") (some (.ref ts[i])))) C = some (nsx (Str.ofString "row") (some (.ref ts[i]))) := AH.set_self ..
    obtain ⟨q1, q2⟩ := hrs _ (List.getElem_mem hi')
    refine TS.cmp (EV.callDef k.ok k.gC hoC hdC (EV.callDef k.ok k.gR hoR hdR (EV.loc wC (by rfl) (CV.row k r3 (kp _ _ ht) q1 q2 fun σ2 hle2 => CV.check k.toKnC r3 (check_row q2 q1) fun σ3 hle3 => ?_))))
    have hle := AH.le_trans hle2 hle3
    refine EV.bool (CMP.is_b ⟨_, rfl, fun hc => ?_, fun hc => ?_⟩)
    · have hb : balN (codes rs[i]) 0 = true := by simpa using hc
      refine EV.loc (hle _ _ wC) (by rfl) ⟨σ, hle, rfl, hCn, ?_⟩
      rw [takL_succ hi hi', if_pos hb]; simp
    · have hb : balN (codes rs[i]) 0 = false := by simpa using hc
      refine ⟨σ, hle, rfl, hCn, ?_⟩
      rw [takL_succ hi hi', if_neg (by rw [hb]; decide)]; simp
  · rintro C D acc σ' hD hDC ⟨e1, hCn, e3⟩ hDn
    subst e3
    rw [e1] at hDn ⊢
    have hz := All2.zipg (p := fun r => balN (codes r) 0) hts
    rw [hone] at hz
    have htk : takL ts rs (ts.map PV.ref).length = (ts.zip rs).filter fun e => balN (codes e.2) 0 := by
      unfold takL
      rw [List.take_of_length_le (by simp; omega)]
    rw [htk]
    have nD := S.gd.ne hDn
    have S2 := S.more (AH.le_setN (AH.le_refl _) hDn (p := .list (((ts.zip rs).filter fun e => balN (codes e.2) 0).map fun e => PV.ref e.1)))
    have lk : ∀ b p, b ≠ L → σ b = some p → ((σ.set D (.list (((ts.zip rs).filter fun e => balN (codes e.2) 0).map fun e => PV.ref e.1))).set L (.ns (upd m (Str.ofString "taken") (.ref D)))) b = some p := fun b p hb e => by
      rw [AH.set_ne _ _ hb, AH.set_ne _ _ (fun z => by rw [z, hDn] at e; cases e)]; exact e
    have hLn := S.ns
    generalize hw : (ts.zip rs).filter (fun e => balN (codes e.2) 0) = w at *
    match w, hz with
    | [e], .cons he .nil =>
      have he : σ e.1 = some (.list (nI H)) := he
      exact ST.at S2.ns (h _ D e.1 S2.loc (by rw [AH.set_ne _ _ nD.1, AH.set_self]; rfl) (lk _ _ (fun z => by rw [z, hLn] at he; cases he) he))
theorem retStep {fm : FM} {L N FD x l BD HD TD t : Nat} {a : Addr} {F : AH} {n : Nat} (k : Kn2 X) (r : Rm A (n + 4)) {m : Str → Option PV} {Q : PF → AH → Prop} {st : St2} {H : List Nat} {s : Stmt}
    (S : Ls F σ L m N FD x k.C l st) (hb : m (Str.ofString "before") = some (.ref BD)) (hBD : F BD = some (.list (nI H))) (hh : m (Str.ofString "heights") = some (.ref HD)) (hHD : F HD = some (.list (nI H))) (hm : m (Str.ofString "taken") = some (.ref TD)) (hTD : σ TD = some (.list [.ref t])) (ht : σ t = some (.list (nI H)))
    (h : ∀ σ', Q (.ret (.bool true)) σ')
    (hs : s = stAt lawSrc2.body 9) : EX X A (lawEnv2 fm L a) s σ Q := by
  subst hs
  have rd : ∀ {τ : AH} {D : Addr}, τ D = some (.list (nI H)) → Rd X τ (.ref D) (pdN H) := fun {τ D} e => Rd.ints (ns := H.map fun n => ((n : Nat) : Int)) (by rw [e, nI_int])
  refine EX.ret (EV.and2 (EV.cmp (EV.loc S.ns hb (EV.loc S.ns hh (CMP.eqD r (rd (S.gd.le _ _ hBD)) (rd (S.gd.le _ _ hHD)) (shN H) (shN H) ?_)))))
  rw [eqvN]
  refine TRU.bool ⟨fun _ => ?_, fun h => (nomatch h)⟩
  refine EV.cmp (EV.loc S.ns hm (EV.list (EV.loc S.ns hh ⟨by show 1 ≤ sizeLine; decide, fun D hD _ => ?_⟩)))
  have le1 := AH.le_setN (AH.le_refl σ) hD (p := .list [.ref HD])
  refine CMP.eqD (da := .list [pdN H]) (db := .list [pdN H]) r (Rd.list (le1 _ _ hTD) (.cons (rd (le1 _ _ ht)) .nil)) (Rd.list (vs := [.ref HD]) (AH.set_self ..) (.cons (rd (le1 _ _ (S.gd.le _ _ hHD))) .nil)) (shNN1 H) (shNN1 H) ?_
  rw [eqvNN1]
  exact h _
end
end Mine
end

section
open PySem PySem.W PyProof.Rows Builtin Builtin.Str
set_option maxRecDepth 100000
namespace Mine
def sizeQ (n : Nat) : Nat := 2 + (if n / 2 < 2 then n / 2 else 2)
theorem sizeQ_le (n : Nat) : 2 ≤ sizeQ n ∧ sizeQ n ≤ 4 := by unfold sizeQ; split <;> omega
def dfl : List Nat := [0, 3, 1, 5]
def fstI (ns : List Int) (k : Nat) : Int := if k < ns.length then ns.getD k 0 else (dfl.getD k 0 : Nat)
def fstP (ns : List Int) (k : Nat) : Nat := ((fstI ns k).fmod 7).toNat
theorem fstP_int (ns : List Int) (k : Nat) : (fstI ns k).fmod 7 = ((fstP ns k : Nat) : Int) ∧ fstP ns k ≤ 6 := by
  unfold fstP
  have h1 : (fstI ns k).fmod 7 = (fstI ns k) % 7 := Int.fmod_eq_emod_of_nonneg _ (by decide)
  rw [h1]
  omega
def fstL (ns : List Int) : List Nat := (List.range (sizeQ ns.length)).map (fstP ns)
def st0 (fl : List Nat) (i : Nat) : St2 := (List.range i).map fun k => (k, fl.getD k 0)
theorem st0_succ (fl : List Nat) (i : Nat) : st0 fl (i + 1) = st0 fl i ++ [(i, fl.getD i 0)] := by simp [st0, List.range_succ]
theorem abcd2_at : ∀ i : Nat, i < 4 → (Str.ofString "abcd").cps[i]? = some (97 + i) ∧ (⟨#[97 + i]⟩ : Str) = nmC i := by decide +kernel
theorem getH_st0 (fl : List Nat) : ∀ N : Nat, N ≤ 4 → ∀ q : Nat, q < N → getH (st0 fl N) q = some (fl.getD q 0)
  | 0, _, q, h => by omega
  | N + 1, hN, q, h => by
    rw [st0_succ, getH_app]
    by_cases hq : q < N
    · rw [getH_st0 fl N (by omega) q hq]
    · have e : q = N := by omega
      subst e
      have hno : getH (st0 fl q) q = none := by
        have : ∀ M : Nat, M ≤ q → getH (st0 fl M) q = none := by
          intro M
          induction M with
          | zero => intro _; rfl
          | succ M ih =>
            intro hM
            rw [st0_succ, getH_app, ih (by omega)]
            show (if M % 4 = q then some (fl.getD M 0) else none) = none
            rw [if_neg (by omega)]
        exact this q (Nat.le_refl _)
      rw [hno]
      show (if q % 4 = q then some (fl.getD q 0) else none) = _
      rw [if_pos (by omega)]
theorem wf_st0 {fl : List Nat} {N : Nat} (hN : N ≤ 4) (hl : fl.length = N) (h6 : ∀ x ∈ fl, x ≤ 6) : WF N (st0 fl N) := by
  refine ⟨?_, fun e he => ?_⟩
  · have : (st0 fl N).map (fun e => e.1 % 4) = List.range N := by
      unfold st0
      rw [List.map_map]
      have : ∀ k ∈ List.range N, ((fun e : Nat × Nat => e.1 % 4) ∘ fun k => (k, fl.getD k 0)) k = id k := fun k hk => by
        rw [List.mem_range] at hk
        show k % 4 = k
        omega
      rw [List.map_congr_left this, List.map_id]
    rw [this]
  · obtain ⟨k, hk, rfl⟩ := List.mem_map.mp he
    rw [List.mem_range] at hk
    refine ⟨by show k < 8; omega, ?_⟩
    show fl.getD k 0 ≤ 44
    have := h6 (fl.getD k 0) (by rw [List.getD_eq_getElem?_getD, List.getElem?_eq_getElem (by omega)]; exact List.getElem_mem _)
    omega
theorem tot_le {B : Nat} : ∀ (N : Nat) (h : Hts), (∀ i, i < N → h i ≤ B) → tot N h ≤ N * B
  | 0, _, _ => Nat.zero_le _
  | N + 1, h, e => by
    rw [tot_succ, Nat.succ_mul]
    have h1 := tot_le N h fun i hi => e i (by omega)
    have h2 := e N (by omega)
    omega
section
variable {X : Cx} {A : Around} {σ : AH}
theorem SUB.base {value slice : Expr} {l : Addr} {items : Array Value} {ns : List Int} {k : Nat} {Q : PV → AH → Prop} (hl : X.base.IsList l items) (hi : items.toList.map pv = ns.map PV.int) (hk : (k : Int) < 2 ^ 63) (hlt : k < ns.length) (h : Q (.int (ns.getD k 0)) σ)
    (hs : (match slice with | .Slice .. => false | _ => true) = true := by rfl) : SUB X A value slice (.ref l) (.int (k : Nat)) σ Q := fun vo vi eo ei => WV.val (fun s R Q' hQ => by
  obtain ⟨t, rfl⟩ := pv_int ei
  rw [pv_ref eo]
  have hl' : s.heap.IsList l items := hl.at fun o e => R.base l o e
  have hlt' : k < items.size := by
    have := congrArg List.length hi
    simp at this; omega
  have hv : pv items[k] = .int (ns.getD k 0) := by
    have := congrArg (fun l => l[k]?) hi
    simp [hlt, hlt'] at this
    rw [this]
    simp [List.getD_eq_getElem?_getD, hlt]
  exact tail_any hl'.typeIs list_getitem_lookup (wpAny_getItem_list hl' (Int.natCast_nonneg _) hk (x := items[k]) (by simp [hlt']) (hQ _ s.toks hv)) (subscripted_plain hs _ _)) h
theorem startA {fm : FM} {L : Nat} {a sl : Addr} {ns : List Int} {items : Array Value} {F : AH} {n : Nat} (k : Kn2 X) (r : Rm A (n + 4)) (hl : X.base.IsList sl items) (hits : items.toList.map pv = ns.map PV.int) (hn : ns.length ≤ 63) {m : Str → Option PV} {Q : PF → AH → Prop}
    (G : Gd F σ L) (hL : σ L = some (.ns m)) (hc1 : σ (L + 1) = some (.cell (some (.ref sl))))
    (h : ∀ σ' F' FD, Gd F' σ' L → F.le F' → σ' L = some (.ns m) → σ' (L + 2) = some (.cell (some (.int (sizeQ ns.length : Nat)))) → σ' (L + 3) = some (.cell (some (.ref FD))) → F' FD = some (.list (nI (fstL ns))) →
      XS X A (lawEnv2 fm L a) (lawSrc2.body.drop 2) σ' Q) :
    XS X A (lawEnv2 fm L a) lawSrc2.body σ Q := by
  have hsize : items.size = ns.length := by
    have := congrArg List.length hits
    simpa using this
  have h4 := (sizeQ_le ns.length).2
  have hls : items.size ≤ sizeLine := by rw [hsize]; exact Nat.le_trans hn (by decide)
  refine XS.cons (EX.assign (EV.bin (EV.int (EV.callBi k.ok k.nMin k.bMin (EV.int (EV.bin (EV.callBi k.ok k.nLen k.bLen (EV.cell (c := L + 1) (by rfl) hc1 (CV.lenBase hl hls (EV.int (BIN.floordiv (by decide) (by decide) (CV.min2 r.hh (BIN.add ?_)))))))))))))
  have hval : (2 : Int) + (if ((items.size : Nat) : Int).fdiv 2 < 2 then ((items.size : Nat) : Int).fdiv 2 else 2) = (sizeQ ns.length : Nat) := by
    rw [hsize, Int.fdiv_eq_ediv_of_nonneg _ (by decide)]
    unfold sizeQ
    split <;> split <;> omega
  rw [hval]
  obtain ⟨u2, hu2⟩ := G.sc 2 (by decide) (by decide)
  refine ST.cell (c := L + 2) (by rfl) hu2 ?_
  have G1 := G.cell (j := 2) (by decide) (by decide) (p := some (.int (sizeQ ns.length : Nat)))
  have kp1 : ∀ b p, b ≠ L + 2 → σ b = some p → (σ.set (L + 2) (.cell (some (.int (sizeQ ns.length : Nat))))) b = some p := fun b p hb e => by rw [AH.set_ne _ _ hb]; exact e
  have L1 := kp1 _ _ (neLj (by decide)).symm hL
  have c11 := kp1 _ _ (neLL (by decide)) hc1
  have c12 : (σ.set (L + 2) (.cell (some (.int (sizeQ ns.length : Nat))))) (L + 2) = some (.cell (some (.int (sizeQ ns.length : Nat)))) := AH.set_self ..
  clear kp1 hu2 hL hc1 G
  generalize σ.set (L + 2) (.cell (some (.int (sizeQ ns.length : Nat)))) = τ at *
  refine XS.cons (EX.assign (EV.comp (cl := [(Str.ofString "script", L + 1)]) r.hh rfl (EV.callTy k.ok k.nRange k.bRange (EV.cell (c := L + 2) (by rfl) c12 (CV.range1 fun D hD hDb => ⟨sizeQ ns.length, _, _, fun C i acc σ' => σ' = τ.set D (.range 0 (sizeQ ns.length : Nat) 1) ∧ σ' C = none ∧ acc = nI ((List.range i).map (fstP ns)), ISRC.range (AH.set_self ..) ?_ ?_, Nat.le_trans h4 (by decide), fun C hC => ⟨rfl, (hC C (Nat.le_refl _)).1, rfl⟩, fun C i acc σ' hi h => ⟨h.2.1, trivial⟩, ?_, ?_⟩)))))
  · exact PySem.small_one (by omega) (by omega) (by omega) (by omega)
  · rw [rangeSize_nat]; simp
  · rintro C i acc σ' hC hi ⟨e1, hCn, e3⟩
    subst e3
    rw [e1] at hCn ⊢
    have ei : (0 : Int) + (i : Int) * 1 = (i : Nat) := by omega
    rw [ei]
    have kp : τ.le ((τ.set D (.range 0 (sizeQ ns.length : Nat) 1)).set C (nsx (Str.ofString "k") (some (.int (i : Nat))))) := fun b p e => by
      have e2 : (τ.set D (.range 0 (sizeQ ns.length : Nat) 1)) b = some p := by rw [AH.set_ne _ _ (fun z => by rw [z, hD] at e; cases e)]; exact e
      rw [AH.set_ne _ _ (fun z => by rw [z, hCn] at e2; cases e2)]; exact e2
    have wC : ((τ.set D (.range 0 (sizeQ ns.length : Nat) 1)).set C (nsx (Str.ofString "k") (some (.int (i : Nat))))) C = some (nsx (Str.ofString "k") (some (.int (i : Nat)))) := AH.set_self ..
    have wS := kp _ _ c11
    refine ⟨fun _ => ?_, fun h => (nomatch h)⟩
    have hend : ∀ {y : PV}, y = .int ((fstI ns i).fmod 7) → nI ((List.range i).map (fstP ns)) ++ [y] = nI ((List.range (i + 1)).map (fstP ns)) := by
      rintro y rfl
      rw [(fstP_int ns i).1, List.range_succ, List.map_append]
      show _ = (((List.range i).map (fstP ns)) ++ [fstP ns i]).map fun n => PV.int (n : Nat)
      rw [List.map_append]; rfl
    refine EV.bin (EV.ifexp (TS.cmp (EV.loc wC (by rfl) (EV.callBi k.ok k.nLen k.bLen (EV.cell (c := L + 1) (by rfl) wS (CV.lenBase hl hls (CMP.lt_i ⟨_, rfl, fun hc => ?_, fun hc => ?_⟩)))))))
    · have hlt : i < ns.length := by
        have h9 : ((i : Nat) : Int) < (items.size : Nat) := of_decide_eq_true hc
        omega
      have hf : fstI ns i = ns.getD i 0 := if_pos hlt
      refine EV.sub (EV.cell (c := L + 1) (by rfl) wS (EV.loc wC (by rfl) (SUB.base hl hits (by omega) hlt (EV.int (BIN.fmod (by decide) ?_)))))
      exact ⟨_, AH.le_refl _, rfl, hCn, hend (by rw [hf])⟩
    · have hge : ¬ i < ns.length := by
        have h9 : ¬ ((i : Nat) : Int) < (items.size : Nat) := of_decide_eq_false hc
        omega
      have hf : fstI ns i = (dfl.getD i 0 : Nat) := if_neg hge
      refine EV.sub (EV.list (EV.int (EV.int (EV.int (EV.int ⟨by show 4 ≤ sizeLine; decide, fun E hE _ => ?_⟩)))))
      have le2 := AH.le_setN (AH.le_refl ((τ.set D (.range 0 (sizeQ ns.length : Nat) 1)).set C (nsx (Str.ofString "k") (some (.int (i : Nat)))))) hE (p := .list (nI dfl))
      refine EV.loc (le2 _ _ wC) (by rfl) (SUB.list (p := .int (dfl.getD i 0 : Nat)) (AH.set_self ..) (by omega) (by omega) ?_ (EV.int (BIN.fmod (by decide) ?_)))
      · rw [Int.toNat_natCast]
        have : i = 0 ∨ i = 1 ∨ i = 2 ∨ i = 3 := by omega
        rcases this with z | z | z | z <;> rw [z] <;> rfl
      · exact ⟨_, le2, rfl, hCn, hend (by rw [hf])⟩
  · rintro C E acc σ' hE hEC ⟨e1, hCn, e3⟩ hEn
    subst e3
    rw [e1] at hEn ⊢
    have G2 := G1.put hD (p := .range 0 (sizeQ ns.length : Nat) 1)
    have nD := G1.ne hD
    have nE := G2.ne hEn
    have G3 := (G2.put hEn (p := .list (nI ((List.range (sizeQ ns.length)).map (fstP ns))))).freeze nE.1 nE.2.1 (AH.set_self ..)
    obtain ⟨u3, hu3⟩ := G3.sc 3 (by decide) (by decide)
    refine ST.cell (c := L + 3) (by rfl) hu3 ?_
    have kp : ∀ b p, b ≠ L + 3 → τ b = some p → (((τ.set D (.range 0 (sizeQ ns.length : Nat) 1)).set E (.list (nI ((List.range (sizeQ ns.length)).map (fstP ns))))).set (L + 3) (.cell (some (.ref E)))) b = some p := fun b p hb e => by
      have e2 : (τ.set D (.range 0 (sizeQ ns.length : Nat) 1)) b = some p := by rw [AH.set_ne _ _ (fun z => by rw [z, hD] at e; cases e)]; exact e
      rw [AH.set_ne _ _ hb, AH.set_ne _ _ (fun z => by rw [z, hEn] at e2; cases e2)]; exact e2
    exact h _ _ E (G3.cell (j := 3) (by decide) (by decide)) (AH.le_setN (AH.le_refl _) nE.2.2) (kp _ _ (neLj (by decide)).symm L1) (kp _ _ (neLL (by decide)) c12) (AH.set_self ..) (AH.set_self ..)
end
end Mine
end

section
open PySem PySem.W PyProof.Rows Builtin Builtin.Str
set_option maxRecDepth 100000
namespace Mine
section
variable {X : Cx} {A : Around} {σ : AH}
theorem startB {fm : FM} {L N FD : Nat} {a : Addr} {F : AH} {n : Nat} (k : Kn2 X) (r : Rm A (n + 4)) {m : Str → Option PV} {Q : PF → AH → Prop} {fl : List Nat} (hN : N ≤ 4) (hfl : fl.length = N) (h6 : ∀ x ∈ fl, x ≤ 6)
    (G : Gd F σ L) (hL : σ L = some (.ns m)) (h2 : σ (L + 2) = some (.cell (some (.int (N : Nat))))) (h3 : σ (L + 3) = some (.cell (some (.ref FD)))) (hFD : F FD = some (.list (nI fl)))
    (h : ∀ σ' m' x l, Ls F σ' L m' N FD x k.C l (st0 fl N) → XS X A (lawEnv2 fm L a) (lawSrc2.body.drop 5) σ' Q) :
    XS X A (lawEnv2 fm L a) (lawSrc2.body.drop 2) σ Q := by
  have r2 : Rm A (n + 2) := r.up (by omega)
  refine XS.cons (EX.assign (EV.newHeaders k.toKnF.toKnH r2 hL fun σ1 x l hle hl0 hx0 hl1 I1 => ?_))
  have G1 := G.more hle
  have lF := (G.ne hl0).2.2
  obtain ⟨u4, hu4⟩ := G1.sc 4 (by decide) (by decide)
  refine ST.cell (c := L + 4) (by rfl) hu4 ?_
  have G2 := G1.cell (j := 4) (by decide) (by decide) (p := some (.ref x))
  have kp : ∀ b p, b ≠ L + 4 → σ b = some p → (σ1.set (L + 4) (.cell (some (.ref x)))) b = some p := fun b p hb e => by rw [AH.set_ne _ _ hb]; exact hle _ _ e
  have L2 := kp _ _ (neLj (by decide)).symm hL
  have c2 := kp _ _ (neLL (by decide)) h2
  have c3 := kp _ _ (neLL (by decide)) h3
  have c4 : (σ1.set (L + 4) (.cell (some (.ref x)))) (L + 4) = some (.cell (some (.ref x))) := AH.set_self ..
  have T2 : Tab (σ1.set (L + 4) (.cell (some (.ref x)))) x k.C l (tabS (st0 fl 0)) := (Tab.nil I1 hl1).lat (Lat.cell hu4)
  clear kp hu4 I1 hl1 hx0
  generalize σ1.set (L + 4) (.cell (some (.ref x))) = τ at *
  refine XS.cons (EX.forRange r.hh (EV.callTy k.ok k.nRange k.bRange (EV.cell (c := L + 2) (by rfl) c2 (CV.range1 fun D hD hDb => ⟨D, 0, N, 1, N, fun i σ' => ∃ m', Gd F σ' L ∧ σ' L = some (.ns m') ∧ σ' (L + 2) = some (.cell (some (.int (N : Nat)))) ∧ σ' (L + 3) = some (.cell (some (.ref FD))) ∧ σ' (L + 4) = some (.cell (some (.ref x))) ∧ Tab σ' x k.C l (tabS (st0 fl i)), rfl, AH.set_self .., PySem.small_one (by omega) (by omega) (by omega) (by omega), ?_, ?_, ?_, ?_⟩))))
  · rw [rangeSize_nat]; simp
  · have hDs := AH.le_setN (AH.le_refl τ) hD (p := .range 0 N 1)
    exact ⟨m, G2.put hD, hDs _ _ L2, hDs _ _ c2, hDs _ _ c3, hDs _ _ c4, T2.le hDs⟩
  · rintro i σ' hi ⟨m', G', L', d2, d3, d4, T'⟩
    have ei : (0 : Int) + (i : Int) * 1 = (i : Nat) := by omega
    rw [ei]
    refine ASG.name (ST.at L' ?_)
    have G3 := G'.loc (m := upd m' (Str.ofString "k") (.int (i : Nat)))
    have L3 : (σ'.set L (.ns (upd m' (Str.ofString "k") (.int (i : Nat))))) L = some (.ns (upd m' (Str.ofString "k") (.int (i : Nat)))) := AH.set_self ..
    have b3 : upd m' (Str.ofString "k") (.int (i : Nat)) (Str.ofString "k") = some (.int (i : Nat)) := rfl
    have e2 : (σ'.set L (.ns (upd m' (Str.ofString "k") (.int (i : Nat))))) (L + 2) = _ := (AH.set_ne _ _ (neLj (by decide))).trans d2
    have e3 : (σ'.set L (.ns (upd m' (Str.ofString "k") (.int (i : Nat))))) (L + 3) = _ := (AH.set_ne _ _ (neLj (by decide))).trans d3
    have e4 : (σ'.set L (.ns (upd m' (Str.ofString "k") (.int (i : Nat))))) (L + 4) = _ := (AH.set_ne _ _ (neLj (by decide))).trans d4
    have T3 := T'.lat (Lat.ns (m' := upd m' (Str.ofString "k") (.int (i : Nat))) L')
    generalize upd m' (Str.ofString "k") (.int (i : Nat)) = m3 at *
    generalize σ'.set L (.ns m3) = υ at *
    have hil : i < fl.length := by omega
    have hv : fl.getD i 0 ≤ 6 := by
      rw [List.getD_eq_getElem?_getD, List.getElem?_eq_getElem hil]; exact h6 _ (List.getElem_mem _)
    obtain ⟨g1, g2⟩ := abcd2_at i (by omega)
    refine XS.cons (EX.expr (EV.methI k.kin k.cl k.mAdd (EV.cell (c := L + 4) (by rfl) e4 ⟨x, l, rfl, T3.ins, ?_⟩)))
    refine EV.sub (EV.str (EV.loc L3 b3 (SUB.str (c := 97 + i) (by omega) (by omega) (by simpa using g1) ?_)))
    refine EV.bin (EV.str (EV.sub (EV.cell (c := L + 3) (by rfl) e3 (EV.loc L3 b3 (SUB.list (G3.le _ _ hFD) (by omega) (by omega) (nI_getD hil) (BIN.mulStr (by decide +kernel) (by omega) (by omega) ?_))))))
    rw [g2]
    refine CV.add k.toKnF.toKnH r2 (vl := oS (fl.getD i 0 : Nat)) T3 (nmC_ok i (by omega)).2.2 (oS_ok _ (by omega)) (by simp [tabS, st0]; omega) fun σ4 hb T4 => ⟨fun a => by simp, XS.nil ?_⟩
    have hls : ∃ vs, υ l = some (.list vs) := by obtain ⟨ts, e, _⟩ := T3.lst; exact ⟨_, e⟩
    refine ⟨m3, G3.but hb hls lF, hb.kp T3 L3 (by simp), hb.kp T3 e2 (by simp), hb.kp T3 e3 (by simp), hb.kp T3 e4 (by simp), ?_⟩
    rw [st0_succ]
    have : tabS (st0 fl i ++ [(i, fl.getD i 0)]) = tabS (st0 fl i) ++ [(nmC i, oS (fl.getD i 0 : Nat))] := by unfold tabS; rw [List.map_append]; rfl
    rw [this]; exact T4
  · rintro σ' ⟨m', G', L', d2, d3, d4, T'⟩
    have S : Ls F σ' L m' N FD x k.C l (st0 fl N) := ⟨G', L', d2, d3, d4, T', wf_st0 hN hfl h6, lF⟩
    refine XS.cons (EX.assign (EV.list ⟨Nat.zero_le _, fun D hD _ => ?_⟩))
    have S2 := S.more (AH.le_setN (AH.le_refl _) hD (p := .list []))
    exact ST.at S2.ns (h _ _ x l S2.loc)
def cellL4 (L : Nat) : List (Str × Addr) := [(Str.ofString "pile", L + 4), (Str.ofString "first", L + 3), (Str.ofString "count", L + 2), (Str.ofString "script", L + 1)]
theorem cell4_L (τ : AH) (L : Nat) (cm : Str → Option PV) : setCells τ (cellL4 L) cm L = τ L := by
  show ((((τ.set _ _).set _ _).set _ _).set _ _) L = _
  rw [AH.set_ne _ _ (neLj (by decide)).symm, AH.set_ne _ _ (neLj (by decide)).symm, AH.set_ne _ _ (neLj (by decide)).symm, AH.set_ne _ _ (neLj (by decide)).symm]
theorem cell4_1 (τ : AH) (L : Nat) (cm : Str → Option PV) : setCells τ (cellL4 L) cm (L + 1) = some (.cell (cm (Str.ofString "script"))) := by
  show ((((τ.set _ _).set _ _).set _ _).set _ _) (L + 1) = _
  rw [AH.set_ne _ _ (neLL (by decide)), AH.set_ne _ _ (neLL (by decide)), AH.set_ne _ _ (neLL (by decide)), AH.set_self]
theorem setCells_is {σ : AH} {b : Addr} {cm : Str → Option PV} : ∀ {cs : List (Str × Addr)}, (∃ n, (n, b) ∈ cs) → ∃ v, setCells σ cs cm b = some (.cell v)
  | [], ⟨n, h⟩ => nomatch h
  | (n, c) :: r, ⟨n', h⟩ => by
    unfold setCells
    by_cases hb : b = c
    · subst hb; exact ⟨_, AH.set_self ..⟩
    · rw [AH.set_ne _ _ hb]
      refine setCells_is ⟨n', ?_⟩
      rcases List.mem_cons.mp h with e | e
      · cases e; exact absurd rfl hb
      · exact e
theorem cell4_j (τ : AH) (L : Nat) (cm : Str → Option PV) (j : Nat) (h1 : 1 ≤ j) (h2 : j ≤ 4) : ∃ v, setCells τ (cellL4 L) cm (L + j) = some (.cell v) := by
  refine setCells_is ?_
  have : j = 1 ∨ j = 2 ∨ j = 3 ∨ j = 4 := by omega
  rcases this with rfl | rfl | rfl | rfl <;> exact ⟨_, by unfold cellL4; simp only [List.mem_cons, Prod.mk.injEq, Nat.add_left_cancel_iff]; simp; rfl⟩
theorem CC.law2 {fa sl : Addr} {fm : FM} {ns : List Int} {items : Array Value} {n : Nat} (k : Kn2 X) (r : Rm A (n + 5)) (fn : Fn X fa lawSrc2 fm) (hl : X.base.IsList sl items) (hits : items.toList.map pv = ns.map PV.int) (hn : ns.length ≤ 63) :
    CC X A (.ref fa) ⟨[.ref sl], []⟩ σ (fun v _ => v = .bool true) := by
  obtain ⟨⟨o, ho, hd⟩, hc⟩ := fn
  obtain ⟨hN2, hN⟩ := sizeQ_le ns.length
  have hfl : (fstL ns).length = sizeQ ns.length := by simp [fstL]
  have h6 : ∀ x ∈ fstL ns, x ≤ 6 := fun x hx => by
    obtain ⟨i, _, rfl⟩ := List.mem_map.mp hx
    exact (fstP_int ns i).2
  refine CC.defC k.ok r ho hd hc rfl rfl (fun L p hp => ?_) (bind_eq (binds := [(Str.ofString "script", .ref sl)]) (by rfl) ⟨fun L y hy => ?_, fun L hL rL => ?_⟩)
  · have hp' : p ∈ cellL4 L := hp
    simp only [cellL4, List.mem_cons, List.not_mem_nil, or_false] at hp'
    rcases hp' with rfl | rfl | rfl | rfl <;> rfl
  · rw [List.mem_singleton.mp hy]
    exact .inr ⟨rfl, rfl⟩
  have r1 : Rm (A.deeper (lawEnv2 fm L fa)) (n + 4) := rL
  have hb : ∀ (S : AH) (m : Str → Option PV), S L = some (.ns m) → S (L + 1) = some (.cell (some (.ref sl))) → (∀ j : Nat, 1 ≤ j → j ≤ 4 → ∃ v, S (L + j) = some (.cell v)) →
      XS X (A.deeper (lawEnv2 fm L fa)) (lawEnv2 fm L fa) lawSrc2.body S fun f σ₂ => rt f = .bool true := by
    intro S m hS h1 hj
    refine startA (F := fun _ => none) k r1 hl hits hn ⟨fun b p e => (nomatch e), rfl, fun _ _ _ => rfl, ⟨m, hS⟩, hj⟩ hS h1 fun σ1 F1 FD G1 f1 L1 c12 c13 hFD => ?_
    refine startB k r1 hN hfl h6 G1 L1 c12 c13 hFD fun σ2 m2 x l S2 => ?_
    generalize sizeQ ns.length = N at *
    generalize fstL ns = fl at *
    have hF0 : ∀ i, i < N → hF (st0 fl N) i = fl.getD i 0 := fun i hi => by unfold hF; rw [getH_st0 fl N hN i hi]; rfl
    have ht : tot N (hF (st0 fl N)) ≤ 24 := by
      have h7 := tot_le (B := 6) N (hF (st0 fl N)) fun i hi => by
        rw [hF0 i hi, List.getD_eq_getElem?_getD, List.getElem?_eq_getElem (by omega)]; exact h6 _ (List.getElem_mem _)
      omega
    have hbt : Btw N 0 (fun i => fl.getD i 0) (hF (st0 fl N)) := ⟨⟨fun _ => false, fun P ⟨i, hi, hp⟩ ha => absurd (ha i hi hp) (by simp), fun _ _ _ => Nat.zero_le _⟩, ⟨0, fun i hi => by rw [hF0 i hi]; rfl⟩⟩
    refine XS.cons (roundsLoop k r1 hN hN2 S2 ht hbt (fun σ3 m3 F3 BD st3 S3 f3 b3 hBD hbu hst hre => ?_) rfl)
    refine XS.cons (heightStep k r1 hN S3 (fun σ4 F4 HD S4 f4 hHD => ?_) rfl)
    refine XS.cons (rowsStep k r1 hN S4 hfl (f4 _ _ (f3 _ _ hFD)) (fun σ5 RD ts S5 hRD hts => ?_) rfl)
    refine XS.cons (takenStep k r1 hN S5 rfl hRD hts (by simp [rowsP]; omega) (fun q hq => rowsP_mem hq hN hfl) (taken_eq hN2 hN hfl hbu hst hre) (fun σ6 TD t S6 hTD htt => ?_) rfl)
    exact XS.cons (retStep k r1 S6 (by rw [upd_ne _ _ (by decide +kernel), upd_ne _ _ (by decide +kernel), upd_ne _ _ (by decide +kernel)]; exact b3) (f4 _ _ hBD) (by rw [upd_ne _ _ (by decide +kernel), upd_ne _ _ (by decide +kernel)]; rfl) hHD rfl hTD htt (fun _ => rfl) rfl)
  show XS X _ _ lawSrc2.body (setCells (σ.set L (.ns _)) (cellL4 L) _) _
  refine hb _ _ ((cell4_L ..).trans (AH.set_self ..)) ((cell4_1 ..).trans ?_) (cell4_j _ _ _)
  rfl
end
end Mine
end

section
open PySem PySem.W PyProof.Rows Builtin Builtin.Str
set_option maxRecDepth 100000
namespace Mine
structure Fx2 (K : Frag) (aG aH aR aL : Addr) : Prop where
  fG : FnK K aG grainsSrc .none .none
  gG : globAt K (Str.ofString "_law_grains") = some (.ref aG)
  fH : FnK K aH highSrc .none .none
  gH : globAt K (Str.ofString "_law_high") = some (.ref aH)
  fR : FnK K aR rowSrc2 .none .none
  gR : globAt K (Str.ofString "_law_row") = some (.ref aR)
  fL : FnK K aL lawSrc2 .none .none
  gL : globAt K (Str.ofString "law") = some (.ref aL)
  nRange : globAt K (Str.ofString "range") = none
  nMin : globAt K (Str.ofString "min") = none
def kn2 {X : Cx} {K : Frag} {aG aH aR aL : Addr} (kx : K.In X.base) (O : X.Ok) (hb : ∀ x : Str, x ≠ "__name__" → X.mb x = bootBuiltins x) (k : KnF X) (f : Fx2 K aG aH aR aL) : Kn2 X where
  toKnF := k
  aG := aG
  mG := fmAt K aG
  fG := f.fG.go kx
  gG := globAt_mg kx O.g f.gG (by simp)
  aH := aH
  mH := fmAt K aH
  fH := f.fH.go kx
  gH := globAt_mg kx O.g f.gH (by simp)
  aR := aR
  mR := fmAt K aR
  fR := f.fR.go kx
  gR := globAt_mg kx O.g f.gR (by simp)
  nRange := globAt_mg kx O.g f.nRange (by simp)
  bRange := (hb _ (by decide +kernel)).trans (by kernel_rfl)
  nMin := globAt_mg kx O.g f.nMin (by simp)
  bMin := (hb _ (by decide +kernel)).trans (by kernel_rfl)
theorem ints_pv {vs : List Value} {ns : List Int} (h : IntsAre vs ns) : vs.map pv = ns.map PV.int := by
  induction h with
  | nil => rfl
  | cons n t h ih => rw [List.map_cons, List.map_cons, ih]; rfl
/-- the way from the run to the statement's own end -/
theorem end_of {prog : Program} {w : World} {s₁ : Shared} {mg mb : Str → Option Value} {f sl : Addr} {c : ClaimW} {cl : Str → Option Addr} {mean : ExcName → Option Value} {args : List WData}
    (hg : s₁.gens = #[]) (htk : 615 ≤ s₁.toks) (h : CC ⟨prog, w, s₁.heap, s₁.os, mg, mb⟩ callerA (.ref f) ⟨[.ref sl], []⟩ (fun _ => none) (fun v _ => v = .bool true))
    (hr : ∀ cls, c.raises args cls = false) (hp : c.post args (.bool true) args = true) :
    wpAny (model prog w) callerA (call (.ref f) [.ref sl]) (fun v s' => GoodWG c cl mean args s₁ (.ok (.ret v)) s') (fun e s' => GoodWG c cl mean args s₁ (.error e) s') s₁ := by
  have R : Real ⟨prog, w, s₁.heap, s₁.os, mg, mb⟩ (fun _ => none) s₁ := ⟨fun _ _ e => (nomatch e), fun _ _ e => e, fun _ _ e => (nomatch e), .of_eq hg, rfl, by omega⟩
  refine wpAny_mono ((CC.wv h).run s₁ R) (fun v s' ⟨σ', R', _, e⟩ => ?_) fun _ _ x => x.elim
  rw [pv_bool e]
  exact ⟨.inl ⟨_, _, [], rfl, hr, ReadsW.bool true, hp, fun _ => ⟨List.nodup_nil, fun _ hm => (nomatch hm)⟩⟩, .of_keep R'.base, R'.os, R'.gens⟩
theorem rm_caller : Rm callerA (0 + 5) := ⟨rfl, by decide, by decide, ⟨_, rfl⟩⟩
theorem finish2 {prog q : Program} {w : World} {s₁ : Shared} {loose : List Str} {mean : ExcName → Option Value} {mg mb : Str → Option Value} {K : Frag} {fa sl : Addr} {ns : List Int} {items : List Value} {c : ClaimW} {cl : Str → Option Addr} {mean' : ExcName → Option Value} {args : List WData}
    {aE aS aC aF C dI dG dF pN pV i1 i2 i3 i4 i5 i6 i7 i8 aG aH aR aL : Addr}
    (T : Top q loose mean mg mb s₁.heap) (KX : K.In s₁.heap) (hg : s₁.gens = #[]) (htk : 615 ≤ s₁.toks) (hmg : mg (Str.ofString "law") = some (.ref fa)) (hL : s₁.heap.IsList sl items.toArray) (hI : IntsAre items ns) (hlen : ns.length ≤ 63)
    (f : FxF K aE aS aC aF C dI dG dF pN pV i1 i2 i3 i4 i5 i6 i7 i8) (g : Fx2 K aG aH aR aL) (hr : ∀ cls, c.raises args cls = false) (hp : c.post args (.bool true) args = true) :
    wpAny (model prog w) callerA (call (.ref fa) [.ref sl]) (fun v s' => GoodWG c cl mean' args s₁ (.ok (.ret v)) s') (fun e s' => GoodWG c cl mean' args s₁ (.error e) s') s₁ := by
  have O : Cx.Ok ⟨prog, w, s₁.heap, s₁.os, mg, mb⟩ := ⟨T.g, T.b, T.nolimit⟩
  have e : mg (Str.ofString "law") = some (.ref aL) := globAt_mg (X := ⟨prog, w, s₁.heap, s₁.os, mg, mb⟩) KX T.g g.gL (by simp)
  have : fa = aL := by rw [hmg] at e; cases e; rfl
  subst this
  have k1 := kn2 (X := ⟨prog, w, s₁.heap, s₁.os, mg, mb⟩) KX O T.builtins (knF (X := ⟨prog, w, s₁.heap, s₁.os, mg, mb⟩) KX O T.builtins f) g
  exact end_of hg htk (CC.law2 k1 rm_caller (FnK.go (X := ⟨prog, w, s₁.heap, s₁.os, mg, mb⟩) KX g.fL) hL (by simpa using ints_pv hI) hlen) hr hp
end Mine
end

open PySem PySem.W PySem.W.X PySem.W.ZRun PyProof.Rows
set_option maxRecDepth 100000 in
set_option maxHeartbeats 8000000 in
theorem PySem.Challenge.cw_pg0245_02_holds : PySem.Challenge.rw_pg0245_02.Holds := by
  w_on; o_law; z_head
  case hw => w_witness2
  k_fill
  intro w s₀ s₁ mg mb G y fa o pm cd doc dV kV ho hd hcd hD hmg hg args vals as L hpre hlay hrd hwl hlo
  z_open y L KX ZH ZN ZT
  refine Ground.open G ?_
  intro T B D TE TW
  wrow_args hpre hlay hrd hwl hlo
  obtain ⟨hat, hsz⟩ := script_at L
  have htk := script_toks L ZT
  rw [ZN] at hat hsz
  subst hat
  refine Mine.finish2 (aE := 45) (aS := 52) (aC := 59) (aF := 82) (C := 203) (dI := 90) (dG := 143) (dF := 75) (pN := 69) (pV := 74) (i1 := 97) (i2 := 104) (i3 := 118) (i4 := 123) (i5 := 142) (i6 := 150) (i7 := 155) (i8 := 200) (aG := 214) (aH := 219) (aR := 224) (aL := 229) T KX hg htk hmg ‹Heap.IsList _ _ _› ‹IntsAre _ _› (by omega) ?f1 ?f2 (fun _ => rfl) ?f3
  case f1 => exact ⟨by kernel_rfl, by kernel_rfl, by kernel_rfl, by kernel_rfl, by kernel_rfl, by kernel_rfl, by kernel_rfl, ⟨by kernel_rfl, by kernel_rfl⟩, ⟨by kernel_rfl, by kernel_rfl⟩, ⟨by kernel_rfl, by kernel_rfl⟩, ⟨by kernel_rfl, by kernel_rfl⟩, by kernel_rfl, by kernel_rfl, by kernel_rfl, by kernel_rfl, by kernel_rfl, by kernel_rfl, by kernel_rfl, by kernel_rfl, by kernel_rfl, by kernel_rfl, by kernel_rfl, by kernel_rfl, by kernel_rfl, by kernel_rfl, by kernel_rfl, by kernel_rfl, by kernel_rfl, by kernel_rfl, ⟨⟨by kernel_rfl, by kernel_rfl⟩, by kernel_rfl, by kernel_rfl⟩, ⟨⟨by kernel_rfl, by kernel_rfl⟩, by kernel_rfl, by kernel_rfl⟩, ⟨⟨by kernel_rfl, by kernel_rfl⟩, by kernel_rfl, by kernel_rfl⟩, ⟨⟨by kernel_rfl, by kernel_rfl⟩, by kernel_rfl, by kernel_rfl⟩, ⟨⟨by kernel_rfl, by kernel_rfl⟩, by kernel_rfl, by kernel_rfl⟩, ⟨⟨by kernel_rfl, by kernel_rfl⟩, by kernel_rfl, by kernel_rfl⟩, ⟨⟨by kernel_rfl, by kernel_rfl⟩, by kernel_rfl, by kernel_rfl⟩, ⟨⟨by kernel_rfl, by kernel_rfl⟩, by kernel_rfl, by kernel_rfl⟩, by kernel_rfl, by kernel_rfl, by kernel_rfl⟩
  case f2 => exact ⟨⟨by kernel_rfl, by kernel_rfl⟩, by kernel_rfl, ⟨by kernel_rfl, by kernel_rfl⟩, by kernel_rfl, ⟨by kernel_rfl, by kernel_rfl⟩, by kernel_rfl, ⟨by kernel_rfl, by kernel_rfl⟩, by kernel_rfl, by kernel_rfl, by kernel_rfl⟩
  case f3 => first | rfl | wrow_post
