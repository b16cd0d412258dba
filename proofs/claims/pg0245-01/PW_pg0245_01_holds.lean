import PyProof.Rows.All
import Wide.All
import OpenK.AllK
import Wide.FinOn
import Lean
import PySem.Challenge.RW_pg0245_01
set_option Elab.async false
set_option linter.unusedVariables false

section
open PySem PySem.W PyProof.Rows
namespace Mine

inductive PV where
  | int (i : Int) | str (s : Str) | bool (b : Bool) | none | ref (a : Addr) | raw (v : Value)
  deriving DecidableEq

def pv : Value → PV
  | .int i _ => .int i
  | .str s _ => .str s
  | .bool b => .bool b
  | .none => .none
  | .ref a => .ref a
  | v => .raw v
theorem pv_int {v : Value} {i : Int} (h : pv v = .int i) : ∃ t, v = .int i t := by
  cases v <;> simp [pv] at h; subst h; exact ⟨_, rfl⟩
theorem pv_str {v : Value} {i : Str} (h : pv v = .str i) : ∃ t, v = .str i t := by
  cases v <;> simp [pv] at h; subst h; exact ⟨_, rfl⟩
theorem pv_bool {v : Value} {b : Bool} (h : pv v = .bool b) : v = .bool b := by
  cases v <;> simp [pv] at h; subst h; rfl
theorem pv_none {v : Value} (h : pv v = .none) : v = .none := by
  cases v <;> simp [pv] at h; rfl
theorem pv_ref {v : Value} {a : Addr} (h : pv v = .ref a) : v = .ref a := by
  cases v <;> simp [pv] at h; subst h; rfl
theorem pv_raw {v u : Value} (h : pv v = .raw u) : v = u := by
  cases v <;> simp [pv] at h <;> exact h

inductive PO where
  | list (vs : List PV) | tuple (vs : List PV) | inst (C dx : Addr) | ns (m : Str → Option PV) | cell (v : Option PV) | range (a b c : Int) | obj (o : Obj)

def Rz (h : Heap) (a : Addr) : PO → Prop
  | .list vs => ∃ vals, h.PlainList a vals ∧ vals.toList.map pv = vs
  | .tuple vs => ∃ vals, h.IsTuple a vals ∧ vals.toList.map pv = vs
  | .inst C dx => h.get? a = some (instObj C dx)
  | .ns m => ∃ m', h.Ns a m' ∧ ∀ x, (m' x).map pv = m x
  | .cell v => ∃ o u, h.get? a = some o ∧ o.data = .cell u ∧ u.map pv = v
  | .range x y z => ∃ t u v, IsRange h a x y z t u v
  | .obj o => h.get? a = some o

theorem Rz.keep {h h' : Heap} {a : Addr} {p : PO} (r : Rz h a p) (hk : ∀ o, h.get? a = some o → h'.get? a = some o) : Rz h' a p := by
  cases p with
  | list vs => obtain ⟨v, hp, e⟩ := r; exact ⟨v, hp.at hk, e⟩
  | tuple vs => obtain ⟨v, ⟨o, ho, r⟩, e⟩ := r; exact ⟨v, ⟨o, hk _ ho, r⟩, e⟩
  | inst C dx => exact hk _ r
  | ns m => obtain ⟨m', hn, e⟩ := r; exact ⟨m', hn.at' hk, e⟩
  | cell v => obtain ⟨o, u, ho, hd, e⟩ := r; exact ⟨o, u, hk _ ho, hd, e⟩
  | range x y z => obtain ⟨t, u, v, e⟩ := r; exact ⟨t, u, v, hk _ e⟩
  | obj o => exact hk _ r
theorem Rz.there {h : Heap} {a : Addr} {p : PO} (r : Rz h a p) : ∃ o, h.get? a = some o := by
  cases p with
  | list vs => obtain ⟨v, ⟨n, hp⟩, e⟩ := r; exact ⟨_, hp⟩
  | tuple vs => obtain ⟨v, ⟨o, ho, _⟩, e⟩ := r; exact ⟨_, ho⟩
  | inst C dx => exact ⟨_, r⟩
  | ns m => obtain ⟨m', ⟨o, _, _, hn, _⟩, e⟩ := r; exact ⟨o, hn⟩
  | cell v => obtain ⟨o, u, ho, hd, e⟩ := r; exact ⟨o, ho⟩
  | range x y z => obtain ⟨t, u, v, e⟩ := r; exact ⟨_, e⟩
  | obj o => exact ⟨_, r⟩

abbrev AH := Addr → Option PO
def AH.set (σ : AH) (a : Addr) (p : PO) : AH := fun b => if b = a then some p else σ b
@[simp] theorem AH.set_self (σ : AH) (a : Addr) (p : PO) : σ.set a p a = some p := by simp [AH.set]
theorem AH.set_ne (σ : AH) {a b : Addr} (p : PO) (h : b ≠ a) : σ.set a p b = σ b := by simp [AH.set, h]
def AH.le (σ τ : AH) : Prop := ∀ a p, σ a = some p → τ a = some p
theorem AH.le_refl (σ : AH) : σ.le σ := fun _ _ e => e
theorem AH.le_trans {σ τ υ : AH} (x : σ.le τ) (y : τ.le υ) : σ.le υ := fun a p e => y a p (x a p e)

structure Cx where
  prog : Program
  w : World
  base : Heap
  os : OsState
  mg : Str → Option Value
  mb : Str → Option Value
structure Cx.Ok (X : Cx) : Prop where
  g : X.base.Ns mainGlobals X.mg
  b : X.base.Ns builtinsNs X.mb
  lim : X.base.NoLimit

structure Real (X : Cx) (σ : AH) (s : Shared) : Prop where
  rz : ∀ a p, σ a = some p → Rz s.heap a p
  base : ∀ b o, X.base.get? b = some o → s.heap.get? b = some o
  apart : ∀ a p, σ a = some p → X.base.get? a = none
  gens : AllBare s.gens
  os : s.os = X.os
  tk : 1 ≤ s.toks

structure Step (σ : AH) (s : Shared) (σ' : AH) (s' : Shared) : Prop where
  keep : ∀ b o, σ b = none → s.heap.get? b = some o → s'.heap.get? b = some o
  fresh : ∀ b p, σ' b = some p → (∃ q, σ b = some q) ∨ s.heap.get? b = none
  gens : ∀ i : Nat, i < s.gens.size → s'.gens[i]? = s.gens[i]?
  gsize : s.gens.size ≤ s'.gens.size
theorem Step.refl (σ : AH) (s : Shared) : Step σ s σ s := ⟨fun _ _ _ e => e, fun b p e => .inl ⟨p, e⟩, fun _ _ => rfl, Nat.le_refl _⟩
theorem Step.trans {σ σ' σ'' : AH} {s s' s'' : Shared} (x : Step σ s σ' s') (y : Step σ' s' σ'' s'') : Step σ s σ'' s'' := by
  refine ⟨fun b o hb e => ?_, fun b p e => ?_, fun i hi => ?_, Nat.le_trans x.gsize y.gsize⟩
  · cases h : σ' b with
    | none => exact y.keep b o h (x.keep b o hb e)
    | some p =>
      rcases x.fresh b p h with ⟨q, hq⟩ | hn
      · rw [hb] at hq; cases hq
      · rw [e] at hn; cases hn
  · rcases y.fresh b p e with ⟨q, hq⟩ | hn
    · exact x.fresh b q hq
    · cases h : σ b with
      | some q => exact .inl ⟨q, rfl⟩
      | none =>
        cases h2 : s.heap.get? b with
        | none => exact .inr rfl
        | some o => rw [x.keep b o h h2] at hn; cases hn
  · rw [y.gens i (Nat.lt_of_lt_of_le hi x.gsize), x.gens i hi]

theorem Real.le {X : Cx} {σ τ : AH} {s : Shared} (R : Real X τ s) (h : σ.le τ) : Real X σ s :=
  ⟨fun a p e => R.rz a p (h a p e), R.base, fun a p e => R.apart a p (h a p e), R.gens, R.os, R.tk⟩
theorem Step.le {σ σ₁ σ₂ : AH} {s s' : Shared} (x : Step σ s σ₁ s') (h : σ₂.le σ₁) : Step σ s σ₂ s' :=
  ⟨x.keep, fun b p e => x.fresh b p (h b p e), x.gens, x.gsize⟩
theorem Step.pre {σ σ₁ τ : AH} {s s' : Shared} (x : Step σ s σ₁ s') (h : σ.le τ) : Step τ s σ₁ s' :=
  ⟨fun b o hb e => x.keep b o (by cases q : σ b with | none => rfl | some p => rw [h b p q] at hb; cases hb) e,
   fun b p e => (x.fresh b p e).imp (fun ⟨q, hq⟩ => ⟨q, h b q hq⟩) id, x.gens, x.gsize⟩
theorem Real.toks {X : Cx} {σ : AH} {s : Shared} (R : Real X σ s) (n : Nat) (h : 1 ≤ n) : Real X σ { s with toks := n } := ⟨R.rz, R.base, R.apart, R.gens, R.os, h⟩
theorem Real.tick {X : Cx} {σ : AH} {s : Shared} (R : Real X σ s) (n : Nat) : Real X σ { s with toks := n + 1 } := R.toks _ (Nat.succ_le_succ (Nat.zero_le _))
theorem Step.toks (σ : AH) (s : Shared) (n : Nat) : Step σ s σ { s with toks := n } := ⟨fun _ _ _ e => e, fun b p e => .inl ⟨p, e⟩, fun _ _ => rfl, Nat.le_refl _⟩

theorem with_tk {α : Type} {M : Model} {A : Around} {t : Sem α} {Q : α → Shared → Prop} {s : Shared} {n : Nat} (hn : n ≤ s.toks) (h : wpAny M A t (fun a s' => n ≤ s'.toks → Q a s') (fun _ _ => False) s) :
    wpAny M A t Q (fun _ _ => False) s := wpAny_with_toks hn (wpAny_mono h (fun _ _ x => x) fun _ _ x => x.elim)

structure WP (X : Cx) (A : Around) {α : Type} (t : Sem α) (σ : AH) (Q : α → AH → Prop) : Prop where
  run : ∀ s, Real X σ s → wpAny (model X.prog X.w) A t (fun a s' => ∃ σ', Real X σ' s' ∧ Step σ s σ' s' ∧ Q a σ') (fun _ _ => False) s
theorem WP.of {X : Cx} {A : Around} {α : Type} {t : Sem α} {σ : AH} {Q : α → AH → Prop} (h : ∀ s, Real X σ s → wpAny (model X.prog X.w) A t (fun a s' => ∃ σ', Real X σ' s' ∧ Step σ s σ' s' ∧ Q a σ') (fun _ _ => False) s) : WP X A t σ Q := ⟨h⟩

section
variable {X : Cx} {A : Around} {α β : Type} {σ σ₀ : AH} {s s₀ : Shared}
theorem WP.go {t : Sem α} {Q : α → AH → Prop} {Q' : α → Shared → Prop} (h : WP X A t σ Q) (R : Real X σ s) (S : Step σ₀ s₀ σ s)
    (hQ : ∀ a σ' s', Real X σ' s' → Step σ₀ s₀ σ' s' → Q a σ' → Q' a s') : wpAny (model X.prog X.w) A t Q' (fun _ _ => False) s :=
  wpAny_mono (h.run s R) (fun a s' ⟨σ', R', S', q⟩ => hQ a σ' s' R' (S.trans S') q) fun _ _ x => x
theorem WP.mono {t : Sem α} {Q Q' : α → AH → Prop} (h : WP X A t σ Q) (hQ : ∀ a σ', Q a σ' → Q' a σ') : WP X A t σ Q' :=
  WP.of fun s R => h.go R (Step.refl σ s) fun a σ' s' R' S' q => ⟨σ', R', S', hQ a σ' q⟩
theorem WP.post {t : Sem α} {Q Q' : α → AH → Prop} (h : WP X A t σ Q) (hQ : ∀ a σ', Q a σ' → ∃ σ'', AH.le σ'' σ' ∧ Q' a σ'') : WP X A t σ Q' :=
  WP.of fun s R => h.go R (Step.refl σ s) fun a σ' s' R' S' q => let ⟨σ'', l, q'⟩ := hQ a σ' q; ⟨σ'', R'.le l, S'.le l, q'⟩
theorem WP.bind {m : Sem α} {k : α → Sem β} {Q : β → AH → Prop} (h : WP X A m σ fun a σ' => WP X A (k a) σ' Q) : WP X A (m >>= k) σ Q :=
  WP.of fun s R => wpAny_bind (h.go R (Step.refl σ s) fun a σ' s' R' S' q => q.go R' S' fun b σ'' s'' R'' S'' q' => ⟨σ'', R'', S'', q'⟩)
theorem WP.pure {a : α} {Q : α → AH → Prop} (h : Q a σ) : WP X A (Pure.pure a) σ Q := WP.of fun s R => wpAny_pure ⟨σ, R, Step.refl σ s, h⟩
theorem WP.pre {t : Sem α} {τ : AH} {Q : α → AH → Prop} (h : WP X A t σ Q) (l : σ.le τ) : WP X A t τ Q :=
  WP.of fun s R => wpAny_mono (h.run s (R.le l)) (fun a s' ⟨σ', R', S', q⟩ => ⟨σ', R', S'.pre l, q⟩) fun _ _ x => x
/-- what lies outside of σ stays -/
theorem WP.frame {t : Sem α} {τ : AH} {Q : α → AH → Prop} (h : WP X A t σ Q) (l : σ.le τ) :
    WP X A t τ fun a τ' => ∃ σ', Q a σ' ∧ τ' = fun b => match σ' b with | some p => some p | none => match σ b with | some _ => none | none => τ b := by
  refine WP.of fun s R => wpAny_mono (h.run s (R.le l)) (fun a s' ⟨σ', R', S', q⟩ => ⟨_, ?_, ?_, σ', q, rfl⟩) fun _ _ x => x
  · refine ⟨fun b p e => ?_, R'.base, fun b p e => ?_, R'.gens, R'.os, R'.tk⟩
    · cases h1 : σ' b with
      | some p' => simp only [h1] at e; cases e; exact R'.rz b _ h1
      | none =>
        simp only [h1] at e
        cases h2 : σ b with
        | some _ => simp only [h2] at e; cases e
        | none => simp only [h2] at e; exact (R.rz b p e).keep fun o ho => S'.keep b o h2 ho
    · cases h1 : σ' b with
      | some p' => exact R'.apart b _ h1
      | none =>
        simp only [h1] at e
        cases h2 : σ b with
        | some _ => simp only [h2] at e; cases e
        | none => simp only [h2] at e; exact R.apart b _ e
  · refine ⟨fun b o hb e => ?_, fun b p e => ?_, S'.gens, S'.gsize⟩
    · exact S'.keep b o (by cases q : σ b with | none => rfl | some p => rw [l b p q] at hb; cases hb) e
    · cases h1 : σ' b with
      | some p' => exact (S'.fresh b _ h1).imp (fun ⟨q, hq⟩ => ⟨q, l b q hq⟩) id
      | none =>
        simp only [h1] at e
        cases h2 : σ b with
        | some _ => simp only [h2] at e; cases e
        | none => simp only [h2] at e; exact .inl ⟨p, e⟩

/-- a step of the library that turns no object -/
theorem WP.val {t : Sem α} {P : α → Prop} {Q : α → AH → Prop} (h : ∀ s, Real X σ s → ∀ Q' : α → Shared → Prop, (∀ a tk, P a → Q' a { s with toks := tk }) → wpAny (model X.prog X.w) A t Q' (fun _ _ => False) s)
    (hq : ∀ a, P a → Q a σ) : WP X A t σ Q := WP.of fun s R => with_tk (Nat.le_refl s.toks) (h s R _ fun a tk e htk => ⟨σ, R.toks tk (Nat.le_trans R.tk htk), Step.toks σ s tk, hq a e⟩)

theorem Real.new {σ : AH} (R : Real X σ s) {h' : Heap} {tk : Nat} {p : PO} (hs : s.heap.objs.size < h'.objs.size) (hk : ∀ b o, s.heap.get? b = some o → h'.get? b = some o) (hz : Rz h' s.heap.objs.size p) (htk : 1 ≤ tk) :
    Real X (σ.set s.heap.objs.size p) { s with heap := h', toks := tk } ∧ Step σ s (σ.set s.heap.objs.size p) { s with heap := h', toks := tk } ∧ σ s.heap.objs.size = none ∧ X.base.get? s.heap.objs.size = none := by
  have hn : s.heap.get? s.heap.objs.size = none := by
    cases q : s.heap.get? s.heap.objs.size with
    | none => rfl
    | some o => exact absurd (Heap.lt_size q) (Nat.lt_irrefl _)
  have hσ : σ s.heap.objs.size = none := by
    cases q : σ s.heap.objs.size with
    | none => rfl
    | some p => obtain ⟨o, ho⟩ := (R.rz _ _ q).there; rw [hn] at ho; cases ho
  have hb : X.base.get? s.heap.objs.size = none := by
    cases q : X.base.get? s.heap.objs.size with
    | none => rfl
    | some o => rw [R.base _ _ q] at hn; cases hn
  refine ⟨⟨fun a q e => ?_, fun b o e => hk b o (R.base b o e), fun a q e => ?_, R.gens, R.os, htk⟩, ⟨fun b o _ e => hk b o e, fun b q e => ?_, fun _ _ => rfl, Nat.le_refl _⟩, hσ, hb⟩
  · by_cases ha : a = s.heap.objs.size
    · subst ha; rw [AH.set_self] at e; cases e; exact hz
    · rw [AH.set_ne _ _ ha] at e; exact (R.rz a q e).keep fun o ho => hk a o ho
  · by_cases ha : a = s.heap.objs.size
    · subst ha; exact hb
    · rw [AH.set_ne _ _ ha] at e; exact R.apart a q e
  · by_cases ha : b = s.heap.objs.size
    · subst ha; exact .inr hn
    · rw [AH.set_ne _ _ ha] at e; exact .inl ⟨q, e⟩

theorem Real.turn {σ : AH} (R : Real X σ s) {a : Addr} {p₀ p : PO} (ha : σ a = some p₀) {h' : Heap} {tk : Nat} (hk : ∀ b o, b ≠ a → s.heap.get? b = some o → h'.get? b = some o) (hz : Rz h' a p) (htk : 1 ≤ tk) :
    Real X (σ.set a p) { s with heap := h', toks := tk } ∧ Step σ s (σ.set a p) { s with heap := h', toks := tk } := by
  have hb := R.apart a _ ha
  refine ⟨⟨fun b q e => ?_, fun b o e => hk b o (fun z => by rw [z, hb] at e; cases e) (R.base b o e), fun b q e => ?_, R.gens, R.os, htk⟩, ⟨fun b o hn e => hk b o (fun z => by rw [z, ha] at hn; cases hn) e, fun b q e => ?_, fun _ _ => rfl, Nat.le_refl _⟩⟩
  · by_cases hx : b = a
    · subst hx; rw [AH.set_self] at e; cases e; exact hz
    · rw [AH.set_ne _ _ hx] at e; exact (R.rz b q e).keep fun o ho => hk b o hx ho
  · by_cases hx : b = a
    · subst hx; exact hb
    · rw [AH.set_ne _ _ hx] at e; exact R.apart b q e
  · by_cases hx : b = a
    · subst hx; exact .inl ⟨_, ha⟩
    · rw [AH.set_ne _ _ hx] at e; exact .inl ⟨q, e⟩
end
end Mine
end

section
open PySem PySem.W PyProof.Rows
namespace Mine

structure Rm (A : Around) (k : Nat) : Prop where
  hh : A.handled = none
  d : A.depth + k < 900
  u : A.units + 40 * k < 9000
  fr : ∃ fs, A.frames = some fs
theorem Rm.up {A : Around} {k j : Nat} (h : Rm A k) (hj : j ≤ k) : Rm A j := ⟨h.hh, by have := h.d; omega, by have := h.u; omega, h.fr⟩
theorem Rm.deeper {A : Around} {k : Nat} (h : Rm A (k + 1)) (env : Env) : Rm (A.deeper env) k :=
  ⟨h.hh, by have := h.d; show A.depth + 1 + k < 900; omega, by have := h.u; show A.units + 3 + 40 * k < 9000; omega, let ⟨fs, e⟩ := h.fr; ⟨env :: fs, by show A.frames.map _ = _; rw [e]; rfl⟩⟩
theorem Rm.depth {A : Around} {k : Nat} (h : Rm A k) : A.depth < recursionLimit := by have := h.d; show A.depth < 1000; omega
theorem Rm.units {A : Around} {k : Nat} (h : Rm A k) : A.units < cLine := by have := h.u; show A.units < 9900; omega
theorem Rm.units1 {A : Around} {k : Nat} (h : Rm A k) (n : Nat) (hn : n < 900) : A.units + n < cLine := by have := h.u; show A.units + n < 9900; omega

section
variable (X : Cx) (A : Around) (env : Env)
abbrev WV (t : Sem Value) (σ : AH) (Q : PV → AH → Prop) : Prop := WP X A t σ fun v σ' => Q (pv v) σ'
def EV (e : Expr) (σ : AH) (Q : PV → AH → Prop) : Prop := WV X A (eval e env) σ Q
def TS (e : Expr) (σ : AH) (Q : Bool → AH → Prop) : Prop := WP X A (isTrue e env (eval e env)) σ Q
def BIN (op : Operator) (a b : PV) (σ : AH) (Q : PV → AH → Prop) : Prop := ∀ va vb, pv va = a → pv vb = b → WV X A (binaryOp op va vb) σ Q
def IOP (op : Operator) (a b : PV) (σ : AH) (Q : PV → AH → Prop) : Prop := ∀ va vb, pv va = a → pv vb = b → WV X A (inplaceOp op va vb) σ Q
def CMP (op : CmpOp) (a b : PV) (σ : AH) (Q : PV → AH → Prop) : Prop := ∀ va vb, pv va = a → pv vb = b → WV X A (compareOp op va vb) σ Q
def TRU (a : PV) (σ : AH) (Q : Bool → AH → Prop) : Prop := ∀ va, pv va = a → WP X A (truthy va) σ Q
end

section
variable {X : Cx} {A : Around} {env : Env} {σ : AH} {Q : PV → AH → Prop}
/-- a value of a known make, no object turned -/
theorem WV.val {t : Sem Value} {p : PV} (h : ∀ s, Real X σ s → ∀ Q' : Value → Shared → Prop, (∀ v tk, pv v = p → Q' v { s with toks := tk }) → wpAny (model X.prog X.w) A t Q' (fun _ _ => False) s)
    (hq : Q p σ) : WV X A t σ Q := WP.val (P := fun v => pv v = p) h fun v e => by rw [e]; exact hq
theorem EV.mono {e : Expr} {Q' : PV → AH → Prop} (h : EV X A env e σ Q) (hQ : ∀ v σ', Q v σ' → Q' v σ') : EV X A env e σ Q' := WP.mono h fun v σ' q => hQ _ σ' q

theorem EV.int {i : Int} {k : Nat} {pos : Pos} (h : Q (.int i) σ) : EV X A env (.Constant (.int i) k pos) σ Q :=
  WV.val (fun s R Q' hQ => wpAny_Constant_int (hQ _ _ rfl)) h
theorem EV.str {i : Str} {k : Nat} {pos : Pos} (h : Q (.str i) σ) : EV X A env (.Constant (.str i) k pos) σ Q :=
  WV.val (fun s R Q' hQ => wpAny_Constant_str (hQ _ _ rfl)) h
theorem EV.bool {i : Bool} {k : Nat} {pos : Pos} (h : Q (.bool i) σ) : EV X A env (.Constant (.bool i) k pos) σ Q :=
  WV.val (fun s R Q' hQ => wpAny_Constant_bool (hQ _ s.toks rfl)) h
theorem EV.noneC {k : Nat} {pos : Pos} (h : Q .none σ) : EV X A env (.Constant .none k pos) σ Q :=
  WV.val (fun s R Q' hQ => wpAny_Constant_none (hQ _ s.toks rfl)) h

theorem EV.loc {x : Str} {pos : Pos} {m : Str → Option PV} {p : PV} (hm : σ env.locals = some (.ns m)) (hx : m x = some p) (h : Q p σ)
    (hk : env.scope.kind = .function := by rfl) (hl : env.kindOf x = some .local := by rfl) (hd : (x == ("__debug__" : Str)) = false := by decide) : EV X A env (.Name x pos) σ Q :=
  WV.val (fun s R Q' hQ => by
    obtain ⟨m', hn, e⟩ := R.rz _ _ hm
    have e' := e x
    rw [hx] at e'
    cases hv : m' x with
    | none => rw [hv] at e'; cases e'
    | some v =>
      rw [hv] at e'
      exact wpAny_Name (wpAny_loadName_local hk hl hn hv (hQ v s.toks (Option.some.inj e'))) hd) h
theorem EV.cell {x : Str} {pos : Pos} {c : Addr} {p : PV} (hc : env.cells.lookup x = some c) (hx : σ c = some (.cell (some p))) (h : Q p σ)
    (hk : env.scope.kind = .function := by rfl) (hl : env.kindOf x = some .cell := by rfl) (hd : (x == ("__debug__" : Str)) = false := by decide) : EV X A env (.Name x pos) σ Q :=
  WV.val (fun s R Q' hQ => by
    obtain ⟨o, u, ho, hd', e⟩ := R.rz _ _ hx
    cases u with
    | none => cases e
    | some v => exact wpAny_Name (wpAny_loadName_cell hk hl hc ⟨o, ho, hd'⟩ (hQ v s.toks (Option.some.inj e))) hd) h
theorem EV.glob {x : Str} {pos : Pos} {v : Value} (O : X.Ok) (hx : X.mg x = some v) (h : Q (pv v) σ)
    (hg : env.globals = mainGlobals := by rfl) (hk : env.scope.kind = .function := by rfl) (hl : env.kindOf x = some .globalImplicit := by rfl) (hd : (x == ("__debug__" : Str)) = false := by decide) : EV X A env (.Name x pos) σ Q :=
  WV.val (fun s R Q' hQ => Calls.Name_function_global hk hl (Calls.loadGlobal_global (env := env) (mg := X.mg) (by rw [hg]; exact O.g.keeps R.base) hx (hQ v s.toks rfl)) hd) h
theorem EV.bltn {x : Str} {pos : Pos} {v : Value} (O : X.Ok) (hm : X.mg x = .none) (hx : X.mb x = some v) (h : Q (pv v) σ)
    (hg : env.globals = mainGlobals := by rfl) (hb : env.builtins = builtinsNs := by rfl) (hk : env.scope.kind = .function := by rfl) (hl : env.kindOf x = some .globalImplicit := by rfl) (hd : (x == ("__debug__" : Str)) = false := by decide) : EV X A env (.Name x pos) σ Q :=
  WV.val (fun s R Q' hQ => Calls.Name_function_global hk hl (Calls.loadGlobal_builtin (env := env) (mg := X.mg) (mb := X.mb) (by rw [hg]; exact O.g.keeps R.base) hm (by rw [hb]; exact O.b.keeps R.base) hx (hQ v s.toks rfl)) hd) h

theorem EV.bin {l r : Expr} {op : Operator} {pos : Pos} (h : EV X A env l σ fun a σ₁ => EV X A env r σ₁ fun b σ₂ => BIN X A op a b σ₂ Q) : EV X A env (.BinOp l op r pos) σ Q :=
  WP.of fun s R => wpAny_BinOp (h.go R (Step.refl σ s) fun va σ₁ s₁ R₁ S₁ h₁ => WP.go h₁ R₁ S₁ fun vb σ₂ s₂ R₂ S₂ h₂ => WP.go (h₂ va vb rfl rfl) R₂ S₂ fun v σ₃ s₃ R₃ S₃ q => ⟨σ₃, R₃, S₃, q⟩)
theorem EV.neg {e : Expr} {pos : Pos} (h : EV X A env e σ fun a σ₁ => ∃ i, a = .int i ∧ Q (.int (-i)) σ₁) : EV X A env (.UnaryOp .USub e pos) σ Q :=
  WP.of fun s R => wpAny_UnaryOp (h.go R (Step.refl σ s) fun va σ₁ s₁ R₁ S₁ ⟨i, e, q⟩ => by
    obtain ⟨t, rfl⟩ := pv_int e
    exact P.neg_int ⟨σ₁, R₁.tick _, S₁.trans (Step.toks σ₁ s₁ _), q⟩)
theorem EV.cmp {l r : Expr} {op : CmpOp} {pos : Pos} (h : EV X A env l σ fun a σ₁ => EV X A env r σ₁ fun b σ₂ => CMP X A op a b σ₂ Q)
    (hm : behindInMarks op r = false := by rfl) : EV X A env (.Compare l [op] [r] pos) σ Q :=
  WP.of fun s R => wpAny_Compare1 (h.go R (Step.refl σ s) fun va σ₁ s₁ R₁ S₁ h₁ => WP.go h₁ R₁ S₁ fun vb σ₂ s₂ R₂ S₂ h₂ => WP.go (h₂ va vb rfl rfl) R₂ S₂ fun v σ₃ s₃ R₃ S₃ q => ⟨σ₃, R₃, S₃, q⟩) hm
theorem EV.ifexp {t b o : Expr} {pos : Pos} (h : TS X A env t σ fun c σ₁ => (c = true → EV X A env b σ₁ Q) ∧ (c = false → EV X A env o σ₁ Q)) : EV X A env (.IfExp t b o pos) σ Q :=
  WP.of fun s R => wpAny_IfExp (h.go R (Step.refl σ s) fun c σ₁ s₁ R₁ S₁ q => by
    cases c with
    | true => exact WP.go (q.1 rfl) R₁ S₁ fun v σ₃ s₃ R₃ S₃ q => ⟨σ₃, R₃, S₃, q⟩
    | false => exact WP.go (q.2 rfl) R₁ S₁ fun v σ₃ s₃ R₃ S₃ q => ⟨σ₃, R₃, S₃, q⟩)
theorem EV.and2 {x y : Expr} {pos : Pos} (h : EV X A env x σ fun a σ₁ => TRU X A a σ₁ fun c σ₂ => (c = true → EV X A env y σ₂ Q) ∧ (c = false → Q a σ₂)) : EV X A env (.BoolOp .And [x, y] pos) σ Q :=
  WP.of fun s R => wpAny_And2 (h.go R (Step.refl σ s) fun va σ₁ s₁ R₁ S₁ h₁ => WP.go (h₁ va rfl) R₁ S₁ fun c σ₂ s₂ R₂ S₂ q => by
    cases c with
    | true => exact WP.go (q.1 rfl) R₂ S₂ fun v σ₃ s₃ R₃ S₃ q => ⟨σ₃, R₃, S₃, q⟩
    | false => exact ⟨σ₂, R₂, S₂, q.2 rfl⟩)

theorem TS.val {e : Expr} {Q : Bool → AH → Prop} (h : EV X A env e σ fun a σ₁ => TRU X A a σ₁ Q)
    (he : ∀ w, isTrue e env w = (do let v ← w; standAt e.pos; holding [v] (truthy v)) := by intro _; rfl) : TS X A env e σ Q :=
  WP.of fun s R => wpAny_isTrue_value (h.go R (Step.refl σ s) fun va σ₁ s₁ R₁ S₁ h₁ => WP.go (h₁ va rfl) R₁ S₁ fun c σ₂ s₂ R₂ S₂ q => ⟨σ₂, R₂, S₂, q⟩) (he _)
theorem TS.cmp {l r : Expr} {op : CmpOp} {pos : Pos} {Q : Bool → AH → Prop} (h : EV X A env l σ fun a σ₁ => EV X A env r σ₁ fun b σ₂ => CMP X A op a b σ₂ fun c σ₃ => ∃ t, c = .bool t ∧ Q t σ₃)
    (hm : behindInMarks op r = false := by rfl) : TS X A env (.Compare l [op] [r] pos) σ Q :=
  WP.of fun s R => wpAny_isTrue_Compare1 (h.go R (Step.refl σ s) fun va σ₁ s₁ R₁ S₁ h₁ => WP.go h₁ R₁ S₁ fun vb σ₂ s₂ R₂ S₂ h₂ => WP.go (h₂ va vb rfl rfl) R₂ S₂ fun v σ₃ s₃ R₃ S₃ ⟨t, e, q⟩ => by
    rw [pv_bool e]; exact wpAny_truthy_bool ⟨σ₃, R₃, S₃, q⟩) hm
theorem TS.and2 {x y : Expr} {pos : Pos} {Q : Bool → AH → Prop} (h : TS X A env x σ fun c σ₁ => (c = true → TS X A env y σ₁ Q) ∧ (c = false → Q false σ₁)) : TS X A env (.BoolOp .And [x, y] pos) σ Q :=
  WP.of fun s R => wpAny_isTrue_BoolOp (wpAny_allTrue_And_cons (h.go R (Step.refl σ s) fun c σ₁ s₁ R₁ S₁ q => by
    cases c with
    | true => exact wpAny_allTrue_And_cons (WP.go (q.1 rfl) R₁ S₁ fun c σ₃ s₃ R₃ S₃ q => by
        cases c with
        | true => exact wpAny_allTrue_And_nil ⟨σ₃, R₃, S₃, q⟩
        | false => exact ⟨σ₃, R₃, S₃, q⟩)
    | false => exact ⟨σ₁, R₁, S₁, q.2 rfl⟩))
theorem TS.or2 {x y : Expr} {pos : Pos} {Q : Bool → AH → Prop} (h : TS X A env x σ fun c σ₁ => (c = true → Q true σ₁) ∧ (c = false → TS X A env y σ₁ Q)) : TS X A env (.BoolOp .Or [x, y] pos) σ Q :=
  WP.of fun s R => wpAny_isTrue_BoolOp (wpAny_allTrue_Or_cons (h.go R (Step.refl σ s) fun c σ₁ s₁ R₁ S₁ q => by
    cases c with
    | false => exact wpAny_allTrue_Or_cons (WP.go (q.2 rfl) R₁ S₁ fun c σ₃ s₃ R₃ S₃ q => by
        cases c with
        | false => exact wpAny_allTrue_Or_nil ⟨σ₃, R₃, S₃, q⟩
        | true => exact ⟨σ₃, R₃, S₃, q⟩)
    | true => exact ⟨σ₁, R₁, S₁, q.1 rfl⟩))
/-- a <= b < c -/
theorem TS.chain {l r₁ r₂ : Expr} {o₁ o₂ : CmpOp} {pos : Pos} {Q : Bool → AH → Prop}
    (h : EV X A env l σ fun a σ₁ => EV X A env r₁ σ₁ fun b σ₂ => CMP X A o₁ a b σ₂ fun c σ₃ => ∃ t, c = .bool t ∧ (t = false → Q false σ₃) ∧ (t = true → EV X A env r₂ σ₃ fun d σ₄ => CMP X A o₂ b d σ₄ fun c σ₅ => ∃ t, c = .bool t ∧ Q t σ₅))
    (hm : lastMarks [o₁, o₂] [r₁, r₂] = false := by rfl) : TS X A env (.Compare l [o₁, o₂] [r₁, r₂] pos) σ Q :=
  WP.of fun s R => isTrue_chain (h.go R (Step.refl σ s) fun va σ₁ s₁ R₁ S₁ h₁ => by
    refine test_link ?_
    refine WP.go h₁ R₁ S₁ fun vb σ₂ s₂ R₂ S₂ h₂ => WP.go (h₂ va vb rfl rfl) R₂ S₂ fun v σ₃ s₃ R₃ S₃ ⟨t, e, q0, q1⟩ => ?_
    rw [pv_bool e]
    refine wpAny_truthy_bool ?_
    cases t with
    | false => exact ⟨σ₃, R₃, S₃, q0 rfl⟩
    | true =>
      refine test_last ?_
      refine WP.go (q1 rfl) R₃ S₃ fun vd σ₄ s₄ R₄ S₄ h₄ => WP.go (h₄ vb vd rfl rfl) R₄ S₄ fun v σ₅ s₅ R₅ S₅ ⟨t, e, q⟩ => ?_
      rw [pv_bool e]
      exact wpAny_truthy_bool ⟨σ₅, R₅, S₅, q⟩) hm

theorem TRU.bool {b : Bool} {Q : Bool → AH → Prop} (h : Q b σ) : TRU X A (.bool b) σ Q := fun va e => WP.of fun s R => by
  rw [pv_bool e]; exact wpAny_truthy_bool ⟨σ, R, Step.refl σ s, h⟩
theorem TRU.int {b : Int} {Q : Bool → AH → Prop} (h : Q (b != 0) σ) : TRU X A (.int b) σ Q := fun va e => WP.of fun s R => by
  obtain ⟨t, rfl⟩ := pv_int e
  exact P.truthy_int ⟨σ, R, Step.refl σ s, h⟩

section
variable {i j : Int}
theorem BIN.add (h : Q (.int (i + j)) σ) : BIN X A .Add (.int i) (.int j) σ Q := fun va vb ea eb => WP.of fun s R => by
  obtain ⟨t, rfl⟩ := pv_int ea; obtain ⟨u, rfl⟩ := pv_int eb
  exact P.add_int ⟨σ, R.tick _, Step.toks σ s _, h⟩
theorem BIN.sub (h : Q (.int (i - j)) σ) : BIN X A .Sub (.int i) (.int j) σ Q := fun va vb ea eb => WP.of fun s R => by
  obtain ⟨t, rfl⟩ := pv_int ea; obtain ⟨u, rfl⟩ := pv_int eb
  exact P.sub_int ⟨σ, R.tick _, Step.toks σ s _, h⟩
theorem IOP.add (h : Q (.int (i + j)) σ) : IOP X A .Add (.int i) (.int j) σ Q := fun va vb ea eb => WP.of fun s R => by
  obtain ⟨t, rfl⟩ := pv_int ea; obtain ⟨u, rfl⟩ := pv_int eb
  exact P.iadd_int ⟨σ, R.tick _, Step.toks σ s _, h⟩
theorem IOP.sub (h : Q (.int (i - j)) σ) : IOP X A .Sub (.int i) (.int j) σ Q := fun va vb ea eb => WP.of fun s R => by
  obtain ⟨t, rfl⟩ := pv_int ea; obtain ⟨u, rfl⟩ := pv_int eb
  exact P.isub_int ⟨σ, R.tick _, Step.toks σ s _, h⟩
theorem BIN.mul (hm : IntMulOk i j) (h : Q (.int (i * j)) σ) : BIN X A .Mult (.int i) (.int j) σ Q := fun va vb ea eb => WP.of fun s R => by
  obtain ⟨t, rfl⟩ := pv_int ea; obtain ⟨u, rfl⟩ := pv_int eb
  exact P.mul_int ⟨σ, R.tick _, Step.toks σ s _, h⟩ hm
theorem BIN.fmod (hj : j ≠ 0) (h : Q (.int (i.fmod j)) σ) : BIN X A .Mod (.int i) (.int j) σ Q := fun va vb ea eb => WP.of fun s R => by
  obtain ⟨t, rfl⟩ := pv_int ea; obtain ⟨u, rfl⟩ := pv_int eb
  exact AutoIntOps.mod_1 (by simpa using hj) ⟨σ, R.tick _, Step.toks σ s _, h⟩
theorem CMP.eq_i (h : Q (.bool (i == j)) σ) : CMP X A .Eq (.int i) (.int j) σ Q := fun va vb ea eb => WP.of fun s R => by
  obtain ⟨t, rfl⟩ := pv_int ea; obtain ⟨u, rfl⟩ := pv_int eb
  exact P.eq_int ⟨σ, R, Step.refl σ s, h⟩
theorem CMP.ne_i (h : Q (.bool (i != j)) σ) : CMP X A .NotEq (.int i) (.int j) σ Q := fun va vb ea eb => WP.of fun s R => by
  obtain ⟨t, rfl⟩ := pv_int ea; obtain ⟨u, rfl⟩ := pv_int eb
  exact P.ne_int ⟨σ, R, Step.refl σ s, h⟩
theorem CMP.lt_i (h : Q (.bool (decide (i < j))) σ) : CMP X A .Lt (.int i) (.int j) σ Q := fun va vb ea eb => WP.of fun s R => by
  obtain ⟨t, rfl⟩ := pv_int ea; obtain ⟨u, rfl⟩ := pv_int eb
  exact P.lt_int ⟨σ, R, Step.refl σ s, h⟩
theorem CMP.le_i (h : Q (.bool (decide (i ≤ j))) σ) : CMP X A .LtE (.int i) (.int j) σ Q := fun va vb ea eb => WP.of fun s R => by
  obtain ⟨t, rfl⟩ := pv_int ea; obtain ⟨u, rfl⟩ := pv_int eb
  exact P.le_int ⟨σ, R, Step.refl σ s, h⟩
theorem CMP.gt_i (h : Q (.bool (decide (i > j))) σ) : CMP X A .Gt (.int i) (.int j) σ Q := fun va vb ea eb => WP.of fun s R => by
  obtain ⟨t, rfl⟩ := pv_int ea; obtain ⟨u, rfl⟩ := pv_int eb
  exact P.gt_int ⟨σ, R, Step.refl σ s, h⟩
theorem CMP.ge_i (h : Q (.bool (decide (i ≥ j))) σ) : CMP X A .GtE (.int i) (.int j) σ Q := fun va vb ea eb => WP.of fun s R => by
  obtain ⟨t, rfl⟩ := pv_int ea; obtain ⟨u, rfl⟩ := pv_int eb
  exact P.ge_int ⟨σ, R, Step.refl σ s, h⟩
end
section
variable {x y : Str}
theorem str_eq_cps {x y : Str} : (x.cps.toList == y.cps.toList) = decide (x = y) := by
  cases x; cases y
  rename_i a b
  simp only [Str.mk.injEq]
  by_cases h : a = b
  · subst h; simp
  · have : a.toList ≠ b.toList := fun e => h (Array.toList_inj.mp e)
    simp [h, this]
theorem CMP.eq_s (h : Q (.bool (decide (x = y))) σ) : CMP X A .Eq (.str x) (.str y) σ Q := fun va vb ea eb => WP.of fun s R => by
  obtain ⟨t, rfl⟩ := pv_str ea; obtain ⟨u, rfl⟩ := pv_str eb
  exact P.eq_str ⟨σ, R, Step.refl σ s, by rw [str_eq_cps]; exact h⟩
theorem CMP.ne_s (h : Q (.bool (!decide (x = y))) σ) : CMP X A .NotEq (.str x) (.str y) σ Q := fun va vb ea eb => WP.of fun s R => by
  obtain ⟨t, rfl⟩ := pv_str ea; obtain ⟨u, rfl⟩ := pv_str eb
  exact P.ne_str ⟨σ, R, Step.refl σ s, by rw [bne, str_eq_cps]; exact h⟩
theorem CMP.notin_s (h : Q (.bool (!Txt.contains x y)) σ) : CMP X A .NotIn (.str y) (.str x) σ Q := fun va vb ea eb => WP.of fun s R => by
  obtain ⟨t, rfl⟩ := pv_str ea; obtain ⟨u, rfl⟩ := pv_str eb
  exact SB.notContains ⟨σ, R, Step.refl σ s, h⟩
theorem Str.empty_add (x : Str) : (Str.empty ++ x) = x := Str.empty_append x
theorem BIN.cat (hl : (x ++ y).length ≤ sizeLine) (h : Q (.str (x ++ y)) σ) : BIN X A .Add (.str x) (.str y) σ Q := fun va vb ea eb => WP.of fun s R => by
  obtain ⟨t, rfl⟩ := pv_str ea; obtain ⟨u, rfl⟩ := pv_str eb
  refine P.add_str ?_
  split
  · rename_i h0
    have : x = Str.empty := by
      cases x with | mk c => have h0' : c.size = 0 := by simpa [Str.length] using h0
                             have : c = #[] := Array.eq_empty_of_size_eq_zero h0'
                             subst this; rfl
    subst this
    rw [Str.empty_append] at h
    exact ⟨σ, R, Step.refl σ s, h⟩
  · split
    · rename_i h0
      have : y = Str.empty := by
        cases y with | mk c => have h0' : c.size = 0 := by simpa [Str.length] using h0
                               have : c = #[] := Array.eq_empty_of_size_eq_zero h0'
                               subst this; rfl
      subst this
      have e : x ++ Str.empty = x := by cases x with | mk c => exact congrArg Str.mk (Array.append_empty)
      rw [e] at h
      exact ⟨σ, R, Step.refl σ s, h⟩
    · exact ⟨hl, σ, R.tick _, Step.toks σ s _, h⟩
end
theorem CMP.is_none {p : PV} (h : Q (.bool (decide (p = .none))) σ) : CMP X A .Is p .none σ Q := fun va vb ea eb => WP.of fun s R => by
  rw [pv_none eb]
  refine PySem.is_none ⟨σ, R, Step.refl σ s, ?_⟩
  have e : (va == Value.none) = decide (p = .none) := by
    subst ea
    cases va <;> simp [pv]
  rw [e]; exact h
theorem CMP.isnot_none {p : PV} (h : Q (.bool (!decide (p = .none))) σ) : CMP X A .IsNot p .none σ Q := fun va vb ea eb => WP.of fun s R => by
  rw [pv_none eb]
  refine PySem.isNot_none ⟨σ, R, Step.refl σ s, ?_⟩
  have e : (va == Value.none) = decide (p = .none) := by
    subst ea
    cases va <;> simp [pv]
  rw [e]; exact h
theorem CMP.is_b {p q : Bool} (h : Q (.bool (p == q)) σ) : CMP X A .Is (.bool p) (.bool q) σ Q := fun va vb ea eb => WP.of fun s R => by
  rw [pv_bool ea, pv_bool eb]
  refine wpAny_is_plain rfl ⟨σ, R, Step.refl σ s, ?_⟩
  have e : (Value.bool p == Value.bool q) = (p == q) := by cases p <;> cases q <;> rfl
  rw [e]; exact h
theorem CMP.isnot_b {p q : Bool} (h : Q (.bool (p != q)) σ) : CMP X A .IsNot (.bool p) (.bool q) σ Q := fun va vb ea eb => WP.of fun s R => by
  rw [pv_bool ea, pv_bool eb]
  refine wpAny_isNot_plain rfl ⟨σ, R, Step.refl σ s, ?_⟩
  have e : (!(Value.bool p == Value.bool q)) = (p != q) := by cases p <;> cases q <;> rfl
  rw [e]; exact h
theorem CMP.is_raw {p q : Value} (hp : plainIs p q = true) (h : Q (.bool (p == q)) σ) : CMP X A .Is (.raw p) (.raw q) σ Q := fun va vb ea eb => WP.of fun s R => by
  rw [pv_raw ea, pv_raw eb]
  exact wpAny_is_plain hp ⟨σ, R, Step.refl σ s, h⟩
theorem CMP.isnot_raw {p q : Value} (hp : plainIs p q = true) (h : Q (.bool (!(p == q))) σ) : CMP X A .IsNot (.raw p) (.raw q) σ Q := fun va vb ea eb => WP.of fun s R => by
  rw [pv_raw ea, pv_raw eb]
  exact wpAny_isNot_plain hp ⟨σ, R, Step.refl σ s, h⟩
end
end Mine
end

section
open PySem PySem.W PyProof.Rows
namespace Mine

inductive PF where
  | next | brk | cont | ret (v : PV)
def pf : Flow → PF
  | .next => .next
  | .brk => .brk
  | .cont => .cont
  | .ret v => .ret (pv v)
def upd (m : Str → Option PV) (x : Str) (p : PV) : Str → Option PV := fun y => if y = x then some p else m y
@[simp] theorem upd_self (m : Str → Option PV) (x : Str) (p : PV) : upd m x p x = some p := by simp [upd]
theorem upd_ne (m : Str → Option PV) {x y : Str} (p : PV) (h : y ≠ x) : upd m x p y = m y := by simp [upd, h]

section
variable (X : Cx) (A : Around) (env : Env)
def EX (st : Stmt) (σ : AH) (Q : PF → AH → Prop) : Prop := WP X A (exec st env) σ fun f σ' => Q (pf f) σ'
def XS (st : List Stmt) (σ : AH) (Q : PF → AH → Prop) : Prop := WP X A (execs st env) σ fun f σ' => Q (pf f) σ'
def ST (x : Str) (p : PV) (σ : AH) (Q : AH → Prop) : Prop := ∀ v, pv v = p → WP X A (storeName env x v) σ fun _ σ' => Q σ'
def ASG (t : Expr) (p : PV) (σ : AH) (Q : AH → Prop) : Prop := ∀ v, pv v = p → WP X A (assign t env v) σ fun _ σ' => Q σ'
def STS : List Str → List PV → AH → (AH → Prop) → Prop
  | x :: xs, p :: ps, σ, Q => ST X A env x p σ fun σ' => STS xs ps σ' Q
  | [], [], σ, Q => Q σ
  | _, _, _, _ => False
end

section
variable {X : Cx} {A : Around} {env : Env} {σ : AH} {Q : PF → AH → Prop}
theorem EX.mono {st : Stmt} {Q' : PF → AH → Prop} (h : EX X A env st σ Q) (hQ : ∀ v σ', Q v σ' → Q' v σ') : EX X A env st σ Q' := WP.mono h fun v σ' q => hQ _ σ' q
theorem XS.mono {st : List Stmt} {Q' : PF → AH → Prop} (h : XS X A env st σ Q) (hQ : ∀ v σ', Q v σ' → Q' v σ') : XS X A env st σ Q' := WP.mono h fun v σ' q => hQ _ σ' q
theorem XS.post {st : List Stmt} {Q' : PF → AH → Prop} (h : XS X A env st σ Q) (hQ : ∀ v σ', Q v σ' → ∃ σ'', AH.le σ'' σ' ∧ Q' v σ'') : XS X A env st σ Q' := WP.post h fun v σ' q => hQ _ σ' q
theorem XS.nil (h : Q .next σ) : XS X A env [] σ Q := WP.of fun s R => wpAny_execs_nil ⟨σ, R, Step.refl σ s, h⟩
theorem XS.cons {st : Stmt} {rest : List Stmt} (h : EX X A env st σ fun f σ' => match f with | .next => XS X A env rest σ' Q | f => Q f σ') : XS X A env (st :: rest) σ Q :=
  WP.of fun s R => wpAny_execs_cons (h.go R (Step.refl σ s) fun f σ₁ s₁ R₁ S₁ q => by
    cases f with
    | next => exact WP.go (h := q) R₁ S₁ fun f σ₂ s₂ R₂ S₂ q => ⟨σ₂, R₂, S₂, q⟩
    | brk => exact ⟨σ₁, R₁, S₁, q⟩
    | cont => exact ⟨σ₁, R₁, S₁, q⟩
    | ret v => exact ⟨σ₁, R₁, S₁, q⟩)

theorem ST.loc {x : Str} {p : PV} {m : Str → Option PV} {Q : AH → Prop} (hm : σ env.locals = some (.ns m)) (h : Q (σ.set env.locals (.ns (upd m x p))))
    (hl : env.kindOf x = some .local := by rfl) (hp : (env.scope.kind == .class || (env.scope.kind == .module && env.locals != env.globals)) = false := by rfl) : ST X A env x p σ Q := fun v e => WP.of fun s R => by
  obtain ⟨m', hn, em⟩ := R.rz _ _ hm
  refine wpAny_storeName_local hl hn (fun h' hn' hs => ?_) hp
  have z := R.turn hm (h' := h') (tk := s.toks + 1) (p := .ns (upd m x p)) (fun b o hb eb => (hs.2 b hb).trans eb) ⟨_, hn', fun y => by
    by_cases hy : y = x
    · subst hy; simp [e]
    · simp [hy, upd, em y]⟩ (Nat.succ_le_succ (Nat.zero_le _))
  exact ⟨_, z.1, z.2, h⟩
theorem ST.cell {x : Str} {p : PV} {c : Addr} {u : Option PV} {Q : AH → Prop} (hc : env.cells.lookup x = some c) (hm : σ c = some (.cell u)) (h : Q (σ.set c (.cell (some p))))
    (hk : env.scope.kind = .function := by rfl) (hl : env.kindOf x = some .cell := by rfl) : ST X A env x p σ Q := fun v e => WP.of fun s R => by
  obtain ⟨o, u', ho, hd, em⟩ := R.rz _ _ hm
  refine wpAny_storeName_cell hk hl hc ⟨o, ho, hd⟩ (fun h' hn' hs => ?_)
  obtain ⟨o', ho', hd'⟩ := hn'
  have z := R.turn hm (h' := h') (tk := s.toks) (p := .cell (some p)) (fun b o hb eb => (hs.2 b hb).trans eb) ⟨o', _, ho', hd', by simp [e]⟩ R.tk
  exact ⟨_, z.1, z.2, h⟩

theorem EX.assign {x : Str} {px pos : Pos} {value : Expr} (h : EV X A env value σ fun p σ₁ => ST X A env x p σ₁ fun σ₂ => Q .next σ₂)
    (hs : swapsWith value (some (.Name x px)) pos.line env = pure false := by rfl) : EX X A env (.Assign [.Name x px] value pos) σ Q :=
  WP.of fun s R => wpAny_Assign_Name (h.go R (Step.refl σ s) fun v σ₁ s₁ R₁ S₁ h₁ => WP.go (h₁ v rfl) R₁ S₁ fun _ σ₂ s₂ R₂ S₂ q => ⟨σ₂, R₂, S₂, q⟩) hs
theorem EX.aug {x : Str} {px pos : Pos} {op : Operator} {value : Expr} {m : Str → Option PV} {p : PV} (hm : σ env.locals = some (.ns m)) (hx : m x = some p)
    (h : EV X A env value σ fun b σ₁ => IOP X A op p b σ₁ fun r σ₂ => ST X A env x r σ₂ fun σ₃ => Q .next σ₃)
    (hk : env.scope.kind = .function := by rfl) (hl : env.kindOf x = some .local := by rfl) : EX X A env (.AugAssign (.Name x px) op value pos) σ Q := WP.of fun s R => by
  obtain ⟨m', hn, e⟩ := R.rz _ _ hm
  have e' := e x
  rw [hx] at e'
  cases hv : m' x with
  | none => rw [hv] at e'; cases e'
  | some v =>
    rw [hv] at e'
    exact wpAny_AugAssign_Name (wpAny_loadName_local hk hl hn hv (h.go R (Step.refl σ s) fun b σ₁ s₁ R₁ S₁ h₁ => WP.go (h₁ v b (Option.some.inj e') rfl) R₁ S₁ fun r σ₂ s₂ R₂ S₂ h₂ =>
      WP.go (h₂ r rfl) R₂ S₂ fun _ σ₃ s₃ R₃ S₃ q => ⟨σ₃, R₃, S₃, q⟩))
theorem EX.if {t : Expr} {b o : List Stmt} {pos : Pos} (h : TS X A env t σ fun c σ₁ => (c = true → XS X A env b σ₁ Q) ∧ (c = false → XS X A env o σ₁ Q)) : EX X A env (.If t b o pos) σ Q :=
  WP.of fun s R => wpAny_If (h.go R (Step.refl σ s) fun c σ₁ s₁ R₁ S₁ q => by
    cases c with
    | true => exact WP.go (h := q.1 rfl) R₁ S₁ fun v σ₃ s₃ R₃ S₃ q => ⟨σ₃, R₃, S₃, q⟩
    | false => exact WP.go (h := q.2 rfl) R₁ S₁ fun v σ₃ s₃ R₃ S₃ q => ⟨σ₃, R₃, S₃, q⟩)
theorem EX.ret {e : Expr} {pos : Pos} (h : EV X A env e σ fun p σ₁ => Q (.ret p) σ₁) : EX X A env (.Return (some e) pos) σ Q :=
  WP.of fun s R => wpAny_Return_some (h.go R (Step.refl σ s) fun v σ₁ s₁ R₁ S₁ q => ⟨σ₁, R₁, S₁, q⟩)
theorem EX.expr {e : Expr} {pos : Pos} (h : EV X A env e σ fun p σ₁ => (∀ a, p ≠ .ref a) ∧ Q .next σ₁)
    (hi : interactive env = false := by rfl) (hs : swapsWith e none pos.line env = pure false := by rfl) : EX X A env (.Expr e pos) σ Q :=
  WP.of fun s R => wpAny_Expr (h.go R (Step.refl σ s) fun v σ₁ s₁ R₁ S₁ q => by
    cases v <;> first | exact ⟨σ₁, R₁, S₁, q.2⟩ | exact absurd rfl (q.1 _)) hi hs
theorem EX.pass {pos : Pos} (h : Q .next σ) : EX X A env (.Pass pos) σ Q := WP.of fun s R => wpAny_Pass ⟨σ, R, Step.refl σ s, h⟩

/-- a while by a measure -/
theorem EX.while {t : Expr} {b : List Stmt} {pos : Pos} (J : Nat → AH → Prop) (n : Nat) (h0 : J n σ)
    (turn : ∀ n σ', J n σ' → TS X A env t σ' fun c σ₁ => (c = false → Q .next σ₁) ∧ (c = true → XS X A env b σ₁ fun f σ₂ => match f with
      | .next | .cont => ∃ m, m < n ∧ J m σ₂
      | .brk => Q .next σ₂
      | .ret v => Q (.ret v) σ₂)) : EX X A env (.While t b [] pos) σ Q := by
  refine WP.of fun s R => wpAny_While (codeAny_whileLoop (fun n s' => ∃ σ', Real X σ' s' ∧ Step σ s σ' s' ∧ J n σ') ?_ n ⟨σ, R, Step.refl σ s, h0⟩)
  rintro n s' ⟨σ', R', S', j⟩
  refine wpAny_mono (WP.go (Q' := fun c s₁ => ∃ σ₁, Real X σ₁ s₁ ∧ Step σ s σ₁ s₁ ∧ _) (turn n σ' j) R' S' fun c σ₁ s₁ R₁ S₁ q => ⟨σ₁, R₁, S₁, q⟩) (fun c s₁ hc => ?_) fun _ _ x => x.elim
  obtain ⟨σ₁, R₁, S₁, q⟩ := hc
  cases c with
  | false => exact wpAny_execs_nil ⟨σ₁, R₁, S₁, q.1 rfl⟩
  | true =>
    refine wpAny_mono (WP.go (h := q.2 rfl) (Q' := fun f s₂ => ∃ σ₂, Real X σ₂ s₂ ∧ Step σ s σ₂ s₂ ∧ _) R₁ S₁ fun f σ₂ s₂ R₂ S₂ q => ⟨σ₂, R₂, S₂, q⟩) (fun f s₂ hf => ?_) fun _ _ x => x.elim
    obtain ⟨σ₂, R₂, S₂, q⟩ := hf
    cases f with
    | next => obtain ⟨m, hm, j⟩ := q; exact ⟨m, hm, σ₂, R₂, S₂, j⟩
    | cont => obtain ⟨m, hm, j⟩ := q; exact ⟨m, hm, σ₂, R₂, S₂, j⟩
    | brk => exact ⟨σ₂, R₂, S₂, q⟩
    | ret v => exact ⟨σ₂, R₂, S₂, q⟩

theorem ASG.name {x : Str} {px : Pos} {p : PV} {Q : AH → Prop} (h : ST X A env x p σ Q) : ASG X A env (.Name x px) p σ Q :=
  fun v e => WP.of fun s R => assign_Name ((h v e).run s R)

theorem STS.run : ∀ {names : List Str} {vals : List Value} {ps : List PV} {σ : AH} {Q : AH → Prop}, vals.map pv = ps → STS X A env names ps σ Q →
    WP X A (assignInOrder (names.map fun n => bindName env n) vals) σ fun _ σ' => Q σ'
  | [], [], _, σ, Q, e, h => by
    subst e
    exact WP.of fun s R => wpAny_pure ⟨σ, R, Step.refl σ s, h⟩
  | [], _ :: _, _, σ, Q, e, h => by subst e; exact h.elim
  | _ :: _, [], _, σ, Q, e, h => by subst e; exact h.elim
  | x :: xs, v :: vs, _, σ, Q, e, h => by
    subst e
    refine WP.of fun s R => wpAny_bind (wpAny_holding (bindName_ (WP.go (h v rfl) R (Step.refl σ s) fun _ σ₁ s₁ R₁ S₁ q => ?_)))
    exact WP.go (STS.run rfl q) R₁ S₁ fun _ σ₂ s₂ R₂ S₂ q => ⟨σ₂, R₂, S₂, q⟩

theorem unpack_tup {t : Addr} {vs : List PV} {n : Nat} {Q : List Value → AH → Prop} (hh : A.handled = none) (ht : σ t = some (.tuple vs)) (hn : n = vs.length)
    (h : ∀ vals : List Value, vals.map pv = vs → Q vals σ) : WP X A (unpackItems (.ref t) n none) σ Q := WP.of fun s R => by
  obtain ⟨vals, ho, e⟩ := R.rz _ _ ht
  have hs : n = vals.size := by rw [hn, ← e, List.length_map, Array.length_toList]
  subst hs
  refine wpAny_unpackItems_tuple hh ho fun h' he => ?_
  have hk : ∀ b o, s.heap.get? b = some o → h'.get? b = some o := fun b o eb => he b o (Nat.ne_of_lt (Heap.lt_size eb)) eb
  refine ⟨σ, ⟨fun a p ea => (R.rz a p ea).keep fun o ho => hk a o ho, fun b o eb => hk b o (R.base b o eb), R.apart, R.gens, R.os, R.tk⟩, ⟨fun b o _ eb => hk b o eb, fun b p eb => .inl ⟨p, eb⟩, fun _ _ => rfl, Nat.le_refl _⟩, h _ e⟩

theorem EX.tupS {elts : List Expr} {k : Nat} {tpos pos : Pos} {value : Expr} {names : List Str} (hh : A.handled = none)
    (h : EV X A env value σ fun p σ₁ => ∃ t vs, p = .ref t ∧ σ₁ t = some (.tuple vs) ∧ names.length = vs.length ∧ STS X A env names.reverse vs.reverse σ₁ fun σ₂ => Q .next σ₂)
    (hs : swapsWithSole [.Tuple elts k tpos] value pos.line env = pure false := by rfl)
    (hw : swappedStores [.Tuple elts k tpos] value env = pure (some names) := by rfl) : EX X A env (.Assign [.Tuple elts k tpos] value pos) σ Q :=
  WP.of fun s R => Assign_Tuple_swapped (h.go R (Step.refl σ s) fun v σ₁ s₁ R₁ S₁ ⟨t, vs, e, ht, hn, h₁⟩ => by
    rw [pv_ref e]
    refine WP.go (unpack_tup (Q := fun vals σ' => σ' = σ₁ ∧ vals.map pv = vs) hh ht hn fun vals e => ⟨rfl, e⟩) R₁ S₁ fun vals σ₂ s₂ R₂ S₂ ⟨e2, e3⟩ => ?_
    subst e2
    exact WP.go (STS.run (by rw [List.map_reverse, e3]) h₁) R₂ S₂ fun _ σ₃ s₃ R₃ S₃ q => ⟨σ₃, R₃, S₃, q⟩) hs hw
end
end Mine
end

section
open PySem PySem.W PyProof.Rows
namespace Mine

def rt : PF → PV
  | .ret v => v
  | _ => .none
theorem rt_pf (f : Flow) : rt (pf f) = pv (match f with | .ret v => v | _ => .none) := by cases f <;> rfl

section
variable (X : Cx) (A : Around) (env : Env)
def AVS : List Expr → AH → (List PV → AH → Prop) → Prop
  | [], σ, Q => Q [] σ
  | e :: es, σ, Q => EV X A env e σ fun p σ₁ => AVS es σ₁ fun ps σ₂ => Q (p :: ps) σ₂
/-- a call by values alone -/
def CV (f : Value) (ps : List PV) (σ : AH) (Q : PV → AH → Prop) : Prop := ∀ vals, vals.map pv = ps → WV X A (call f vals []) σ Q
def CK (f : Value) (ps : List PV) (kw : List (Str × PV)) (σ : AH) (Q : PV → AH → Prop) : Prop := ∀ vals ks, vals.map pv = ps → ks.map (fun x => (x.1, pv x.2)) = kw → WV X A (call f vals ks) σ Q
def plainArg : Expr → Bool
  | .Starred _ _ => false
  | _ => true
end
theorem starEach_plain {e : Expr} {rest : List Expr} {env : Env} (h : plainArg e = true) : starEach (e :: rest) env = (false, eval e env) :: starEach rest env := by
  cases e <;> first | rfl | cases h
theorem starEach_any {env : Env} {pos : Pos} : ∀ {es : List Expr}, es.all plainArg = true → (backTo pos (starEach es env)).any (·.1) = false
  | [], _ => rfl
  | e :: r, h => by
    obtain ⟨h1, h2⟩ := Bool.and_eq_true_iff.mp h
    rw [starEach_plain h1]
    show (false || (backTo pos (starEach r env)).any (·.1)) = false
    rw [starEach_any h2]; rfl
theorem kw_isSome {env : Env} {pos : Pos} : ∀ {ks : List Keyword}, ks.all (·.arg.isSome) = true → (backToKw pos (keywordEach ks env)).all (·.1.isSome) = true
  | [], _ => rfl
  | ⟨n, v, p⟩ :: r, h => by
    obtain ⟨h1, h2⟩ := Bool.and_eq_true_iff.mp h
    show (n.isSome && (backToKw pos (keywordEach r env)).all (·.1.isSome)) = true
    rw [kw_isSome h2, Bool.and_true]; exact h1

section
variable {X : Cx} {A : Around} {env : Env} {σ : AH} {Q : PV → AH → Prop}
theorem AVS.run {pos : Pos} : ∀ {es : List Expr} {σ : AH} {Q : List PV → AH → Prop}, es.all plainArg = true → AVS X A env es σ Q → WP X A (spliced (backTo pos (starEach es env))) σ fun vs σ' => Q (vs.map pv) σ'
  | [], σ, Q, _, h => WP.of fun s R => wpAny_items_nil ⟨σ, R, Step.refl σ s, h⟩
  | e :: es, σ, Q, hp, h => by
    obtain ⟨h1, h2⟩ := Bool.and_eq_true_iff.mp hp
    exact WP.of fun s R => wpAny_items_cons (WP.go h R (Step.refl σ s) fun v σ₁ s₁ R₁ S₁ q => WP.go (AVS.run h2 q) R₁ S₁ fun vs σ₂ s₂ R₂ S₂ q => ⟨σ₂, R₂, S₂, q⟩) (starEach_plain h1)

theorem evalArgs_wp {f : Value} {pos : Pos} {es : List Expr} {Q : List PV → AH → Prop} (hp : es.all plainArg = true) (h : AVS X A env es σ Q) :
    WP X A (evalArgs f true (backTo pos (starEach es env)) []) σ fun a σ' => Q (a.pos.map pv) σ' ∧ a.kw = [] := by
  cases es with
  | nil => exact WP.of fun s R => evalArgs_nil3 ⟨σ, R, Step.refl σ s, h, rfl⟩
  | cons e r =>
    obtain ⟨h1, h2⟩ := Bool.and_eq_true_iff.mp hp
    have z := AVS.run (pos := pos) hp h
    rw [starEach_plain h1] at z ⊢
    exact WP.of fun s R => Calls.evalArgs_plain (WP.go z R (Step.refl σ s) fun vs σ₁ s₁ R₁ S₁ q => ⟨σ₁, R₁, S₁, q, rfl⟩)

theorem callWith_ref {a : Addr} {o : Obj} {fd : FuncData} {pos : Pos} {es : List Expr} {first : List Value} (ho : X.base.get? a = some o) (hd : o.data = .func fd) (hp : es.all plainArg = true)
    (h : AVS X A env es σ fun ps σ₁ => CV X A (.ref a) (first.map pv ++ ps) σ₁ Q) : WV X A (callWith pos (.ref a) first (backTo pos (starEach es env)) []) σ Q :=
  WP.of fun s R => Calls.callWith_function (o := o) (fd := fd) (WP.go (evalArgs_wp hp h) R (Step.refl σ s) fun x σ₁ s₁ R₁ S₁ ⟨q, hk⟩ => ⟨⟨R₁.base _ _ ho, hd⟩, by
    rw [hk]
    exact WP.go (q (first ++ x.pos) (by simp)) R₁ S₁ fun v σ₂ s₂ R₂ S₂ q => ⟨σ₂, R₂, S₂, q⟩⟩)
theorem callWith_bi {id : String} {pos : Pos} {es : List Expr} {first : List Value} (hp : es.all plainArg = true)
    (h : AVS X A env es σ fun ps σ₁ => CV X A (.builtin id) (first.map pv ++ ps) σ₁ Q) : WV X A (callWith pos (.builtin id) first (backTo pos (starEach es env)) []) σ Q :=
  WP.of fun s R => Calls.callWith_builtin (starEach_any hp) (WP.go (evalArgs_wp hp h) R (Step.refl σ s) fun x σ₁ s₁ R₁ S₁ ⟨q, hk⟩ => by
    rw [hk]
    exact WP.go (q (first ++ x.pos) (by simp)) R₁ S₁ fun v σ₂ s₂ R₂ S₂ q => ⟨σ₂, R₂, S₂, q⟩)
theorem callWith_ty {T : String} {pos : Pos} {es : List Expr} {first : List Value} (hp : es.all plainArg = true)
    (h : AVS X A env es σ fun ps σ₁ => CV X A (.type T) (first.map pv ++ ps) σ₁ Q) : WV X A (callWith pos (.type T) first (backTo pos (starEach es env)) []) σ Q :=
  WP.of fun s R => PySem.callWith_type (starEach_any hp) (WP.go (evalArgs_wp hp h) R (Step.refl σ s) fun x σ₁ s₁ R₁ S₁ ⟨q, hk⟩ => by
    rw [hk]
    exact WP.go (q (first ++ x.pos) (by simp)) R₁ S₁ fun v σ₂ s₂ R₂ S₂ q => ⟨σ₂, R₂, S₂, q⟩)

theorem EV.callName {x : Str} {np pos : Pos} {es : List Expr} (h : EV X A env (.Name x np) σ fun p σ₁ => ∀ v, pv v = p → WV X A (callWith pos v [] (backTo pos (starEach es env)) []) σ₁ Q) :
    EV X A env (.Call (.Name x np) es [] pos) σ Q :=
  WP.of fun s R => wpAny_Call_Name_kw (WP.go h R (Step.refl σ s) fun v σ₁ s₁ R₁ S₁ q => WP.go (q v rfl) R₁ S₁ fun v σ₂ s₂ R₂ S₂ q => ⟨σ₂, R₂, S₂, q⟩)

/-- a def of the text's, called by its name -/
theorem EV.callDef {x : Str} {np pos : Pos} {es : List Expr} {a : Addr} {o : Obj} {fd : FuncData} (O : X.Ok) (hx : X.mg x = some (.ref a)) (ho : X.base.get? a = some o) (hd : o.data = .func fd)
    (h : AVS X A env es σ fun ps σ₁ => CV X A (.ref a) ps σ₁ Q) (hp : es.all plainArg = true := by rfl)
    (hg : env.globals = mainGlobals := by rfl) (hk : env.scope.kind = .function := by rfl) (hl : env.kindOf x = some .globalImplicit := by rfl) (hdb : (x == ("__debug__" : Str)) = false := by decide) :
    EV X A env (.Call (.Name x np) es [] pos) σ Q :=
  EV.callName (EV.glob O hx (fun v e => by rw [pv_ref e]; exact callWith_ref ho hd hp h) hg hk hl hdb)
/-- a builtin function, called by its name -/
theorem EV.callBi {x : Str} {np pos : Pos} {es : List Expr} {id : String} (O : X.Ok) (hm : X.mg x = Option.none) (hx : X.mb x = some (.builtin id))
    (h : AVS X A env es σ fun ps σ₁ => CV X A (.builtin id) ps σ₁ Q) (hp : es.all plainArg = true := by rfl)
    (hg : env.globals = mainGlobals := by rfl) (hb : env.builtins = builtinsNs := by rfl) (hk : env.scope.kind = .function := by rfl) (hl : env.kindOf x = some .globalImplicit := by rfl) (hdb : (x == ("__debug__" : Str)) = false := by decide) :
    EV X A env (.Call (.Name x np) es [] pos) σ Q :=
  EV.callName (EV.bltn O hm hx (fun v e => by rw [pv_raw e]; exact callWith_bi hp h) hg hb hk hl hdb)
theorem EV.callTy {x : Str} {np pos : Pos} {es : List Expr} {T : String} (O : X.Ok) (hm : X.mg x = Option.none) (hx : X.mb x = some (.type T))
    (h : AVS X A env es σ fun ps σ₁ => CV X A (.type T) ps σ₁ Q) (hp : es.all plainArg = true := by rfl)
    (hg : env.globals = mainGlobals := by rfl) (hb : env.builtins = builtinsNs := by rfl) (hk : env.scope.kind = .function := by rfl) (hl : env.kindOf x = some .globalImplicit := by rfl) (hdb : (x == ("__debug__" : Str)) = false := by decide) :
    EV X A env (.Call (.Name x np) es [] pos) σ Q :=
  EV.callName (EV.bltn O hm hx (fun v e => by rw [pv_raw e]; exact callWith_ty hp h) hg hb hk hl hdb)

def bindP (binds : List (Str × Value)) : Str → Option PV := fun x => (binds.reverse.lookup x).map pv

/-- the call of a def without cells: the parameters by what bindArgs gives -/
theorem CL.def {a : Addr} {o : Obj} {fd : FuncData} {body : List Stmt} {args : Args} {k : Nat} (O : X.Ok) (r : Rm A (k + 1)) (ho : X.base.get? a = some o) (hdata : o.data = .func fd)
    (hcd : X.base.CodeRec fd.code fd.qualname) (hbody : fd.body = .stmts body)
    (hb : WP X A.in1 (bindArgs fd args) σ fun binds σ₁ => (∀ x ∈ binds, fd.scope.names.lookup x.1 = some .local) ∧ ∀ L : Nat, (∀ b : Nat, L ≤ b → σ₁ b = none ∧ X.base.get? b = none) →
      Rm (A.deeper (callEnv fd L a)) k → XS X (A.deeper (callEnv fd L a)) (callEnv fd L a) body (σ₁.set L (.ns (bindP binds))) fun f σ₂ => Q (rt f) σ₂)
    (hcell : ∀ x ∈ fd.scope.names, x.2 ≠ .cell) (hco : fd.scope.isCoroutine = false := by rfl) (hgen : fd.scope.isGenerator = false := by rfl) (hk : fd.scope.kind = .function := by rfl) :
    WV X A (call (.ref a) args.pos args.kw) σ Q := by
  refine WP.of fun s R => wpAny_call (codeAny_call_function r.depth (R.base _ _ ho) hdata hco hgen hbody (hcd.keeps R.base) ?_)
  refine WP.go hb R (Step.refl σ s) fun binds σ₁ s₁ R₁ S₁ ⟨hloc, q⟩ => ?_
  refine wpAny_newFunctionEnv hcell hloc (fun h₀ hns hsb => ⟨(O.lim.keeps R₁.base).fresh _ hsb, codeAny_func ?_⟩) hk
  have hkeep : ∀ b o, s₁.heap.get? b = some o → h₀.get? b = some o := fun b o e => hsb.extBut b o (Nat.ne_of_lt (Heap.lt_size e)) (Heap.get?_push_of_some _ e)
  have hsz : s₁.heap.objs.size < h₀.objs.size := by rw [hsb.1, Heap.size_push]; exact Nat.lt_succ_self _
  obtain ⟨R₂, S₂, hn, hbn⟩ := R₁.new (h' := h₀) (tk := s₁.toks + binds.length) (p := .ns (bindP binds)) hsz hkeep ⟨_, hns, fun x => rfl⟩ (Nat.le_trans R₁.tk (Nat.le_add_right _ _))
  have hfree : ∀ b, s₁.heap.objs.size ≤ b → σ₁ b = none ∧ X.base.get? b = none := fun b hb => by
    have hx : s₁.heap.get? b = none := by
      cases q : s₁.heap.get? b with
      | none => rfl
      | some o => exact absurd (Heap.lt_size q) (Nat.not_lt.mpr hb)
    constructor
    · cases q : σ₁ b with
      | none => rfl
      | some p => obtain ⟨o, ho⟩ := (R₁.rz _ _ q).there; rw [hx] at ho; cases ho
    · cases q : X.base.get? b with
      | none => rfl
      | some o => rw [R₁.base _ _ q] at hx; cases hx
  refine wpAny_mono (WP.go (h := q s₁.heap.objs.size hfree (r.deeper _)) (Q' := fun f s' => ∃ σ', Real X σ' s' ∧ Step σ s σ' s' ∧ Q (rt (pf f)) σ') R₂ (S₁.trans S₂) fun f σ₃ s₃ R₃ S₃ q => ⟨σ₃, R₃, S₃, q⟩) (fun f s' ⟨σ', R', S', q'⟩ => ?_) fun _ _ x => x.elim
  exact ⟨σ', R', S', by cases f <;> exact q'⟩
end
end Mine
end

section
open PySem PySem.W PyProof.Rows
namespace Mine

structure IT (X : Cx) (A : Around) (I : Addr) (n : Nat) (item : Nat → PV) (Need : AH → Prop) (St : Nat → Heap → Prop) : Prop where
  frame : ∀ i h h', St i h → (∀ o, h.get? I = some o → h'.get? I = some o) → St i h'
  there : ∀ i h, St i h → ∃ o, h.get? I = some o
  next : ∀ i σ s, i < n → Real X σ s → Need σ → St i s.heap → ∀ Q' : Option Value → Shared → Prop, (∀ v h' tk, pv v = item i → St (i + 1) h' → (∀ b o, b ≠ I → s.heap.get? b = some o → h'.get? b = some o) → Q' (some v) { s with heap := h', toks := tk }) →
    wpAny (model X.prog X.w) A (pyNext (.ref I)) Q' (fun _ _ => False) s
  done : ∀ σ s, Real X σ s → Need σ → St n s.heap → ∀ Q' : Option Value → Shared → Prop, (∀ h' tk, (∀ b o, b ≠ I → s.heap.get? b = some o → h'.get? b = some o) → Q' .none { s with heap := h', toks := tk }) →
    wpAny (model X.prog X.w) A (pyNext (.ref I)) Q' (fun _ _ => False) s
  owned : ∀ i s t v, St i s.heap → ∀ Q' : Unit → Shared → Prop, Q' () s → wpAny (model X.prog X.w) A (letOwnedTupleGo t (.ref I) v) Q' (fun _ _ => False) s
  self : ∀ i s, St i s.heap → ∀ Q' : Value → Shared → Prop, Q' (.ref I) s → wpAny (model X.prog X.w) A (pyIter (.ref I)) Q' (fun _ _ => False) s

theorem letOwned_rec {M : Model} {A : Around} {E : Value → Shared → Prop} {s : Shared} {I : Addr} {T : String} {vs : Array Value} {o : Obj} (ho : s.heap.get? I = some o) (hc : o.cls = .type T) (hd : o.data = .fields vs)
    (hT : ["enumerate", "zip", "dict_itemiterator", "dict_reverseitemiterator", "odict_iterator", "itertools.zip_longest", "itertools.pairwise"].contains T = false) {t : Expr} {v : Value} {Q : Unit → Shared → Prop} (h : Q () s) :
    wpAny M A (letOwnedTupleGo t (.ref I) v) Q E s := by
  obtain ⟨c, dt, d, sl⟩ := o
  simp only at hc hd
  subst hc hd
  unfold letOwnedTupleGo
  split
  · cases v <;> first
      | exact wpAny_pure h
      | (refine wpAny_bind (wpAny_load ho ?_)
         simp only [hT, Bool.false_and, Bool.false_eq_true, if_false]
         exact wpAny_pure h)
  · cases v <;> first
      | exact wpAny_pure h
      | (refine wpAny_bind (wpAny_load ho ?_)
         simp only [hT, Bool.false_and, Bool.false_eq_true, if_false]
         exact wpAny_pure h)
  · exact wpAny_pure h

theorem IT.list {X : Cx} {A : Around} (hh : A.handled = none) {I l : Addr} (hne : l ≠ I) (vs : List PV) :
    IT X A I vs.length (fun i => vs.getD i .none) (fun σ => σ l = some (.list vs)) (fun i h => h.IsListIter I l i) where
  frame := fun i h h' st hk => st.at hk
  there := fun i h ⟨o, ho, _⟩ => ⟨_, ho⟩
  next := fun i σ s hi R hl st Q' hQ => by
    obtain ⟨vals, hp, e⟩ := R.rz _ _ hl
    have hs : i < vals.size := by rw [← e, List.length_map, Array.length_toList] at hi; exact hi
    refine wpAny_pyNext_list_item st hp.isList (x := vals[i]) (by simp [hs]) fun h' hit hsb => ?_
    refine hQ _ h' s.toks ?_ hit fun b o hb eb => (hsb.2 b hb).trans eb
    subst e
    simp [hs]
  done := fun σ s R hl st Q' hQ => by
    obtain ⟨vals, hp, e⟩ := R.rz _ _ hl
    refine wpAny_pyNext_list_end hh st hp.isList (by rw [← e]; simp) fun h' he => hQ h' s.toks fun b o hb eb => he b o hb eb
  owned := fun i s t v ⟨o, ho, hc, hd⟩ Q' hQ => letOwned_rec ho hc hd rfl hQ
  self := fun i s st Q' hQ => wpAny_pyIter_listiter st hQ

theorem IT.range {X : Cx} {A : Around} (hh : A.handled = none) {I : Addr} (a c : Int) (n : Nat) :
    IT X A I n (fun i => .int (a + i * c)) (fun _ => True) (fun i h => IsRangeIter h I (a + (i : Nat) * c) ((n : Int) - (i : Nat)) c) where
  frame := fun i h h' st hk => hk _ st
  there := fun i h st => ⟨_, st⟩
  next := fun i σ s hi R _ st Q' hQ => (Walks.range hh I a c n).item i s Q' _ hi st fun v h' tk ⟨t, e⟩ st' hk => hQ v h' tk (by rw [e]; rfl) st' fun b o hb eb => hk b o (by simpa using hb) eb
  done := fun σ s R _ st Q' hQ => (Walks.range hh I a c n).done s Q' _ st fun h' tk hk => hQ h' tk fun b o hb eb => hk b o (by simpa using hb) eb
  owned := fun i s t v st Q' hQ => letOwned_rec st rfl rfl rfl hQ
  self := fun i s st Q' hQ => wpAny_pyIter_rangeiter st hQ

theorem Real.other {X : Cx} {σ : AH} {s : Shared} (R : Real X σ s) {I : Addr} (hσ : σ I = none) (hb : X.base.get? I = none) {h' : Heap} {tk : Nat} (hk : ∀ b o, b ≠ I → s.heap.get? b = some o → h'.get? b = some o) (htk : 1 ≤ tk) :
    Real X σ { s with heap := h', toks := tk } :=
  ⟨fun a p e => (R.rz a p e).keep fun o ho => hk a o (fun z => by rw [z, hσ] at e; cases e) ho, fun b o e => hk b o (fun z => by rw [z, hb] at e; cases e) (R.base b o e), R.apart, R.gens, R.os, htk⟩

/-- what holds of a state along a loop: a step of the call's own but at the iterator -/
structure Along (X : Cx) (σ₀ : AH) (s₀ : Shared) (I : Addr) (σ : AH) (s : Shared) : Prop where
  real : Real X σ s
  step : Step σ₀ s₀ σ s
  off : σ I = none
  boff : X.base.get? I = none
  new : s₀.heap.get? I = none

section
variable {X : Cx} {A : Around} {env : Env} {σ σ₀ : AH} {s₀ s : Shared} {I : Addr}
theorem Along.other (L : Along X σ₀ s₀ I σ s) {h' : Heap} {tk : Nat} (hk : ∀ b o, b ≠ I → s.heap.get? b = some o → h'.get? b = some o) (htk : 1 ≤ tk) : Along X σ₀ s₀ I σ { s with heap := h', toks := tk } :=
  ⟨L.real.other L.off L.boff hk htk, ⟨fun b o hb e => hk b o (fun z => by rw [z, L.new] at e; cases e) (L.step.keep b o hb e), fun b p e => L.step.fresh b p e, L.step.gens, L.step.gsize⟩, L.off, L.boff, L.new⟩
theorem Along.go {α : Type} {t : Sem α} {Q : α → AH → Prop} {Q' : α → Shared → Prop} (h : WP X A t σ Q) (L : Along X σ₀ s₀ I σ s) {St : Heap → Prop} (st : St s.heap) (hfr : ∀ h h', St h → (∀ o, h.get? I = some o → h'.get? I = some o) → St h') (hth : ∃ o, s.heap.get? I = some o)
    (hQ : ∀ a σ' s', Along X σ₀ s₀ I σ' s' → St s'.heap → (∃ o, s'.heap.get? I = some o) → Q a σ' → Q' a s') : wpAny (model X.prog X.w) A t Q' (fun _ _ => False) s :=
  h.go L.real (Step.refl σ s) fun a σ' s' R' S' q => by
    obtain ⟨o, ho⟩ := hth
    have hk : ∀ o, s.heap.get? I = some o → s'.heap.get? I = some o := fun o e => S'.keep I o L.off e
    refine hQ a σ' s' ⟨R', L.step.trans S', ?_, L.boff, L.new⟩ (hfr _ _ st hk) ⟨o, hk o ho⟩ q
    cases q : σ' I with
    | none => rfl
    | some p =>
      rcases S'.fresh I p q with ⟨p', e⟩ | e
      · rw [L.off] at e; cases e
      · rw [ho] at e; cases e

theorem for_core {target : Expr} {body : List Stmt} {n : Nat} {item : Nat → PV} {Need : AH → Prop} {St : Nat → Heap → Prop} {Q : PF → AH → Prop} (T : IT X A I n item Need St) (J : Nat → AH → Prop) (need : ∀ i σ', i ≤ n → J i σ' → Need σ')
    (turn : ∀ i σ', i < n → J i σ' → ASG X A env target (item i) σ' fun σ'' => XS X A env body σ'' fun f σ₃ => match f with
      | .next | .cont => J (i + 1) σ₃
      | .brk => Q .next σ₃
      | .ret v => Q (.ret v) σ₃)
    (done : ∀ σ', J n σ' → Q .next σ') (L : Along X σ₀ s₀ I σ s) (st : St 0 s.heap) (h0 : J 0 σ) :
    codeAny (model X.prog X.w) A (.forLoop target (.ref I) body [] env) (fun r s' => match r with | .ok f => ∃ σ', Real X σ' s' ∧ Step σ₀ s₀ σ' s' ∧ Q (pf f) σ' | .error _ => False) s := by
  refine codeAny_forLoop_any (fun k s' => ∃ i σ', k = n - i ∧ i ≤ n ∧ Along X σ₀ s₀ I σ' s' ∧ St i s'.heap ∧ J i σ') ?_ n ⟨0, σ, by omega, Nat.zero_le _, L, st, h0⟩
  rintro k s' ⟨i, σ', rfl, hi, L', st', j⟩
  by_cases hlt : i < n
  · refine wpAny_mono (with_tk (Nat.le_refl s'.toks) (T.next i σ' s' hlt L'.real (need i σ' hi j) st' (fun r s₁ => s'.toks ≤ s₁.toks → ∃ v, r = some v ∧ pv v = item i ∧ St (i + 1) s₁.heap ∧ Along X σ₀ s₀ I σ' s₁) fun v h' tk e st₁ hk htk => ⟨v, rfl, e, st₁, L'.other hk (Nat.le_trans L'.real.tk htk)⟩)) (fun r s₁ h₁ => ?_) fun _ _ x => x.elim
    obtain ⟨v, rfl, e, st₁, L₁⟩ := h₁
    refine wpAny_mono (T.owned (i + 1) s₁ target v st₁ (fun _ s => s = s₁) rfl) (fun _ s₂ h₂ => ?_) fun _ _ x => x.elim
    subst h₂
    refine wpAny_mono (L₁.go (turn i σ' hlt j v e) (St := St (i + 1)) st₁ (T.frame _) (T.there _ _ st₁) (Q' := fun _ s₂ => ∃ σ₂, Along X σ₀ s₀ I σ₂ s₂ ∧ St (i + 1) s₂.heap ∧ XS X A env body σ₂ _) fun _ σ₂ s₂ L₂ st₂ _ q => ⟨σ₂, L₂, st₂, q⟩) (fun _ s₂ h₂ => ?_) fun _ _ x => x.elim
    obtain ⟨σ₂, L₂, st₂, q⟩ := h₂
    refine wpAny_mono (L₂.go (h := q) (St := St (i + 1)) st₂ (T.frame _) (T.there _ _ st₂) (Q' := fun f s₃ => ∃ σ₃, Along X σ₀ s₀ I σ₃ s₃ ∧ St (i + 1) s₃.heap ∧ _) fun f σ₃ s₃ L₃ st₃ _ q => ⟨σ₃, L₃, st₃, q⟩) (fun f s₃ h₃ => ?_) fun _ _ x => x.elim
    obtain ⟨σ₃, L₃, st₃, q⟩ := h₃
    cases f with
    | next => exact ⟨n - (i + 1), by omega, i + 1, σ₃, rfl, hlt, L₃, st₃, q⟩
    | cont => exact ⟨n - (i + 1), by omega, i + 1, σ₃, rfl, hlt, L₃, st₃, q⟩
    | brk => exact ⟨σ₃, L₃.real, L₃.step, q⟩
    | ret v => exact ⟨σ₃, L₃.real, L₃.step, q⟩
  · have e : i = n := by omega
    subst e
    refine wpAny_mono (with_tk (Nat.le_refl s'.toks) (T.done σ' s' L'.real (need i σ' hi j) st' (fun r s₁ => s'.toks ≤ s₁.toks → r = none ∧ Along X σ₀ s₀ I σ' s₁) fun h' tk hk htk => ⟨rfl, L'.other hk (Nat.le_trans L'.real.tk htk)⟩)) (fun r s₁ h₁ => ?_) fun _ _ x => x.elim
    obtain ⟨rfl, L₁⟩ := h₁
    exact wpAny_execs_nil ⟨σ', L₁.real, L₁.step, done σ' j⟩

theorem EX.forList {target iter : Expr} {body : List Stmt} {pos : Pos} {Q : PF → AH → Prop} (hh : A.handled = none)
    (h : EV X A env iter σ fun p σ₁ => ∃ (l : Addr) (vs : List PV) (J : Nat → AH → Prop), p = .ref l ∧ σ₁ l = some (.list vs) ∧ J 0 σ₁ ∧ (∀ i σ', i ≤ vs.length → J i σ' → σ' l = some (.list vs)) ∧
      (∀ i σ', i < vs.length → J i σ' → ASG X A env target (vs.getD i .none) σ' fun σ'' => XS X A env body σ'' fun f σ₃ => match f with
        | .next | .cont => J (i + 1) σ₃
        | .brk => Q .next σ₃
        | .ret v => Q (.ret v) σ₃) ∧ (∀ σ', J vs.length σ' → Q .next σ'))
    (hs : ∀ x, foldedSetIterable iter env x = pure x := by intro _; rfl) : EX X A env (.For target iter body [] pos) σ Q := by
  refine WP.of fun s R => wpAny_For (h.go R (Step.refl σ s) fun v σ₁ s₁ R₁ S₁ ⟨l, vs, J, e, hl, h0, need, turn, done⟩ => ?_) hs
  rw [pv_ref e]
  obtain ⟨vals, hp, em⟩ := R₁.rz _ _ hl
  have hlt : l < s₁.heap.objs.size := by obtain ⟨n, ho⟩ := hp; exact Heap.lt_size ho
  refine wpAny_pyIter_list hp.isList ?_
  have hnew := R₁.new (h' := s₁.heap.push { cls := .type "list_iterator", data := .fields #[.ref l, .int 0 0] }) (tk := s₁.toks) (p := .obj { cls := .type "list_iterator", data := .fields #[.ref l, .int 0 0] })
    (by rw [Heap.size_push]; exact Nat.lt_succ_self _) (fun b o e => Heap.get?_push_of_some _ e) (Heap.get?_push_size _ rfl) R₁.tk
  have hnone : s₁.heap.get? s₁.heap.objs.size = none := by
    cases q : s₁.heap.get? s₁.heap.objs.size with
    | none => rfl
    | some o => exact absurd (Heap.lt_size q) (Nat.lt_irrefl _)
  refine codeAny_mono (for_core (IT.list hh (Nat.ne_of_lt hlt) vs) J need turn done (σ₀ := σ₁) (s₀ := s₁) ⟨?_, ?_, hnew.2.2.1, hnew.2.2.2, hnone⟩ ⟨_, Heap.get?_push_size _ rfl, rfl, rfl⟩ h0) (fun r s' hr => ?_)
  · exact R₁.other hnew.2.2.1 hnew.2.2.2 (fun b o _ e => Heap.get?_push_of_some _ e) R₁.tk
  · exact ⟨fun b o _ e => Heap.get?_push_of_some _ e, fun b p e => .inl ⟨p, e⟩, fun _ _ => rfl, Nat.le_refl _⟩
  · cases r with
    | ok f => obtain ⟨σ', R', S', q⟩ := hr; exact ⟨σ', R', S₁.trans S', q⟩
    | error e => exact hr.elim

theorem EX.forRange {target iter : Expr} {body : List Stmt} {pos : Pos} {Q : PF → AH → Prop} (hh : A.handled = none)
    (h : EV X A env iter σ fun p σ₁ => ∃ (l : Addr) (a b c : Int) (n : Nat) (J : Nat → AH → Prop), p = .ref l ∧ σ₁ l = some (.range a b c) ∧ Builtin.Range.small a b c = true ∧ Builtin.Range.rangeSize a b c = n ∧ J 0 σ₁ ∧
      (∀ i σ', i < n → J i σ' → ASG X A env target (.int (a + i * c)) σ' fun σ'' => XS X A env body σ'' fun f σ₃ => match f with
        | .next | .cont => J (i + 1) σ₃
        | .brk => Q .next σ₃
        | .ret v => Q (.ret v) σ₃) ∧ (∀ σ', J n σ' → Q .next σ'))
    (hs : ∀ x, foldedSetIterable iter env x = pure x := by intro _; rfl) : EX X A env (.For target iter body [] pos) σ Q := by
  refine WP.of fun s R => wpAny_For (h.go R (Step.refl σ s) fun v σ₁ s₁ R₁ S₁ ⟨l, a, b, c, n, J, e, hl, hsm, hn, h0, turn, done⟩ => ?_) hs
  rw [pv_ref e]
  obtain ⟨t, u, w, hp⟩ := R₁.rz _ _ hl
  refine wpAny_pyIter_range hp hsm ?_
  rw [hn]
  have hnew := R₁.new (h' := s₁.heap.push { cls := .type "range_iterator", data := .fields #[rawInt a, rawInt n, rawInt c] }) (tk := s₁.toks) (p := .obj { cls := .type "range_iterator", data := .fields #[rawInt a, rawInt n, rawInt c] })
    (by rw [Heap.size_push]; exact Nat.lt_succ_self _) (fun b o e => Heap.get?_push_of_some _ e) (Heap.get?_push_size _ rfl) R₁.tk
  have hnone : s₁.heap.get? s₁.heap.objs.size = none := by
    cases q : s₁.heap.get? s₁.heap.objs.size with
    | none => rfl
    | some o => exact absurd (Heap.lt_size q) (Nat.lt_irrefl _)
  refine codeAny_mono (for_core (IT.range hh a c n) J (fun _ _ _ _ => trivial) turn done (σ₀ := σ₁) (s₀ := s₁) ⟨?_, ?_, hnew.2.2.1, hnew.2.2.2, hnone⟩ (by simpa using Heap.get?_push_size _ rfl) h0) (fun r s' hr => ?_)
  · exact R₁.other hnew.2.2.1 hnew.2.2.2 (fun b o _ e => Heap.get?_push_of_some _ e) R₁.tk
  · exact ⟨fun b o _ e => Heap.get?_push_of_some _ e, fun b p e => .inl ⟨p, e⟩, fun _ _ => rfl, Nat.le_refl _⟩
  · cases r with
    | ok f => obtain ⟨σ', R', S', q⟩ := hr; exact ⟨σ', R', S₁.trans S', q⟩
    | error e => exact hr.elim
end
end Mine
end

section
open PySem PySem.W PyProof.Rows
namespace Mine

/-- what holds of a state while some addresses are hidden -/
structure AlongH (X : Cx) (σ₀ : AH) (s₀ : Shared) (H : List Addr) (σ : AH) (s : Shared) : Prop where
  real : Real X σ s
  step : Step σ₀ s₀ σ s
  off : ∀ b ∈ H, σ b = none
  boff : ∀ b ∈ H, X.base.get? b = none
  new : ∀ b ∈ H, s₀.heap.get? b = none
  there : ∀ b ∈ H, ∃ o, s.heap.get? b = some o

section
variable {X : Cx} {A : Around} {env : Env} {σ σ₀ : AH} {s₀ s : Shared} {H : List Addr}
theorem AlongH.other (L : AlongH X σ₀ s₀ H σ s) {h' : Heap} {tk : Nat} (hk : ∀ b o, b ∉ H → s.heap.get? b = some o → h'.get? b = some o) (ht : ∀ b ∈ H, ∃ o, h'.get? b = some o) (htk : 1 ≤ tk) : AlongH X σ₀ s₀ H σ { s with heap := h', toks := tk } := by
  exact ⟨⟨fun a p e => (L.real.rz a p e).keep fun o ho => hk a o (fun z => by rw [L.off a z] at e; cases e) ho, fun b o e => hk b o (fun z => by rw [L.boff b z] at e; cases e) (L.real.base b o e), L.real.apart, L.real.gens, L.real.os, htk⟩,
    ⟨fun b o hb e => hk b o (fun z => by rw [L.new b z] at e; cases e) (L.step.keep b o hb e), fun b p e => L.step.fresh b p e, L.step.gens, L.step.gsize⟩, L.off, L.boff, L.new, ht⟩
theorem AlongH.go {α : Type} {t : Sem α} {Q : α → AH → Prop} {Q' : α → Shared → Prop} (h : WP X A t σ Q) (L : AlongH X σ₀ s₀ H σ s)
    (hQ : ∀ a σ' s', AlongH X σ₀ s₀ H σ' s' → (∀ b ∈ H, ∀ o, s.heap.get? b = some o → s'.heap.get? b = some o) → Q a σ' → Q' a s') : wpAny (model X.prog X.w) A t Q' (fun _ _ => False) s :=
  h.go L.real (Step.refl σ s) fun a σ' s' R' S' q => by
    have hk : ∀ b ∈ H, ∀ o, s.heap.get? b = some o → s'.heap.get? b = some o := fun b hb o e => S'.keep b o (L.off b hb) e
    refine hQ a σ' s' ⟨R', L.step.trans S', fun b hb => ?_, L.boff, L.new, fun b hb => ?_⟩ hk q
    · obtain ⟨o, ho⟩ := L.there b hb
      cases q : σ' b with
      | none => rfl
      | some p =>
        rcases S'.fresh b p q with ⟨p', e⟩ | e
        · rw [L.off b hb] at e; cases e
        · rw [ho] at e; cases e
    · obtain ⟨o, ho⟩ := L.there b hb
      exact ⟨o, hk b hb o ho⟩
theorem AlongH.le (L : AlongH X σ₀ s₀ H σ s) {σ' : AH} (h : AH.le σ' σ) : AlongH X σ₀ s₀ H σ' s := by
  refine ⟨L.real.le h, L.step.le h, fun b hb => ?_, L.boff, L.new, L.there⟩
  cases q : σ' b with
  | none => rfl
  | some p => have := h b p q; rw [L.off b hb] at this; cases this
theorem AlongH.lose {I D : Addr} (hID : I ≠ D) (L : AlongH X σ₀ s₀ [I, D] σ s) {h' : Heap} {tk : Nat} (hk : ∀ b o, b ≠ I → s.heap.get? b = some o → h'.get? b = some o) (htk : 1 ≤ tk) : AlongH X σ₀ s₀ [D] σ { s with heap := h', toks := tk } := by
  have mI : I ∈ [I, D] := by simp
  have mD : D ∈ [I, D] := by simp
  refine ⟨⟨fun a p e => (L.real.rz a p e).keep fun o ho => hk a o (fun z => by rw [z, L.off I mI] at e; cases e) ho, fun b o e => hk b o (fun z => by rw [z, L.boff I mI] at e; cases e) (L.real.base b o e), L.real.apart, L.real.gens, L.real.os, htk⟩,
    ⟨fun b o hb e => hk b o (fun z => by rw [z, L.new I mI] at e; cases e) (L.step.keep b o hb e), fun b p e => L.step.fresh b p e, L.step.gens, L.step.gsize⟩, fun b hb => ?_, fun b hb => ?_, fun b hb => ?_, fun b hb => ?_⟩ <;> rw [List.mem_singleton.mp hb]
  · exact L.off D mD
  · exact L.boff D mD
  · exact L.new D mD
  · obtain ⟨o, ho⟩ := L.there D mD
    exact ⟨o, hk D o hID.symm ho⟩

/-- the tests of a comprehension, none or one -/
def TSL (X : Cx) (A : Around) (env : Env) : List Expr → AH → (Bool → AH → Prop) → Prop
  | [], σ, Q => Q true σ
  | [c], σ, Q => TS X A env c σ Q
  | _, _, _ => False
theorem TSL.run {ifs : List Expr} {Q : Bool → AH → Prop} (h : TSL X A env ifs σ Q) :
    WP X A (forIn ifs true fun c r => if r = true then do let ok ← isTrue c env (eval c env); pure (ForInStep.yield ok) else pure (ForInStep.yield r)) σ Q := by
  cases ifs with
  | nil => exact WP.of fun s R => wpAny_tests_nil ⟨σ, R, Step.refl σ s, h⟩
  | cons c r =>
    cases r with
    | nil => exact WP.of fun s R => wpAny_tests_one ((show WP X A _ σ Q from h).run s R)
    | cons c' r' => exact h.elim

theorem comp_turn {elt target iter : Expr} {ifs : List Expr} {scope : Scope} {pos : Pos} {it acc : Value} {env : Env} {prog : Program} {w : World} {R : Result → Shared → Prop} (I : Nat → Shared → Prop)
    (turn : ∀ n s, I n s → wpAny (model prog w) A (pyNext it) (fun r s₁ => match r with
      | .none => R (.ok .next) s₁
      | some v => wpAny (model prog w) A (letOwnedTupleGo target it v) (fun _ s₁' => wpAny (model prog w) A (assign target env v) (fun _ s₂ =>
          wpAny (model prog w) A (forIn ifs true fun c r => if r = true then do let ok ← isTrue c env (eval c env); pure (ForInStep.yield ok) else pure (ForInStep.yield r)) (fun ok s₃ =>
            if ok = true then wpAny (model prog w) A (eval elt env) (fun x s₄ =>
              wpAny (model prog w) A (call (.builtin "list.append") [acc, x]) (fun _ s₅ => ∃ m, m < n ∧ I m s₅) (fun _ _ => False) s₄) (fun _ _ => False) s₃
            else ∃ m, m < n ∧ I m s₃) (fun _ _ => False) s₂) (fun _ _ => False) s₁') (fun _ _ => False) s₁) (fun _ _ => False) s)
    (n : Nat) (h : I n s) :
    codeAny (model prog w) A (.compLoop (.ListComp elt [⟨target, iter, ifs, 0⟩] scope pos) 0 it acc env) R s := by
  refine codeAny_loop rfl I (fun n s hI => ?_) n h
  show wpAny _ A ((compTurn (.ListComp elt [⟨target, iter, ifs, 0⟩] scope pos) 0 it acc env).onRaise (fun x => do noteFrame x env; theTreesLotGoes x)) _ _ s
  refine wpAny_noted ?_
  rw [compTurn_list]
  refine wpAny_bind (wpAny_standAt (wpAny_bind (wpAny_mono (turn n s hI) (fun r s₁ h₁ => ?_) fun _ _ h' => h'.elim)))
  cases r with
  | none => exact wpAny_pure h₁
  | some v =>
    refine wpAny_bind (wpAny_mono h₁ (fun _ s₁' h₁' => ?_) fun _ _ x => x.elim)
    refine wpAny_bind (wpAny_mono h₁' (fun _ s₂ h₂ => wpAny_bind (wpAny_mono h₂ (fun ok s₃ h₃ => ?_) fun _ _ h' => h'.elim)) fun _ _ h' => h'.elim)
    cases ok with
    | false => exact wpAny_pure ⟨rfl, h₃⟩
    | true =>
      exact wpAny_bind (wpAny_bind (wpAny_mono h₃ (fun x s₄ h₄ => wpAny_bind (wpAny_mono h₄ (fun _ s₅ h₅ => wpAny_pure (wpAny_pure ⟨rfl, h₅⟩)) fun _ _ h' => h'.elim)) fun _ _ h' => h'.elim))

theorem comp_core {elt target iter : Expr} {ifs : List Expr} {scope : Scope} {pos : Pos} {I D : Addr} {n : Nat} {item : Nat → PV} {Need : AH → Prop} {St : Nat → Heap → Prop} (T : IT X A I n item Need St) (hID : I ≠ D) (hn : n ≤ sizeLine)
    (J : Nat → List PV → AH → Prop) (Fm : Option PV → AH → AH)
    (need : ∀ i acc o σ', i ≤ n → J i acc σ' → Need (Fm o σ'))
    (asg : ∀ i acc o σ', i < n → J i acc σ' → ASG X A env target (item i) (Fm o σ') fun σ'' => σ'' = Fm (some (item i)) σ')
    (turn : ∀ i acc σ', i < n → J i acc σ' → TSL X A env ifs (Fm (some (item i)) σ') fun ok σ₂ =>
      (ok = true → EV X A env elt σ₂ fun y σ₃ => ∃ σ₄, AH.le (Fm (some (item i)) σ₄) σ₃ ∧ J (i + 1) (acc ++ [y]) σ₄) ∧ (ok = false → ∃ σ₄, AH.le (Fm (some (item i)) σ₄) σ₂ ∧ J (i + 1) acc σ₄))
    (L : AlongH X σ₀ s₀ [I, D] (Fm none σ) s) (st : St 0 s.heap) (hD : s.heap.PlainList D #[]) (h0 : J 0 [] σ)
    {R : Result → Shared → Prop} (hR : ∀ acc o σ' s' ys, J n acc σ' → AlongH X σ₀ s₀ [D] (Fm o σ') s' → s'.heap.PlainList D ys → ys.toList.map pv = acc → R (.ok .next) s') :
    codeAny (model X.prog X.w) A (.compLoop (.ListComp elt [⟨target, iter, ifs, 0⟩] scope pos) 0 (.ref I) (.ref D) env) R s := by
  refine comp_turn (fun k s' => ∃ i acc o σ' ys, k = n - i ∧ i ≤ n ∧ AlongH X σ₀ s₀ [I, D] (Fm o σ') s' ∧ St i s'.heap ∧ J i acc σ' ∧ s'.heap.PlainList D ys ∧ ys.toList.map pv = acc ∧ ys.size ≤ i) ?_ n ⟨0, [], none, σ, #[], by omega, Nat.zero_le _, L, st, h0, hD, rfl, Nat.le_refl _⟩
  rintro k s' ⟨i, acc, o, σ', ys, rfl, hi, L', st', j, hD', hy, hsz⟩
  have mI : I ∈ [I, D] := by simp
  have mD : D ∈ [I, D] := by simp
  have thereI {σx sx} (Lx : AlongH X σ₀ s₀ [I, D] σx sx) {h' : Heap} {j : Nat} (hs : St j h') (hk : ∀ b o, b ≠ I → sx.heap.get? b = some o → h'.get? b = some o) : ∀ b ∈ [I, D], ∃ o, h'.get? b = some o := fun b hb => by
    rcases List.mem_cons.mp hb with rfl | hb
    · exact T.there _ _ hs
    · rw [List.mem_singleton.mp hb]
      obtain ⟨o, ho⟩ := Lx.there D mD
      exact ⟨o, hk D o hID.symm ho⟩
  by_cases hlt : i < n
  · refine wpAny_mono (with_tk (Nat.le_refl s'.toks) (T.next i (Fm o σ') s' hlt L'.real (need i acc o σ' hi j) st' (fun r s₁ => s'.toks ≤ s₁.toks → ∃ v, r = some v ∧ pv v = item i ∧ St (i + 1) s₁.heap ∧ AlongH X σ₀ s₀ [I, D] (Fm o σ') s₁ ∧ s₁.heap.PlainList D ys)
      fun v h' tk e st₁ hk htk => ⟨v, rfl, e, st₁, L'.other (fun b o hb e => hk b o (fun z => hb (z ▸ mI)) e) (thereI L' st₁ hk) (Nat.le_trans L'.real.tk htk), hD'.at fun o e => hk D o hID.symm e⟩)) (fun r s₁ h₁ => ?_) fun _ _ x => x.elim
    obtain ⟨v, rfl, e, st₁, L₁, hD₁⟩ := h₁
    refine wpAny_mono (T.owned (i + 1) s₁ target v st₁ (fun _ s => s = s₁) rfl) (fun _ s₂ h₂ => ?_) fun _ _ x => x.elim
    subst h₂
    refine L₁.go (asg i acc o σ' hlt j v e) fun _ σ₂ s₂ L₂ k₂ e₂ => ?_
    subst e₂
    have st₂ := T.frame _ _ _ st₁ (k₂ I mI)
    have hD₂ := hD₁.at (k₂ D mD)
    refine L₂.go (TSL.run (turn i acc σ' hlt j)) fun ok σ₃ s₃ L₃ k₃ q => ?_
    have st₃ := T.frame _ _ _ st₂ (k₃ I mI)
    have hD₃ := hD₂.at (k₃ D mD)
    cases ok with
    | false =>
      obtain ⟨σ₄, l, j'⟩ := q.2 rfl
      exact ⟨n - (i + 1), by omega, i + 1, acc, _, σ₄, ys, rfl, hlt, L₃.le l, st₃, j', hD₃, hy, by omega⟩
    | true =>
      rw [if_pos rfl]
      refine L₃.go (h := q.1 rfl) fun y σ₄ s₄ L₄ k₄ ⟨σ₅, l, j'⟩ => ?_
      have st₄ := T.frame _ _ _ st₃ (k₄ I mI)
      have hD₄ := hD₃.at (k₄ D mD)
      refine wpAny_list_append_plain hD₄ (fun h' hp hs => ?_) (by omega)
      have hk : ∀ b o, b ≠ D → s₄.heap.get? b = some o → h'.get? b = some o := fun b o hb e => (hs.2 b hb).trans e
      have st₅ := T.frame _ _ _ st₄ (fun o e => hk I o hID e)
      refine ⟨n - (i + 1), by omega, i + 1, acc ++ [pv y], _, σ₅, ys.push y, rfl, hlt, AlongH.other (tk := s₄.toks) (L₄.le l) (fun b o hb e => hk b o (fun z => hb (z ▸ mD)) e) (fun b hb => ?_) L₄.real.tk, st₅, j', hp, by simp [hy], by simp; omega⟩
      rcases List.mem_cons.mp hb with rfl | hb
      · exact T.there _ _ st₅
      · rw [List.mem_singleton.mp hb]; obtain ⟨k, e⟩ := hp; exact ⟨_, e⟩
  · have e : i = n := by omega
    subst e
    refine wpAny_mono (with_tk (Nat.le_refl s'.toks) (T.done (Fm o σ') s' L'.real (need i acc o σ' hi j) st' (fun r s₁ => s'.toks ≤ s₁.toks → r = none ∧ ∃ tk h', s₁ = { s' with heap := h', toks := tk } ∧ (∀ b o, b ≠ I → s'.heap.get? b = some o → h'.get? b = some o) ∧ 1 ≤ tk) fun h' tk hk htk => ⟨rfl, tk, h', rfl, hk, Nat.le_trans L'.real.tk htk⟩)) (fun r s₁ h₁ => ?_) fun _ _ x => x.elim
    obtain ⟨rfl, tk, h', rfl, hk, htk⟩ := h₁
    exact hR acc o σ' _ ys j (L'.lose hID hk htk) (hD'.at fun o e => hk D o hID.symm e) hy
end
end Mine
end

section
open PySem PySem.W PyProof.Rows
namespace Mine

/-- what can be gone through: a list or a range -/
def ISRC (σ : AH) (p : PV) (n : Nat) (item : Nat → PV) (Need : AH → Prop) : Prop :=
  (∃ l vs, p = .ref l ∧ σ l = some (.list vs) ∧ n = vs.length ∧ (item = fun i => vs.getD i .none) ∧ Need = fun σ => σ l = some (.list vs)) ∨
  (∃ l a b c, p = .ref l ∧ σ l = some (.range a b c) ∧ Builtin.Range.small a b c = true ∧ Builtin.Range.rangeSize a b c = n ∧ (item = fun i => .int (a + i * c)) ∧ Need = fun _ => True)
theorem ISRC.list {σ : AH} {l : Addr} {vs : List PV} (h : σ l = some (.list vs)) : ISRC σ (.ref l) vs.length (fun i => vs.getD i .none) (fun σ => σ l = some (.list vs)) := .inl ⟨l, vs, rfl, h, rfl, rfl, rfl⟩
theorem ISRC.range {σ : AH} {l : Addr} {a b c : Int} {n : Nat} (h : σ l = some (.range a b c)) (hs : Builtin.Range.small a b c = true) (hn : Builtin.Range.rangeSize a b c = n) : ISRC σ (.ref l) n (fun i => .int (a + i * c)) (fun _ => True) := .inr ⟨l, a, b, c, rfl, h, hs, hn, rfl, rfl⟩
theorem ISRC.set {σ σ' : AH} {p : PV} {n : Nat} {item : Nat → PV} {Need : AH → Prop} (h : ISRC σ p n item Need) {C : Addr} {q : PO} (hC : σ' C = none) (hn : Need σ') : Need (σ'.set C q) := by
  rcases h with ⟨l, vs, _, _, _, _, rfl⟩ | ⟨l, a, b, c, _, _, _, _, _, rfl⟩
  · have hn' : σ' l = some (.list vs) := hn
    show σ'.set C q l = _
    rw [AH.set_ne _ _ (fun z => by rw [z, hC] at hn'; cases hn')]; exact hn'
  · trivial

theorem fresh_from {X : Cx} {σ : AH} {s : Shared} (R : Real X σ s) : ∀ b, s.heap.objs.size ≤ b → σ b = none ∧ X.base.get? b = none ∧ s.heap.get? b = none := fun b hb => by
  have hx : s.heap.get? b = none := by
    cases q : s.heap.get? b with
    | none => rfl
    | some o => exact absurd (Heap.lt_size q) (Nat.not_lt.mpr hb)
  refine ⟨?_, ?_, hx⟩
  · cases q : σ b with
    | none => rfl
    | some p => obtain ⟨o, ho⟩ := (R.rz _ _ q).there; rw [hx] at ho; cases ho
  · cases q : X.base.get? b with
    | none => rfl
    | some o => rw [R.base _ _ q] at hx; cases hx

theorem iter_src {X : Cx} {A : Around} {σ : AH} {s : Shared} (hh : A.handled = none) {p : PV} {n : Nat} {item : Nat → PV} {Need : AH → Prop} (h : ISRC σ p n item Need) (R : Real X σ s) {v : Value} (hv : pv v = p) {Q' : Value → Shared → Prop}
    (hQ : ∀ St o, IT X A s.heap.objs.size n item Need St → St 0 (s.heap.push o) → o.isFreed = false → Q' (.ref s.heap.objs.size) { s with heap := s.heap.push o }) : wpAny (model X.prog X.w) A (pyIter v) Q' (fun _ _ => False) s := by
  rcases h with ⟨l, vs, rfl, hl, rfl, rfl, rfl⟩ | ⟨l, a, b, c, rfl, hl, hsm, hn, rfl, rfl⟩
  · rw [pv_ref hv]
    obtain ⟨vals, hp, em⟩ := R.rz _ _ hl
    have hlt : l < s.heap.objs.size := by obtain ⟨n, ho⟩ := hp; exact Heap.lt_size ho
    exact wpAny_pyIter_list hp.isList (hQ _ _ (IT.list hh (Nat.ne_of_lt hlt) vs) ⟨_, Heap.get?_push_size _ rfl, rfl, rfl⟩ rfl)
  · rw [pv_ref hv]
    obtain ⟨t, u, w, hp⟩ := R.rz _ _ hl
    refine wpAny_pyIter_range hp hsm ?_
    rw [hn]
    exact hQ _ _ (IT.range hh a c n) (by simpa using Heap.get?_push_size _ rfl) rfl

def nsx (x : Str) : Option PV → PO
  | .none => .ns fun _ => .none
  | some p => .ns fun y => if y = x then some p else .none
theorem AH.set_set (σ : AH) (a : Addr) (p q : PO) : (σ.set a p).set a q = σ.set a q := by
  funext b; simp only [AH.set]; split <;> rfl
theorem AH.le_set (σ : AH) {a : Addr} (p : PO) (h : σ a = none) : σ.le (σ.set a p) := fun b q e => by
  rw [AH.set_ne _ _ (fun z => by rw [z, h] at e; cases e)]; exact e
theorem AH.set_comm (σ : AH) {a b : Addr} (p q : PO) (h : a ≠ b) : (σ.set a p).set b q = (σ.set b q).set a p := by
  funext c; simp only [AH.set]
  split
  · rename_i e; subst e; rw [if_neg (Ne.symm h)]
  · rfl

section
variable {X : Cx} {A : Around} {env : Env} {σ : AH}
/-- the block of a comprehension behind its source -/
theorem comp_block {elt iter : Expr} {ifs : List Expr} {scope : Scope} {pos px : Pos} {x : Str} {cl : List (Str × Addr)} {n : Nat} {item : Nat → PV} {Need : AH → Prop} {p : PV} {s : Shared} (hh : A.handled = none)
    (hcell : ∀ y ∈ scope.names, y.2 ≠ .cell) (hkind : scope.kind = .function) (hx : scope.names.lookup x = some .local) (hsrc : ISRC σ p n item Need) (hn : n ≤ sizeLine) (R : Real X σ s) {v : Value} (hv : pv v = p)
    (J : Nat → Nat → List PV → AH → Prop) {Q' : Value → Shared → Prop} {use : Option (Value → Sem Unit)}
    (h0 : ∀ C : Nat, (∀ b : Nat, C ≤ b → σ b = none ∧ X.base.get? b = none) → J C 0 [] σ)
    (hJ : ∀ (C : Nat) i acc σ', i ≤ n → J C i acc σ' → σ' C = none ∧ Need σ')
    (turn : ∀ (C : Nat) i acc σ', (∀ b : Nat, C ≤ b → σ b = none ∧ X.base.get? b = none) → i < n → J C i acc σ' → TSL X A (compEnvC scope cl C env) ifs (σ'.set C (nsx x (some (item i)))) fun ok σ₂ =>
      (ok = true → EV X A (compEnvC scope cl C env) elt σ₂ fun y σ₃ => ∃ σ₄, AH.le (σ₄.set C (nsx x (some (item i)))) σ₃ ∧ J C (i + 1) (acc ++ [y]) σ₄) ∧ (ok = false → ∃ σ₄, AH.le (σ₄.set C (nsx x (some (item i)))) σ₂ ∧ J C (i + 1) acc σ₄))
    (hR : ∀ (C D : Nat) o acc σ' s' ys, (∀ b : Nat, D ≤ b → σ b = none ∧ X.base.get? b = none) → D < C → J C n acc σ' → AlongH X σ s [D] (σ'.set C (nsx x o)) s' → s'.heap.PlainList D ys → ys.toList.map pv = acc → compPost (model X.prog X.w) A (fun _ _ => False) use Q' (.ref D) C (.ok .next) s') :
    wpAny (model X.prog X.w) A (pyIter v) (fun it s₂ => wpAny (model X.prog X.w) A (newList []) (fun acc s₃ =>
      wpAny (model X.prog X.w) A (newFunctionEnv scope env.globals cl [] env.qual none .none (some env)) (fun cenv s₄ =>
        codeAny (model X.prog X.w) A (.compStart (.ListComp elt [⟨.Name x px, iter, ifs, 0⟩] scope pos) 0 it acc { cenv with scope := relabel scope env }) (compPost (model X.prog X.w) A (fun _ _ => False) use Q' acc cenv.locals) s₄) (fun _ _ => False) s₃) (fun _ _ => False) s₂) (fun _ _ => False) s := by
  refine iter_src hh hsrc R hv fun St o T st0 hfo => ?_
  have hf := fresh_from R
  generalize hI : s.heap.objs.size = I at *
  have hs1 : (s.heap.push o).objs.size = I + 1 := by rw [Heap.size_push, hI]
  refine wpAny_newObj_type (wpAny_newFunctionEnv hcell (by intro y hy; simp at hy) (fun h₁ hns hsb => ?_) hkind)
  dsimp only at hns hsb ⊢
  generalize hH2 : (s.heap.push o).push { cls := .type "list", dict := none, data := .seq ([] : List Value).toArray } = H2 at hns hsb ⊢
  have hs2 : H2.objs.size = I + 2 := by rw [← hH2, Heap.size_push, hs1]
  rw [hs2] at hns hsb ⊢
  rw [hs1]
  have k1 : ∀ b o', s.heap.get? b = some o' → H2.get? b = some o' := fun b o' e => hH2 ▸ Heap.get?_push_of_some _ (Heap.get?_push_of_some _ e)
  have kI : H2.get? I = some o := hH2 ▸ Heap.get?_push_of_some _ (hI ▸ Heap.get?_push_size _ hfo)
  have kD : H2.get? (I + 1) = some { cls := .type "list", dict := none, data := .seq ([] : List Value).toArray } := by
    rw [← hs1, ← hH2]; exact Heap.get?_push_size _ rfl
  have up : ∀ b o', b ≠ I + 2 → H2.get? b = some o' → h₁.get? b = some o' := fun b o' hb e => hsb.extBut b o' hb (Heap.get?_push_of_some _ e)
  have old : ∀ b o', s.heap.get? b = some o' → h₁.get? b = some o' := fun b o' e => up b o' (Nat.ne_of_lt (Nat.lt_of_lt_of_le (Heap.lt_size e) (by rw [hI]; omega))) (k1 b o' e)
  have hI1 : h₁.get? I = some o := up _ _ (Nat.ne_of_lt (by omega : I < I + 2)) kI
  have hD1 : h₁.PlainList (I + 1) #[] := ⟨_, up _ _ (Nat.ne_of_lt (by omega : I + 1 < I + 2)) kD⟩
  have st1 : St 0 h₁ := T.frame _ _ _ st0 fun o' e => by
    have : (s.heap.push o).get? I = some o := hI ▸ Heap.get?_push_size _ hfo
    rw [this] at e; cases e; exact hI1
  have hfC : ∀ b, I + 2 ≤ b → σ b = none ∧ X.base.get? b = none := fun b hb => ⟨(hf b (by omega)).1, (hf b (by omega)).2.1⟩
  have fin : ∀ s₃ : Shared, s₃ = { s with heap := h₁, toks := s.toks + ([] : List (Str × Value)).length } →
      codeAny (model X.prog X.w) A (.compLoop (.ListComp elt [⟨.Name x px, iter, ifs, 0⟩] scope pos) 0 (.ref I) (.ref (I + 1)) (compEnvC scope cl (I + 2) env)) (compPost (model X.prog X.w) A (fun _ _ => False) use Q' (.ref (I + 1)) (I + 2)) s₃ := by
    rintro s₃ rfl
    refine comp_core (env := compEnvC scope cl (I + 2) env) (σ := σ) (σ₀ := σ) (s₀ := s) T (Nat.ne_of_lt (Nat.lt_succ_self I)) hn (J (I + 2)) (fun o σ' => σ'.set (I + 2) (nsx x o)) (fun i acc o σ' hi j => ?_) (fun i acc o σ' hi j => ?_) (fun i acc σ' hi j => turn _ i acc σ' hfC hi j) ?_ st1 hD1 (h0 _ hfC) (fun acc o σ' s' ys j L hp hy => hR (I + 2) (I + 1) o acc σ' s' ys (fun b hb => ⟨(hf b (by omega)).1, (hf b (by omega)).2.1⟩) (by omega) j L hp hy)
    · exact hsrc.set (hJ _ _ _ _ hi j).1 (hJ _ _ _ _ hi j).2
    · refine ASG.name ?_
      cases o with
      | none =>
        refine ST.loc (m := fun _ => .none) (by show σ'.set (I + 2) _ (I + 2) = _; simp [nsx]) ?_ (lookup_relabel_local hx) (by simp [compEnvC, relabel, hkind])
        show (σ'.set (I + 2) _).set (I + 2) _ = _
        rw [AH.set_set]; rfl
      | some q =>
        refine ST.loc (m := fun y => if y = x then some q else .none) (by show σ'.set (I + 2) _ (I + 2) = _; simp [nsx]) ?_ (lookup_relabel_local hx) (by simp [compEnvC, relabel, hkind])
        show (σ'.set (I + 2) _).set (I + 2) _ = _
        rw [AH.set_set]
        congr 1
        simp only [nsx]
        congr 1
        funext y
        simp only [upd]
        by_cases hy : y = x <;> simp [hy]
    · refine ⟨⟨fun a q e => ?_, fun b o' e => old b o' (R.base b o' e), fun a q e => ?_, R.gens, R.os, Nat.le_trans R.tk (Nat.le_add_right _ _)⟩, ⟨fun b o' _ e => old b o' e, fun b q e => ?_, fun _ _ => rfl, Nat.le_refl _⟩, fun b hb => ?_, fun b hb => ?_, fun b hb => ?_, fun b hb => ?_⟩
      · by_cases ha : a = I + 2
        · subst ha
          rw [AH.set_self] at e; cases e
          exact ⟨_, hns, fun y => rfl⟩
        · rw [AH.set_ne _ _ ha] at e; exact (R.rz a q e).keep fun o' ho => old a o' ho
      · by_cases ha : a = I + 2
        · subst ha; exact (hfC _ (Nat.le_refl _)).2
        · rw [AH.set_ne _ _ ha] at e; exact R.apart a q e
      · by_cases ha : b = I + 2
        · subst ha; exact .inr (hf _ (by omega)).2.2
        · rw [AH.set_ne _ _ ha] at e; exact .inl ⟨q, e⟩
      · rcases List.mem_cons.mp hb with rfl | hb
        · rw [AH.set_ne _ _ (Nat.ne_of_lt (Nat.lt_succ_of_lt (Nat.lt_succ_self _)))]; exact (hf _ (by omega)).1
        · rw [List.mem_singleton.mp hb, AH.set_ne _ _ (Nat.ne_of_lt (by omega : I + 1 < I + 2))]; exact (hf _ (by omega)).1
      · rcases List.mem_cons.mp hb with rfl | hb
        · exact (hf _ (by omega)).2.1
        · rw [List.mem_singleton.mp hb]; exact (hf _ (by omega)).2.1
      · rcases List.mem_cons.mp hb with rfl | hb
        · exact (hf _ (by omega)).2.2
        · rw [List.mem_singleton.mp hb]; exact (hf _ (by omega)).2.2
      · rcases List.mem_cons.mp hb with rfl | hb
        · exact ⟨_, hI1⟩
        · rw [List.mem_singleton.mp hb]; obtain ⟨k, e⟩ := hD1; exact ⟨_, e⟩
  exact codeAny_compStart_list (fin _ rfl) (wpAny_mono (T.self 0 _ st1 (fun it s' => it = .ref I ∧ s' = { s with heap := h₁, toks := s.toks + ([] : List (Str × Value)).length }) ⟨rfl, rfl⟩) (fun it s' ⟨e1, e2⟩ => by subst e1; exact fin s' e2) fun _ _ x => x.elim)

theorem EV.comp {elt iter : Expr} {ifs : List Expr} {scope : Scope} {pos px : Pos} {x : Str} {cl : List (Str × Addr)} {Q : PV → AH → Prop} (hh : A.handled = none) (hclos : closureFor scope env = pure cl)
    (h : EV X A env iter σ fun p σ₁ => ∃ (n : Nat) (item : Nat → PV) (Need : AH → Prop) (J : Nat → Nat → List PV → AH → Prop), ISRC σ₁ p n item Need ∧ n ≤ sizeLine ∧ (∀ C : Nat, (∀ b : Nat, C ≤ b → σ₁ b = none ∧ X.base.get? b = none) → J C 0 [] σ₁) ∧ (∀ (C : Nat) i acc σ', i ≤ n → J C i acc σ' → σ' C = none ∧ Need σ') ∧
      (∀ (C : Nat) i acc σ', (∀ b : Nat, C ≤ b → σ₁ b = none ∧ X.base.get? b = none) → i < n → J C i acc σ' → TSL X A (compEnvC scope cl C env) ifs (σ'.set C (nsx x (some (item i)))) fun ok σ₂ =>
        (ok = true → EV X A (compEnvC scope cl C env) elt σ₂ fun y σ₃ => ∃ σ₄, AH.le (σ₄.set C (nsx x (some (item i)))) σ₃ ∧ J C (i + 1) (acc ++ [y]) σ₄) ∧ (ok = false → ∃ σ₄, AH.le (σ₄.set C (nsx x (some (item i)))) σ₂ ∧ J C (i + 1) acc σ₄)) ∧
      (∀ (C D : Nat) acc σ', (∀ b : Nat, D ≤ b → σ₁ b = none ∧ X.base.get? b = none) → D < C → J C n acc σ' → σ' D = none → Q (.ref D) (σ'.set D (.list acc))))
    (hcell : ∀ y ∈ scope.names, y.2 ≠ .cell := by decide) (hkind : scope.kind = .function := by rfl) (hnames : ∀ y ∈ scope.names, y.2 = .local → scope.names.lookup y.1 = some .local := by decide) (hx : scope.names.lookup x = some .local := by rfl)
    (hs : ∀ x, foldedSetIterable iter env x = pure x := by intro _; rfl) : EV X A env (.ListComp elt [⟨.Name x px, iter, ifs, 0⟩] scope pos) σ Q := by
  refine WP.of fun s R => ?_
  rw [eval_ListComp]
  refine wpAny_comprehension_free (use := none) rfl hs hclos hkind hnames (WP.go h R (Step.refl σ s) fun v σ₁ s₁ R₁ S₁ ⟨n, item, Need, J, hsrc, hn, h0, hJ, turn, fin⟩ => ?_)
  refine comp_block hh hcell hkind hx hsrc hn R₁ rfl J h0 hJ turn fun C D o acc σ' s' ys hD hDC j L hp hy => ?_
  have hC := (hJ C n acc σ' (Nat.le_refl _) j).1
  have hDs : σ' D = none := by
    have := L.off D (by simp)
    rwa [AH.set_ne _ _ (Nat.ne_of_lt hDC)] at this
  obtain ⟨m, hns, _⟩ : ∃ m, s'.heap.Ns C m ∧ True := by
    cases o with
    | none => obtain ⟨m, hm, _⟩ := L.real.rz C _ (AH.set_self ..); exact ⟨m, hm, trivial⟩
    | some q => obtain ⟨m, hm, _⟩ := L.real.rz C _ (AH.set_self ..); exact ⟨m, hm, trivial⟩
  refine ⟨m, hns, fun h' hs' => ⟨σ'.set D (.list acc), ?_, ?_, fin C D acc σ' hD hDC j hDs⟩⟩
  · have hbC : X.base.get? C = none := (hD C (Nat.le_of_lt hDC)).2
    refine ⟨fun a q e => ?_, fun b o' e => (hs'.2 b (fun z => by rw [z, hbC] at e; cases e)).trans (L.real.base b o' e), fun a q e => ?_, L.real.gens, L.real.os, L.real.tk⟩
    · by_cases ha : a = D
      · subst ha
        rw [AH.set_self] at e; cases e
        obtain ⟨k, e⟩ := hp
        exact ⟨ys, ⟨k, (hs'.2 a (Nat.ne_of_lt hDC)).trans e⟩, hy⟩
      · rw [AH.set_ne _ _ ha] at e
        have hne : a ≠ C := fun z => by rw [z, hC] at e; cases e
        exact (L.real.rz a q (by rw [AH.set_ne _ _ hne]; exact e)).keep fun o' ho => (hs'.2 a hne).trans ho
    · by_cases ha : a = D
      · subst ha; exact L.boff a (by simp)
      · rw [AH.set_ne _ _ ha] at e
        have hne : a ≠ C := fun z => by rw [z, hC] at e; cases e
        exact L.real.apart a q (by rw [AH.set_ne _ _ hne]; exact e)
  · refine S₁.trans ⟨fun b o' hb e => ?_, fun b q e => ?_, L.step.gens, L.step.gsize⟩
    · have h1 := L.step.keep b o' hb e
      refine (hs'.2 b fun z => ?_).trans h1
      subst z
      have := L.step.fresh b _ (AH.set_self ..)
      rcases this with ⟨q, hq⟩ | hq
      · rw [hb] at hq; cases hq
      · rw [e] at hq; cases hq
    · by_cases ha : b = D
      · subst ha; exact .inr (L.new b (by simp))
      · rw [AH.set_ne _ _ ha] at e
        have hne : b ≠ C := fun z => by rw [z, hC] at e; cases e
        exact L.step.fresh b q (by rw [AH.set_ne _ _ hne]; exact e)
end
end Mine
end

section
open PySem PySem.W PyProof.Rows
namespace Mine
section
variable {X : Cx} {A : Around} {env : Env} {σ : AH}
theorem comp_drop {s s' : Shared} {σ' : AH} {C D : Nat} {x : Str} {o : Option PV} {acc : List PV} {ys : Array Value} (L : AlongH X σ s [D] (σ'.set C (nsx x o)) s') (hC : σ' C = none) (hDC : D < C) (hσC : σ C = none)
    (hp : s'.heap.PlainList D ys) (hy : ys.toList.map pv = acc) :
    Real X (σ'.set D (.list acc)) s' ∧ Step σ s (σ'.set D (.list acc)) s' ∧ (∃ m, s'.heap.Ns C m) ∧ σ' D = none ∧ s.heap.get? C = none := by
  have hDs : σ' D = none := by
    have := L.off D (by simp)
    rwa [AH.set_ne _ _ (Nat.ne_of_lt hDC)] at this
  have hns : ∃ m, s'.heap.Ns C m := by
    cases o with
    | none => obtain ⟨m, hm, _⟩ := L.real.rz C _ (AH.set_self ..); exact ⟨m, hm⟩
    | some q => obtain ⟨m, hm, _⟩ := L.real.rz C _ (AH.set_self ..); exact ⟨m, hm⟩
  have hnew : s.heap.get? C = none := by
    rcases L.step.fresh C _ (AH.set_self ..) with ⟨q, hq⟩ | hq
    · rw [hσC] at hq; cases hq
    · exact hq
  refine ⟨⟨fun a q e => ?_, L.real.base, fun a q e => ?_, L.real.gens, L.real.os, L.real.tk⟩, ⟨L.step.keep, fun b q e => ?_, L.step.gens, L.step.gsize⟩, hns, hDs, hnew⟩
  · by_cases ha : a = D
    · subst ha
      rw [AH.set_self] at e; cases e
      exact ⟨ys, hp, hy⟩
    · rw [AH.set_ne _ _ ha] at e
      have hne : a ≠ C := fun z => by rw [z, hC] at e; cases e
      exact L.real.rz a q (by rw [AH.set_ne _ _ hne]; exact e)
  · by_cases ha : a = D
    · subst ha; exact L.boff a (by simp)
    · rw [AH.set_ne _ _ ha] at e
      have hne : a ≠ C := fun z => by rw [z, hC] at e; cases e
      exact L.real.apart a q (by rw [AH.set_ne _ _ hne]; exact e)
  · by_cases ha : b = D
    · subst ha; exact .inr (L.new b (by simp))
    · rw [AH.set_ne _ _ ha] at e
      have hne : b ≠ C := fun z => by rw [z, hC] at e; cases e
      exact L.step.fresh b q (by rw [AH.set_ne _ _ hne]; exact e)
theorem Real.drop {τ : AH} {s : Shared} (R : Real X τ s) {C : Addr} (h : τ C = none) (hb : X.base.get? C = none) {h' : Heap} (hs : Heap.SameBut C s.heap h') : Real X τ { s with heap := h' } :=
  ⟨fun a q e => (R.rz a q e).keep fun o ho => (hs.2 a (fun z => by rw [z, h] at e; cases e)).trans ho, fun b o e => (hs.2 b (fun z => by rw [z, hb] at e; cases e)).trans (R.base b o e), R.apart, R.gens, R.os, R.tk⟩
theorem Step.drop {τ : AH} {s s₁ : Shared} (S : Step σ s τ s₁) {C : Addr} (hn : s.heap.get? C = none) {h' : Heap} (hs : Heap.SameBut C s₁.heap h') : Step σ s τ { s₁ with heap := h' } :=
  ⟨fun b o hb e => (hs.2 b (fun z => by rw [z, hn] at e; cases e)).trans (S.keep b o hb e), S.fresh, S.gens, S.gsize⟩

theorem EX.compUsed {elt iter : Expr} {ifs : List Expr} {scope : Scope} {pos px py spos : Pos} {x y : Str} {cl : List (Str × Addr)} {Q : PF → AH → Prop} (hh : A.handled = none) (hclos : closureFor scope env = pure cl)
    (h : EV X A env iter σ fun p σ₁ => ∃ (n : Nat) (item : Nat → PV) (Need : AH → Prop) (J : Nat → Nat → List PV → AH → Prop), ISRC σ₁ p n item Need ∧ n ≤ sizeLine ∧ (∀ C : Nat, (∀ b : Nat, C ≤ b → σ₁ b = none ∧ X.base.get? b = none) → J C 0 [] σ₁) ∧ (∀ (C : Nat) i acc σ', i ≤ n → J C i acc σ' → σ' C = none ∧ Need σ') ∧
      (∀ (C : Nat) i acc σ', (∀ b : Nat, C ≤ b → σ₁ b = none ∧ X.base.get? b = none) → i < n → J C i acc σ' → TSL X A (compEnvC scope cl C env) ifs (σ'.set C (nsx x (some (item i)))) fun ok σ₂ =>
        (ok = true → EV X A (compEnvC scope cl C env) elt σ₂ fun y σ₃ => ∃ σ₄, AH.le (σ₄.set C (nsx x (some (item i)))) σ₃ ∧ J C (i + 1) (acc ++ [y]) σ₄) ∧ (ok = false → ∃ σ₄, AH.le (σ₄.set C (nsx x (some (item i)))) σ₂ ∧ J C (i + 1) acc σ₄)) ∧
      (∀ (C D : Nat) acc σ', (∀ b : Nat, D ≤ b → σ₁ b = none ∧ X.base.get? b = none) → D < C → J C n acc σ' → σ' D = none → ST X A env y (.ref D) (σ'.set D (.list acc)) fun σ₂ => Q .next σ₂))
    (hsw : swapsWith (.ListComp elt [⟨.Name x px, iter, ifs, 0⟩] scope pos) (some (.Name y py)) spos.line env = pure true := by rfl)
    (hcell : ∀ y ∈ scope.names, y.2 ≠ .cell := by decide) (hkind : scope.kind = .function := by rfl) (hnames : ∀ y ∈ scope.names, y.2 = .local → scope.names.lookup y.1 = some .local := by decide) (hx : scope.names.lookup x = some .local := by rfl)
    (hs : ∀ x, foldedSetIterable iter env x = pure x := by intro _; rfl) : EX X A env (.Assign [.Name y py] (.ListComp elt [⟨.Name x px, iter, ifs, 0⟩] scope pos) spos) σ Q := by
  refine WP.of fun s R => ?_
  rw [exec_Assign_Name_used _ _ _ _ hsw]
  refine wpAny_bind (wpAny_standAt (wpAny_bind ?_))
  show wpAny _ A (do let _ ← comprehension (.ListComp elt [⟨.Name x px, iter, ifs, 0⟩] scope pos) scope env _ (newList []) false (eval iter env) (some (PySem.assign (.Name y py) env))) _ _ s
  refine wpAny_bind (wpAny_mono (wpAny_comprehension_free (use := some (PySem.assign (.Name y py) env)) (Q := fun _ s' => ∃ σ', Real X σ' s' ∧ Step σ s σ' s' ∧ Q .next σ') (E := fun _ _ => False) rfl hs hclos hkind hnames ?_) (fun _ s' hq => wpAny_pure (wpAny_pure hq)) fun _ _ (e : False) => e.elim)
  refine WP.go h R (Step.refl σ s) fun v σ₁ s₁ R₁ S₁ ⟨n, item, Need, J, hsrc, hn, h0, hJ, turn, fin⟩ => ?_
  refine comp_block hh hcell hkind hx hsrc hn R₁ rfl J h0 hJ turn fun C D o acc σ' s' ys hD hDC j L hp hy => ?_
  have hC := (hJ C n acc σ' (Nat.le_refl _) j).1
  have hbC := (hD C (Nat.le_of_lt hDC)).2
  obtain ⟨R', S', ⟨m, hns⟩, hDs, hnew⟩ := comp_drop L hC hDC (hD C (Nat.le_of_lt hDC)).1 hp hy
  show wpAny _ A (PySem.assign (.Name y py) env (.ref D)) _ _ _
  have hCD : (σ'.set D (.list acc)) C = none := by rw [AH.set_ne _ _ (Nat.ne_of_gt hDC)]; exact hC
  refine wpAny_assign_Name (WP.go (fin C D acc σ' hD hDC j hDs (.ref D) rfl) R' (Step.refl _ s') fun _ σ₅ s₅ R₅ S₅ q => ?_)
  have hC5 : σ₅ C = none := by
    cases z : σ₅ C with
    | none => rfl
    | some p =>
      rcases S₅.fresh C p z with ⟨q, hq⟩ | hq
      · rw [hCD] at hq; cases hq
      · obtain ⟨oo, _, _, ho, _⟩ := hns; rw [ho] at hq; cases hq
  refine ⟨m, hns.at' fun o' e => S₅.keep C o' hCD e, fun h' hs' => ⟨σ₅, R₅.drop hC5 hbC hs', ?_, q⟩⟩
  exact S₁.trans ((S'.trans S₅).drop hnew hs')
end
end Mine
end

section
open PySem PySem.W PyProof.Rows
namespace Mine

theorem Real.add {X : Cx} {σ : AH} {s : Shared} (R : Real X σ s) {D : Addr} (hn : s.heap.get? D = none) {h' : Heap} {tk : Nat} {p : PO} (hk : ∀ b o, s.heap.get? b = some o → h'.get? b = some o) (hz : Rz h' D p) (htk : 1 ≤ tk) :
    Real X (σ.set D p) { s with heap := h', toks := tk } ∧ Step σ s (σ.set D p) { s with heap := h', toks := tk } ∧ σ D = none ∧ X.base.get? D = none := by
  have hσ : σ D = none := by
    cases q : σ D with
    | none => rfl
    | some p => obtain ⟨o, ho⟩ := (R.rz _ _ q).there; rw [hn] at ho; cases ho
  have hb : X.base.get? D = none := by
    cases q : X.base.get? D with
    | none => rfl
    | some o => rw [R.base _ _ q] at hn; cases hn
  refine ⟨⟨fun a q e => ?_, fun b o e => hk b o (R.base b o e), fun a q e => ?_, R.gens, R.os, htk⟩, ⟨fun b o _ e => hk b o e, fun b q e => ?_, fun _ _ => rfl, Nat.le_refl _⟩, hσ, hb⟩
  · by_cases ha : a = D
    · subst ha; rw [AH.set_self] at e; cases e; exact hz
    · rw [AH.set_ne _ _ ha] at e; exact (R.rz a q e).keep fun o ho => hk a o ho
  · by_cases ha : a = D
    · subst ha; exact hb
    · rw [AH.set_ne _ _ ha] at e; exact R.apart a q e
  · by_cases ha : b = D
    · subst ha; exact .inr hn
    · rw [AH.set_ne _ _ ha] at e; exact .inl ⟨q, e⟩
theorem Real.grow {X : Cx} {σ : AH} {s : Shared} (R : Real X σ s) {h' : Heap} {tk : Nat} (hk : ∀ b o, s.heap.get? b = some o → h'.get? b = some o) (htk : 1 ≤ tk) :
    Real X σ { s with heap := h', toks := tk } ∧ Step σ s σ { s with heap := h', toks := tk } :=
  ⟨⟨fun a q e => (R.rz a q e).keep fun o ho => hk a o ho, fun b o e => hk b o (R.base b o e), R.apart, R.gens, R.os, htk⟩, ⟨fun b o _ e => hk b o e, fun b q e => .inl ⟨q, e⟩, fun _ _ => rfl, Nat.le_refl _⟩⟩

section
variable (X : Cx) (A : Around)
def SUB (value slice : Expr) (o i : PV) (σ : AH) (Q : PV → AH → Prop) : Prop := ∀ vo vi, pv vo = o → pv vi = i → WV X A (subscriptTail value slice vo vi) σ Q
end
section
variable {X : Cx} {A : Around} {env : Env} {σ : AH} {Q : PV → AH → Prop}
theorem EV.sub {value slice : Expr} {pos : Pos} (h : EV X A env value σ fun o σ₁ => EV X A env slice σ₁ fun i σ₂ => SUB X A value slice o i σ₂ Q) : EV X A env (.Subscript value slice pos) σ Q :=
  WP.of fun s R => Subscript_ (h.go R (Step.refl σ s) fun va σ₁ s₁ R₁ S₁ h₁ => WP.go h₁ R₁ S₁ fun vb σ₂ s₂ R₂ S₂ h₂ => WP.go (h₂ va vb rfl rfl) R₂ S₂ fun v σ₃ s₃ R₃ S₃ q => ⟨σ₃, R₃, S₃, q⟩)
theorem subscripted_plain {slice : Expr} (h : (match slice with | .Slice .. => false | _ => true) = true) (o i : Value) : subscripted slice false o i = operate [o, i] (getItem o i) := by
  cases slice <;> first | rfl | cases h

theorem SUB.list {value slice : Expr} {l : Addr} {vs : List PV} {k : Int} {p : PV} (hl : σ l = some (.list vs)) (h0 : 0 ≤ k) (hk : k < 2 ^ 63) (hp : vs[k.toNat]? = some p) (h : Q p σ)
    (hs : (match slice with | .Slice .. => false | _ => true) = true := by rfl) : SUB X A value slice (.ref l) (.int k) σ Q := fun vo vi eo ei => WV.val (fun s R Q' hQ => by
  obtain ⟨t, rfl⟩ := pv_int ei
  rw [pv_ref eo]
  obtain ⟨vals, hpl, e⟩ := R.rz _ _ hl
  subst e
  rw [List.getElem?_map] at hp
  cases hv : vals.toList[k.toNat]? with
  | none => rw [hv] at hp; cases hp
  | some v =>
    rw [hv] at hp
    exact tail_any hpl.isList.typeIs list_getitem_lookup (wpAny_getItem_list hpl.isList h0 hk (by simpa using hv) (hQ v s.toks (Option.some.inj hp))) (subscripted_plain hs _ _)) h
theorem SUB.listNeg {value slice : Expr} {l : Addr} {vs : List PV} {k : Int} {p : PV} (hl : σ l = some (.list vs)) (h0 : k < 0) (h1 : -(vs.length : Int) ≤ k) (hk : -(2 ^ 63) ≤ k) (hp : vs[(k + vs.length).toNat]? = some p) (h : Q p σ)
    (hs : (match slice with | .Slice .. => false | _ => true) = true := by rfl) : SUB X A value slice (.ref l) (.int k) σ Q := fun vo vi eo ei => WV.val (fun s R Q' hQ => by
  obtain ⟨t, rfl⟩ := pv_int ei
  rw [pv_ref eo]
  obtain ⟨vals, hpl, e⟩ := R.rz _ _ hl
  subst e
  simp only [List.length_map, Array.length_toList] at h1 hp
  rw [List.getElem?_map] at hp
  cases hv : vals.toList[(k + vals.size).toNat]? with
  | none => rw [hv] at hp; cases hp
  | some v =>
    rw [hv] at hp
    exact tail_any hpl.isList.typeIs list_getitem_lookup (wpAny_getItem_list_neg hpl.isList h0 h1 hk (by simpa using hv) (hQ v s.toks (Option.some.inj hp))) (subscripted_plain hs _ _)) h
theorem SUB.tuple {value slice : Expr} {l : Addr} {vs : List PV} {k : Int} {p : PV} (hl : σ l = some (.tuple vs)) (h0 : 0 ≤ k) (hk : k < 2 ^ 63) (hp : vs[k.toNat]? = some p) (h : Q p σ)
    (hs : (match slice with | .Slice .. => false | _ => true) = true := by rfl) : SUB X A value slice (.ref l) (.int k) σ Q := fun vo vi eo ei => WV.val (fun s R Q' hQ => by
  obtain ⟨t, rfl⟩ := pv_int ei
  rw [pv_ref eo]
  obtain ⟨vals, hpl, e⟩ := R.rz _ _ hl
  subst e
  rw [List.getElem?_map] at hp
  cases hv : vals.toList[k.toNat]? with
  | none => rw [hv] at hp; cases hp
  | some v =>
    rw [hv] at hp
    have hlt : k.toNat < vals.size := by
      have := (List.getElem?_eq_some_iff.mp hv).1
      simpa using this
    have hT : s.TypeIs (.ref l) "tuple" := let ⟨o, ho, hc, _⟩ := hpl; ⟨o, ho, hc⟩
    exact tail_any (T := "tuple") hT PySem.F.slot_tuple_getitem.lookup (PyProof.Rows.getItem_tuple (j := k.toNat) hpl (by omega) hk (by unfold seqIndex?; simp; omega) (by simpa using hv) (hQ v s.toks (Option.some.inj hp))) (subscripted_plain hs _ _)) h
theorem SUB.str {value slice : Expr} {x : Str} {k : Int} {c : Nat} (h0 : 0 ≤ k) (hk : k < 2 ^ 63) (hp : x.cps[k.toNat]? = some c) (h : Q (.str ⟨#[c]⟩) σ)
    (hs : (match slice with | .Slice .. => false | _ => true) = true := by rfl) : SUB X A value slice (.str x) (.int k) σ Q := fun vo vi eo ei => WV.val (fun s R Q' hQ => by
  obtain ⟨t, rfl⟩ := pv_str eo
  obtain ⟨u, rfl⟩ := pv_int ei
  have hlt : k.toNat < x.length := (Array.getElem?_eq_some_iff.mp hp).1
  refine tail_any (typeIs_str s x t) PySem.F.slot_str_getitem.lookup (P.getItem_str (c := c) (by simp; omega) ?_ (hQ _ _ rfl)) (subscripted_plain hs _ _)
  have : seqIndex? k x.length = some k.toNat := by unfold seqIndex?; simp; omega
  rw [this]; exact hp) h

/-- a list's part, both ends given -/
theorem EV.sliceList {value lo hi : Expr} {p pos : Pos} (h : EV X A env value σ fun o σ₁ => EV X A env lo σ₁ fun a σ₂ => EV X A env hi σ₂ fun b σ₃ => ∃ (l : Addr) (vs : List PV) (i j : Nat), o = .ref l ∧ a = .int i ∧ b = .int j ∧ σ₃ l = some (.list vs) ∧ vs.length ≤ sizeLine ∧ i ≤ j ∧ j ≤ vs.length ∧
      ∀ D, σ₃ D = none → X.base.get? D = none → Q (.ref D) (σ₃.set D (.list ((vs.drop i).take (j - i)))))
    (ht : ∀ o r, letTemporaryGo value o r = pure () := by intro _ _; rfl) : EV X A env (.Subscript value (.Slice (some lo) (some hi) .none p) pos) σ Q := WP.of fun s R => by
  refine wpAny_Subscript_list_slice (WP.go h R (Step.refl σ s) fun vo σ₁ s₁ R₁ S₁ h₁ => ?_) ht
  rw [evalPart_some]
  refine WP.go h₁ R₁ S₁ fun va σ₂ s₂ R₂ S₂ h₂ => ?_
  rw [evalPart_some]
  refine WP.go h₂ R₂ S₂ fun vb σ₃ s₃ R₃ S₃ h₃ => ?_
  obtain ⟨l, vs, i, j, eo, ea, eb, hl, hsz, hij, hj, hq⟩ := h₃
  obtain ⟨t, rfl⟩ := pv_int ea
  obtain ⟨u, rfl⟩ := pv_int eb
  obtain ⟨vals, hpl, e⟩ := R₃.rz _ _ hl
  have hlen : vs.length = vals.size := by rw [← e, List.length_map, Array.length_toList]
  refine ⟨l, vals, some i, some j, pv_ref eo, hpl.isList, by omega, .int _ _, .int _ _, ?_⟩
  have hf := fresh_from R₃
  have hD := hf (s₃.heap.objs.size + 1) (Nat.le_succ _)
  have e1 : slicePick vals (some (i : Int)) (some (j : Int)) none = ((vals.toList.drop i).take (j - i)).toArray := slicePick_run vals i j (by omega) hij
  rw [e1]
  obtain ⟨R', S', hn, hb⟩ := R₃.add hD.2.2 (tk := s₃.toks) (p := .list ((vs.drop i).take (j - i))) (h' := (s₃.heap.push { cls := .type "slice", data := .fields #[.int i t, .int j u, .none] }).push { cls := .type "list", data := .seq ((vals.toList.drop i).take (j - i)).toArray })
    (fun b o e => Heap.get?_push_of_some _ (Heap.get?_push_of_some _ e)) ⟨_, ⟨0, by
      have := Heap.get?_push_size (s₃.heap.push { cls := .type "slice", data := .fields #[.int i t, .int j u, .none] }) (o := { cls := .type "list", data := .seq ((vals.toList.drop i).take (j - i)).toArray }) rfl
      rwa [Heap.size_push] at this⟩, by simp [← e, List.map_take, List.map_drop]⟩ R₃.tk
  exact ⟨_, R', S₃.trans S', hq _ hn hb⟩

/-- a text's part -/
def cut (x : Str) (i j : Nat) : Str := ⟨((x.cps.toList.drop i).take (j - i)).toArray⟩
theorem cut_all (x : Str) : cut x 0 x.length = x := by
  cases x with | mk c => simp [cut, Str.length, List.take_of_length_le]
theorem slice_post {x : Str} {t : Tok} {i j : Nat} (hij : i ≤ j) (hj : j ≤ x.length) (hs : x.length ≤ sizeLine) {l u : Option (Int × Tok)} (hl : Builtin.Str.strSliceIndices (l.map (·.1)) (u.map (·.1)) 1 x.length = Builtin.Str.strSliceIndices (some (i : Int)) (some (j : Int)) 1 x.length)
    {Q : Value → Shared → Prop} {s : Shared} (h : ∀ v tk, pv v = .str (cut x i j) → s.toks ≤ tk → Q v { s with toks := tk }) : (sliceMade x t l u none).post Q s := by
  unfold sliceMade slicePicked
  have e : ((none : Option (Int × Tok)).map (·.1)).getD 1 = 1 := rfl
  rw [e, hl]
  have hlen : (Builtin.Str.strSliceIndices (some (i : Int)) (some (j : Int)) 1 x.length).length = j - i := by rw [StrLaws.strSliceIndices_plain hij hj]; simp
  split
  · rename_i h0
    simp only [hlen, Bool.and_eq_true, beq_iff_eq] at h0
    have h1 : j - i = x.length := h0.2
    have hi : i = 0 := by omega
    have hj' : j = x.length := by omega
    subst hi hj'
    exact h _ s.toks (by rw [cut_all]; rfl) (Nat.le_refl _)
  · rw [StrLaws.sliced_plain x hij hj]
    refine ⟨?_, h _ _ rfl (Nat.le_succ _)⟩
    have : (((x.cps.toList.drop i).take (j - i)).toArray).size ≤ x.length := by simp [Str.length]; omega
    exact Nat.le_trans this hs
theorem EV.sliceStr {value lo hi : Expr} {p pos : Pos} (h : EV X A env value σ fun o σ₁ => EV X A env lo σ₁ fun a σ₂ => EV X A env hi σ₂ fun b σ₃ => ∃ (x : Str) (i j : Nat), o = .str x ∧ a = .int i ∧ b = .int j ∧ x.length ≤ sizeLine ∧ i ≤ j ∧ j ≤ x.length ∧ Q (.str (cut x i j)) σ₃)
    (ht : ∀ o r, letTemporaryGo value o r = pure () := by intro _ _; rfl) : EV X A env (.Subscript value (.Slice (some lo) (some hi) .none p) pos) σ Q := WP.of fun s R => by
  refine wpAny_Subscript_str_slice (WP.go h R (Step.refl σ s) fun vo σ₁ s₁ R₁ S₁ h₁ => ?_) ht
  rw [evalPart_some]
  refine WP.go h₁ R₁ S₁ fun va σ₂ s₂ R₂ S₂ h₂ => ?_
  rw [evalPart_some]
  refine WP.go h₂ R₂ S₂ fun vb σ₃ s₃ R₃ S₃ h₃ => ?_
  obtain ⟨x, i, j, eo, ea, eb, hsz, hij, hj, hq⟩ := h₃
  obtain ⟨t, rfl⟩ := pv_int ea
  obtain ⟨u, rfl⟩ := pv_int eb
  obtain ⟨w, rfl⟩ := pv_str eo
  refine ⟨x, w, some (i, t), some (j, u), rfl, rfl, rfl, slice_post hij hj hsz rfl fun v tk e htk => ?_⟩
  obtain ⟨R', S'⟩ := R₃.grow (h' := s₃.heap.push { cls := .type "slice", data := .fields #[.int i t, .int j u, .none] }) (tk := tk) (fun b o e => Heap.get?_push_of_some _ e) (Nat.le_trans R₃.tk htk)
  exact ⟨σ₃, R', S₃.trans S', by show Q (pv v) σ₃; rw [e]; exact hq⟩
theorem EV.sliceStrFrom {value lo : Expr} {p pos : Pos} (h : EV X A env value σ fun o σ₁ => EV X A env lo σ₁ fun a σ₂ => ∃ (x : Str) (i : Nat), o = .str x ∧ a = .int i ∧ x.length ≤ sizeLine ∧ i ≤ x.length ∧ Q (.str (cut x i x.length)) σ₂)
    (ht : ∀ o r, letTemporaryGo value o r = pure () := by intro _ _; rfl) : EV X A env (.Subscript value (.Slice (some lo) .none .none p) pos) σ Q := WP.of fun s R => by
  refine wpAny_Subscript_str_slice (WP.go h R (Step.refl σ s) fun vo σ₁ s₁ R₁ S₁ h₁ => ?_) ht
  rw [evalPart_some]
  refine WP.go h₁ R₁ S₁ fun va σ₂ s₂ R₂ S₂ h₂ => ?_
  rw [evalPart_none]
  obtain ⟨x, i, eo, ea, hsz, hi, hq⟩ := h₂
  obtain ⟨t, rfl⟩ := pv_int ea
  obtain ⟨w, rfl⟩ := pv_str eo
  refine wpAny_pure ⟨x, w, some (i, t), none, rfl, rfl, rfl, slice_post hi (Nat.le_refl _) hsz (StrLaws.sliceIdx_none_hi _ _) fun v tk e htk => ?_⟩
  obtain ⟨R', S'⟩ := R₂.grow (h' := s₂.heap.push { cls := .type "slice", data := .fields #[.int i t, .none, .none] }) (tk := tk) (fun b o e => Heap.get?_push_of_some _ e) (Nat.le_trans R₂.tk htk)
  exact ⟨σ₂, R', S₂.trans S', by show Q (pv v) σ₂; rw [e]; exact hq⟩

/-- displays -/
theorem EV.tuple {elts : List Expr} {k : Nat} {pos : Pos} (h : AVS X A env elts σ fun ps σ₁ => ps.length ≤ sizeLine ∧ ∀ D, σ₁ D = none → X.base.get? D = none → Q (.ref D) (σ₁.set D (.tuple ps)))
    (hp : elts.all plainArg = true := by rfl) : EV X A env (.Tuple elts k pos) σ Q := WP.of fun s R =>
  wpAny_Tuple (WP.go (AVS.run hp h) R (Step.refl σ s) fun vs σ₁ s₁ R₁ S₁ ⟨hl, q⟩ => ⟨by simpa using hl, by
    obtain ⟨R', S', hn, hb⟩ := R₁.new (h' := s₁.heap.push { cls := .type "tuple", data := .seq vs.toArray }) (tk := s₁.toks) (p := .tuple (vs.map pv)) (by rw [Heap.size_push]; exact Nat.lt_succ_self _) (fun b o e => Heap.get?_push_of_some _ e)
      ⟨vs.toArray, ⟨_, Heap.get?_push_size _ rfl, rfl, _, rfl⟩, by simp⟩ R₁.tk
    exact ⟨_, R', S₁.trans S', q _ hn hb⟩⟩)
theorem EV.list {elts : List Expr} {pos : Pos} (h : AVS X A env elts σ fun ps σ₁ => ps.length ≤ sizeLine ∧ ∀ D, σ₁ D = none → X.base.get? D = none → Q (.ref D) (σ₁.set D (.list ps)))
    (hp : elts.all plainArg = true := by rfl) : EV X A env (.List elts pos) σ Q := WP.of fun s R =>
  wpAny_List (WP.go (AVS.run hp h) R (Step.refl σ s) fun vs σ₁ s₁ R₁ S₁ ⟨hl, q⟩ => ⟨by simpa using hl, by
    obtain ⟨R', S', hn, hb⟩ := R₁.new (h' := s₁.heap.push { cls := .type "list", data := .seq vs.toArray }) (tk := s₁.toks) (p := .list (vs.map pv)) (by rw [Heap.size_push]; exact Nat.lt_succ_self _) (fun b o e => Heap.get?_push_of_some _ e)
      ⟨vs.toArray, ⟨0, Heap.get?_push_size _ rfl⟩, by simp⟩ R₁.tk
    exact ⟨_, R', S₁.trans S', q _ hn hb⟩⟩)
end
end Mine
end

section
open PySem PySem.W PyProof.Rows
namespace Mine

abbrev KF := Flow → Sem Fin
section
variable {M : Model} {A : Around} {R : GenEnd} {Y : Protocol} {n : Nat} {s₀ : Shared} {c : Code} {fs : List Frame} {s : Shared} {env : Env}
  {K : Flow → Sem Fin} {H : Value → Sem Fin} {gd : Bool → Bool} {lv : List Value → List Value}

theorem seg_st {m : Sem Flow} (h : wpAny M (A.over c fs) m (fun f s' => Seg M A R Y n s₀ c (K f) fs s') (fun _ _ => False) s) : Seg M A R Y n s₀ c (m.wrap K H gd lv) fs s :=
  seg_wrap (wpAny_mono h (fun _ _ x => x) fun _ _ x => x.elim)
theorem seg_bw {α β : Type} {m : Sem α} {K : α → Sem β} {K' : β → Sem Fin} {H' : Value → Sem Fin} {gd lv}
    (h : wpAny M (A.over c fs) m (fun a s' => Seg M A R Y n s₀ c ((K a).wrap K' H' gd lv) fs s') (fun _ _ => False) s) : Seg M A R Y n s₀ c ((m >>= K).wrap K' H' gd lv) fs s :=
  seg_bind_wrap (wpAny_mono h (fun _ _ x => x) fun _ _ x => x.elim)

theorem seg_If {test : Expr} {body orelse : List Stmt} {pos : Pos}
    (h : wpAny M (A.over c fs) (isTrue test env (eval test env)) (fun b s' => Seg M A R Y n s₀ c ((execs (if b = true then body else orelse) env).wrap K H gd lv) fs s') (fun _ _ => False) s) :
    Seg M A R Y n s₀ c ((exec (.If test body orelse pos) env).wrap K H gd lv) fs s := by
  rw [exec_If]
  refine seg_bw (wpAny_standAt (seg_bw (wpAny_mono h (fun b s' h' => ?_) fun _ _ x => x)))
  cases b with
  | true => exact h'
  | false => exact h'

theorem seg_For {target iter : Expr} {body : List Stmt} {pos : Pos}
    (h : wpAny M (A.over c fs) (eval iter env) (fun x s₁ => wpAny M (A.over c fs) (pyIter x) (fun it s₂ =>
      ∀ p, Seg M A R Y n s₀ (.forLoop target it body [] env) (M.den (.forLoop target it body [] env))
        (.ret (fun r => ((match r with | .ok f => (.pure f : Sem Flow) | .error e => .raise e).onRaise fun (x : Value) => do
          if (← field x 1) == Value.none then unsupported "frame.own-activation:exception-without-traceback"
          setFlight x env.frame).wrap K H gd lv) none (gd false) (lv []) c p [] :: fs) s₂) (fun _ _ => False) s₁) (fun _ _ => False) s)
    (hs : ∀ x, foldedSetIterable iter env x = pure x := by intro _; rfl) :
    Seg M A R Y n s₀ c ((exec (.For target iter body [] pos) env).wrap K H gd lv) fs s := by
  rw [exec_For]
  refine seg_bw (wpAny_standAt (seg_bw (wpAny_mono h (fun x s₁ h₁ => ?_) fun _ _ x => x)))
  rw [hs x]
  refine seg_bw (wpAny_pure (seg_bw (wpAny_standAt (seg_bw (wpAny_holding (wpAny_mono h₁ (fun it s₂ h₂ => ?_) fun _ _ x => x))))))
  exact seg_call h₂
end

section
variable {prog : Program} {w : World} {A : Around} {R : GenEnd} {Y : Protocol} {n : Nat} {s₀ : Shared} {fs : List Frame} {s : Shared} {env : Env}
def noted (env : Env) : Value → Sem Fin := fun e => (do noteFrame e env; theTreesLotGoes e : Sem Unit).wrap (fun _ => .raise e) .raise id id
def forK (target : Expr) (it : Value) (body : List Stmt) (env : Env) : Flow → Sem Fin := fun f => match f with
  | .next | .cont => .pure (.again (.forLoop target it body [] env))
  | .brk => .pure (.done .next)
  | .ret v => .pure (.done (.ret v))

theorem seg_forLoop {target : Expr} {it : Value} {body : List Stmt}
    (h : wpAny (model prog w) (A.over (.forLoop target it body [] env) fs) (pyNext it) (fun r s₁ => match r with
      | none => Seg (model prog w) A R Y n s₀ (.block [] env) (leafOf (.ok .next)) fs s₁
      | some v => wpAny (model prog w) (A.over (.forLoop target it body [] env) fs) (letOwnedTupleGo target it v) (fun _ s₂ =>
          wpAny (model prog w) (A.over (.forLoop target it body [] env) fs) (assign target env v) (fun _ s₃ =>
            Seg (model prog w) A R Y n s₀ (.forLoop target it body [] env) ((execs body env).wrap (forK target it body env) (noted env) id id) fs s₃) (fun _ _ => False) s₂) (fun _ _ => False) s₁) (fun _ _ => False) s) :
    Seg (model prog w) A R Y n s₀ (.forLoop target it body [] env) ((model prog w).den (.forLoop target it body [] env)) fs s := by
  show Seg _ A R Y n s₀ _ ((forTurn target it body [] env).onRaise (fun x => do noteFrame x env; theTreesLotGoes x)) fs s
  unfold forTurn
  rw [Sem.onRaise_eq_wrap]
  refine seg_bw (wpAny_standAt (seg_bw (wpAny_onRaise (wpAny_mono h (fun r s₁ h₁ => ?_) fun _ _ x => x.elim))))
  cases r with
  | none =>
    refine seg_again rfl ?_
    show Seg _ A R Y n s₀ _ (do return Fin.done (← (execs [] env).onRaise (fun x => do noteFrame x env; theTreesLotGoes x))) fs s₁
    exact h₁
  | some v =>
    refine seg_bw (wpAny_mono h₁ (fun _ s₂ h₂ => ?_) fun _ _ x => x)
    refine seg_bw (wpAny_mono h₂ (fun _ s₃ h₃ => ?_) fun _ _ x => x)
    rw [Sem.bind_eq_wrap', Sem.wrap_wrap]
    rw [Sem.wrap_congr (execs body env) _ _ (K' := forK target it body env) (H' := noted env) (fun f => by cases f <;> rfl)
        (fun e => by show (do noteFrame e env; theTreesLotGoes e : Sem Unit).bind (fun _ => .raise e) = _; rw [Sem.bind_eq_wrap]; rfl)]
    exact h₃
end
end Mine
end

section
open PySem PySem.W PyProof.Rows
namespace Mine

structure Src where
  params : Arguments
  body : List Stmt
  scope : Scope
def noScope : Scope := { kind := .function, names := [], isGenerator := false, isCoroutine := false }
def srcAt : List Stmt → Nat → Src
  | .FunctionDef _ args body _ _ _ scope .. :: _, 0 => ⟨args, body, scope⟩
  | _ :: r, i + 1 => srcAt r i
  | _, _ => ⟨⟨[], [], none, [], [], none, []⟩, [], noScope⟩
def clsAt : List Stmt → Nat → List Stmt
  | .ClassDef _ _ _ body .. :: _, 0 => body
  | _ :: r, i + 1 => clsAt r i
  | _, _ => []
def top : List Stmt := PySem.Challenge.pw_pg0245_01.main.body
def escSrc : Src := srcAt top 3
def stripSrc : Src := srcAt top 4
def checkSrc : Src := srcAt top 5
def fmtSrc : Src := srcAt top 10
def hdrs : List Stmt := clsAt top 11

structure FM where
  name : Str
  qual : Str
  doc : Value
  pm : Value
  an : Option Addr
  cdv : Value
  ct : Value
abbrev mkFnD (src : Src) (dV kV : Value) (m : FM) : FuncData := fnOf m.name m.qual src.params src.body src.scope dV kV m.doc m.pm m.an m.cdv m.ct
abbrev mkFn (src : Src) (m : FM) : FuncData := mkFnD src .none .none m
structure FnD (X : Cx) (a : Addr) (src : Src) (dV kV : Value) (m : FM) : Prop where
  here : ∃ o, X.base.get? a = some o ∧ o.data = .func (mkFnD src dV kV m)
  code : X.base.CodeRec m.cdv m.qual
abbrev Fn (X : Cx) (a : Addr) (src : Src) (m : FM) : Prop := FnD X a src .none .none m

section
variable {X : Cx} {A : Around} {env : Env} {σ : AH}
theorem Real.put {s : Shared} (R : Real X σ s) {T : Addr} {po : PO} (hz : Rz s.heap T po) (hb : X.base.get? T = none) : Real X (σ.set T po) s :=
  ⟨fun a p e => by
    by_cases h : a = T
    · subst h; rw [AH.set_self] at e; cases e; exact hz
    · rw [AH.set_ne _ _ h] at e; exact R.rz a p e, R.base, fun a p e => by
    by_cases h : a = T
    · subst h; exact hb
    · rw [AH.set_ne _ _ h] at e; exact R.apart a p e, R.gens, R.os, R.tk⟩
theorem ASG.tup2 {x y : Str} {px py pos : Pos} {k : Nat} {t : Addr} {p q : PV} {Q : AH → Prop} (hh : A.handled = none) (ht : σ t = some (.tuple [p, q])) (h : ST X A env x p σ fun σ₁ => ST X A env y q σ₁ Q) :
    ASG X A env (.Tuple [.Name x px, .Name y py] k pos) (.ref t) σ Q := fun v e => WP.of fun s R => by
  rw [pv_ref e]
  obtain ⟨vals, ho, em⟩ := R.rz _ _ ht
  obtain ⟨a, b, rfl, rfl, rfl⟩ : ∃ a b, vals = #[a, b] ∧ pv a = p ∧ pv b = q := by
    match vals, em with
    | ⟨[a, b]⟩, em => simp at em; exact ⟨a, b, rfl, em.1, em.2⟩
    | ⟨[]⟩, em => simp at em
    | ⟨[_]⟩, em => simp at em
    | ⟨_ :: _ :: _ :: _⟩, em => simp at em
  refine wpAny_assign_Tuple hh ho rfl rfl fun h' he => ?_
  have hk : ∀ b o, s.heap.get? b = some o → h'.get? b = some o := fun b o eb => he b o (Nat.ne_of_lt (Heap.lt_size eb)) eb
  show wpAny _ _ (do holding [b] (assign (.Name x px) env a); do holding [] (assign (.Name y py) env b); pure ()) _ _ _
  obtain ⟨R', S'⟩ := R.grow (h' := h') (tk := s.toks) hk R.tk
  refine wpAny_bind (wpAny_holding (assign_Name (WP.go (h a rfl) R' S' fun _ σ₁ s₁ R₁ S₁ q => ?_)))
  refine wpAny_bind (wpAny_holding (assign_Name (WP.go (q b rfl) R₁ S₁ fun _ σ₂ s₂ R₂ S₂ q => wpAny_pure ⟨σ₂, R₂, S₂, q⟩)))
end
end Mine
end

section
open PySem PySem.W PyProof.Rows
namespace Mine

/-- the signs as the generator hands them out -/
def esc : List Nat → Nat → Bool → List (Nat × List Nat)
  | [], _, _ => []
  | c :: r, p, true => (p, [92, c]) :: esc r (p + 1) false
  | c :: r, p, false => if c = 92 then esc r (p + 1) true else (p, [c]) :: esc r (p + 1) false

/-- does the text end behind a lone backslash? (the generator has one more sign then; not dealt with here) -/
def escEnd : List Nat → Bool → Bool
  | [], f => f
  | c :: r, true => escEnd r false
  | c :: r, false => escEnd r (decide (c = 92))

def one (L : Addr) (m : Str → Option PV) : AH := fun b => if b = L then some (.ns m) else none
@[simp] theorem one_self (L : Addr) (m : Str → Option PV) : one L m L = some (.ns m) := by simp [one]
theorem one_ne {L b : Addr} (m : Str → Option PV) (h : b ≠ L) : one L m b = none := by simp [one, h]
theorem one_some {L b : Addr} {m : Str → Option PV} {p : PO} (h : one L m b = some p) : b = L ∧ p = .ns m := by
  unfold one at h; split at h
  · rename_i e; cases h; exact ⟨e, rfl⟩
  · cases h
abbrev noAH : AH := fun _ => none

def Gk (s₀ s : Shared) : Prop := s₀.gens.size ≤ s.gens.size ∧ ∀ i : Nat, i < s₀.gens.size → s.gens[i]? = s₀.gens[i]?
theorem Gk.refl (s : Shared) : Gk s s := ⟨Nat.le_refl _, fun _ _ => rfl⟩
theorem Gk.trans {a b c : Shared} (x : Gk a b) (y : Gk b c) : Gk a c := ⟨Nat.le_trans x.1 y.1, fun i hi => (y.2 i (Nat.lt_of_lt_of_le hi x.1)).trans (x.2 i hi)⟩
theorem Step.gk {σ σ' : AH} {s s' : Shared} (S : Step σ s σ' s') : Gk s s' := ⟨S.gsize, S.gens⟩

def yproto (X : Cx) (H : List Addr) (items : List (Nat × List Nat)) : Protocol := fun m s₀ v s kap =>
  ∃ (t i : Nat) (c : List Nat), items[items.length - 1 - m]? = some (i, c) ∧ v = .ref t ∧ s₀.heap.get? t = none ∧ t ∉ H ∧ Rz s.heap t (.tuple [.int i, .str ⟨c.toArray⟩]) ∧
  (∀ b o, b ∉ H → s₀.heap.get? b = some o → s.heap.get? b = some o) ∧ (∀ b ∈ H, ∃ o, s.heap.get? b = some o) ∧ Gk s₀ s ∧ Real X noAH s ∧ X.base.get? t = none ∧
  ∀ s'', Real X noAH s'' → (∀ b ∈ H, ∀ o, s.heap.get? b = some o → s''.heap.get? b = some o) → kap (.send .none) s''
def yend (X : Cx) (H : List Addr) (n : Nat) (s₀ s : Shared) : Prop :=
  n = 0 ∧ (∀ b o, b ∉ H → s₀.heap.get? b = some o → s.heap.get? b = some o) ∧ Gk s₀ s ∧ Real X noAH s
abbrev yR (X : Cx) (H : List Addr) : GenEnd := fun n s₀ r s₁ => r = .ok (.ret .none) ∧ yend X H n s₀ s₁

/-- within the generator's run -/
structure Inn (X : Cx) (L E I : Addr) (SI : Nat → Heap → Prop) (i : Nat) (s₀ s : Shared) : Prop where
  keep : ∀ b o, b ∉ [L, E, I] → s₀.heap.get? b = some o → s.heap.get? b = some o
  gens : Gk s₀ s
  enum : ∃ old, IsEnum s.heap E I i old
  draw : SI i s.heap

section
variable {X : Cx} {A : Around} {L E I : Addr} {SI : Nat → Heap → Prop} {i : Nat} {s₀ s : Shared} {σ : AH}
theorem inn_go {α : Type} {t : Sem α} {Q : α → AH → Prop} {Q' : α → Shared → Prop} (hI : ∀ i h h', SI i h → (∀ o, h.get? I = some o → h'.get? I = some o) → SI i h') (h : WP X A t σ Q) (R : Real X σ s) (N : Inn X L E I SI i s₀ s) (hE : σ E = none) (hI0 : σ I = none)
    (hL : ∀ b p, σ b = some p → b ∈ [L, E, I] ∨ s₀.heap.get? b = none)
    (hQ : ∀ a σ' s', Real X σ' s' → Inn X L E I SI i s₀ s' → (∀ b p, σ' b = some p → (∃ q, σ b = some q) ∨ s.heap.get? b = none) → Q a σ' → Q' a s') : wpAny (model X.prog X.w) A t Q' (fun _ _ => False) s :=
  h.go R (Step.refl σ s) fun a σ' s' R' S' q => by
    have hk : ∀ b o, b ∉ [L, E, I] → s₀.heap.get? b = some o → s'.heap.get? b = some o := fun b o hb e => by
      cases hσ : σ b with
      | none => exact S'.keep b o hσ (N.keep b o hb e)
      | some p =>
        rcases hL b p hσ with h | h
        · exact absurd h hb
        · rw [e] at h; cases h
    obtain ⟨old, e⟩ := N.enum
    exact hQ a σ' s' R' ⟨hk, N.gens.trans S'.gk, ⟨old, S'.keep E _ hE e⟩, hI i _ _ N.draw fun o e => S'.keep I o hI0 e⟩ S'.fresh q
end
theorem over_frame {A : Around} {c c' : Code} {k : Result → Sem Fin} {g : Bool} {l : List Value} {p : Pos} {kp : List Value} : (A.over c' [.ret k none g l c p kp]).handled = A.handled := rfl
theorem over_nil {A : Around} {c' : Code} : (A.over c' []).handled = A.handled := rfl

abbrev fnEnv (src : Src) (m : FM) (L a : Addr) : Env := callEnv (mkFn src m) L a
end Mine
end

section
open PySem PySem.W PyProof.Rows
namespace Mine

def forTgt : Stmt → Expr
  | .For t .. => t
  | _ => .Constant .none 0 ⟨0, 0, 0, 0⟩
def forIter : Stmt → Expr
  | .For _ i .. => i
  | _ => .Constant .none 0 ⟨0, 0, 0, 0⟩
def forBody : Stmt → List Stmt
  | .For _ _ b .. => b
  | _ => []
def stAt : List Stmt → Nat → Stmt
  | s :: _, 0 => s
  | _ :: r, i + 1 => stAt r i
  | [], _ => .Pass ⟨0, 0, 0, 0⟩
def escFor : Stmt := stAt escSrc.body 2

theorem Real.others {X : Cx} {σ : AH} {s : Shared} (R : Real X σ s) {H : List Addr} (hσ : ∀ b ∈ H, σ b = none) (hb : ∀ b ∈ H, X.base.get? b = none) {h' : Heap} {tk : Nat} (hk : ∀ b o, b ∉ H → s.heap.get? b = some o → h'.get? b = some o) (htk : 1 ≤ tk) :
    Real X σ { s with heap := h', toks := tk } :=
  ⟨fun a p e => (R.rz a p e).keep fun o ho => hk a o (fun z => by rw [hσ a z] at e; cases e) ho, fun b o e => hk b o (fun z => by rw [hb b z] at e; cases e) (R.base b o e), R.apart, R.gens, R.os, htk⟩

section
variable {X : Cx} {A : Around} {L a E I : Addr} {SI : Nat → Heap → Prop} {fm : FM} {x : Str} {items : List (Nat × List Nat)}

theorem esc_loop {F : Frame} {kf : Result → Sem Fin} {g : Bool} {l : List Value} {c₁ : Code} {p₁ : Pos} {kp : List Value} (hF : F = .ret kf none g l c₁ p₁ kp) (hg : g = false) (hh : A.handled = none)
    (D : ∀ A' : Around, A'.handled = none → Draws X.prog X.w A' I [I] x.cps.size (fun i v => ∃ c u, x.cps[i]? = some c ∧ v = .str ⟨#[c]⟩ u) SI)
    (hEI : E ≠ I) (hEL : E ≠ L) (hIL : I ≠ L) (hbE : X.base.get? E = none) (hbI : X.base.get? I = none) (hbL : X.base.get? L = none)
    (exit : ∀ m s₀ s, m (Str.ofString "escape") = some (.bool false) → Real X (one L m) s → (∀ b o, b ∉ [L, E, I] → s₀.heap.get? b = some o → s.heap.get? b = some o) → Gk s₀ s →
      Seg (model X.prog X.w) A (yR X [L, E, I]) (yproto X [L, E, I] items) 0 s₀ (.block [] (fnEnv escSrc fm L a)) (leafOf (.ok .next)) [F] s) :
    ∀ (k p : Nat) (flag : Bool) (m : Str → Option PV) (s₀ s : Shared), x.cps.size - p = k → p ≤ x.cps.size → m (Str.ofString "escape") = some (.bool flag) →
      (∃ pre, items = pre ++ esc (x.cps.toList.drop p) p flag) → escEnd (x.cps.toList.drop p) flag = false → Real X (one L m) s → Inn X L E I SI p s₀ s →
      Seg (model X.prog X.w) A (yR X [L, E, I]) (yproto X [L, E, I] items) (esc (x.cps.toList.drop p) p flag).length s₀ (.forLoop (forTgt escFor) (.ref E) (forBody escFor) [] (fnEnv escSrc fm L a))
        ((model X.prog X.w).den (.forLoop (forTgt escFor) (.ref E) (forBody escFor) [] (fnEnv escSrc fm L a))) [F] s := by
  subst hF; subst hg
  have hI : ∀ i h h', SI i h → (∀ o, h.get? I = some o → h'.get? I = some o) → SI i h' := fun i h h' st hk => (D A hh).frame i h h' st fun b hb o e => by rw [List.mem_singleton.mp hb] at e ⊢; exact hk o e
  have W : ∀ A' : Around, A'.handled = none → _ := fun A' hA' => WalksT.enumerateD (prog := X.prog) (w := X.w) (A := A') (D A'.in1 hA') E hEI (by simpa using hEI) (by simp)
  have hne : ∀ b ∈ [E, I], b ≠ L := fun b hb => by
    rcases List.mem_cons.mp hb with rfl | hb
    · exact hEL
    · rw [List.mem_singleton.mp hb]; exact hIL
  have hnb : ∀ b ∈ [E, I], X.base.get? b = none := fun b hb => by
    rcases List.mem_cons.mp hb with rfl | hb
    · exact hbE
    · rw [List.mem_singleton.mp hb]; exact hbI
  intro k
  induction k with
  | zero =>
    intro p flag m s₀ s hk hp he hpre hend R N
    have hpe : p = x.cps.size := by omega
    subst hpe
    have hdrop : x.cps.toList.drop x.cps.size = [] := by simp
    rw [hdrop] at hpre hend ⊢
    have hfl : flag = false := by cases flag <;> simp_all [escEnd]
    subst hfl
    refine seg_forLoop ?_
    refine with_tk (Nat.le_refl s.toks) ((W (A.over _ _) (by exact hh)).done s _ _ ⟨N.enum, N.draw⟩ fun h' tk hk' htk => ?_)
    have R' : Real X (one L m) { s with heap := h', toks := tk } := R.others (H := [E, I]) (fun b hb => one_ne m (hne b hb)) hnb hk' (Nat.le_trans R.tk htk)
    exact exit m s₀ _ he R' (fun b o hb e => hk' b o (fun z => hb (List.mem_cons_of_mem _ z)) (N.keep b o hb e)) N.gens
  | succ k ih =>
    intro p flag m s₀ s hk hp he hpre hend R N
    have hlt : p < x.cps.size := by omega
    have hc : x.cps.toList.drop p = x.cps[p] :: x.cps.toList.drop (p + 1) := by
      rw [List.drop_eq_getElem_cons (by simpa using hlt)]; simp
    rw [hc] at hpre hend ⊢
    generalize hcv : x.cps[p] = c at hpre hend ⊢
    refine seg_forLoop ?_
    refine with_tk (Nat.le_refl s.toks) ((W (A.over _ _) (by exact hh)).item p s _ _ hlt ⟨N.enum, N.draw⟩ fun T vals h' tk hP hT hTup hMid hk' htk => ?_)
    obtain ⟨t, y, ⟨c', u, hc', rfl⟩, rfl⟩ := hP
    have : c' = c := by rw [Array.getElem?_eq_getElem hlt] at hc'; rw [← hcv]; exact (Option.some.inj hc').symm
    subst this
    refine (W (A.over _ _) (by exact hh)).go _ _ _ p T { s with heap := h', toks := tk } _ _ hMid fun h₂ hst₂ hk₂ => ?_
    have hTn : s.heap.get? T = none := by
      cases q : s.heap.get? T with
      | none => rfl
      | some o => exact absurd (Heap.lt_size q) (Nat.not_lt.mpr hT)
    have hTH : T ∉ [E, I] := (W A hh).apart _ _ _ hMid
    have k2 : ∀ b o, b ∉ [E, I] → s.heap.get? b = some o → h₂.get? b = some o := fun b o hb e => hk₂ b o hb (hk' b o hb e)
    have R₂ : Real X (one L m) { s with heap := h₂, toks := tk } := R.others (H := [E, I]) (fun b hb => one_ne m (hne b hb)) hnb k2 (Nat.le_trans R.tk htk)
    have hTL : T ≠ L := fun z => by
      obtain ⟨o, ho⟩ := (R.rz L _ (one_self L m)).there
      rw [z, ho] at hTn; cases hTn
    have hTb : X.base.get? T = none := by
      cases q : X.base.get? T with
      | none => rfl
      | some o => rw [R.base _ _ q] at hTn; cases hTn
    have N₂ : Inn X L E I SI (p + 1) s₀ { s with heap := h₂, toks := tk } := ⟨fun b o hb e => k2 b o (fun z => hb (List.mem_cons_of_mem _ z)) (N.keep b o hb e), N.gens, by simpa using hst₂.1, hst₂.2⟩
    have hT0 : s₀.heap.get? T = none := by
      cases q : s₀.heap.get? T with
      | none => rfl
      | some o => rw [N.keep T o (by simpa [hTL] using hTH) q] at hTn; cases hTn
    have R₃ : Real X ((one L m).set T (.tuple [.int p, .str ⟨#[c']⟩])) { s with heap := h₂, toks := tk } := R₂.put ⟨_, ⟨_, hk₂ _ _ hTH hTup.choose_spec.1, hTup.choose_spec.2⟩, rfl⟩ hTb
    have hTEI : T ≠ E ∧ T ≠ I := by simpa using hTH
    have hHid : ∀ {σ : AH} {m' : Str → Option PV}, σ.le ((one L m').set T (.tuple [.int p, .str ⟨#[c']⟩])) → σ E = none ∧ σ I = none ∧ ∀ b q, σ b = some q → b ∈ [L, E, I] ∨ s₀.heap.get? b = none := fun {σ m'} hle => by
      have key : ∀ b q, σ b = some q → b = T ∨ b = L := fun b q e => by
        have := hle b q e
        by_cases hb : b = T
        · exact .inl hb
        · rw [AH.set_ne _ _ hb] at this; exact .inr (one_some this).1
      refine ⟨?_, ?_, fun b q e => ?_⟩
      · cases q : σ E with
        | none => rfl
        | some z => rcases key E z q with h | h
                    · exact absurd h.symm hTEI.1
                    · exact absurd h hEL
      · cases q : σ I with
        | none => rfl
        | some z => rcases key I z q with h | h
                    · exact absurd h.symm hTEI.2
                    · exact absurd h hIL
      · rcases key b q e with h | h
        · subst h; exact .inr hT0
        · subst h; exact .inl (by simp)
    generalize hm₃ : upd (upd m (Str.ofString "pos") (.int p)) (Str.ofString "ch") (.str ⟨#[c']⟩) = m₃
    have hpos : m₃ (Str.ofString "pos") = some (.int p) := by rw [← hm₃, upd_ne _ _ (by decide +kernel), upd_self]
    have hch : m₃ (Str.ofString "ch") = some (.str ⟨#[c']⟩) := by rw [← hm₃, upd_self]
    have hesc : m₃ (Str.ofString "escape") = some (.bool flag) := by rw [← hm₃, upd_ne _ _ (by decide +kernel), upd_ne _ _ (by decide +kernel), he]
    have asg : WP X (A.over (.forLoop (forTgt escFor) (.ref E) (forBody escFor) [] (fnEnv escSrc fm L a)) [.ret kf none false l c₁ p₁ kp]) (PySem.assign (forTgt escFor) (fnEnv escSrc fm L a) (.ref T)) ((one L m).set T (.tuple [.int p, .str ⟨#[c']⟩])) fun _ σ' => σ' = one L m₃ := by
      refine WP.post (Q := fun _ σ' => (one L m₃).le σ') ?_ fun _ σ' h => ⟨_, h, rfl⟩
      refine (ASG.tup2 (Q := fun σ' => (one L m₃).le σ') (by exact hh) (AH.set_self ..) (ST.loc (m := m) (by show (one L m).set T _ L = _; rw [AH.set_ne _ _ (Ne.symm hTL), one_self]) (ST.loc (m := upd m (Str.ofString "pos") (.int p)) (AH.set_self ..) ?_))) _ rfl
      intro b q e
      obtain ⟨rfl, rfl⟩ := one_some e
      rw [← hm₃]; exact AH.set_self ..
    refine inn_go (i := p + 1) hI asg R₃ N₂ (hHid (AH.le_refl _)).1 (hHid (AH.le_refl _)).2.1 (hHid (AH.le_refl _)).2.2 fun _ σ' s₃ R₃ N₃ hfr e => ?_
    subst e
    have hm₃' : (one L m₃) L = some (.ns m₃) := one_self L m₃
    have hHid1 : ∀ m', (one L m') E = none ∧ (one L m') I = none ∧ ∀ b q, (one L m') b = some q → b ∈ [L, E, I] ∨ s₀.heap.get? b = none := fun m' =>
      ⟨one_ne _ hEL, one_ne _ hIL, fun b q e => .inl (by rw [(one_some e).1]; simp)⟩
    -- back to the loop
    have again : ∀ (m₄ : Str → Option PV) (flag' : Bool) (n : Nat) (s₀' s₄ : Shared), m₄ (Str.ofString "escape") = some (.bool flag') → n = (esc (x.cps.toList.drop (p + 1)) (p + 1) flag').length → (∃ pre, items = pre ++ esc (x.cps.toList.drop (p + 1)) (p + 1) flag') →
        escEnd (x.cps.toList.drop (p + 1)) flag' = false → Real X (one L m₄) s₄ → Inn X L E I SI (p + 1) s₀' s₄ →
        Seg (model X.prog X.w) A (yR X [L, E, I]) (yproto X [L, E, I] items) n s₀' (.forLoop (forTgt escFor) (.ref E) (forBody escFor) [] (fnEnv escSrc fm L a))
          (.pure (.again (.forLoop (forTgt escFor) (.ref E) (forBody escFor) [] (fnEnv escSrc fm L a)))) [.ret kf none false l c₁ p₁ kp] s₄ := by
      intro m₄ flag' n s₀' s₄ h1 h2 h3 h4 h5 h6
      subst h2
      exact seg_again rfl (ih (p + 1) flag' m₄ s₀' s₄ (by omega) hlt h1 h3 h4 h5 h6)
    -- escape = b, then back
    have setFlag : ∀ (K : Flow → Sem Fin) (hK : K .next = .pure (.again (.forLoop (forTgt escFor) (.ref E) (forBody escFor) [] (fnEnv escSrc fm L a)))) (st : Stmt) (b : Bool) (px p1 p2 : Pos) (k0 : Nat) (n : Nat) (s₀' s₄ : Shared), st = .Assign [.Name (Str.ofString "escape") px] (.Constant (.bool b) k0 p1) p2 → n = (esc (x.cps.toList.drop (p + 1)) (p + 1) b).length → (∃ pre, items = pre ++ esc (x.cps.toList.drop (p + 1)) (p + 1) b) →
        escEnd (x.cps.toList.drop (p + 1)) b = false → Real X (one L m₃) s₄ → Inn X L E I SI (p + 1) s₀' s₄ →
        Seg (model X.prog X.w) A (yR X [L, E, I]) (yproto X [L, E, I] items) n s₀' (.forLoop (forTgt escFor) (.ref E) (forBody escFor) [] (fnEnv escSrc fm L a))
          ((execs [st] (fnEnv escSrc fm L a)).wrap K (noted (fnEnv escSrc fm L a)) id id) [.ret kf none false l c₁ p₁ kp] s₄ := by
      intro K hK st b px p1 p2 k0 n s₀' s₄ hst h2 h3 h4 R₄ N₄
      subst hst
      refine seg_execs_cons (seg_st ?_)
      have hx : EX X (A.over (.forLoop (forTgt escFor) (.ref E) (forBody escFor) [] (fnEnv escSrc fm L a)) [.ret kf none false l c₁ p₁ kp]) (fnEnv escSrc fm L a) (.Assign [.Name (Str.ofString "escape") px] (.Constant (.bool b) k0 p1) p2) (one L m₃) fun f σ' => f = .next ∧ σ' = one L (upd m₃ (Str.ofString "escape") (.bool b)) := by
        refine EX.assign (EV.bool (ST.loc (m := m₃) hm₃' ⟨rfl, ?_⟩))
        funext z
        show ((one L m₃).set L _) z = _
        by_cases hz : z = L
        · subst hz; rw [AH.set_self, one_self]
        · rw [AH.set_ne _ _ hz, one_ne _ hz, one_ne _ hz]
      refine inn_go (Q := fun f σ' => pf f = .next ∧ σ' = one L (upd m₃ (Str.ofString "escape") (.bool b))) hI hx R₄ N₄ (one_ne _ hEL) (one_ne _ hIL) (fun b q e => .inl (by rw [(one_some e).1]; simp)) fun f σ' s₅ R₅ N₅ _ ⟨ef, eσ⟩ => ?_
      subst eσ
      cases f <;> first | cases ef | skip
      show Seg _ _ _ _ _ _ _ (K .next) _ _
      rw [hK]
      exact again _ b n s₀' s₅ (upd_self ..) h2 h3 h4 R₅ N₅
    -- a yield of the sign
    have yields : ∀ (K : Flow → Sem Fin) (e : Expr) (yp pp : Pos) (rest : List Stmt) (cs : List Nat) (flag' : Bool), (∀ A', EV X A' (fnEnv escSrc fm L a) e (one L m₃) fun v σ' => ∃ D : Addr, v = .ref D ∧ σ' = (one L m₃).set D (.tuple [.int p, .str ⟨cs.toArray⟩]) ∧ D ≠ L ∧ X.base.get? D = none) →
        esc (c' :: x.cps.toList.drop (p + 1)) p flag = (p, cs) :: esc (x.cps.toList.drop (p + 1)) (p + 1) flag' →
        (∀ s₀' s₄, Real X (one L m₃) s₄ → Inn X L E I SI (p + 1) s₀' s₄ → Seg (model X.prog X.w) A (yR X [L, E, I]) (yproto X [L, E, I] items) (esc (x.cps.toList.drop (p + 1)) (p + 1) flag').length s₀' (.forLoop (forTgt escFor) (.ref E) (forBody escFor) [] (fnEnv escSrc fm L a))
          ((execs rest (fnEnv escSrc fm L a)).wrap K (noted (fnEnv escSrc fm L a)) id id) [.ret kf none false l c₁ p₁ kp] s₄) →
        ∀ s₄, Real X (one L m₃) s₄ → Inn X L E I SI (p + 1) s₀ s₄ → Seg (model X.prog X.w) A (yR X [L, E, I]) (yproto X [L, E, I] items) (esc (c' :: x.cps.toList.drop (p + 1)) p flag).length s₀ (.forLoop (forTgt escFor) (.ref E) (forBody escFor) [] (fnEnv escSrc fm L a))
          ((execs (.Expr (.Yield (some e) yp) pp :: rest) (fnEnv escSrc fm L a)).wrap K (noted (fnEnv escSrc fm L a)) id id) [.ret kf none false l c₁ p₁ kp] s₄ := by
      intro K e yp pp rest cs flag' hev hesc' hrest s₄ R₄ N₄
      obtain ⟨pre, hpre⟩ := hpre
      rw [hesc'] at hpre ⊢
      rw [List.length_cons]
      refine seg_execs_cons (seg_Expr_Yield rfl rfl rfl (wpAny_mono (inn_go (Q' := fun v s' => ∀ kap : Resume → Shared → Prop, (∀ x_1 s'', (match x_1 with | .ref _ => False | _ => Seg (model X.prog X.w) A (yR X [L, E, I]) (yproto X [L, E, I] items) (esc (x.cps.toList.drop (p + 1)) (p + 1) flag').length s'' (.forLoop (forTgt escFor) (.ref E) (forBody escFor) [] (fnEnv escSrc fm L a)) ((execs rest (fnEnv escSrc fm L a)).wrap K (noted (fnEnv escSrc fm L a)) id id) [.ret kf none false l c₁ p₁ kp] s'') → kap (.send x_1) s'') → yproto X [L, E, I] items _ s₀ v s' kap) hI (hev _) R₄ N₄ (one_ne _ hEL) (one_ne _ hIL) (fun b q e => .inl (by rw [(one_some e).1]; simp)) fun v σ' s₅ R₅ N₅ hfr₅ ⟨D', hv, hσ, hDL, hDb⟩ => ?_) (fun _ _ x => x) fun _ _ x => x.elim))
      intro kap hkap
      have hD4 : s₄.heap.get? D' = none := by
        rcases hfr₅ D' (.tuple [.int p, .str ⟨cs.toArray⟩]) (by rw [hσ, AH.set_self]) with ⟨q, hq⟩ | h
        · exact absurd (one_some hq).1 hDL
        · exact h
      have hDE : D' ≠ E := fun z => by obtain ⟨o, ho⟩ := N₄.enum; rw [z, ho] at hD4; cases hD4
      have hDI : D' ≠ I := fun z => by obtain ⟨o, ho⟩ := (D A hh).live _ _ N₄.draw; rw [z, ho] at hD4; cases hD4
      have hDH : D' ∉ [L, E, I] := by simp [hDL, hDE, hDI]
      have RL : Rz s₅.heap L (.ns m₃) := R₅.rz L _ (by rw [hσ, AH.set_ne _ _ (Ne.symm hDL), one_self])
      refine ⟨D', p, cs, ?_, pv_ref hv, ?_, hDH, R₅.rz D' _ (by rw [hσ, AH.set_self]), N₅.keep, ?_, N₅.gens, R₅.le (fun b q e => by cases e), hDb, fun s'' R'' hk'' => ?_⟩
      · rw [hpre, List.length_append, List.length_cons]
        have : pre.length + ((esc (x.cps.toList.drop (p + 1)) (p + 1) flag').length + 1) - 1 - (esc (x.cps.toList.drop (p + 1)) (p + 1) flag').length = pre.length := by omega
        rw [this, List.getElem?_append_right (Nat.le_refl _), Nat.sub_self]; rfl
      · cases q : s₀.heap.get? D' with
        | none => rfl
        | some o => rw [N₄.keep D' o hDH q] at hD4; cases hD4
      · intro b hb
        rcases List.mem_cons.mp hb with rfl | hb
        · exact RL.there
        · rcases List.mem_cons.mp hb with rfl | hb
          · obtain ⟨o, ho⟩ := N₅.enum; exact ⟨_, ho⟩
          · rw [List.mem_singleton.mp hb]; obtain ⟨o, ho⟩ := (D A hh).live _ _ N₅.draw; exact ⟨o, ho⟩
      · refine hkap .none s'' ?_
        refine hrest s'' s'' ?_ ⟨fun _ _ _ e => e, Gk.refl _, let ⟨o, ho⟩ := N₅.enum; ⟨o, hk'' E (by simp) _ ho⟩, hI _ _ _ N₅.draw fun o e => hk'' I (by simp) o e⟩
        have := R''.put (T := L) (po := .ns m₃) (RL.keep fun o e => hk'' L (by simp) o e) hbL
        refine this.le fun b q e => ?_
        obtain ⟨rfl, rfl⟩ := one_some e
        exact AH.set_self ..
    refine seg_execs_cons (seg_If ?_)
    refine inn_go (Q := fun b σ' => b = flag ∧ σ' = one L m₃) hI (TS.val (EV.loc hm₃' hesc (TRU.bool ⟨rfl, rfl⟩))) R₃ N₃ (hHid1 _).1 (hHid1 _).2.1 (hHid1 _).2.2 fun b σ' s₄ R₄ N₄ _ ⟨eb, eσ⟩ => ?_
    subst eb eσ
    have tup : ∀ {A' : Around} {ex : Expr} {px pp : Pos} {k0 : Nat} {cs : List Nat}, EV X A' (fnEnv escSrc fm L a) ex (one L m₃) (fun v σ' => v = .str ⟨cs.toArray⟩ ∧ σ' = one L m₃) → plainArg ex = true →
        EV X A' (fnEnv escSrc fm L a) (.Tuple [.Name (Str.ofString "pos") px, ex] k0 pp) (one L m₃) fun v σ' => ∃ D : Addr, v = .ref D ∧ σ' = (one L m₃).set D (.tuple [.int p, .str ⟨cs.toArray⟩]) ∧ D ≠ L ∧ X.base.get? D = none := fun {A' ex px pp k0 cs} h hpl =>
      EV.tuple (by
        refine EV.loc hm₃' hpos (WP.mono h fun v σ' ⟨e1, e2⟩ => ?_)
        subst e2
        rw [e1]
        exact ⟨by show 2 ≤ sizeLine; decide, fun D h1 h2 => ⟨D, rfl, rfl, (fun z => by rw [z, one_self] at h1; cases h1), h2⟩⟩) (by show (true && (plainArg ex && true)) = true; rw [hpl]; rfl)
    cases b with
    | true =>
      refine yields _ _ _ _ _ [92, c'] false (fun A' => tup ?_ (by rfl)) rfl (fun s₀' s₅ R₅ N₅ => setFlag _ rfl _ false _ _ _ _ _ s₀' s₅ rfl rfl ?_ ?_ R₅ N₅) s₄ R₄ N₄
      · exact EV.bin (EV.str (EV.loc hm₃' hch (BIN.cat (by show 2 ≤ sizeLine; decide) ⟨rfl, rfl⟩)))
      · obtain ⟨pre, e⟩ := hpre
        exact ⟨pre ++ [(p, [92, c'])], by rw [e]; simp [esc]⟩
      · exact hend
    | false =>
      have hdec : decide ((⟨#[c']⟩ : Str) = Str.ofString "\\") = decide (c' = 92) := by
        have : Str.ofString "\\" = ⟨#[92]⟩ := by decide +kernel
        rw [this]
        by_cases h : c' = 92
        · subst h; simp
        · simp [h]
      refine seg_execs_cons (seg_If ?_)
      refine inn_go (Q := fun b σ' => b = decide (c' = 92) ∧ σ' = one L m₃) hI (TS.cmp (EV.loc hm₃' hch (EV.str (CMP.eq_s ⟨_, rfl, hdec, rfl⟩)))) R₄ N₄ (hHid1 _).1 (hHid1 _).2.1 (hHid1 _).2.2 fun b σ' s₅ R₅ N₅ _ ⟨eb, eσ⟩ => ?_
      subst eσ
      by_cases h92 : c' = 92
      · have : b = true := by rw [eb]; simp [h92]
        subst this
        have e1 : esc (c' :: x.cps.toList.drop (p + 1)) p false = esc (x.cps.toList.drop (p + 1)) (p + 1) true := by simp [esc, h92]
        rw [e1] at hpre ⊢
        refine setFlag _ rfl _ true _ _ _ _ _ s₀ s₅ rfl rfl hpre ?_ R₅ N₅
        simpa [escEnd, h92] using hend
      · have : b = false := by rw [eb]; simp [h92]
        subst this
        have e1 : esc (c' :: x.cps.toList.drop (p + 1)) p false = (p, [c']) :: esc (x.cps.toList.drop (p + 1)) (p + 1) false := by simp [esc, h92]
        refine yields _ _ _ _ _ [c'] false (fun A' => tup ?_ (by rfl)) e1 (fun s₀' s₆ R₆ N₆ => ?_) s₅ R₅ N₅
        · exact EV.loc hm₃' hch ⟨rfl, rfl⟩
        · obtain ⟨pre, e⟩ := hpre
          rw [e1] at e
          exact again _ false _ s₀' s₆ hesc rfl ⟨pre ++ [(p, [c'])], by rw [e]; simp⟩ (by simpa [escEnd, h92] using hend) R₆ N₆
end
end Mine
end

section
open PySem PySem.W PyProof.Rows
namespace Mine

section
variable {X : Cx} {A : Around} {L a : Addr} {fm : FM} {x : Str}

theorem draws_str (prog : Program) (w : World) (I : Addr) (x : Str) (t : Tok) : ∀ A' : Around, A'.handled = none → Draws prog w A' I [I] x.cps.size (fun i v => ∃ c u, x.cps[i]? = some c ∧ v = .str ⟨#[c]⟩ u) (fun i h => h.IsStrIter I (strIterType x) x t i) := by
  intro A' hA'
  unfold strIterType
  split
  · exact Draws.strAscii hA' I x t
  · exact Draws.strWide hA' I x t

theorem esc_start (O : X.Ok) (hm : X.mg (Str.ofString "enumerate") = none) (hb : X.mb (Str.ofString "enumerate") = some (.type "enumerate")) (hh : A.handled = none) (hbL : X.base.get? L = none) (hend : escEnd x.cps.toList false = false)
    {m : Str → Option PV} (hx : m (Str.ofString "addr") = some (.str x)) {s : Shared} (R : Real X (one L m) s) :
    Seg (model X.prog X.w) A (yR X [L, s.heap.objs.size + 1, s.heap.objs.size]) (yproto X [L, s.heap.objs.size + 1, s.heap.objs.size] (esc x.cps.toList 0 false)) (esc x.cps.toList 0 false).length s
      (.func escSrc.body (fnEnv escSrc fm L a)) ((model X.prog X.w).den (.func escSrc.body (fnEnv escSrc fm L a))) [] s := by
  generalize hz : s.heap.objs.size = Z
  have hfr := fresh_from R
  rw [hz] at hfr
  have hLZ : L < Z := by
    obtain ⟨o, ho⟩ := (R.rz L _ (one_self L m)).there
    have := Heap.lt_size ho
    rw [hz] at this; exact this
  refine seg_func ?_
  obtain ⟨m', hn, em⟩ := R.rz L _ (one_self L m)
  refine seg_execs_cons (seg_st (wpAny_Assign_Name (wpAny_Constant_int ?_)))
  refine wpAny_storeName_local rfl hn fun h₁ hn₁ hs₁ => ?_
  refine seg_execs_cons (seg_st (wpAny_Assign_Name (wpAny_Constant_bool ?_)))
  refine wpAny_storeName_local rfl hn₁ fun h₂ hn₂ hs₂ => ?_
  have hsz : h₂.objs.size = Z := by rw [hs₂.1, hs₁.1, hz]
  have k2 : ∀ b o, b ≠ L → s.heap.get? b = some o → h₂.get? b = some o := fun b o hb e => (hs₂.2 b hb).trans ((hs₁.2 b hb).trans e)
  have R₂ : Real X (one L (upd (upd m (Str.ofString "pos") (.int 0)) (Str.ofString "escape") (.bool false))) { s with heap := h₂, toks := s.toks + 1 + 1 + 1 } := by
    have t1 := (R.turn (one_self L m) (h' := h₁) (tk := s.toks + 1) (p := .ns (upd m (Str.ofString "pos") (.int 0))) (fun b o hb e => (hs₁.2 b hb).trans e) ⟨_, hn₁, fun y => by
      by_cases hy : y = Str.ofString "pos"
      · subst hy; simp [pv]
      · simp [hy, upd, em y]⟩ (Nat.succ_le_succ (Nat.zero_le _))).1
    have t2 := (t1.turn (AH.set_self ..) (h' := h₂) (tk := s.toks + 1 + 1 + 1) (p := .ns (upd (upd m (Str.ofString "pos") (.int 0)) (Str.ofString "escape") (.bool false))) (fun b o hb e => (hs₂.2 b hb).trans e) ⟨_, hn₂, fun y => by
      by_cases hy : y = Str.ofString "escape"
      · subst hy; simp [pv]
      · by_cases hy2 : y = Str.ofString "pos"
        · subst hy2; simp [upd, hy, pv]
        · simp [hy, hy2, upd, em y]⟩ (Nat.succ_le_succ (Nat.zero_le _))).1
    refine t2.le fun b q e => ?_
    obtain ⟨rfl, rfl⟩ := one_some e
    exact AH.set_self ..
  generalize hm₂ : upd (upd m (Str.ofString "pos") (.int 0)) (Str.ofString "escape") (.bool false) = m₂ at R₂
  have hesc : m₂ (Str.ofString "escape") = some (.bool false) := by rw [← hm₂, upd_self]
  have hadr : m₂ (Str.ofString "addr") = some (.str x) := by rw [← hm₂, upd_ne _ _ (by decide +kernel), upd_ne _ _ (by decide +kernel), hx]
  change Seg _ _ _ _ _ _ _ _ _ { s with heap := h₂, toks := s.toks + 1 + 1 + 1 }
  generalize hs2 : ({ s with heap := h₂, toks := s.toks + 1 + 1 + 1 } : Shared) = s₂ at R₂ ⊢
  have hsz2 : s₂.heap.objs.size = Z := by rw [← hs2]; exact hsz
  have k2' : ∀ b o, b ≠ L → s.heap.get? b = some o → s₂.heap.get? b = some o := by rw [← hs2]; exact k2
  have hgk : Gk s s₂ := by rw [← hs2]; exact Gk.refl _
  obtain ⟨m₂', hn₂', em₂⟩ := R₂.rz L _ (one_self L m₂)
  obtain ⟨va, hva, tx, rfl⟩ : ∃ va, m₂' (Str.ofString "addr") = some va ∧ ∃ t, va = .str x t := by
    have := em₂ (Str.ofString "addr")
    rw [hadr] at this
    cases h : m₂' (Str.ofString "addr") with
    | none => rw [h] at this; cases this
    | some v => rw [h] at this; exact ⟨v, rfl, pv_str (Option.some.inj this)⟩
  refine seg_execs_cons (seg_For ?_)
  refine wpAny_Call_Name_kw (Calls.Name_function_global rfl rfl (Calls.loadGlobal_builtin (O.g.keeps R₂.base) hm (O.b.keeps R₂.base) hb ?_))
  refine PySem.callWith_type rfl (Calls.evalArgs_plain (wpAny_items_cons (wpAny_Name (wpAny_loadName_local rfl rfl hn₂' hva (wpAny_items_nil ?_))) rfl))
  refine PySem.call_enumerate_str fun h₃ hE hI hz3 hk3 => ?_
  rw [hsz2] at hE hI hz3 ⊢
  refine wpAny_pyIter_enum hE fun p => ?_
  have hf := hfr Z (Nat.le_refl _)
  have hf1 := hfr (Z + 1) (Nat.le_succ _)
  have R₃ : Real X (one L m₂) { s₂ with heap := h₃ } := (R₂.grow (h' := h₃) (tk := s₂.toks) hk3 R₂.tk).1
  refine esc_loop (items := esc x.cps.toList 0 false) rfl rfl hh (draws_str X.prog X.w Z x tx) (Nat.succ_ne_self Z) (Nat.ne_of_gt (Nat.lt_succ_of_lt hLZ)) (Nat.ne_of_gt hLZ) hf1.2.1 hf.2.1 hbL ?_ _ 0 false m₂ s _ rfl (Nat.zero_le _) hesc ⟨[], rfl⟩ hend R₃ ⟨fun b o hb e => hk3 b o (k2' b o (fun h => hb (by simp [h])) e), hgk, ⟨.none, hE⟩, hI⟩
  intro m₄ s₀ s₄ he₄ R₄ hk₄ hg₄
  refine seg_leaf (.ok .next) ?_
  refine seg_execs_cons (seg_If ?_)
  refine WP.go (Q := fun b σ' => b = false ∧ σ' = one L m₄) (TS.val (EV.loc (one_self L m₄) he₄ (TRU.bool ⟨rfl, rfl⟩))) R₄ (Step.refl _ _) fun b σ' s₅ R₅ S₅ ⟨eb, eσ⟩ => ?_
  subst eb
  refine seg_end (.ok (.ret .none)) ⟨rfl, rfl, fun b o hb e => S₅.keep b o (one_ne _ (fun h => hb (by simp [h]))) (hk₄ b o hb e), hg₄.trans S₅.gk, R₅.le fun b q e => by cases e⟩
end
end Mine
end

section
open PySem PySem.W PyProof.Rows
namespace Mine

theorem pyNext_genQ {prog : Program} {w : World} {A : Around} {E : Value → Shared → Prop} {s : Shared} {a : Addr} {g n : Nat} {gs : GenState} {P : Nat → Shared → Shared → Prop} {Y : Protocol} {Q : Option Value → Shared → Prop} (hh : A.handled = none)
    (hl : s.heap.NoLimit) (hroom : A.depth < recursionLimit)
    (hg : s.heap.IsGen a g) (hgs : s.gens[g]? = some gs)
    (hgo : gs.Goes (model prog w) A.in1 (fun n s₀ r s₁ => r = .ok (.ret .none) ∧ P n s₀ s₁) Y n (.send .none) (s.setGen g .running))
    (hY : ∀ v s₁ gs', gs'.bare = true → Y (n - 1) (s.setGen g .running) v s₁ (fun r' s'' => match n with
        | 0 => False
        | m + 1 => gs'.Goes (model prog w) A.in1 (fun n s₀ r s₁ => r = .ok (.ret .none) ∧ P n s₀ s₁) Y m r' s'') → Q (some v) (s₁.setGen g gs'))
    (hP : ∀ s₁, P n (s.setGen g .running) s₁ → ∀ h', (∀ b o, s₁.heap.get? b = some o → h'.get? b = some o) → Q none { s₁.setGen g .finished with heap := h' }) :
    wpAny (model prog w) A (pyNext (.ref a)) Q E s := by
  unfold pyNext
  refine wpAny_bind (wpAny_attempt (wpAny_callSpecial?_slot (name := Str.ofString "__next__") hg.typeIs slot_gen_next
    (wpAny_call_entry slot_gen_next hg.typeIs entry_gen_next ?_ (args_gen_next _))))
  show wpAny _ A.in1 (Builtin.Generator.genWake (.ref a) (.send .none)) _ _ s
  unfold Builtin.Generator.genWake
  refine wpAny_bind (wpAny_holding (wpAny_genNumber hg (wpAny_bind (wpAny_genState hgs ?_))))
  have fin : ∀ s₁, P n (s.setGen g .running) s₁ → ∀ (Q' : Fin → Shared → Prop), wpAny (model prog w) A.in1 (newExc (.type "StopIteration") []) (fun e s' => ∃ o, e = .ref o ∧ (∃ ob, s'.heap.get? o = some ob ∧ ob.cls = .type "StopIteration") ∧ ∃ h', s' = { s₁.setGen g .finished with heap := h' } ∧ ∀ b o, s₁.heap.get? b = some o → h'.get? b = some o) (fun _ _ => False) (s₁.setGen g .finished) := by
    intro s₁ hx Q'
    simp only [newExc, newTuple]
    refine wpAny_bind (wpAny_newObj_type ?_ (by size_fits))
    refine wpAny_bind (m := firstArgMember _ _) (wpAny_of_eq (a := Value.none) (by first | rfl | (simp only [firstArgMember]; rfl)) ?_)
    refine wpAny_newObj_type ?_ (by size_fits)
    exact ⟨_, rfl, ⟨_, Heap.get?_push_size _ rfl, rfl⟩, _, rfl, fun b o hb => Heap.get?_push_of_some _ (Heap.get?_push_of_some _ hb)⟩
  cases gs with
  | running => exact hgo.elim
  | finished => exact hgo.elim
  | _ =>
    refine wpAny_bind (wpAny_roomToWake hl hroom ?_)
    show wpAny _ A.in1 (.resume g (.send .none) [] _) _ _ s
    refine wpAny_resumeQ hgs hgo (fun x s₁ hx => ?_) (fun v s₁ gs' hb hv => ?_)
    · obtain ⟨rfl, hp⟩ := hx
      show wpAny _ A.in1 (newExc (.type "StopIteration") [] >>= _) _ _ _
      refine wpAny_bind (wpAny_mono (fin s₁ hp fun _ _ => True) (fun e s' he => ?_) fun _ _ h => h.elim)
      obtain ⟨o, rfl, ⟨ob, ho, hc⟩, h', rfl, hk⟩ := he
      simp only [raiseNew]
      refine wpAny_bind (wpAny_bind (wpAny_handled ?_))
      first | rw [show A.in1.handled = none from hh] | rw [hh]
      refine wpAny_throw ?_
      refine wpAny_bind (wpAny_isInstance (T := "StopIteration") (b := true) ⟨ob, ho, hc⟩ isSubtype_stop ?_)
      exact wpAny_pure (hP s₁ hp h' hk)
    · exact wpAny_pure ⟨v, rfl, wpAny_pure (hY v s₁ gs' hb hv)⟩

structure AlongG (X : Cx) (σ₀ : AH) (s₀ : Shared) (H : List Addr) (g : Nat) (σ : AH) (s : Shared) : Prop where
  real : Real X σ s
  step : Step σ₀ s₀ σ s
  off : ∀ b ∈ H, σ b = none
  boff : ∀ b ∈ H, X.base.get? b = none
  new : ∀ b ∈ H, σ₀ b = none → s₀.heap.get? b = none
  there : ∀ b ∈ H, ∃ o, s.heap.get? b = some o
  gg : s₀.gens.size ≤ g
  gl : g < s.gens.size
section
variable {X : Cx} {A : Around} {σ σ₀ : AH} {s₀ s : Shared} {H : List Addr} {g : Nat}
theorem AlongG.go {α : Type} {t : Sem α} {Q : α → AH → Prop} {Q' : α → Shared → Prop} (h : WP X A t σ Q) (L : AlongG X σ₀ s₀ H g σ s)
    (hQ : ∀ a σ' s', AlongG X σ₀ s₀ H g σ' s' → (∀ b ∈ H, ∀ o, s.heap.get? b = some o → s'.heap.get? b = some o) → s'.gens[g]? = s.gens[g]? → Q a σ' → Q' a s') : wpAny (model X.prog X.w) A t Q' (fun _ _ => False) s :=
  h.go L.real (Step.refl σ s) fun a σ' s' R' S' q => by
    have hk : ∀ b ∈ H, ∀ o, s.heap.get? b = some o → s'.heap.get? b = some o := fun b hb o e => S'.keep b o (L.off b hb) e
    refine hQ a σ' s' ⟨R', L.step.trans S', fun b hb => ?_, L.boff, L.new, fun b hb => ?_, L.gg, Nat.lt_of_lt_of_le L.gl S'.gsize⟩ hk (S'.gens g L.gl) q
    · obtain ⟨o, ho⟩ := L.there b hb
      cases q : σ' b with
      | none => rfl
      | some p =>
        rcases S'.fresh b p q with ⟨p', e⟩ | e
        · rw [L.off b hb] at e; cases e
        · rw [ho] at e; cases e
    · obtain ⟨o, ho⟩ := L.there b hb
      exact ⟨o, hk b hb o ho⟩

/-- the state behind the generator's own run -/
theorem AlongG.moved (L : AlongG X σ₀ s₀ H g σ s) {H' : List Addr} {s₁ : Shared} {gs' : GenState} (hsub : ∀ b ∈ H', b ∈ H ∨ s.heap.get? b = none) (hsup : ∀ b ∈ H, b ∈ H')
    (hk : ∀ b o, b ∉ H' → s.heap.get? b = some o → s₁.heap.get? b = some o) (hth : ∀ b ∈ H', ∃ o, s₁.heap.get? b = some o) (hg : Gk s s₁ ∨ Gk (s.setGen g .running) s₁) (R : Real X noAH s₁) (hb : gs'.bare = true) :
    AlongG X σ₀ s₀ H' g σ (s₁.setGen g gs') ∧ (s₁.setGen g gs').gens[g]? = some gs' := by
  have hnone : ∀ b, s.heap.get? b = none → σ b = none ∧ X.base.get? b = none := fun b hn => by
    constructor
    · cases q : σ b with
      | none => rfl
      | some p => obtain ⟨o, ho⟩ := (L.real.rz b p q).there; rw [hn] at ho; cases ho
    · cases q : X.base.get? b with
      | none => rfl
      | some o => rw [L.real.base b o q] at hn; cases hn
  have hoff : ∀ b ∈ H', σ b = none := fun b hb => (hsub b hb).elim (L.off b) fun h => (hnone b h).1
  have hboff : ∀ b ∈ H', X.base.get? b = none := fun b hb => (hsub b hb).elim (L.boff b) fun h => (hnone b h).2
  have hsz : s.gens.size ≤ s₁.gens.size ∧ ∀ i : Nat, i ≠ g → i < s.gens.size → s₁.gens[i]? = s.gens[i]? := by
    rcases hg with h | h
    · exact ⟨h.1, fun i _ hi => h.2 i hi⟩
    · have e : (s.setGen g .running).gens.size = s.gens.size := by simp [Shared.setGen]
      refine ⟨by rw [← e]; exact h.1, fun i hne hi => ?_⟩
      rw [h.2 i (by rw [e]; exact hi)]
      simp [Shared.setGen, Ne.symm hne]
  have hgl : g < s₁.gens.size := Nat.lt_of_lt_of_le L.gl hsz.1
  have hnew : ∀ b ∈ H', σ₀ b = none → s₀.heap.get? b = none := fun b hb hσ => by
    rcases hsub b hb with h | h
    · exact L.new b h hσ
    · cases q : s₀.heap.get? b with
      | none => rfl
      | some o => rw [L.step.keep b o hσ q] at h; cases h
  refine ⟨⟨⟨fun b p e => ?_, fun b o e => ?_, L.real.apart, fun y hy => ?_, R.os, R.tk⟩, ⟨fun b o hσ e => ?_, fun b p e => L.step.fresh b p e, fun i hi => ?_, ?_⟩, hoff, hboff, hnew, hth, L.gg, by simp [Shared.setGen]; exact hgl⟩, by simp [Shared.setGen, hgl]⟩
  · exact (L.real.rz b p e).keep fun o ho => hk b o (fun z => by rw [hoff b z] at e; cases e) ho
  · exact hk b o (fun z => by rw [hboff b z] at e; cases e) (L.real.base b o e)
  · obtain ⟨i, hi, rfl⟩ := Array.mem_iff_getElem.mp hy
    simp only [Shared.setGen] at hi ⊢
    simp only [Array.size_setIfInBounds] at hi
    by_cases hig : i = g
    · subst hig; simp [hb]
    · rw [Array.getElem_setIfInBounds (by simpa using hi)]
      rw [if_neg (Ne.symm hig)]
      exact R.gens _ (Array.getElem_mem _)
  · exact hk b o (fun z => by rw [hnew b z hσ] at e; cases e) (L.step.keep b o hσ e)
  · have hig : i ≠ g := Nat.ne_of_lt (Nat.lt_of_lt_of_le hi L.gg)
    show ((s₁.setGen g gs').gens)[i]? = _
    simp only [Shared.setGen]
    rw [Array.getElem?_setIfInBounds_ne (Ne.symm hig), hsz.2 i hig (Nat.lt_of_lt_of_le hi L.step.gsize)]
    exact L.step.gens i hi
  · simp only [Shared.setGen, Array.size_setIfInBounds]
    exact Nat.le_trans L.step.gsize hsz.1
end
end Mine
end

section
open PySem PySem.W PyProof.Rows
namespace Mine

structure GenSt (X : Cx) (A : Around) (x : Str) (ae : Addr) (fm : FM) (a L : Addr) (g : Nat) (H : List Addr) (j : Nat) (s : Shared) : Prop where
  gen : s.heap.IsGen a g
  ne : a ≠ L
  mode : (j = 0 ∧ H = [a, L] ∧ s.gens[g]? = some (.fresh (.func escSrc.body (fnEnv escSrc fm L ae))) ∧ ∃ m, Rz s.heap L (.ns m) ∧ m (Str.ofString "addr") = some (.str x)) ∨
    (∃ E I gs, H = [a, L, E, I] ∧ a ∉ [L, E, I] ∧ s.gens[g]? = some gs ∧ ∀ s'' : Shared, Real X noAH s'' → (∀ b ∈ [L, E, I], ∀ o, s.heap.get? b = some o → s''.heap.get? b = some o) →
      gs.Goes (model X.prog X.w) A.in1 (yR X [L, E, I]) (yproto X [L, E, I] (esc x.cps.toList 0 false)) ((esc x.cps.toList 0 false).length - j) (.send .none) s'')

section
variable {X : Cx} {A : Around} {σ σ₀ : AH} {s₀ s : Shared} {H : List Addr} {g : Nat} {a L ae : Addr} {x : Str} {fm : FM} {j : Nat}
theorem GenSt.keep (h : GenSt X A x ae fm a L g H j s) {s' : Shared} (hk : ∀ b ∈ H, ∀ o, s.heap.get? b = some o → s'.heap.get? b = some o) (hg : s'.gens[g]? = s.gens[g]?) (ha : a ∈ H) : GenSt X A x ae fm a L g H j s' := by
  refine ⟨?_, h.ne, ?_⟩
  · obtain ⟨o, nm, qn, ho, r⟩ := h.gen; exact ⟨o, nm, qn, hk a ha o ho, r⟩
  · rcases h.mode with ⟨h1, h2, h3, m, h4, h5⟩ | ⟨E, I, gs, h1, h2, h3, h4⟩
    · exact .inl ⟨h1, h2, hg.trans h3, m, h4.keep fun o e => hk L (by rw [h2]; simp) o e, h5⟩
    · exact .inr ⟨E, I, gs, h1, h2, hg.trans h3, fun s'' R hk'' => h4 s'' R fun b hb o e => hk'' b hb o (hk b (by rw [h1]; exact List.mem_cons_of_mem _ hb) o e)⟩

theorem setRun_real (R : Real X σ s) (g : Nat) : Real X σ (s.setGen g .running) :=
  ⟨R.rz, R.base, R.apart, fun y hy => by
    obtain ⟨i, hi, rfl⟩ := Array.mem_iff_getElem.mp hy
    simp only [Shared.setGen] at hi ⊢
    by_cases hig : i = g
    · subst hig; simp [GenState.bare]
    · rw [Array.getElem_setIfInBounds (by simpa using hi), if_neg (Ne.symm hig)]
      exact R.gens _ (Array.getElem_mem _), R.os, R.tk⟩

/-- the generator's next sign, or its end -/
theorem gen_next (O : X.Ok) (hm : X.mg (Str.ofString "enumerate") = none) (hb : X.mb (Str.ofString "enumerate") = some (.type "enumerate")) (hh : A.handled = none) (hroom : A.depth < recursionLimit) (hend : escEnd x.cps.toList false = false)
    (hj : j ≤ (esc x.cps.toList 0 false).length) (G : GenSt X A x ae fm a L g H j s) (Lg : AlongG X σ₀ s₀ H g σ s) {Q : Option Value → Shared → Prop}
    (hnext : ∀ (t : Addr) (s₁ : Shared) (H' : List Addr) (h : j < (esc x.cps.toList 0 false).length), GenSt X A x ae fm a L g H' (j + 1) s₁ → AlongG X σ₀ s₀ H' g σ s₁ → a ∈ H' → t ∉ H' → σ t = none → X.base.get? t = none →
      AlongG X σ₀ s₀ H' g (σ.set t (.tuple [.int ((esc x.cps.toList 0 false)[j].1 : Nat), .str ⟨(esc x.cps.toList 0 false)[j].2.toArray⟩])) s₁ → Q (some (.ref t)) s₁)
    (hdone : ∀ (s₁ : Shared), j = (esc x.cps.toList 0 false).length → Real X σ s₁ → Step σ₀ s₀ σ s₁ → Q none s₁) :
    wpAny (model X.prog X.w) A (pyNext (.ref a)) Q (fun _ _ => False) s := by
  have hN := G.gen
  have hne := G.ne
  have R := Lg.real
  have hlim : s.heap.NoLimit := O.lim.keeps R.base
  -- how both ways end
  have common : ∀ (E I : Addr) (gs : GenState), s.gens[g]? = some gs → a ∉ [L, E, I] → (∀ b ∈ [a, L, E, I], b ∈ H ∨ s.heap.get? b = none) → (∀ b ∈ H, b ∈ [a, L, E, I]) →
      gs.Goes (model X.prog X.w) A.in1 (yR X [L, E, I]) (yproto X [L, E, I] (esc x.cps.toList 0 false)) ((esc x.cps.toList 0 false).length - j) (.send .none) (s.setGen g .running) →
      wpAny (model X.prog X.w) A (pyNext (.ref a)) Q (fun _ _ => False) s := by
    intro E I gs hgs ha hsub hsup hgo
    have ka : ∀ {s₁ : Shared}, (∀ b o, b ∉ [L, E, I] → (s.setGen g .running).heap.get? b = some o → s₁.heap.get? b = some o) → s₁.heap.IsGen a g := fun {s₁} hk => by
      obtain ⟨o, nm, qn, ho, r⟩ := hN; exact ⟨o, nm, qn, hk a o ha ho, r⟩
    refine pyNext_genQ hh hlim hroom hN hgs hgo (fun v s₁ gs' hbare hv => ?_) (fun s₁ hp h' hk' => ?_)
    · obtain ⟨t, i, c, hidx, rfl, htn, htH, htz, hk, hth, hgk, R₁, htb, hkap⟩ := hv
      have hσt : σ t = none := by
        cases q : σ t with
        | none => rfl
        | some p => obtain ⟨o, ho⟩ := (R.rz t p q).there; rw [show s.heap.get? t = none from htn] at ho; cases ho
      cases hn : (esc x.cps.toList 0 false).length - j with
      | zero => rw [hn] at hkap; exact (hkap s₁ R₁ fun _ _ _ e => e).elim
      | succ m =>
        rw [hn] at hkap hidx
        have hlt : j < (esc x.cps.toList 0 false).length := by omega
        have e : (esc x.cps.toList 0 false).length - 1 - (m + 1 - 1) = j := by omega
        rw [e, List.getElem?_eq_getElem hlt] at hidx
        have hic := Option.some.inj hidx
        have hth' : ∀ b ∈ [a, L, E, I], ∃ o, s₁.heap.get? b = some o := fun b hb => by
          rcases List.mem_cons.mp hb with rfl | hb
          · obtain ⟨o, _, _, ho, _⟩ := ka hk; exact ⟨o, ho⟩
          · exact hth b hb
        obtain ⟨Lg', hg'⟩ := Lg.moved (H' := [a, L, E, I]) (s₁ := s₁) (gs' := gs') hsub hsup (fun b o hb e => hk b o (fun z => hb (List.mem_cons_of_mem _ z)) e) hth' (.inr hgk) R₁ hbare
        have hta : t ≠ a := fun z => by obtain ⟨o, _, _, ho, _⟩ := hN; rw [← z] at ho; rw [show s.heap.get? t = none from htn] at ho; cases ho
        have htH' : t ∉ [a, L, E, I] := by
          intro hb
          rcases List.mem_cons.mp hb with h | h
          · exact hta h
          · exact htH h
        refine hnext t (s₁.setGen g gs') [a, L, E, I] hlt ⟨ka hk, hne, .inr ⟨E, I, gs', rfl, ha, hg', fun s'' R'' hk'' => ?_⟩⟩ Lg' (by simp) htH' hσt htb ?_
        · have := hkap s'' R'' hk''
          rw [show (esc x.cps.toList 0 false).length - (j + 1) = m by omega]
          exact this
        · rw [hic]
          have hst : Step σ₀ s₀ (σ.set t (.tuple [.int i, .str ⟨c.toArray⟩])) (s₁.setGen g gs') := by
            refine ⟨Lg'.step.keep, fun b p e => ?_, Lg'.step.gens, Lg'.step.gsize⟩
            by_cases hbt : b = t
            · subst hbt
              by_cases h0 : σ₀ b = none
              · refine .inr ?_
                cases q : s₀.heap.get? b with
                | none => rfl
                | some o => have := Lg.step.keep b o h0 q; rw [show s.heap.get? b = none from htn] at this; cases this
              · cases q : σ₀ b with
                | none => exact absurd q h0
                | some z => exact .inl ⟨z, rfl⟩
            · rw [AH.set_ne _ _ hbt] at e; exact Lg'.step.fresh b p e
          refine ⟨Lg'.real.put (by exact htz) htb, hst, fun b hb => ?_, Lg'.boff, Lg'.new, Lg'.there, Lg'.gg, Lg'.gl⟩
          rw [AH.set_ne _ _ (fun z => htH' (by rw [← z]; exact hb))]; exact Lg'.off b hb
    · obtain ⟨hn0, hk, hgk, R₁⟩ := hp
      have hjl : j = (esc x.cps.toList 0 false).length := by omega
      have hoff : ∀ b ∈ [L, E, I], σ b = none := fun b hb => (hsub b (List.mem_cons_of_mem _ hb)).elim (Lg.off b) fun h => by
        cases q : σ b with
        | none => rfl
        | some p => obtain ⟨o, ho⟩ := (R.rz b p q).there; rw [h] at ho; cases ho
      have hboff : ∀ b ∈ [L, E, I], X.base.get? b = none := fun b hb => (hsub b (List.mem_cons_of_mem _ hb)).elim (Lg.boff b) fun h => by
        cases q : X.base.get? b with
        | none => rfl
        | some o => rw [R.base b o q] at h; cases h
      have hnew : ∀ b ∈ [L, E, I], σ₀ b = none → s₀.heap.get? b = none := fun b hb h0 => (hsub b (List.mem_cons_of_mem _ hb)).elim (fun z => Lg.new b z h0) fun h => by
        cases q : s₀.heap.get? b with
        | none => rfl
        | some o => rw [Lg.step.keep b o h0 q] at h; cases h
      have hsz : s.gens.size ≤ s₁.gens.size ∧ ∀ i : Nat, i ≠ g → i < s.gens.size → s₁.gens[i]? = s.gens[i]? := by
        have e : (s.setGen g .running).gens.size = s.gens.size := by simp [Shared.setGen]
        refine ⟨by rw [← e]; exact hgk.1, fun i hne hi => ?_⟩
        rw [hgk.2 i (by rw [e]; exact hi)]
        simp [Shared.setGen, Ne.symm hne]
      refine hdone _ hjl ⟨fun b p e => ?_, fun b o e => ?_, R.apart, fun y hy => ?_, R₁.os, R₁.tk⟩ ⟨fun b o hσ e => ?_, fun b p e => Lg.step.fresh b p e, fun i hi => ?_, ?_⟩
      · exact (R.rz b p e).keep fun o ho => hk' b o (hk b o (fun z => by rw [hoff b z] at e; cases e) ho)
      · exact hk' b o (hk b o (fun z => by rw [hboff b z] at e; cases e) (R.base b o e))
      · obtain ⟨i, hi, rfl⟩ := Array.mem_iff_getElem.mp hy
        simp only [Shared.setGen] at hi ⊢
        simp only [Array.size_setIfInBounds] at hi
        by_cases hig : i = g
        · subst hig; simp [GenState.bare]
        · rw [Array.getElem_setIfInBounds (by simpa using hi), if_neg (Ne.symm hig)]
          exact R₁.gens _ (Array.getElem_mem _)
      · exact hk' b o (hk b o (fun z => by rw [hnew b z hσ] at e; cases e) (Lg.step.keep b o hσ e))
      · have hig : i ≠ g := Nat.ne_of_lt (Nat.lt_of_lt_of_le hi Lg.gg)
        show (s₁.setGen g .finished).gens[i]? = _
        simp only [Shared.setGen]
        rw [Array.getElem?_setIfInBounds_ne (Ne.symm hig), hsz.2 i hig (Nat.lt_of_lt_of_le hi Lg.step.gsize)]
        exact Lg.step.gens i hi
      · simp only [Shared.setGen, Array.size_setIfInBounds]
        exact Nat.le_trans Lg.step.gsize hsz.1
  rcases G.mode with ⟨hj0, hH, hgs, m, hz, hmx⟩ | ⟨E, I, gs, hH, ha, hgs, hgo⟩
  · subst hj0 hH
    have hfr := fresh_from R
    have hbL : X.base.get? L = none := Lg.boff L (by simp)
    have RL : Real X (one L m) (s.setGen g .running) := by
      have := (setRun_real (R.le (σ := noAH) (fun b q e => by cases e)) g).put (T := L) (po := .ns m) hz hbL
      refine this.le fun b q e => ?_
      obtain ⟨rfl, rfl⟩ := one_some e
      exact AH.set_self ..
    have hstart := esc_start (fm := fm) (a := ae) O hm hb (A := A.in1) hh hbL hend hmx RL
    have haZ : a < s.heap.objs.size := by obtain ⟨o, _, _, ho, _⟩ := hN; exact Heap.lt_size ho
    refine common (s.heap.objs.size + 1) s.heap.objs.size _ hgs ?_ (fun b hb => ?_) (fun b hb => ?_) ⟨rfl, hstart⟩
    · simp only [List.mem_cons, List.not_mem_nil, or_false, not_or]
      exact ⟨hne, Nat.ne_of_lt (Nat.lt_succ_of_lt haZ), Nat.ne_of_lt haZ⟩
    · simp only [List.mem_cons, List.not_mem_nil, or_false] at hb
      rcases hb with rfl | rfl | rfl | rfl
      · exact .inl (by simp)
      · exact .inl (by simp)
      · exact .inr (hfr _ (Nat.le_succ _)).2.2
      · exact .inr (hfr _ (Nat.le_refl _)).2.2
    · simp only [List.mem_cons, List.not_mem_nil, or_false] at hb ⊢
      rcases hb with rfl | rfl
      · exact .inl rfl
      · exact .inr (.inl rfl)
  · subst hH
    exact common E I gs hgs ha (fun b hb => .inl hb) (fun b hb => hb) (hgo _ (setRun_real (R.le (σ := noAH) fun b q e => by cases e) g) fun b _ o e => e)
end
end Mine
end

section
open PySem PySem.W PyProof.Rows
namespace Mine

section
variable {X : Cx} {A : Around} {env : Env} {σ : AH}
theorem letOwned_gen {prog : Program} {w : World} {s : Shared} {a : Addr} {g : Nat} (hg : s.heap.IsGen a g) {t : Expr} {v : Value} {Q : Unit → Shared → Prop} (h : Q () s) :
    wpAny (model prog w) A (letOwnedTupleGo t (.ref a) v) Q (fun _ _ => False) s := by
  obtain ⟨o, nm, qn, ho, hc, hd, _⟩ := hg
  exact letOwned_rec ho hc hd rfl h

def EscJ (X : Cx) (A : Around) (env : Env) (target : Expr) (body : List Stmt) (Q : PF → AH → Prop) (x : Str) (J : Nat → AH → Prop) (σ₁ : AH) : Prop :=
  escEnd x.cps.toList false = false ∧ J 0 σ₁ ∧
      (∀ (i : Nat) (hi : i < (esc x.cps.toList 0 false).length) (σ' : AH) (t : Addr), J i σ' → σ' t = none → X.base.get? t = none → ASG X A env target (.ref t) (σ'.set t (.tuple [.int ((esc x.cps.toList 0 false)[i].1 : Nat), .str ⟨(esc x.cps.toList 0 false)[i].2.toArray⟩])) fun σ'' =>
        XS X A env body σ'' fun f σ₃ => match f with
          | .next | .cont => J (i + 1) σ₃
          | .brk => Q .next σ₃
          | .ret v => Q (.ret v) σ₃) ∧
      (∀ σ', J (esc x.cps.toList 0 false).length σ' → Q .next σ')
/-- for t in _iter_escaped_chars(arg): .. -/
theorem EX.forEsc {target arg : Expr} {np cp pos : Pos} {body : List Stmt} {Q : PF → AH → Prop} {ae : Addr} {fm : FM} {k : Nat} (O : X.Ok) (r : Rm A (k + 1)) (hm : X.mg (Str.ofString "enumerate") = none) (hb : X.mb (Str.ofString "enumerate") = some (.type "enumerate"))
    (hx : X.mg (Str.ofString "_iter_escaped_chars") = some (.ref ae)) (F : Fn X ae escSrc fm)
    (h : EV X A env arg σ fun p σ₁ => ∃ (x : Str) (J : Nat → AH → Prop), p = .str x ∧ EscJ X A env target body Q x J σ₁)
    (hpl : plainArg arg = true := by rfl)
    (hg : env.globals = mainGlobals := by rfl) (hk : env.scope.kind = .function := by rfl) (hl : env.kindOf (Str.ofString "_iter_escaped_chars") = some .globalImplicit := by rfl) :
    EX X A env (.For target (.Call (.Name (Str.ofString "_iter_escaped_chars") np) [arg] [] cp) body [] pos) σ Q := by
  obtain ⟨⟨o, ho, hdata⟩, hcode⟩ := F
  refine WP.of fun s R => wpAny_For ?_
  refine wpAny_Call_Name_kw (Calls.Name_function_global hk hl (Calls.loadGlobal_global (env := env) (mg := X.mg) (by rw [hg]; exact O.g.keeps R.base) hx ?_))
  refine Calls.callWith_function (o := o) (fd := mkFn escSrc fm) (WP.go (evalArgs_wp (es := [arg]) (Q := fun ps σ₁ => ∃ p, ps = [p] ∧ (∃ (x : Str) (J : Nat → AH → Prop), p = .str x ∧ EscJ X A env target body Q x J σ₁)) (by show (plainArg arg && true) = true; rw [hpl]; rfl) (show AVS X A env [arg] σ _ from WP.mono h fun p σ₁ q => ⟨pv p, rfl, q⟩)) R (Step.refl σ s) fun va σ₁ s₁ R₁ S₁ ⟨⟨p, ep, x, J, ex, hend, h0, turn, done⟩, hkw⟩ => ⟨⟨R₁.base _ _ ho, hdata⟩, ?_⟩)
  subst ex
  obtain ⟨v, hvs, t, rfl⟩ : ∃ v, va.pos = [v] ∧ ∃ t, v = .str x t := by
    match hv : va.pos, ep with
    | [v], ep => exact ⟨v, rfl, pv_str (by simpa using ep)⟩
    | [], ep => simp at ep
    | _ :: _ :: _, ep => simp at ep
  rw [hkw, hvs]
  show wpAny _ A (call (.ref ae) [.str x t] []) _ _ s₁
  refine wpAny_call (codeAny_call_generator r.depth (R₁.base _ _ ho) hdata (by rfl) (by rfl) rfl (hcode.keeps R₁.base) ?_)
  rw [show bindArgs (mkFn escSrc fm) { pos := [.str x t], kw := [] } = pure [(Str.ofString "addr", .str x t)] by rfl]
  refine wpAny_pure (wpAny_newFunctionEnv (by show ∀ x ∈ escSrc.scope.names, x.2 ≠ .cell; decide +kernel) (by intro y hy; rw [List.mem_singleton.mp hy]; rfl) (fun h₀ hns hsb => ⟨(O.lim.keeps R₁.base).fresh _ hsb, ?_⟩) rfl)
  have hkeep : ∀ b o, s₁.heap.get? b = some o → h₀.get? b = some o := fun b o e => hsb.extBut b o (Nat.ne_of_lt (Heap.lt_size e)) (Heap.get?_push_of_some _ e)
  have hsz : h₀.objs.size = s₁.heap.objs.size + 1 := by rw [hsb.1, Heap.size_push]
  generalize hL : s₁.heap.objs.size = L at hns hsb hsz ⊢
  have hfr := fresh_from R₁
  rw [hL] at hfr
  have hbL : X.base.get? L = none := (hfr L (Nat.le_refl _)).2.1
  dsimp only
  rw [hsz]
  generalize hO : ({ cls := .type "generator", data := .fields #[.int s₁.gens.size 0, .str (mkFn escSrc fm).name (s₁.toks + [(Str.ofString "addr", Value.str x t)].length), .str (mkFn escSrc fm).qualname (s₁.toks + [(Str.ofString "addr", Value.str x t)].length + 1)] } : Obj) = og
  change wpAny _ _ _ _ _ (Shared.mk (h₀.push og) (s₁.gens.push (.fresh (.func escSrc.body (fnEnv escSrc fm L ae)))) s₁.drawn (s₁.toks + [(Str.ofString "addr", Value.str x t)].length + 1 + 1) s₁.os)
  generalize hS : (Shared.mk (h₀.push og) (s₁.gens.push (.fresh (.func escSrc.body (fnEnv escSrc fm L ae)))) s₁.drawn (s₁.toks + [(Str.ofString "addr", Value.str x t)].length + 1 + 1) s₁.os) = s₂
  have hgen : s₂.heap.IsGen (L + 1) s₁.gens.size := by
    rw [← hS]
    refine ⟨og, .str (mkFn escSrc fm).name (s₁.toks + [(Str.ofString "addr", Value.str x t)].length), .str (mkFn escSrc fm).qualname (s₁.toks + [(Str.ofString "addr", Value.str x t)].length + 1), ?_, ?_, ?_, ?_⟩
    · rw [← hsz]; exact Heap.get?_push_size _ (by rw [← hO]; rfl)
    · rw [← hO]
    · rw [← hO]
    · rw [← hO]
  have hk12 : ∀ b o, s₁.heap.get? b = some o → s₂.heap.get? b = some o := fun b o e => by rw [← hS]; exact Heap.get?_push_of_some _ (hkeep b o e)
  have hLs : s₂.heap.Ns L (fun y => [(Str.ofString "addr", Value.str x t)].reverse.lookup y) := by rw [← hS]; exact hns.push _
  have hgs : s₂.gens = s₁.gens.push (.fresh (.func escSrc.body (fnEnv escSrc fm L ae))) := by rw [← hS]
  have hgL : s₁.gens.size < s₂.gens.size := by rw [hgs, Array.size_push]; exact Nat.lt_succ_self _
  have R₂ : Real X σ₁ s₂ := by
    refine ⟨fun b p e => (R₁.rz b p e).keep fun o ho => hk12 b o ho, fun b o e => hk12 b o (R₁.base b o e), R₁.apart, fun y hy => ?_, ?_, ?_⟩
    · rw [hgs] at hy
      rcases Array.mem_push.mp hy with h | h
      · exact R₁.gens y h
      · rw [h]; rfl
    · rw [← hS]; exact R₁.os
    · rw [← hS]; exact Nat.succ_le_succ (Nat.zero_le _)
  have S₂ : Step σ₁ s₁ σ₁ s₂ := by
    refine ⟨fun b o _ e => hk12 b o e, fun b p e => .inl ⟨p, e⟩, fun i hi => ?_, Nat.le_of_lt hgL⟩
    rw [hgs, Array.getElem?_push_lt hi]; simp [hi]
  have hmem : ∀ b ∈ [L + 1, L], L ≤ b := fun b hb => by
    rcases List.mem_cons.mp hb with rfl | hb
    · exact Nat.le_succ _
    · rw [List.mem_singleton.mp hb]; exact Nat.le_refl _
  have Lg : AlongG X σ₁ s₁ [L + 1, L] s₁.gens.size σ₁ s₂ := by
    refine ⟨R₂, S₂, fun b hb => (hfr b (hmem b hb)).1, fun b hb => (hfr b (hmem b hb)).2.1, fun b hb _ => (hfr b (hmem b hb)).2.2, fun b hb => ?_, Nat.le_refl _, hgL⟩
    rcases List.mem_cons.mp hb with rfl | hb
    · obtain ⟨o, _, _, ho, _⟩ := hgen; exact ⟨o, ho⟩
    · rw [List.mem_singleton.mp hb]; obtain ⟨o, _, _, ho, _⟩ := hLs; exact ⟨o, ho⟩
  have G0 : GenSt X A x ae fm (L + 1) L s₁.gens.size [L + 1, L] 0 s₂ := by
    refine ⟨hgen, Nat.succ_ne_self L, .inl ⟨rfl, rfl, ?_, fun y => ([(Str.ofString "addr", Value.str x t)].reverse.lookup y).map pv, ⟨_, hLs, fun y => rfl⟩, ?_⟩⟩
    · rw [hgs]; simp
    · show (some (Value.str x t)).map pv = _; rfl
  clear hO hgs hns hsb
  refine wpAny_pyIter_gen hgen ?_
  refine codeAny_forLoop_any (fun kk s' => ∃ i σ' H, kk = (esc x.cps.toList 0 false).length - i ∧ i ≤ (esc x.cps.toList 0 false).length ∧ AlongG X σ₁ s₁ H s₁.gens.size σ' s' ∧ GenSt X A x ae fm (L + 1) L s₁.gens.size H i s' ∧ (L + 1) ∈ H ∧ J i σ') ?_ (esc x.cps.toList 0 false).length
    ⟨0, σ₁, [L + 1, L], rfl, Nat.zero_le _, Lg, G0, by simp, h0⟩
  rintro kk s' ⟨i, σ', H, rfl, hi, Lg', G', haH, j⟩
  refine wpAny_mono (gen_next O hm hb r.hh r.depth hend hi G' Lg' (Q := fun v s₃ => match v with
    | none => i = (esc x.cps.toList 0 false).length ∧ Real X σ' s₃ ∧ Step σ₁ s₁ σ' s₃
    | some v => ∃ (t : Addr) (H' : List Addr) (h : i < (esc x.cps.toList 0 false).length), v = .ref t ∧ GenSt X A x ae fm (L + 1) L s₁.gens.size H' (i + 1) s₃ ∧ (L + 1) ∈ H' ∧ σ' t = none ∧ X.base.get? t = none ∧
      AlongG X σ₁ s₁ H' s₁.gens.size (σ'.set t (.tuple [.int ((esc x.cps.toList 0 false)[i].1 : Nat), .str ⟨(esc x.cps.toList 0 false)[i].2.toArray⟩])) s₃)
    (fun t s₃ H' h g1 _ g3 g4 g5 g6 g7 => ⟨t, H', h, rfl, g1, g3, g5, g6, g7⟩) (fun s₃ h R₃ S₃ => ⟨h, R₃, S₃⟩)) (fun v s₃ h₃ => ?_) fun _ _ e => e.elim
  cases v with
  | none =>
    obtain ⟨he, R₃, S₃⟩ := h₃
    subst he
    exact wpAny_execs_nil ⟨σ', R₃, S₁.trans S₃, done σ' j⟩
  | some v =>
    obtain ⟨tt, H', hlt, rfl, G₃, haH', htn, htb, L₃⟩ := h₃
    refine wpAny_mono (letOwned_gen G₃.gen (Q := fun _ s => s = s₃) rfl) (fun _ s₄ h₄ => ?_) fun _ _ e => e.elim
    subst h₄
    refine wpAny_mono (L₃.go (turn i hlt σ' tt j htn htb (.ref tt) rfl) (Q' := fun _ s₅ => ∃ σ₅, AlongG X σ₁ s₁ H' s₁.gens.size σ₅ s₅ ∧ GenSt X A x ae fm (L + 1) L s₁.gens.size H' (i + 1) s₅ ∧ XS X A env body σ₅ _) fun _ σ₅ s₅ L₅ k₅ g₅ q => ⟨σ₅, L₅, G₃.keep k₅ g₅ haH', q⟩) (fun _ s₅ h₅ => ?_) fun _ _ e => e.elim
    obtain ⟨σ₅, L₅, G₅, q⟩ := h₅
    refine wpAny_mono (L₅.go (h := q) (Q' := fun f s₆ => ∃ σ₆, AlongG X σ₁ s₁ H' s₁.gens.size σ₆ s₆ ∧ GenSt X A x ae fm (L + 1) L s₁.gens.size H' (i + 1) s₆ ∧ _) fun f σ₆ s₆ L₆ k₆ g₆ q => ⟨σ₆, L₆, G₅.keep k₆ g₆ haH', q⟩) (fun f s₆ h₆ => ?_) fun _ _ e => e.elim
    obtain ⟨σ₆, L₆, G₆, q⟩ := h₆
    cases f with
    | next => exact ⟨_, by omega, i + 1, σ₆, H', rfl, hlt, L₆, G₆, haH', q⟩
    | cont => exact ⟨_, by omega, i + 1, σ₆, H', rfl, hlt, L₆, G₆, haH', q⟩
    | brk => exact ⟨σ₆, L₆.real, S₁.trans L₆.step, q⟩
    | ret v => exact ⟨σ₆, L₆.real, S₁.trans L₆.step, q⟩
end
end Mine
end

section
open PySem PySem.W PyProof.Rows
namespace Mine

theorem map1 {vals : List Value} {p : PV} (h : vals.map pv = [p]) : ∃ v, vals = [v] ∧ pv v = p := by
  match vals, h with
  | [v], h => exact ⟨v, rfl, by simpa using h⟩
  | [], h => simp at h
  | _ :: _ :: _, h => simp at h
theorem map2 {vals : List Value} {p q : PV} (h : vals.map pv = [p, q]) : ∃ v u, vals = [v, u] ∧ pv v = p ∧ pv u = q := by
  match vals, h with
  | [v, u], h => simp at h; exact ⟨v, u, rfl, h.1, h.2⟩
  | [], h => simp at h
  | [_], h => simp at h
  | _ :: _ :: _ :: _, h => simp at h
theorem map3 {vals : List Value} {p q r : PV} (h : vals.map pv = [p, q, r]) : ∃ v u w, vals = [v, u, w] ∧ pv v = p ∧ pv u = q ∧ pv w = r := by
  match vals, h with
  | [v, u, w], h => simp at h; exact ⟨v, u, w, rfl, h.1, h.2.1, h.2.2⟩
  | [], h => simp at h
  | [_], h => simp at h
  | [_, _], h => simp at h
  | _ :: _ :: _ :: _ :: _, h => simp at h

section
variable {X : Cx} {A : Around} {env : Env} {σ : AH} {Q : PV → AH → Prop}
theorem CV.lenList {l : Addr} {vs : List PV} (hl : σ l = some (.list vs)) (hs : vs.length ≤ sizeLine) (h : Q (.int vs.length) σ) : CV X A (.builtin "len") [.ref l] σ Q := fun vals e => WV.val (fun s R Q' hQ => by
  obtain ⟨v, rfl, ev⟩ := map1 e
  rw [pv_ref ev]
  obtain ⟨items, hp, em⟩ := R.rz _ _ hl
  have hlen : vs.length = items.size := by rw [← em, List.length_map, Array.length_toList]
  exact Calls.call_len_list hp.isList (by rw [← hlen]; exact Int.lt_of_le_of_lt (Int.ofNat_le.mpr hs) (by decide)) (hQ _ _ (by rw [hlen]; rfl))) h
theorem CV.lenBase {l : Addr} {items : Array Value} (hl : X.base.IsList l items) (hs : items.size ≤ sizeLine) (h : Q (.int items.size) σ) : CV X A (.builtin "len") [.ref l] σ Q := fun vals e => WV.val (fun s R Q' hQ => by
  obtain ⟨v, rfl, ev⟩ := map1 e
  rw [pv_ref ev]
  exact Calls.call_len_list (hl.at fun o e => R.base l o e) (Int.lt_of_le_of_lt (Int.ofNat_le.mpr hs) (by decide)) (hQ _ _ rfl)) h
theorem CV.lenStr {x : Str} (hs : x.length ≤ sizeLine) (h : Q (.int x.length) σ) : CV X A (.builtin "len") [.str x] σ Q := fun vals e => WV.val (fun s R Q' hQ => by
  obtain ⟨v, rfl, ev⟩ := map1 e
  obtain ⟨t, rfl⟩ := pv_str ev
  refine P.len_str ?_ (hQ _ _ rfl)
  have : (x.length : Int) ≤ (sizeLine : Nat) := Int.ofNat_le.mpr hs
  have h2 : ((sizeLine : Nat) : Int) < 2 ^ 63 := by decide
  omega) h
theorem CV.range1 {n : Int} (h : ∀ D, σ D = none → X.base.get? D = none → Q (.ref D) (σ.set D (.range 0 n 1))) : CV X A (.type "range") [.int n] σ Q := fun vals e => WP.of fun s R => by
  obtain ⟨v, rfl, ev⟩ := map1 e
  obtain ⟨t, rfl⟩ := pv_int ev
  refine call_range_1 ?_
  obtain ⟨R', S', hn, hb⟩ := R.new (h' := s.heap.push { cls := .type "range", data := .fields #[.int 0 s.toks, .int n t, .int 1 (s.toks + 1)] }) (tk := s.toks + 1 + 1) (p := .range 0 n 1) (by rw [Heap.size_push]; exact Nat.lt_succ_self _) (fun b o e => Heap.get?_push_of_some _ e) ⟨_, _, _, IsRange.new ..⟩ (Nat.succ_le_succ (Nat.zero_le _))
  exact ⟨_, R', S', h _ hn hb⟩
theorem CV.range2 {a n : Int} (h : ∀ D, σ D = none → X.base.get? D = none → Q (.ref D) (σ.set D (.range a n 1))) : CV X A (.type "range") [.int a, .int n] σ Q := fun vals e => WP.of fun s R => by
  obtain ⟨v, u, rfl, ev, eu⟩ := map2 e
  obtain ⟨t, rfl⟩ := pv_int ev
  obtain ⟨t', rfl⟩ := pv_int eu
  refine call_range_2 ?_
  obtain ⟨R', S', hn, hb⟩ := R.new (h' := s.heap.push { cls := .type "range", data := .fields #[.int a t, .int n t', .int 1 s.toks] }) (tk := s.toks + 1) (p := .range a n 1) (by rw [Heap.size_push]; exact Nat.lt_succ_self _) (fun b o e => Heap.get?_push_of_some _ e) ⟨_, _, _, IsRange.new ..⟩ (Nat.succ_le_succ (Nat.zero_le _))
  exact ⟨_, R', S', h _ hn hb⟩
theorem CV.range3 {a n c : Int} (hc : c ≠ 0) (hp : Builtin.divisionGoesByPylong (n - a) c = false) (h : ∀ D, σ D = none → X.base.get? D = none → Q (.ref D) (σ.set D (.range a n c))) : CV X A (.type "range") [.int a, .int n, .int c] σ Q := fun vals e => WP.of fun s R => by
  obtain ⟨v, u, w, rfl, ev, eu, ew⟩ := map3 e
  obtain ⟨t, rfl⟩ := pv_int ev
  obtain ⟨t', rfl⟩ := pv_int eu
  obtain ⟨t'', rfl⟩ := pv_int ew
  refine call_range_3 hc ?_ (.inl hp)
  obtain ⟨R', S', hn, hb⟩ := R.new (h' := s.heap.push { cls := .type "range", data := .fields #[.int a t, .int n t', .int c t''] }) (tk := s.toks) (p := .range a n c) (by rw [Heap.size_push]; exact Nat.lt_succ_self _) (fun b o e => Heap.get?_push_of_some _ e) ⟨_, _, _, IsRange.new ..⟩ R.tk
  exact ⟨_, R', S', h _ hn hb⟩
theorem CV.min2 {a b : Int} (hh : A.handled = none) (h : Q (.int (if b < a then b else a)) σ) : CV X A (.builtin "min") [.int a, .int b] σ Q := fun vals e => WP.of fun s R => by
  obtain ⟨v, u, rfl, ev, eu⟩ := map2 e
  obtain ⟨t, rfl⟩ := pv_int ev
  obtain ⟨t', rfl⟩ := pv_int eu
  refine with_tk (Nat.le_refl s.toks) (min_two_ints hh fun h' tk hk htk => ?_)
  obtain ⟨R', S'⟩ := R.grow (h' := h') (tk := tk) hk (Nat.le_trans R.tk htk)
  exact ⟨σ, R', S', by split <;> (rename_i hlt; simpa [pv, hlt] using h)⟩
theorem CV.typeStr {x : Str} (h : Q (.raw (.type "str")) σ) : CV X A (.type "type") [.str x] σ Q := fun vals e => WP.of fun s R => by
  obtain ⟨v, rfl, ev⟩ := map1 e
  obtain ⟨t, rfl⟩ := pv_str ev
  exact call_type_of (typeIs_str s x t) (by decide) ⟨σ, R, Step.refl σ s, h⟩
theorem CV.typeList {l : Addr} {vs : List PV} (hl : σ l = some (.list vs)) (h : Q (.raw (.type "list")) σ) : CV X A (.type "type") [.ref l] σ Q := fun vals e => WP.of fun s R => by
  obtain ⟨v, rfl, ev⟩ := map1 e
  rw [pv_ref ev]
  obtain ⟨items, hp, em⟩ := R.rz _ _ hl
  exact call_type_of hp.isList.typeIs (by decide) ⟨σ, R, Step.refl σ s, h⟩
theorem CV.append {l : Addr} {vs : List PV} {p : PV} (hl : σ l = some (.list vs)) (hs : vs.length ≤ sizeLine) (h : Q .none (σ.set l (.list (vs ++ [p])))) : CV X A (.builtin "list.append") [.ref l, p] σ Q := fun vals e => WP.of fun s R => by
  obtain ⟨v, u, rfl, ev, eu⟩ := map2 e
  rw [pv_ref ev]
  obtain ⟨items, hp, em⟩ := R.rz _ _ hl
  have hlen : vs.length = items.size := by rw [← em, List.length_map, Array.length_toList]
  refine wpAny_list_append_plain hp (fun h' hp' hs' => ?_) (by omega)
  obtain ⟨R', S'⟩ := R.turn hl (h' := h') (tk := s.toks) (p := .list (vs ++ [p])) (fun b o hb e => (hs'.2 b hb).trans e) ⟨_, hp', by simp [em, eu]⟩ R.tk
  exact ⟨_, R', S', h⟩
theorem CV.pop {l : Addr} {vs : List PV} {p : PV} (hl : σ l = some (.list (vs ++ [p]))) (hs : vs.length < sizeLine) (h : Q p (σ.set l (.list vs))) : CV X A (.builtin "list.pop") [.ref l] σ Q := fun vals e => WP.of fun s R => by
  obtain ⟨v, rfl, ev⟩ := map1 e
  rw [pv_ref ev]
  obtain ⟨items, ⟨n, hp⟩, em⟩ := R.rz _ _ hl
  have hlen : vs.length + 1 = items.size := by
    have := congrArg List.length em
    simpa using this.symm
  have hlast : ∃ y, items[items.size - 1]? = some y ∧ pv y = p ∧ (items.toList.take vs.length).map pv = vs := by
    have hl1 : items.size - 1 = vs.length := by omega
    have hlt : vs.length < items.size := by omega
    refine ⟨items[vs.length], by rw [hl1]; simp [hlt], ?_, ?_⟩
    · have := congrArg (fun l => l[vs.length]?) em
      simp [hlt] at this
      exact this
    · have := congrArg (List.take vs.length) em
      rw [← List.map_take] at this
      simpa using this
  obtain ⟨y, hy, ey, et⟩ := hlast
  refine call_meets PySem.F.slot_list_pop ⟨_, hp, rfl⟩ PySem.F.entry_list_pop (PySem.F.args_list_pop_1 _) (MeetsSeq.list_pop_last l items n y hy (by omega)) ⟨hp, ?_⟩
  obtain ⟨R', S'⟩ := R.turn hl (h' := s.heap.update l (Obj.mapSeq fun xs => xs.eraseIdxIfInBounds (items.size - 1))) (tk := s.toks) (p := .list vs) (fun b o hb e => (Heap.SameBut.update (h := s.heap) (a := l) ..).2 b hb |>.trans e) ⟨items.eraseIdxIfInBounds (items.size - 1), ⟨_, (Heap.get?_update_self _ hp (by rfl)).trans rfl⟩, (by
    have : items.size - 1 < items.size := by omega
    rw [Array.eraseIdxIfInBounds, dif_pos this]
    rw [← et]
    congr 1
    rw [Array.toList_eraseIdx, List.eraseIdx_eq_take_drop_succ]
    have : items.size - 1 = vs.length := by omega
    rw [this, List.drop_eq_nil_of_le (by simp; omega), List.append_nil])⟩ R.tk
  exact ⟨_, R', S', by show Q (pv y) _; rw [ey]; exact h⟩
end
end Mine
end

section
open PySem PySem.W PyProof.Rows Builtin Builtin.Str
namespace Mine

theorem backTo_any {env : Env} {pos : Pos} : ∀ {es : List Expr}, es.all plainArg = true → (backTo pos (starEach es env)).all (!·.1) = true
  | [], _ => rfl
  | e :: r, h => by
    obtain ⟨h1, h2⟩ := Bool.and_eq_true_iff.mp h
    rw [starEach_plain h1]
    show (true && (backTo pos (starEach r env)).all (!·.1)) = true
    rw [backTo_any h2]; rfl
theorem mcall {o : Expr} {name : Str} {ap pos : Pos} {es : List Expr} {kws : List Keyword} {env : Env} (hb : ∀ w, attributeBase o name env w = w) (hp : es.all plainArg = true) (hk : kws.all (·.arg.isSome) = true)
    (hn : es.length + kws.length < 29) (hl : (ap.endLine == pos.line) = true) :
    eval (.Call (.Attribute o name ap) es kws pos) env = (do
      let ov ← eval o env
      standAt ap.atName
      let (f, first) ← holding [ov] (getMethod ov name (do return (← importBound o env).getD true))
      callWith pos f first (backTo pos (starEach es env)) (backToKw pos (keywordEach kws env))) := by
  have hf : methodCallForm (es.length + kws.length) (backTo pos (starEach es env)) (backToKw pos (keywordEach kws env)) = true := by
    unfold methodCallForm
    rw [backTo_any hp, kw_isSome hk]
    simp only [Bool.true_and, decide_eq_true_eq]
    split <;> omega
  rw [arm_eval_Call, hb]
  unfold methodCall
  rw [hf]
  have hpz : ∀ (o : Expr), methodCallPos true o env ap pos = pure pos := fun o => by unfold methodCallPos; rw [hl]; rfl
  rw [hpz]
  rfl
section
variable (X : Cx) (A : Around)
/-- the method of a built-in type -/
def GMB (p : PV) (name : Str) (id : String) (σ : AH) : Prop := ∀ v, pv v = p → ∀ (pl : Sem Bool) s (Q' : Value × List Value → Shared → Prop), Real X σ s → Q' (.builtin id, [v]) s → wpAny (model X.prog X.w) A (getMethod v name pl) Q' (fun _ _ => False) s
end
section
variable {X : Cx} {A : Around} {env : Env} {σ : AH} {Q : PV → AH → Prop}
theorem callWith_bi1 {id : String} {pos : Pos} {es : List Expr} {v : Value} {p : PV} (e : pv v = p) (hp : es.all plainArg = true)
    (h : AVS X A env es σ fun ps σ₁ => CV X A (.builtin id) (p :: ps) σ₁ Q) : WV X A (callWith pos (.builtin id) [v] (backTo pos (starEach es env)) []) σ Q :=
  callWith_bi hp (by simpa [e] using h)
theorem EV.methBi {o : Expr} {name : Str} {ap pos : Pos} {es : List Expr} {id : String}
    (h : EV X A env o σ fun p σ₁ => GMB X A p name id σ₁ ∧ AVS X A env es σ₁ fun ps σ₂ => CV X A (.builtin id) (p :: ps) σ₂ Q) (hp : es.all plainArg = true := by rfl)
    (hb : ∀ w, attributeBase o name env w = w := by intro _; rfl) (hn : es.length + 0 < 29 := by decide) (hl : (ap.endLine == pos.line) = true := by rfl) :
    EV X A env (.Call (.Attribute o name ap) es [] pos) σ Q :=
  WP.of fun s R => MethodCall_ (he := mcall (kws := []) hb hp rfl hn hl) (h.go R (Step.refl σ s) fun v σ₁ s₁ R₁ S₁ ⟨g, q⟩ => g v rfl _ s₁ _ R₁ (WP.go (callWith_bi1 rfl hp q) R₁ S₁ fun v σ₂ s₂ R₂ S₂ q => ⟨σ₂, R₂, S₂, q⟩))
theorem GMB.append {l : Addr} {vs : List PV} (hl : σ l = some (.list vs)) : GMB X A (.ref l) (Str.ofString "append") "list.append" σ := fun v e pl s Q' R h => by
  rw [pv_ref e] at h ⊢
  obtain ⟨vals, ⟨n, hp⟩, em⟩ := R.rz _ _ hl
  exact getMethod_builtin ⟨_, hp, rfl⟩ PySem.F.plainAttrs_list slot_list_append rfl (fun a ha => by cases ha; exact ⟨_, hp, rfl⟩) h
theorem GMB.pop {l : Addr} {vs : List PV} (hl : σ l = some (.list vs)) : GMB X A (.ref l) (Str.ofString "pop") "list.pop" σ := fun v e pl s Q' R h => by
  rw [pv_ref e] at h ⊢
  obtain ⟨vals, ⟨n, hp⟩, em⟩ := R.rz _ _ hl
  exact getMethod_builtin ⟨_, hp, rfl⟩ PySem.F.plainAttrs_list PySem.F.slot_list_pop rfl (fun a ha => by cases ha; exact ⟨_, hp, rfl⟩) h
theorem GMB.lower {x : Str} : GMB X A (.str x) (Str.ofString "lower") "str.lower" σ := fun v e pl s Q' R h => by
  obtain ⟨t, rfl⟩ := pv_str e
  with_reducible exact GM.lower h
theorem GMB.upper {x : Str} : GMB X A (.str x) (Str.ofString "upper") "str.upper" σ := fun v e pl s Q' R h => by
  obtain ⟨t, rfl⟩ := pv_str e
  with_reducible exact GM.upper h
theorem GMB.join {x : Str} : GMB X A (.str x) (Str.ofString "join") "str.join" σ := fun v e pl s Q' R h => by
  obtain ⟨t, rfl⟩ := pv_str e
  with_reducible exact GM.join h
theorem GMB.index {x : Str} : GMB X A (.str x) (Str.ofString "index") "str.index" σ := fun v e pl s Q' R h => by
  obtain ⟨t, rfl⟩ := pv_str e
  with_reducible exact GM.index h
theorem CV.lower {x : Str} (hf : (Txt.lower x).length ≤ sizeLine) (h : Q (.str (Txt.lower x)) σ) : CV X A (.builtin "str.lower") [.str x] σ Q := fun vals e => WV.val (fun s R Q' hQ => by
  obtain ⟨v, rfl, ev⟩ := map1 e
  obtain ⟨t, rfl⟩ := pv_str ev
  exact SC.lower (by unfold tooLong; simpa using hf) (hQ _ _ rfl)) h
theorem CV.upper {x : Str} (hf : (Txt.upper x).length ≤ sizeLine) (h : Q (.str (Txt.upper x)) σ) : CV X A (.builtin "str.upper") [.str x] σ Q := fun vals e => WV.val (fun s R Q' hQ => by
  obtain ⟨v, rfl, ev⟩ := map1 e
  obtain ⟨t, rfl⟩ := pv_str ev
  exact SC.upper (by unfold tooLong; simpa using hf) (hQ _ _ rfl)) h
theorem strs_of : ∀ {vals : List Value} {texts : List Str}, vals.map pv = texts.map PV.str → ∃ l : List (Str × Tok), vals = strValues l ∧ l.map (·.1) = texts
  | [], [], _ => ⟨[], rfl, rfl⟩
  | [], _ :: _, h => by simp at h
  | _ :: _, [], h => by simp at h
  | v :: vs, x :: xs, h => by
    simp only [List.map_cons, List.cons.injEq] at h
    obtain ⟨t, rfl⟩ := pv_str h.1
    obtain ⟨l, rfl, rfl⟩ := strs_of h.2
    exact ⟨(x, t) :: l, rfl, rfl⟩
theorem CV.join {x : Str} {l : Addr} {texts : List Str} (hl : σ l = some (.list (texts.map PV.str))) (hok : JoinOk x texts = true) (h : Q (.str (Txt.join x texts)) σ) : CV X A (.builtin "str.join") [.str x, .ref l] σ Q := fun vals e => WV.val (fun s R Q' hQ => by
  obtain ⟨v, u, rfl, ev, eu⟩ := map2 e
  obtain ⟨t, rfl⟩ := pv_str ev
  rw [pv_ref eu]
  obtain ⟨items, hp, em⟩ := R.rz _ _ hl
  obtain ⟨ll, e1, e2⟩ := strs_of em
  have : items = (strValues ll).toArray := by rw [← e1]
  exact SC.join (this ▸ hp.isList) e2 hok fun t' k => hQ _ _ rfl) h
theorem EV.replace {o : Expr} {ap pos p1 p2 : Pos} {k1 k2 : Nat} {y z : Str} (hyz : (y == z) = false)
    (h : EV X A env o σ fun p σ₁ => ∃ x, p = .str x ∧ x.length + (x.length + 1) * z.length ≤ 16777216 ∧ Q (.str (Txt.replace x y z)) σ₁)
    (hb : ∀ w, attributeBase o (Str.ofString "replace") env w = w := by intro _; rfl) (hl : (ap.endLine == pos.line) = true := by rfl) :
    EV X A env (.Call (.Attribute o (Str.ofString "replace") ap) [.Constant (.str y) k1 p1, .Constant (.str z) k2 p2] [] pos) σ Q :=
  WP.of fun s R => MethodCall_ (he := mcall (kws := []) hb rfl rfl (by show 2 + 0 < 29; decide) hl) (h.go R (Step.refl σ s) fun v σ₁ s₁ R₁ S₁ ⟨x, e, hb, q⟩ => by
    obtain ⟨t, rfl⟩ := pv_str e
    with_reducible refine GM.replace ?_
    refine (Calls.callWith_builtin rfl (Calls.evalArgs_plain (wpAny_items_cons (Calls.Constant_str (wpAny_items_cons (Calls.Constant_str (wpAny_items_nil ?_)) rfl)) rfl)))
    refine with_tk (Nat.le_refl _) (SC.replace (Nat.ne_of_gt R₁.tk) (Nat.succ_ne_zero _) (Nat.ne_of_lt (Nat.lt_succ_self _)) hyz hb fun t' k htk => ?_)
    exact ⟨σ₁, R₁.toks k (Nat.le_trans (Nat.succ_le_succ (Nat.zero_le _)) htk), S₁.trans (Step.toks σ₁ s₁ k), q⟩)
theorem CV.index {x y : Str} {i : Nat} {rest : List Nat} (ho : occurrences x y 0 x.length 1 = i :: rest) (h : Q (.int i) σ) : CV X A (.builtin "str.index") [.str x, .str y] σ Q := fun vals e => WV.val (fun s R Q' hQ => by
  obtain ⟨v, u, rfl, ev, eu⟩ := map2 e
  obtain ⟨t, rfl⟩ := pv_str ev
  obtain ⟨t', rfl⟩ := pv_str eu
  exact call_gives F.slot_str_index (typeIs_str _ _ _) F.entry_str_index (F.args_str_index_2 _ _) (gives_str_index x y t t' i rest ho) (hQ _ _ rfl)) h
end
end Mine
end

section
open PySem PySem.W PyProof.Rows Builtin Builtin.Str
namespace Mine

/-- the class's own facts -/
structure Cl (K : Frag) (C : Addr) : Prop where
  keep : keepIn K (.ref C) = true
  makes : makesIn K C = true
  ga : findIn K (.ref C) "__getattribute__" = some (some (.builtin "object.__getattribute__"))
  gk : findIn K (.ref C) "__getattr__" = some none
  sa : findIn K (.ref C) "__setattr__" = some (some (.builtin "object.__setattr__"))
  po : plainOver K C = true
  tk : takerIn K C (Str.ofString "_headers") = some none
  hd : hasDictIn K C = true
  ah : findIn K (.ref C) (Str.ofString "_headers") = some none
  ns : noSeq K C = true
structure Me (X : Cx) (K : Frag) (C : Addr) (name : Str) (src : Src) (dV : Value) where
  f : Addr
  m : FM
  find : findIn K (.ref C) name = some (some (.ref f))
  ty : typeIn K (.ref f) = some (.type "function")
  fn : FnD X f src dV .none m

/-- the own dict of a table -/
def hObj (hs : Int) (tk : Tok) (l : Addr) : Obj := dictOf [⟨hs, .str (Str.ofString "_headers") tk, .ref l⟩] 1
structure Ins (σ : AH) (x C l : Addr) : Prop where
  go : ∃ dx hs tk, σ x = some (.inst C dx) ∧ σ dx = some (.obj (hObj hs tk l))
theorem Ins.at {X : Cx} {σ : AH} {x C l : Addr} {s : Shared} (I : Ins σ x C l) (R : Real X σ s) : ∃ dx hs tk, PySem.W.InstAt s.heap x (instObj C dx) C (some (hObj hs tk l)) := by
  obtain ⟨dx, hs, tk, h1, h2⟩ := I.go
  exact ⟨dx, hs, tk, R.rz x _ h1, rfl, rfl, R.rz dx _ h2⟩
theorem Ins.keep {σ σ' : AH} {x C l : Addr} (I : Ins σ x C l) (h : ∀ b p, (∀ vs, p ≠ .list vs) → (∀ m, p ≠ .ns m) → σ b = some p → σ' b = some p) : Ins σ' x C l := by
  obtain ⟨dx, hs, tk, h1, h2⟩ := I.go
  exact ⟨dx, hs, tk, h x _ (by simp) (by simp) h1, h dx _ (by simp) (by simp) h2⟩

section
variable {X : Cx} {A : Around} {env : Env} {σ : AH} {Q : PV → AH → Prop} {K : Frag} {C : Addr}
theorem EV.attrOwn {o : Expr} {pos : Pos} (hK : K.In X.base) (c : Cl K C)
    (h : EV X A env o σ fun p σ₁ => ∃ x l, p = .ref x ∧ Ins σ₁ x C l ∧ Q (.ref l) σ₁)
    (he : eval (.Attribute o (Str.ofString "_headers") pos) env = (do
      let o' ← eval o env
      standAt pos.atName
      let r ← holding [o'] (getAttr o' (Str.ofString "_headers") true)
      letTemporaryGo o o' r
      pure r) := by with_unfolding_all rfl) : EV X A env (.Attribute o (Str.ofString "_headers") pos) σ Q :=
  WP.of fun s R => Attribute_any_ (h.go R (Step.refl σ s) fun v σ₁ s₁ R₁ S₁ ⟨x, l, e, I, q⟩ => by
    rw [pv_ref e]
    obtain ⟨dx, hs, tk, I'⟩ := I.at R₁
    refine get_value (K := K) (fun a o e => R₁.base a o (hK a o e)) I' c.ga (findObj_own c.hd c.ah rfl (v := .ref l) ?_) rfl ⟨σ₁, R₁.tick _, S₁.trans (Step.toks σ₁ s₁ _), q⟩
    rfl) he

/-- the method of a table -/
theorem gm_inst {x l : Addr} {name : Str} {src : Src} {dV : Value} {pl : Sem Bool} {s : Shared} {Q' : Value × List Value → Shared → Prop} (hK : K.In X.base) (c : Cl K C) (me : Me X K C name src dV) (I : Ins σ x C l) (hn : ∀ hs tk, shadowIn (some (hObj hs tk l)) name = some false) (R : Real X σ s)
    (h : Q' (.ref me.f, [.ref x]) s) : wpAny (model X.prog X.w) A (getMethod (.ref x) name pl) Q' (fun _ _ => False) s := by
  obtain ⟨dx, hs, tk, I'⟩ := I.at R
  exact method_fn (K := K) (fun a o e => R.base a o (hK a o e)) I' c.ga c.gk me.find me.ty (hn hs tk) h

theorem EV.methI {o : Expr} {name : Str} {ap pos : Pos} {es : List Expr} {src : Src} {dV : Value} (hK : K.In X.base) (c : Cl K C) (me : Me X K C name src dV)
    (h : EV X A env o σ fun p σ₁ => ∃ x l, p = .ref x ∧ Ins σ₁ x C l ∧ AVS X A env es σ₁ fun ps σ₂ => CV X A (.ref me.f) (.ref x :: ps) σ₂ Q) (hp : es.all plainArg = true := by rfl)
    (hn : ∀ hs tk l, shadowIn (some (hObj hs tk l)) name = some false := by intro _ _ _; rfl)
    (hb : ∀ w, attributeBase o name env w = w := by intro _; rfl) (hnn : es.length + 0 < 29 := by decide) (hl : (ap.endLine == pos.line) = true := by rfl) :
    EV X A env (.Call (.Attribute o name ap) es [] pos) σ Q :=
  let ⟨o', ho, hd⟩ := me.fn.here
  WP.of fun s R => MethodCall_ (he := mcall (kws := []) hb hp rfl hnn hl) (h.go R (Step.refl σ s) fun v σ₁ s₁ R₁ S₁ ⟨x, l, e, I, q⟩ => by
    rw [pv_ref e]
    exact gm_inst hK c me I (fun hs tk => hn hs tk l) R₁ (WP.go (callWith_ref (first := [.ref x]) ho hd hp q) R₁ S₁ fun v σ₂ s₂ R₂ S₂ q => ⟨σ₂, R₂, S₂, q⟩))

theorem kw1 {M : Model} {kw : Str} {b : Bool} {k0 : Nat} {cp kp pos : Pos} {s : Shared} {Q : List Value → Shared → Prop} (h : Q [.bool b] s) :
    wpAny M A (evalAll ((backToKw pos (keywordEach [⟨some kw, .Constant (.bool b) k0 cp, kp⟩] env)).map (·.2))) Q (fun _ _ => False) s := by
  refine wpAny_evalAll_cons ?_
  show wpAny M A (do let v ← PySem.eval (.Constant (.bool b) k0 cp) env; standAt pos; pure v) _ _ _
  exact wpAny_bind (wpAny_Constant_bool (wpAny_bind (wpAny_standAt (wpAny_pure (wpAny_evalAll_nil h)))))
/-- with one word argument, a constant -/
theorem EV.methKw {o e1 : Expr} {name kw : Str} {ap pos kp cp : Pos} {src : Src} {dV : Value} {b : Bool} {k0 : Nat} (hK : K.In X.base) (c : Cl K C) (me : Me X K C name src dV)
    (h : EV X A env o σ fun p σ₁ => ∃ x l, p = .ref x ∧ Ins σ₁ x C l ∧ EV X A env e1 σ₁ fun p1 σ₂ => CK X A (.ref me.f) [.ref x, p1] [(kw, .bool b)] σ₂ Q) (hp : plainArg e1 = true := by rfl)
    (hn : ∀ hs tk l, shadowIn (some (hObj hs tk l)) name = some false := by intro _ _ _; rfl)
    (hb : ∀ w, attributeBase o name env w = w := by intro _; rfl) (hl : (ap.endLine == pos.line) = true := by rfl) :
    EV X A env (.Call (.Attribute o name ap) [e1] [⟨some kw, .Constant (.bool b) k0 cp, kp⟩] pos) σ Q :=
  let ⟨o', ho, hd⟩ := me.fn.here
  WP.of fun s R => methodCall_KW (he := mcall (kws := [⟨some kw, .Constant (.bool b) k0 cp, kp⟩]) hb (by show (plainArg e1 && true) = true; rw [hp]; rfl) rfl (by show 1 + 1 < 29; decide) hl) (h.go R (Step.refl σ s) fun v σ₁ s₁ R₁ S₁ ⟨x, l, e, I, q⟩ => by
    rw [pv_ref e]
    refine gm_inst hK c me I (fun hs tk => hn hs tk l) R₁ (callWith_function_kw (o := o') (fd := _) (evalArgs_kw2 rfl (wpAny_items_cons (WP.go q R₁ S₁ fun v1 σ₂ s₂ R₂ S₂ q2 => wpAny_items_nil (kw1 ⟨⟨R₂.base _ _ ho, hd⟩, ?_⟩)) (starEach_plain hp)) (starEach_plain hp)))
    exact WP.go (q2 [.ref x, v1] [(kw, .bool b)] rfl rfl) R₂ S₂ fun v σ₃ s₃ R₃ S₃ q => ⟨σ₃, R₃, S₃, q⟩)
end
end Mine
end

section
open PySem PySem.W PyProof.Rows Builtin Builtin.Str
namespace Mine

section
variable (X : Cx) (A : Around)
/-- a call as a code -/
def CC (f : Value) (args : Args) (σ : AH) (Q : PV → AH → Prop) : Prop :=
  ∀ s, Real X σ s → codeAny (model X.prog X.w) A (.call f args) (fun r s' => ∃ v σ', r = .ok (.ret v) ∧ Real X σ' s' ∧ Step σ s σ' s' ∧ Q (pv v) σ') s
end
section
variable {X : Cx} {A : Around} {env : Env} {σ : AH} {Q : PV → AH → Prop}
theorem CC.wv {f : Value} {args : Args} (h : CC X A f args σ Q) : WV X A (call f args.pos args.kw) σ Q :=
  WP.of fun s R => wpAny_call (codeAny_mono (h s R) fun r s' ⟨v, σ', e, q⟩ => by subst e; exact ⟨σ', q⟩)
/-- the call of a def without cells -/
theorem CC.def {a : Addr} {o : Obj} {fd : FuncData} {body : List Stmt} {args : Args} {k : Nat} (O : X.Ok) (r : Rm A (k + 1)) (ho : X.base.get? a = some o) (hdata : o.data = .func fd)
    (hcd : X.base.CodeRec fd.code fd.qualname) (hbody : fd.body = .stmts body)
    (hb : WP X A.in1 (bindArgs fd args) σ fun binds σ₁ => (∀ x ∈ binds, fd.scope.names.lookup x.1 = some .local) ∧ ∀ L : Nat, (∀ b : Nat, L ≤ b → σ₁ b = none ∧ X.base.get? b = none) →
      Rm (A.deeper (callEnv fd L a)) k → XS X (A.deeper (callEnv fd L a)) (callEnv fd L a) body (σ₁.set L (.ns (bindP binds))) fun f σ₂ => Q (rt f) σ₂)
    (hcell : ∀ x ∈ fd.scope.names, x.2 ≠ .cell) (hco : fd.scope.isCoroutine = false := by rfl) (hgen : fd.scope.isGenerator = false := by rfl) (hk : fd.scope.kind = .function := by rfl) :
    CC X A (.ref a) args σ Q := by
  refine fun s R => codeAny_call_function r.depth (R.base _ _ ho) hdata hco hgen hbody (hcd.keeps R.base) ?_
  refine wpAny_mono (WP.go hb R (Step.refl σ s) (Q' := fun binds s₁ => wpAny _ _ _ _ _ s₁) fun binds σ₁ s₁ R₁ S₁ ⟨hloc, q⟩ => ?_) (fun _ _ x => x) fun _ _ x => x.elim
  refine wpAny_newFunctionEnv hcell hloc (fun h₀ hns hsb => ⟨(O.lim.keeps R₁.base).fresh _ hsb, codeAny_func ?_⟩) hk
  have hkeep : ∀ b o, s₁.heap.get? b = some o → h₀.get? b = some o := fun b o e => hsb.extBut b o (Nat.ne_of_lt (Heap.lt_size e)) (Heap.get?_push_of_some _ e)
  have hsz : s₁.heap.objs.size < h₀.objs.size := by rw [hsb.1, Heap.size_push]; exact Nat.lt_succ_self _
  obtain ⟨R₂, S₂, hn, hbn⟩ := R₁.new (h' := h₀) (tk := s₁.toks + binds.length) (p := .ns (bindP binds)) hsz hkeep ⟨_, hns, fun x => rfl⟩ (Nat.le_trans R₁.tk (Nat.le_add_right _ _))
  have hfree : ∀ b, s₁.heap.objs.size ≤ b → σ₁ b = none ∧ X.base.get? b = none := fun b hb => ⟨(fresh_from R₁ b hb).1, (fresh_from R₁ b hb).2.1⟩
  refine wpAny_mono (WP.go (h := q s₁.heap.objs.size hfree (r.deeper _)) (Q' := fun f s' => ∃ σ', Real X σ' s' ∧ Step σ s σ' s' ∧ Q (rt (pf f)) σ') R₂ (S₁.trans S₂) fun f σ₃ s₃ R₃ S₃ q => ⟨σ₃, R₃, S₃, q⟩) (fun f s' ⟨σ', R', S', q'⟩ => ?_) fun _ _ x => x.elim
  exact ⟨_, σ', rfl, R', S', by cases f <;> exact q'⟩

theorem Rm.in1 {A : Around} {k : Nat} (h : Rm A (k + 1)) : Rm A.in1 k := ⟨h.hh, by have := h.d; show A.depth + k < 900; omega, by have := h.u; show A.units + 1 + 40 * k < 9000; omega, h.fr⟩
theorem Rm.make {A : Around} {k : Nat} (h : Rm A (k + 1)) (C : Addr) : Rm (A.under (.builtin "type.__call__" ⟨[.ref C], []⟩)) k := by
  have hw : (Code.builtin "type.__call__" ⟨[.ref C], []⟩).weight = 1 := by kernel_rfl
  have hu : (Code.builtin "type.__call__" ⟨[.ref C], []⟩).cUnits ≤ 10 := Nat.le_of_ble_eq_true (by kernel_rfl)
  have he : (Code.builtin "type.__call__" ⟨[.ref C], []⟩).envs = [] := by kernel_rfl
  refine ⟨h.hh, ?_, ?_, ?_⟩
  · have := h.d; show A.depth + _ + k < 900; rw [hw]; omega
  · have := h.u; show A.units + _ + 40 * k < 9000; omega
  · obtain ⟨fs, e⟩ := h.fr
    exact ⟨fs, by show pushEnvs (Code.builtin "type.__call__" ⟨[.ref C], []⟩).envs A.frames = some fs; rw [he, e]; rfl⟩
theorem bind_eq {fd : FuncData} {args : Args} {binds : List (Str × Value)} {Q : List (Str × Value) → AH → Prop} (e : bindArgs fd args = pure binds) (h : Q binds σ) : WP X A (bindArgs fd args) σ Q := by rw [e]; exact WP.pure h

/-- all the rest of a heap, object by object -/
def restOf (h : Heap) (L d : Addr) : List (Addr × Obj) := (List.range h.objs.size).filterMap fun b => if b = L ∨ b = d then none else (h.get? b).map fun o => (b, o)
theorem restOf_mem {h : Heap} {L d b : Addr} {o : Obj} (hb : h.get? b = some o) (hL : b ≠ L) (hd : b ≠ d) : (b, o) ∈ restOf h L d := by
  refine List.mem_filterMap.mpr ⟨b, List.mem_range.mpr (Heap.lt_size hb), ?_⟩
  simp [hL, hd, hb]
theorem restOf_of {h : Heap} {L d : Addr} {p : Addr × Obj} (hp : p ∈ restOf h L d) : h.get? p.1 = some p.2 ∧ p.1 ≠ L ∧ p.1 ≠ d := by
  obtain ⟨b, _, e⟩ := List.mem_filterMap.mp hp
  by_cases hc : b = L ∨ b = d
  · simp [hc] at e
  · simp only [hc, if_false] at e
    cases hb : h.get? b with
    | none => rw [hb] at e; cases e
    | some o =>
      rw [hb] at e
      cases e
      exact ⟨hb, fun z => hc (.inl z), fun z => hc (.inr z)⟩
def nul : Heap := { objs := #[] }
theorem nul_get (b : Addr) : nul.get? b = none := by
  cases q : nul.get? b with
  | none => rfl
  | some o => have := Heap.lt_size q; simp [nul] at this

theorem setH {x C dx l : Addr} {m : Str → Option PV} {L : Addr} {K : Frag} (hK : K.In X.base) (c : Cl K C) (hL : σ L = some (.ns m)) (h1 : σ x = some (.inst C dx)) (h2 : σ dx = some (.obj emptyDict)) {P : Unit → AH → Prop}
    (h : ∀ hs tk, P () (σ.set dx (.obj (hObj hs tk l)))) : WP X A (setAttr (.ref x) (Str.ofString "_headers") (.ref l)) σ P := WP.of fun s R => by
  have X' : K.In s.heap := fun a o e => R.base a o (hK a o e)
  have hx := R.rz x _ h1
  have hd := R.rz dx _ h2
  have I : PySem.W.InstAt s.heap x (instObj C dx) C (some emptyDict) := ⟨hx, rfl, rfl, hd⟩
  obtain ⟨m', hn, em⟩ := R.rz L _ hL
  have hdL : dx ≠ L := fun z => by rw [z, hL] at h2; cases h2
  have F : Fr nul L s.heap m' := ⟨hn, (fun b o e => by rw [nul_get] at e; cases e), Nat.zero_le _⟩
  have N : News nul L s.heap ([] ++ (dx, emptyDict) :: restOf s.heap L dx) := fun p hp => by
    rcases List.mem_cons.mp hp with rfl | hp
    · exact ⟨hd, hdL, nul_get _⟩
    · have := restOf_of hp; exact ⟨this.1, this.2.1, nul_get _⟩
  refine set_plain X' I c.sa (osa_dict (s := { s with toks := s.toks + 1 }) (od' := hObj (PyData.keyHash X.w.params (Str.ofString "_headers")) (s.toks + 1) l) (es := [⟨PyData.keyHash X.w.params (Str.ofString "_headers"), .str (Str.ofString "_headers") (s.toks + 1), .ref l⟩]) (n := 1) F N X' I rfl c.po c.tk c.hd (by rfl) (fun p hp => nomatch hp) (fun p hp => (restOf_of hp).2.2) ?_ rfl (by show 1 ≤ 1000; decide) fun h' F' N' => ?_)
  · have := putName_dict (Str.ofString "_headers") (PyData.keyHash X.w.params (Str.ofString "_headers")) (.str (Str.ofString "_headers") (s.toks + 1)) (.ref l) [] 0
    exact this
  · have hk : ∀ b o, b ≠ dx → s.heap.get? b = some o → b ≠ L → h'.get? b = some o := fun b o hb e hbL => (N' (b, o) (List.mem_cons_of_mem _ (restOf_mem e hbL hb))).1
    have hz : Rz h' dx (.obj (hObj (PyData.keyHash X.w.params (Str.ofString "_headers")) (s.toks + 1) l)) := (N' (dx, hObj (PyData.keyHash X.w.params (Str.ofString "_headers")) (s.toks + 1) l) (by simp)).1
    have hbL := R.apart L _ hL
    have hbd := R.apart dx _ h2
    refine ⟨σ.set dx (.obj (hObj (PyData.keyHash X.w.params (Str.ofString "_headers")) (s.toks + 1) l)), ⟨fun b p e => ?_, fun b o e => ?_, fun b p e => ?_, R.gens, R.os, Nat.succ_le_succ (Nat.zero_le _)⟩, ⟨fun b o hσ e => ?_, fun b p e => ?_, fun _ _ => rfl, Nat.le_refl _⟩, h _ _⟩
    · by_cases hb : b = dx
      · subst hb; rw [AH.set_self] at e; cases e; exact hz
      · rw [AH.set_ne _ _ hb] at e
        by_cases hbL' : b = L
        · subst hbL'; rw [hL] at e; cases e; exact ⟨m', F'.ns, em⟩
        · exact (R.rz b p e).keep fun o ho => hk b o hb ho hbL'
    · exact hk b o (fun z => by rw [z, hbd] at e; cases e) (R.base b o e) (fun z => by rw [z, hbL] at e; cases e)
    · by_cases hb : b = dx
      · subst hb; exact hbd
      · rw [AH.set_ne _ _ hb] at e; exact R.apart b p e
    · exact hk b o (fun z => by rw [z, h2] at hσ; cases hσ) e (fun z => by rw [z, hL] at hσ; cases hσ)
    · by_cases hb : b = dx
      · subst hb; exact .inl ⟨_, h2⟩
      · rw [AH.set_ne _ _ hb] at e; exact .inl ⟨p, e⟩

theorem EX.setHeaders {o value : Expr} {ap pos : Pos} {C : Addr} {Q : PF → AH → Prop} {K : Frag} (hK : K.In X.base) (c : Cl K C)
    (h : EV X A env value σ fun p σ₁ => EV X A env o σ₁ fun q σ₂ => ∃ x dx l m, p = .ref l ∧ q = .ref x ∧ σ₂ env.locals = some (.ns m) ∧ σ₂ x = some (.inst C dx) ∧ σ₂ dx = some (.obj emptyDict) ∧ ∀ hs tk, Q .next (σ₂.set dx (.obj (hObj hs tk l))))
    (hs : swapsWith value (some (.Attribute o (Str.ofString "_headers") ap)) pos.line env = pure false := by rfl) :
    EX X A env (.Assign [.Attribute o (Str.ofString "_headers") ap] value pos) σ Q :=
  WP.of fun s R => plainObj_wpAny_Assign_Attribute (h.go R (Step.refl σ s) fun v σ₁ s₁ R₁ S₁ h₁ => WP.go h₁ R₁ S₁ fun u σ₂ s₂ R₂ S₂ ⟨x, dx, l, m, e1, e2, hL, h1, h2, q⟩ => by
    rw [pv_ref e1, pv_ref e2]
    exact WP.go (setH (A := A) (P := fun _ σ' => Q .next σ') hK c hL h1 h2 q) R₂ S₂ fun _ σ₃ s₃ R₃ S₃ q => ⟨σ₃, R₃, S₃, q⟩) hs

theorem newH {C : Addr} {L : Addr} {m : Str → Option PV} {K : Frag} {fI : Addr} {k : Nat} (hK : K.In X.base) (c : Cl K C) (r : Rm A (k + 1)) (hi : findIn K (.ref C) "__init__" = some (some (.ref fI))) (hf : typeIn K (.ref fI) = some (.type "function")) (hL : σ L = some (.ns m))
    (h : ∀ A', Rm A' k → ∀ x dx, σ x = none → σ dx = none → X.base.get? x = none → X.base.get? dx = none → x ≠ dx → CC X A' (.ref fI) ⟨[.ref x], []⟩ ((σ.set dx (.obj emptyDict)).set x (.inst C dx)) fun v σ' => v = .none ∧ Q (.ref x) σ') :
    WV X A (call (.ref C) []) σ Q := WP.of fun s R => by
  have X' : K.In s.heap := fun a o e => R.base a o (hK a o e)
  obtain ⟨m', hn, em⟩ := R.rz L _ hL
  have F : Fr nul L s.heap m' := ⟨hn, (fun b o e => by rw [nul_get] at e; cases e), Nat.zero_le _⟩
  have N : News nul L s.heap (restOf s.heap L L) := fun p hp => by
    have := restOf_of hp; exact ⟨this.1, this.2.1, nul_get _⟩
  have hbL := R.apart L _ hL
  have hLs : L < s.heap.objs.size := by obtain ⟨o, ho⟩ := (R.rz L _ hL).there; exact Heap.lt_size ho
  refine wpAny_call (make_K F N X' c.makes hi hf fun x dx h' F' N' hlt hdx => ?_)
  have hfr := fresh_from R
  have hkO : ∀ b o, s.heap.get? b = some o → b ≠ L → h'.get? b = some o := fun b o e hb => (N' (b, o) (List.mem_cons_of_mem _ (List.mem_cons_of_mem _ (restOf_mem e hb hb)))).1
  have zx := N' (x, instObj C dx) (by simp)
  have zd := N' (dx, emptyDict) (by simp)
  have free : ∀ b, b ≠ L → dx ≤ b → s.heap.get? b = none := fun b hb hle => by
    cases q : s.heap.get? b with
    | none => rfl
    | some o => exact absurd (hlt (b, o) (restOf_mem q hb hb)) (Nat.not_lt.mpr hle)
  have fd := free dx zd.2.1 (Nat.le_refl _)
  have fx := free x zx.2.1 (Nat.le_of_lt hdx)
  have hnone : ∀ b, s.heap.get? b = none → σ b = none ∧ X.base.get? b = none := fun b hn => by
    constructor
    · cases q : σ b with
      | none => rfl
      | some p => obtain ⟨o, ho⟩ := (R.rz b p q).there; rw [hn] at ho; cases ho
    · cases q : X.base.get? b with
      | none => rfl
      | some o => rw [R.base b o q] at hn; cases hn
  have R' : Real X ((σ.set dx (.obj emptyDict)).set x (.inst C dx)) { s with heap := h' } := by
    refine ⟨fun b p e => ?_, fun b o e => ?_, fun b p e => ?_, R.gens, R.os, R.tk⟩
    · by_cases hb : b = x
      · subst hb; rw [AH.set_self] at e; cases e; exact zx.1
      · rw [AH.set_ne _ _ hb] at e
        by_cases hb2 : b = dx
        · subst hb2; rw [AH.set_self] at e; cases e; exact zd.1
        · rw [AH.set_ne _ _ hb2] at e
          by_cases hbL' : b = L
          · subst hbL'; rw [hL] at e; cases e; exact ⟨m', F'.ns, em⟩
          · exact (R.rz b p e).keep fun o ho => hkO b o ho hbL'
    · exact hkO b o (R.base b o e) (fun z => by rw [z, hbL] at e; cases e)
    · by_cases hb : b = x
      · subst hb; exact (hnone b fx).2
      · rw [AH.set_ne _ _ hb] at e
        by_cases hb2 : b = dx
        · subst hb2; exact (hnone b fd).2
        · rw [AH.set_ne _ _ hb2] at e; exact R.apart b p e
  have S' : Step σ s ((σ.set dx (.obj emptyDict)).set x (.inst C dx)) { s with heap := h' } := by
    refine ⟨fun b o hσ e => hkO b o e (fun z => by rw [z, hL] at hσ; cases hσ), fun b p e => ?_, fun _ _ => rfl, Nat.le_refl _⟩
    by_cases hb : b = x
    · subst hb; exact .inr fx
    · rw [AH.set_ne _ _ hb] at e
      by_cases hb2 : b = dx
      · subst hb2; exact .inr fd
      · rw [AH.set_ne _ _ hb2] at e; exact .inl ⟨p, e⟩
  refine codeAny_mono (h (A.under (.builtin "type.__call__" ⟨[.ref C], []⟩)) ?_ x dx (hnone x fx).1 (hnone dx fd).1 (hnone x fx).2 (hnone dx fd).2 (Nat.ne_of_gt hdx) _ R') fun r s' ⟨v, σ', e, R₂, S₂, ev, q⟩ => ?_
  · exact r.make C
  · subst e
    exact ⟨pv_none ev, σ', R₂, S'.trans S₂, q⟩
end
end Mine
end

section
open PySem PySem.W PyProof.Rows Builtin Builtin.Str
set_option maxRecDepth 100000
namespace Mine

section
variable {X : Cx} {A : Around} {env : Env} {σ : AH} {K : Frag} {C : Addr}
theorem setItemI {x l : Addr} {src : Src} {dV : Value} {k v : Value} {P : Unit → AH → Prop} (hK : K.In X.base) (c : Cl K C) (me : Me X K C (Str.ofString "__setitem__") src dV) (I : Ins σ x C l)
    (h : CV X A (.ref me.f) [.ref x, pv k, pv v] σ fun _ σ' => P () σ') : WP X A (setItem (.ref x) k v) σ P := WP.of fun s R => by
  have X' : K.In s.heap := fun a o e => R.base a o (hK a o e)
  obtain ⟨dx, hs, tk, I'⟩ := I.at R
  unfold setItem sequenceKey
  refine wpAny_holding (wpAny_bind (wpAny_bind (I'.type.here ?_)))
  refine wpAny_bind ((anyM_none X' c.ns).here ?_)
  rw [if_pos (show (!false) = true from rfl)]
  refine wpAny_pure (wpAny_bind (special_fn X' I' me.find me.ty (WP.go (h [.ref x, k, v] rfl) R (Step.refl σ s) fun _ σ₁ s₁ R₁ S₁ q => ?_)))
  exact wpAny_pure ⟨σ₁, R₁, S₁, q⟩
theorem delItemI {x l : Addr} {src : Src} {dV : Value} {k : Value} {P : Unit → AH → Prop} (hK : K.In X.base) (c : Cl K C) (me : Me X K C (Str.ofString "__delitem__") src dV) (I : Ins σ x C l)
    (h : CV X A (.ref me.f) [.ref x, pv k] σ fun _ σ' => P () σ') : WP X A (delItem (.ref x) k) σ P := WP.of fun s R => by
  have X' : K.In s.heap := fun a o e => R.base a o (hK a o e)
  obtain ⟨dx, hs, tk, I'⟩ := I.at R
  unfold delItem sequenceKey
  refine wpAny_holding (wpAny_bind (wpAny_bind (I'.type.here ?_)))
  refine wpAny_bind ((anyM_none X' c.ns).here ?_)
  rw [if_pos (show (!false) = true from rfl)]
  refine wpAny_pure (wpAny_bind (special_fn X' I' me.find me.ty (WP.go (h [.ref x, k] rfl) R (Step.refl σ s) fun _ σ₁ s₁ R₁ S₁ q => ?_)))
  exact wpAny_pure ⟨σ₁, R₁, S₁, q⟩

theorem EX.setItemI {o i value : Expr} {ip pos : Pos} {src : Src} {dV : Value} {Q : PF → AH → Prop} (hK : K.In X.base) (c : Cl K C) (me : Me X K C (Str.ofString "__setitem__") src dV)
    (h : EV X A env value σ fun p σ₁ => EV X A env o σ₁ fun q σ₂ => EV X A env i σ₂ fun r σ₃ => ∃ x l, q = .ref x ∧ Ins σ₃ x C l ∧ CV X A (.ref me.f) [.ref x, r, p] σ₃ fun _ σ₄ => Q .next σ₄)
    (hs : swapsWith value (some (.Subscript o i ip)) pos.line env = pure false := by rfl) :
    EX X A env (.Assign [.Subscript o i ip] value pos) σ Q :=
  WP.of fun s R => wpAny_Assign_Subscript (h.go R (Step.refl σ s) fun v σ₁ s₁ R₁ S₁ h₁ => WP.go h₁ R₁ S₁ fun u σ₂ s₂ R₂ S₂ h₂ => WP.go h₂ R₂ S₂ fun w σ₃ s₃ R₃ S₃ ⟨x, l, e, I, q⟩ => by
    rw [pv_ref e]
    exact WP.go (Mine.setItemI (P := fun _ σ' => Q .next σ') hK c me I q) R₃ S₃ fun _ σ₄ s₄ R₄ S₄ q => ⟨σ₄, R₄, S₄, q⟩) hs
theorem EX.delItemI {o i : Expr} {ip pos : Pos} {src : Src} {dV : Value} {Q : PF → AH → Prop} (hK : K.In X.base) (c : Cl K C) (me : Me X K C (Str.ofString "__delitem__") src dV)
    (h : EV X A env o σ fun q σ₂ => EV X A env i σ₂ fun r σ₃ => ∃ x l, q = .ref x ∧ Ins σ₃ x C l ∧ CV X A (.ref me.f) [.ref x, r] σ₃ fun _ σ₄ => Q .next σ₄) :
    EX X A env (.Delete [.Subscript o i ip] pos) σ Q := WP.of fun s R => by
  refine wpAny_Delete (wpAny_deleteEach_cons ?_)
  rw [arm_delete_Subscript]
  refine wpAny_bind (h.go R (Step.refl σ s) fun u σ₂ s₂ R₂ S₂ h₂ => wpAny_bind (wpAny_holding (WP.go h₂ R₂ S₂ fun w σ₃ s₃ R₃ S₃ ⟨x, l, e, I, q⟩ => wpAny_bind (wpAny_standAt ?_))))
  rw [pv_ref e]
  refine wpAny_bind (wpAny_holding (WP.go (Mine.delItemI (P := fun _ σ' => Q .next σ') hK c me I q) R₃ S₃ fun _ σ₄ s₄ R₄ S₄ q => ?_))
  exact wpAny_release (wpAny_deleteEach_nil ⟨σ₄, R₄, S₄, q⟩)

/-- the list's item, put anew -/

theorem setItem_plain {prog : Program} {w : World} {A : Around} {E : Value → Shared → Prop} {s : Shared} {l : Addr} {items : Array Value} {k : Int} {t : Tok} {v : Value} {Q : Unit → Shared → Prop} (hp : s.heap.PlainList l items)
    (h0 : 0 ≤ k) (hfit : k < 2 ^ 63) (hn : k < items.size)
    (hQ : ∀ h', h'.PlainList l (items.setIfInBounds k.toNat v) → Heap.SameBut l s.heap h' → Q () { s with heap := h' }) :
    wpAny (model prog w) A (setItem (.ref l) (.int k t) v) Q E s := by
  obtain ⟨n, ho⟩ := hp
  have hT : s.TypeIs (.ref l) "list" := ⟨_, ho, rfl⟩
  unfold setItem
  refine wpAny_holding (wpAny_bind (wpAny_sequenceKey hT (by decide) ?_))
  refine wpAny_bind (wpAny_callSpecial?_slot (name := Str.ofString "__setitem__") hT PySem.slot_list_setitem
    (wpAny_call_entry PySem.slot_list_setitem hT PySem.entry_list_setitem ?_ (PySem.args_list_setitem _ _ _)))
  show wpAny _ _ (Builtin.List.listSubscript? (.int k t) >>= _) _ _ s
  refine wpAny_bind (wpAny_listSubscript_int (fitsIndex_of h0 hfit) ?_)
  clear hfit
  obtain ⟨j, rfl⟩ := Int.eq_ofNat_of_zero_le h0
  have hj : j < items.size := by omega
  have hx' : items[j]? = some items[j] := Array.getElem?_eq_getElem hj
  show wpAny _ _ ((seqItemAt l j >>= fun r => pure (r.map (j, ·))) >>= _) _ _ s
  refine wpAny_bind (wpAny_bind (wpAny_seqItemAt ho rfl (wpAny_pure ?_)))
  rw [hx']
  show wpAny _ _ (setSeqItemAt l j v >>= _) _ _ s
  have hfin : (s.heap.update l (Obj.mapSeq (·.setIfInBounds j v))).PlainList l (items.setIfInBounds j v) :=
    ⟨_, (Heap.get?_update_self _ ho (by rfl)).trans rfl⟩
  refine wpAny_bind (wpAny_setSeqItemAt ho rfl ?_)
  first
    | exact wpAny_bind (wpAny_pure (wpAny_pure ⟨.none, rfl, wpAny_pure (hQ _ hfin (Heap.SameBut.update ..))⟩))
    | exact wpAny_pure ⟨.none, rfl, wpAny_pure (hQ _ hfin (Heap.SameBut.update ..))⟩
theorem setItemL {l : Addr} {vs : List PV} {k : Nat} {p : PV} {kv v : Value} {P : Unit → AH → Prop} (hl : σ l = some (.list vs)) (ek : pv kv = .int k) (ev : pv v = p) (hk : k < vs.length) (hs : vs.length ≤ sizeLine)
    (h : P () (σ.set l (.list (vs.set k p)))) : WP X A (setItem (.ref l) kv v) σ P := WP.of fun s R => by
  obtain ⟨t, rfl⟩ := pv_int ek
  obtain ⟨items, hp, em⟩ := R.rz _ _ hl
  have hlen : vs.length = items.size := by rw [← em, List.length_map, Array.length_toList]
  refine setItem_plain hp (Int.natCast_nonneg _) (Int.lt_of_lt_of_le (Int.ofNat_lt.mpr hk) (Int.le_trans (Int.ofNat_le.mpr hs) (by decide))) (by omega) fun h' hp' hs' => ?_
  obtain ⟨R', S'⟩ := R.turn hl (h' := h') (tk := s.toks) (p := .list (vs.set k p)) (fun b o hb e => (hs'.2 b hb).trans e) ⟨_, hp', by rw [Array.toList_setIfInBounds, List.map_set, em, ev]; rfl⟩ R.tk
  exact ⟨_, R', S', h⟩
theorem EX.setItemL {o i value : Expr} {ip pos : Pos} {Q : PF → AH → Prop}
    (h : EV X A env value σ fun p σ₁ => EV X A env o σ₁ fun q σ₂ => EV X A env i σ₂ fun r σ₃ => ∃ (l : Addr) (vs : List PV) (k : Nat), q = .ref l ∧ r = .int k ∧ σ₃ l = some (.list vs) ∧ k < vs.length ∧ vs.length ≤ sizeLine ∧ Q .next (σ₃.set l (.list (vs.set k p))))
    (hs : swapsWith value (some (.Subscript o i ip)) pos.line env = pure false := by rfl) :
    EX X A env (.Assign [.Subscript o i ip] value pos) σ Q :=
  WP.of fun s R => wpAny_Assign_Subscript (h.go R (Step.refl σ s) fun v σ₁ s₁ R₁ S₁ h₁ => WP.go h₁ R₁ S₁ fun u σ₂ s₂ R₂ S₂ h₂ => WP.go h₂ R₂ S₂ fun w σ₃ s₃ R₃ S₃ ⟨l, vs, k, e, ek, hl, hk, hs, q⟩ => by
    rw [pv_ref e]
    exact WP.go (Mine.setItemL (P := fun _ σ' => Q .next σ') hl ek rfl hk hs q) R₃ S₃ fun _ σ₄ s₄ R₄ S₄ q => ⟨σ₄, R₄, S₄, q⟩) hs
end
end Mine
end

section
open PySem PySem.W PyProof.Rows Builtin Builtin.Str
namespace Mine

def setCells (σ : AH) : List (Str × Addr) → (Str → Option PV) → AH
  | [], _ => σ
  | (n, c) :: r, cm => (setCells σ r cm).set c (.cell (cm n))
theorem setCells_some {σ : AH} {b : Addr} {p : PO} : ∀ {cs : List (Str × Addr)} {cm : Str → Option PV}, setCells σ cs cm b = some p → σ b = some p ∨ ∃ n, (n, b) ∈ cs
  | [], _, h => .inl h
  | (n, c) :: r, cm, h => by
    by_cases hb : b = c
    · subst hb; exact .inr ⟨n, List.mem_cons_self ..⟩
    · rw [setCells, AH.set_ne _ _ hb] at h
      exact (setCells_some h).imp id fun ⟨n', hn⟩ => ⟨n', List.mem_cons_of_mem _ hn⟩
theorem Real.cells {X : Cx} {σ : AH} {s : Shared} (R : Real X σ s) {cm : Str → Option PV} : ∀ {cs : List (Str × Addr)}, (∀ n c, (n, c) ∈ cs → Rz s.heap c (.cell (cm n)) ∧ X.base.get? c = none) → Real X (setCells σ cs cm) s
  | [], _ => R
  | (n, c) :: r, h => (R.cells (cs := r) fun n' c' hm => h n' c' (List.mem_cons_of_mem _ hm)).put (h n c (List.mem_cons_self ..)).1 (h n c (List.mem_cons_self ..)).2

section
variable {X : Cx} {A : Around} {σ : AH} {Q : PV → AH → Prop}
theorem CC.defC {a : Addr} {o : Obj} {fd : FuncData} {body : List Stmt} {args : Args} {k : Nat} (O : X.Ok) (r : Rm A (k + 1)) (ho : X.base.get? a = some o) (hdata : o.data = .func fd)
    (hcd : X.base.CodeRec fd.code fd.qualname) (hbody : fd.body = .stmts body) (hclo : fd.closure = [])
    (hcs : ∀ L : Nat, ∀ p ∈ cellsFrom (L + 1) fd.scope.names [], (cellsFrom (L + 1) fd.scope.names []).lookup p.1 = some p.2)
    (hb : WP X A.in1 (bindArgs fd args) σ fun binds σ₁ => (∀ L : Nat, ∀ x ∈ binds, fd.scope.names.lookup x.1 = some .local ∨ (fd.scope.names.lookup x.1 = some .cell ∧ ((cellsFrom (L + 1) fd.scope.names []).lookup x.1).isSome = true)) ∧ ∀ L : Nat, (∀ b : Nat, L ≤ b → σ₁ b = none ∧ X.base.get? b = none) →
      Rm (A.deeper (callEnvC fd L a)) k → XS X (A.deeper (callEnvC fd L a)) (callEnvC fd L a) body (setCells (σ₁.set L (.ns fun x => (bindL (callEnvC fd L a).kindOf binds (fun _ => Option.none) x).map pv)) (cellsFrom (L + 1) fd.scope.names []) fun x => (bindC (callEnvC fd L a).kindOf binds (fun _ => Option.none) x).map pv) fun f σ₂ => Q (rt f) σ₂)
    (hco : fd.scope.isCoroutine = false := by rfl) (hgen : fd.scope.isGenerator = false := by rfl) (hk : fd.scope.kind = .function := by rfl) :
    CC X A (.ref a) args σ Q := by
  refine fun s R => codeAny_call_function r.depth (R.base _ _ ho) hdata hco hgen hbody (hcd.keeps R.base) ?_
  refine wpAny_mono (WP.go hb R (Step.refl σ s) (Q' := fun binds s₁ => wpAny _ _ _ _ _ s₁) fun binds σ₁ s₁ R₁ S₁ ⟨hloc, q⟩ => ?_) (fun _ _ x => x) fun _ _ x => x.elim
  rw [hclo]
  refine wpAny_mono (with_tk (Nat.le_refl s₁.toks) (Q := fun env s₂ => s₂.heap.NoLimit ∧ codeAny _ _ _ _ s₂) (wpAny_newFunctionEnv_cells hk (hloc s₁.heap.objs.size) fun env he s₂ x htk => ?_)) (fun _ _ x => x) fun _ _ x => x.elim
  subst he
  have hfr := fresh_from R₁
  refine ⟨(O.lim.keeps R₁.base).keeps x.toInCall.keep, ?_⟩
  refine codeAny_func ?_
  obtain ⟨h₂, tk₂, hs₂⟩ := x.toInCall.same
  have hkeep := x.toInCall.keep
  have hns : s₂.heap.Ns s₁.heap.objs.size _ := x.toInCall.ns
  have hcell := x.cell
  have habove := x.above
  generalize hL : s₁.heap.objs.size = L at hns hcell habove hfr ⊢
  have hfree : ∀ b, L ≤ b → σ₁ b = none ∧ X.base.get? b = none := fun b hb => ⟨(hfr b hb).1, (hfr b hb).2.1⟩
  have hcm : ∀ n c, (n, c) ∈ cellsFrom (L + 1) fd.scope.names [] → L < c ∧ s₂.heap.IsCell c (bindC (callEnvC fd L a).kindOf _ (fun _ => Option.none) n) := fun n c hm => ⟨habove n c hm, hcell n c (hcs L (n, c) hm)⟩
  have R₂ : Real X σ₁ s₂ := by
    rw [hs₂] at hkeep ⊢
    exact (R₁.grow (h' := h₂) (tk := tk₂) hkeep (by rw [hs₂] at htk; exact Nat.le_trans R₁.tk htk)).1
  have R₃ : Real X (σ₁.set L (.ns fun x => (bindL (callEnvC fd L a).kindOf binds (fun _ => Option.none) x).map pv)) s₂ := R₂.put ⟨_, hns, fun y => rfl⟩ (hfree L (Nat.le_refl _)).2
  have R₄ := R₃.cells (cm := fun x => (bindC (callEnvC fd L a).kindOf binds (fun _ => Option.none) x).map pv) (cs := cellsFrom (L + 1) fd.scope.names []) fun n c hm => by
    obtain ⟨h1, o, h2, h3⟩ := hcm n c hm
    exact ⟨⟨o, _, h2, h3, rfl⟩, (hfree c (Nat.le_of_lt h1)).2⟩
  have S₄ : Step σ₁ s₁ (setCells (σ₁.set L (.ns fun x => (bindL (callEnvC fd L a).kindOf binds (fun _ => Option.none) x).map pv)) (cellsFrom (L + 1) fd.scope.names []) fun x => (bindC (callEnvC fd L a).kindOf binds (fun _ => Option.none) x).map pv) s₂ := by
    refine ⟨fun b o _ e => hkeep b o e, fun b p e => ?_, fun i hi => by rw [hs₂], by rw [hs₂]; exact Nat.le_refl _⟩
    rcases setCells_some e with h | ⟨n, hn⟩
    · by_cases hb : b = L
      · subst hb; exact .inr (hfr b (Nat.le_refl _)).2.2
      · rw [AH.set_ne _ _ hb] at h; exact .inl ⟨p, h⟩
    · exact .inr (hfr b (Nat.le_of_lt (hcm n b hn).1)).2.2
  refine wpAny_mono (WP.go (h := q L hfree (r.deeper _)) (Q' := fun f s' => ∃ σ', Real X σ' s' ∧ Step σ s σ' s' ∧ Q (rt (pf f)) σ') R₄ (S₁.trans S₄) fun f σ₃ s₃ R₃ S₃ q => ⟨σ₃, R₃, S₃, q⟩) (fun f s' ⟨σ', R', S', q'⟩ => ?_) fun _ _ x => x.elim
  exact ⟨_, σ', rfl, R', S', by cases f <;> exact q'⟩
end
end Mine
end

section
open PySem PySem.W PyProof.Rows Builtin Builtin.Str
set_option maxRecDepth 100000
namespace Mine

namespace RF
theorem plainAttrs : PlainAttrs "re.Pattern" :=
  ⟨⟨"object.__getattribute__", by rw [typeLookup_type, builtinLookup_eq_fast]; kernel_rfl, by decide +kernel⟩, by rw [typeLookup_type, builtinLookup_eq_fast]; kernel_rfl⟩
theorem slot : Slot "re.Pattern" "search" "re.Pattern.search" :=
  .of (owner := "re.Pattern") (n := "search") (by rw [typeLookup_type, builtinLookup_eq_fast]; kernel_rfl) (by decide +kernel) (by decide +kernel) (by decide +kernel)
    (by first | exact .inl (by decide +kernel) | exact .inr (by decide +kernel)) (by rw [isSubtype_type]; kernel_rfl)
theorem ty : typeOf (.builtin "re.Pattern.search") = pure (.type "method_descriptor") := by show builtinType _ = _; rw [builtinType_eq_fast]; kernel_rfl
theorem entry : entryFor table "re.Pattern.search" = some Builtin.«re.Pattern.search» := entryFor_of_tree (by kernel_rfl)
theorem args (a b : Value) : argsOk "re.Pattern.search" ⟨[a, b], []⟩ := by unfold argsOk; kernel_rfl
end RF

def driveP : Nat → Sre.M → Option Sre.M
  | 0, _ => none
  | n + 1, m =>
    let m := m.runFor Builtin.Re.reTurnSteps
    if m.outcome.isSome then some m else driveP n m
def noHit (code : Array Nat) (x : Str) : Bool := match driveP 200 (Sre.forSearch code x.cps 0 (Min.min (Int.toNat 0) x.cps.size) (Min.min (2 ^ 63 - 1 : Int).toNat x.cps.size) false) with
  | some m => (match m.outcome with | some .failed => true | _ => false)
  | none => false

section
variable {M : Model} {A : Around} {s : Shared}
theorem drive_ok {Q : Sre.M → Shared → Prop} {m' : Sre.M} (h : Q m' s) : ∀ (k n : Nat) (m : Sre.M), k ≤ n → driveP k m = some m' → wpAny M A (Builtin.Re.reDrive n m) Q (fun _ _ => False) s
  | 0, _, _, _, e => by cases e
  | k + 1, 0, _, hk, _ => by omega
  | k + 1, n + 1, m, hk, e => by
    unfold driveP at e
    unfold Builtin.Re.reDrive
    dsimp only at e ⊢
    split at e
    · rename_i hc
      rw [if_pos hc]
      cases e
      exact wpAny_pure h
    · rename_i hc
      rw [if_neg hc]
      exact wpAny_bind (wpAny_rule (drive_ok h k n _ (Nat.le_of_succ_le_succ hk) e))
theorem rules_ok {Q : PUnit → Shared → Prop} (h : Q ⟨⟩ s) (f : Nat → PUnit → Sem (ForInStep PUnit)) (hf : ∀ i u, (∃ t, f i u = (do rule t; pure (.yield ⟨⟩))) ∨ f i u = pure (.yield ⟨⟩)) :
    ∀ l : List Nat, wpAny M A (forIn l PUnit.unit f) Q (fun _ _ => False) s
  | [] => by rw [List.forIn_nil]; exact wpAny_pure h
  | i :: r => by
    rw [List.forIn_cons]
    rcases hf i ⟨⟩ with ⟨t, e⟩ | e
    · rw [e]; exact wpAny_bind (wpAny_bind (wpAny_rule (wpAny_pure (rules_ok h f hf r))))
    · rw [e]; exact wpAny_bind (wpAny_pure (rules_ok h f hf r))
theorem runToEnd_fail {Q : Option Sre.M → Shared → Prop} {m m' : Sre.M} (e : driveP 200 m = some m') (hf : m'.outcome = some .failed) (h : Q none s) : wpAny M A (Builtin.Re.reRunToEnd m) Q (fun _ _ => False) s := by
  unfold Builtin.Re.reRunToEnd
  refine wpAny_bind (drive_ok (m' := m') ?_ 200 (2 ^ 64) m (by decide) e)
  refine wpAny_bind (rules_ok ?_ _ (fun i u => ?_) _)
  · rw [hf]; exact wpAny_pure h
  · split
    · exact .inl ⟨_, rfl⟩
    · exact .inr rfl
end

theorem wp_else {α : Type} {M : Model} {A : Around} {s : Shared} {c : Bool} {t e : Sem α} {Q : α → Shared → Prop} {E : Value → Shared → Prop} (h : wpAny M A e Q E s) (hc : c = false) : wpAny M A (if c = true then t else e) Q E s := by
  subst hc; exact h
/-- a pattern of the text's own -/
def patObj (src : Value) (cd : Addr) : Obj := { cls := .type "re.Pattern", data := .fields #[src, .int 32 0, .int 0 0, .none, .none, .ref cd, .int 0 0] }
structure Pat (X : Cx) (a : Addr) (code : Array Nat) : Prop where
  go : ∃ src fl cd vals n, X.base.get? a = some { cls := .type "re.Pattern", data := .fields #[src, fl, .int 0 0, .none, .none, .ref cd, .int 0 0] } ∧ X.base.get? cd = some { cls := .type "tuple", data := .seq vals n } ∧ ((vals.map Builtin.Re.reRawOf).map (·.toNat)) = code

section
variable {X : Cx} {A : Around} {σ : AH} {Q : PV → AH → Prop}
theorem GMB.search {a : Addr} {code : Array Nat} (P : Pat X a code) : GMB X A (.ref a) (Str.ofString "search") "re.Pattern.search" σ := fun v e pl s Q' R h => by
  rw [pv_ref e] at h ⊢
  obtain ⟨src, fl, cd, vals, n, h1, h2, h3⟩ := P.go
  have ho := R.base _ _ h1
  exact getMethod_builtin ⟨_, ho, rfl⟩ RF.plainAttrs RF.slot RF.ty (fun a ha => by cases ha; exact ⟨_, ho, rfl⟩) h
theorem CV.search {a : Addr} {code : Array Nat} {x : Str} (P : Pat X a code) (hn : noHit code x = true) (h : Q .none σ) : CV X A (.builtin "re.Pattern.search") [.ref a, .str x] σ Q := fun vals e => WP.of fun s R => by
  obtain ⟨v, u, rfl, ev, eu⟩ := map2 e
  obtain ⟨t, rfl⟩ := pv_str eu
  rw [pv_ref ev]
  obtain ⟨src, fl, cd, vals, n, h1, h2, h3⟩ := P.go
  subst h3
  have ho := R.base _ _ h1
  have hc := R.base _ _ h2
  refine wpAny_call (codeAny_call_builtin RF.slot.plain RF.entry (RF.slot.check _ _ _ _ _ _ _ _ ⟨_, ho, rfl⟩ (RF.args _ _) ?_))
  have hm : ∃ m', driveP 200 (Sre.forSearch ((vals.map Builtin.Re.reRawOf).map (·.toNat)) x.cps 0 (Min.min (Int.toNat 0) x.cps.size) (Min.min (2 ^ 63 - 1 : Int).toNat x.cps.size) false) = some m' ∧ m'.outcome = some .failed := by
    unfold noHit at hn
    cases hd : driveP 200 (Sre.forSearch ((vals.map Builtin.Re.reRawOf).map (·.toNat)) x.cps 0 (Min.min (Int.toNat 0) x.cps.size) (Min.min (2 ^ 63 - 1 : Int).toNat x.cps.size) false) with
    | none => rw [hd] at hn; cases hn
    | some m' =>
      rw [hd] at hn
      dsimp only at hn
      split at hn
      · rename_i hf; exact ⟨m', rfl, hf⟩
      · cases hn
  obtain ⟨m', hd, hf⟩ := hm
  unfold Builtin.«re.Pattern.search»
  refine wpAny_bind ?_
  have e1 : Builtin.Re.reNamed "re.Pattern.search" "search" ["string", "pos", "endpos"] 1 [.str x t] [] = pure [some (.str x t), none, none] := by kernel_rfl
  unfold Builtin.Re.reTarget
  dsimp only
  rw [e1]
  refine wpAny_bind (wpAny_pure ?_)
  dsimp only
  refine wpAny_bind (wpAny_pure ?_)
  refine wpAny_bind (wpAny_pure ?_)
  refine wpAny_bind (wpAny_fieldsOf ho rfl ?_)
  have e2 : Builtin.Re.reTextOf (.str x t) = pure (x.cps, 0) := by kernel_rfl
  rw [e2]
  refine wpAny_bind (wpAny_pure ?_)
  dsimp only
  refine wp_else ?_ (by rfl)
  refine wp_else ?_ (by rfl)
  refine wpAny_bind (m := Builtin.Re.reNoCollectionInside (.str x t) 0) (wpAny_pure ?_)
  refine wpAny_bind (wpAny_bind (wpAny_seqItems hc rfl (wpAny_pure ?_)))
  refine wpAny_pure ?_
  unfold Builtin.Re.reAnswer
  refine wpAny_bind ?_
  show wpAny _ A.in1 (Builtin.Re.reRunToEnd (Sre.forSearch ((vals.map Builtin.Re.reRawOf).map (·.toNat)) x.cps 0 (Min.min (Int.toNat 0) x.cps.size) (Min.min (2 ^ 63 - 1 : Int).toNat x.cps.size) false)) _ _ _
  have hgo := fun (Q₀ : Option Sre.M → Shared → Prop) (h₀ : Q₀ none s) => runToEnd_fail (M := model X.prog X.w) (A := A.in1) (Q := Q₀) hd hf h₀
  exact wpAny_mono (hgo _ (wpAny_pure ⟨σ, R, Step.refl σ s, h⟩)) (fun _ _ x => x) fun _ _ (x : False) => x.elim
end
end Mine
end

section
open PySem PySem.W PyProof.Rows Builtin Builtin.Str
set_option maxRecDepth 100000
namespace Mine

inductive All2 {α β : Type} (R : α → β → Prop) : List α → List β → Prop
  | nil : All2 R [] []
  | cons {a b as bs} : R a b → All2 R as bs → All2 R (a :: as) (b :: bs)
theorem All2.map {α β γ : Type} {R : α → β → Prop} {f : γ → α} {g : γ → β} (h : ∀ c, R (f c) (g c)) : ∀ l : List γ, All2 R (l.map f) (l.map g)
  | [] => .nil
  | c :: r => .cons (h c) (All2.map h r)

def Rd (X : Cx) (σ : AH) (p : PV) (d : PyData) : Prop := ∀ s, Real X σ s → ∀ v, pv v = p → ∃ as, Reads s.heap v d as
section
variable {X : Cx} {A : Around} {σ : AH} {Q : PV → AH → Prop}
theorem Rd.int (i : Int) : Rd X σ (.int i) (.int i) := fun s R v e => by obtain ⟨t, rfl⟩ := pv_int e; exact ⟨_, .int i t⟩
theorem Rd.str (i : PySem.Str) : Rd X σ (.str i) (.str i) := fun s R v e => by obtain ⟨t, rfl⟩ := pv_str e; exact ⟨_, .str i t⟩
theorem rd_all {s : Shared} (R : Real X σ s) : ∀ {vs : List PV} {ds : List PyData} {items : List Value}, All2 (Rd X σ) vs ds → items.map pv = vs → ∃ as, ReadsAll s.heap items ds as
  | [], [], items, _, e => by
    have : items = [] := by simpa using e
    subst this; exact ⟨_, .nil⟩
  | v :: vs, d :: ds, items, .cons h r, e => by
    match items, e with
    | i :: is, e =>
      simp only [List.map_cons, List.cons.injEq] at e
      obtain ⟨as, h1⟩ := h s R i e.1
      obtain ⟨bs, h2⟩ := rd_all R r e.2
      exact ⟨_, .cons h1 h2⟩
    | [], e => simp at e
theorem Rd.list {l : Addr} {vs : List PV} {ds : List PyData} (hl : σ l = some (.list vs)) (h : All2 (Rd X σ) vs ds) : Rd X σ (.ref l) (.list ds) := fun s R v e => by
  rw [pv_ref e]
  obtain ⟨items, ⟨n, hp⟩, em⟩ := R.rz _ _ hl
  obtain ⟨as, h1⟩ := rd_all R h em
  exact ⟨_, .list hp rfl rfl h1⟩
theorem Rd.ints {l : Addr} {ns : List Int} (hl : σ l = some (.list (ns.map PV.int))) : Rd X σ (.ref l) (.list (ns.map PyData.int)) := Rd.list hl (All2.map (fun i => Rd.int i) ns)
theorem Rd.strs {l : Addr} {ns : List PySem.Str} (hl : σ l = some (.list (ns.map PV.str))) : Rd X σ (.ref l) (.list (ns.map PyData.str)) := Rd.list hl (All2.map (fun i => Rd.str i) ns)
theorem CMP.eqD {a b : PV} {da db : PyData} {k : Nat} (r : Rm A k) (ha : Rd X σ a da) (hb : Rd X σ b db) (sa : SeqAt.shaped da = true) (sb : SeqAt.shaped db = true) (h : Q (.bool (PyData.eqv da db)) σ) : CMP X A .Eq a b σ Q := fun va vb ea eb => WP.of fun s R => by
  obtain ⟨as, h1⟩ := ha s R va ea
  obtain ⟨bs, h2⟩ := hb s R vb eb
  exact SeqAt.compareEq_shaped h1 h2 sa sb (by have := r.u; show A.units + 64 < 9900; omega) ⟨σ, R, Step.refl σ s, h⟩
theorem CMP.neD {a b : PV} {da db : PyData} {k : Nat} (r : Rm A k) (ha : Rd X σ a da) (hb : Rd X σ b db) (sa : SeqAt.shaped da = true) (sb : SeqAt.shaped db = true) (h : Q (.bool (!PyData.eqv da db)) σ) : CMP X A .NotEq a b σ Q := fun va vb ea eb => WP.of fun s R => by
  obtain ⟨as, h1⟩ := ha s R va ea
  obtain ⟨bs, h2⟩ := hb s R vb eb
  exact SeqAt.compareNe_shaped h1 h2 sa sb (by have := r.u; show A.units + 64 < 9900; omega) ⟨σ, R, Step.refl σ s, h⟩

def eqInt (k : Int) : Value → Bool
  | .int i _ => i == k
  | _ => false
theorem CMP.inInts {l : Addr} {ns : List Int} {k : Int} (hl : σ l = some (.list (ns.map PV.int))) (h : Q (.bool (ns.any (· == k))) σ) : CMP X A .In (.int k) (.ref l) σ Q := fun va vb ea eb => WP.of fun s R => by
  obtain ⟨t, rfl⟩ := pv_int ea
  rw [pv_ref eb]
  obtain ⟨items, hp, em⟩ := R.rz _ _ hl
  have hany : ∀ {its : List Value} {ms : List Int}, its.map pv = ms.map PV.int → (its.any (eqInt k) = ms.any (· == k)) ∧ ∀ y ∈ its, ∃ i u, y = .int i u := by
    intro its
    induction its with
    | nil => intro ms e; cases ms with
      | nil => exact ⟨rfl, fun _ h => nomatch h⟩
      | cons _ _ => simp at e
    | cons y ys ih => intro ms e; cases ms with
      | nil => simp at e
      | cons m ms =>
        simp only [List.map_cons, List.cons.injEq] at e
        obtain ⟨u, rfl⟩ := pv_int e.1
        obtain ⟨h1, h2⟩ := ih e.2
        refine ⟨by simp [eqInt, h1], fun y hy => ?_⟩
        rcases List.mem_cons.mp hy with rfl | hy
        · exact ⟨_, _, rfl⟩
        · exact h2 y hy
  obtain ⟨h1, h2⟩ := hany em
  refine SeqInW.in_listW (eqInt k) (fun y hy => ?_) hp.isList ?_
  · obtain ⟨i, u, rfl⟩ := h2 y (by simpa using hy)
    exact MeetsSeq.EqGives.int i k u t
  · have : items.any (eqInt k) = ns.any (· == k) := by rw [← h1]; simp
    rw [this]; exact ⟨σ, R, Step.refl σ s, h⟩

theorem TRU.none {Q : Bool → AH → Prop} (h : Q false σ) : TRU X A .none σ Q := fun va e => WP.of fun s R => by
  rw [pv_none e]; exact PyProof.Rows.truthy_none ⟨σ, R, Step.refl σ s, h⟩

theorem BIN.floordiv {i j : Int} (hj : j ≠ 0) (hs : j.natAbs < 1073741824) (h : Q (.int (i.fdiv j)) σ) : BIN X A .FloorDiv (.int i) (.int j) σ Q := fun va vb ea eb => WP.of fun s R => by
  obtain ⟨t, rfl⟩ := pv_int ea; obtain ⟨u, rfl⟩ := pv_int eb
  exact AutoIntOps.floordiv_1 (by simpa using hj) (by rw [PyProof.noPylong_small hs]; exact Bool.false_ne_true) ⟨σ, R.tick _, Step.toks σ s _, h⟩
theorem BIN.pow {i : Int} {n : Nat} (h1 : 2 ≤ i) (hb : Builtin.Int.intTooBig (((Builtin.Int.intBits i : Nat) : Int) * n) = false) (h : Q (.int (i ^ n)) σ) : BIN X A .Pow (.int i) (.int n) σ Q := fun va vb ea eb => WP.of fun s R => by
  obtain ⟨t, rfl⟩ := pv_int ea; obtain ⟨u, rfl⟩ := pv_int eb
  cases n with
  | zero => exact AutoIntOps.pow_0 (Int.le_refl _) rfl ⟨σ, R.tick _, Step.toks σ s _, by simpa [pv] using h⟩
  | succ m => exact AutoIntOps.pow_4 (Int.natCast_nonneg _) (by simp; omega) (by simp; omega) (by simp; omega) (by rw [hb]; exact Bool.false_ne_true) ⟨σ, R.tick _, Step.toks σ s _, h⟩
theorem rep_size : ∀ (n : Nat) (acc c : Array Nat), (List.foldl (fun x1 x2 => x1 ++ x2) acc (List.replicate n c)).size = acc.size + n * c.size
  | 0, acc, c => by simp
  | n + 1, acc, c => by rw [List.replicate_succ, List.foldl_cons, rep_size n]; simp; rw [Nat.succ_mul]; omega
/-- a text, n times -/
def times (x : PySem.Str) (n : Int) : PySem.Str := ⟨(List.replicate n.toNat x.cps).foldl (· ++ ·) #[]⟩
theorem BIN.mulStr {x : PySem.Str} {n : Int} (h0 : x.length = 1) (hn : n ≤ 1000) (hl : -1000 ≤ n) (h : Q (.str (times x n)) σ) : BIN X A .Mult (.str x) (.int n) σ Q := fun va vb ea eb => WP.of fun s R => by
  obtain ⟨t, rfl⟩ := pv_str ea; obtain ⟨u, rfl⟩ := pv_int eb
  refine P.mul_str (by simp; omega) (fun h1 h2 => ?_) (fun h1 h2 => ?_) ?_
  · rw [h0]
    have : (1 : Int) ≤ (2 ^ 63 - 1) / n := by
      rw [Int.le_ediv_iff_mul_le (by omega)]; omega
    omega
  · rw [h0]; unfold tooLong sizeLine; simp; omega
  · by_cases h1 : n < 1
    · rw [if_pos h1]
      have e : times x n = PySem.Str.empty := by
        unfold times
        have : n.toNat = 0 := by omega
        rw [this]; rfl
      rw [e] at h
      exact ⟨by show 0 ≤ sizeLine; decide, σ, R.tick _, Step.toks σ s _, h⟩
    · rw [if_neg h1]
      by_cases h2 : (n == 1 || x.length == 0) = true
      · rw [if_pos h2]
        have hn1 : n = 1 := by simpa [h0] using h2
        have e : times x n = x := by
          unfold times
          rw [hn1]
          cases x with | mk c => simp
        rw [e] at h
        exact ⟨σ, R, Step.refl σ s, h⟩
      · rw [if_neg h2]
        refine ⟨?_, σ, R.tick _, Step.toks σ s _, h⟩
        show (List.foldl (fun x1 x2 => x1 ++ x2) #[] (List.replicate n.toNat x.cps)).size ≤ sizeLine
        rw [rep_size]
        have : x.cps.size = 1 := h0
        rw [this]; unfold sizeLine; simp; omega
end
end Mine
end

section
open PySem PySem.W PyProof.Rows Builtin Builtin.Str
set_option maxRecDepth 100000
namespace Mine

def dq : Str := Str.ofString "\""
def stripGo (x : Str) : List (Nat × List Nat) → Nat → Option Nat → List Str → Option (Nat × List Str)
  | [], st, _, res => some (st, res)
  | (p, c) :: r, st, op, res =>
    if (⟨c.toArray⟩ : Str) = dq then
      match op with
      | none => stripGo x r st (some p) res
      | some o => if st ≤ o ∧ o ≤ x.length then stripGo x r (p + 1) none (if st = o then res else res ++ [cut x st o]) else none
    else stripGo x r st op res
def stripP (x : Str) : Option Str :=
  if 1000 < x.length then none else
  if Txt.contains x dq = false then some x else
  if escEnd x.cps.toList false then none else
  match stripGo x (esc x.cps.toList 0 false) 0 none [] with
  | none => none
  | some (st, res) =>
    let l := if st < x.length then res ++ [cut x st x.length] else res
    if JoinOk (Str.ofString "") l = true then some (Txt.join (Str.ofString "") l) else none
theorem esc_len : ∀ (l : List Nat) (p : Nat) (f : Bool), (esc l p f).length ≤ l.length
  | [], _, _ => Nat.le_refl _
  | c :: r, p, true => Nat.succ_le_succ (esc_len r (p + 1) false)
  | c :: r, p, false => by
    unfold esc
    split
    · exact Nat.le_succ_of_le (esc_len r (p + 1) true)
    · exact Nat.succ_le_succ (esc_len r (p + 1) false)

/-- what is known of the text's own top: the reading of brackets -/
structure KnC (X : Cx) where
  ok : X.Ok
  aE : Addr
  mE : FM
  fE : Fn X aE escSrc mE
  gE : X.mg (Str.ofString "_iter_escaped_chars") = some (.ref aE)
  aS : Addr
  mS : FM
  fS : Fn X aS stripSrc mS
  gS : X.mg (Str.ofString "_strip_quoted_realnames") = some (.ref aS)
  aC : Addr
  mC : FM
  fC : Fn X aC checkSrc mC
  gC : X.mg (Str.ofString "_check_parenthesis") = some (.ref aC)
  nEnum : X.mg (Str.ofString "enumerate") = none
  bEnum : X.mb (Str.ofString "enumerate") = some (.type "enumerate")
  nLen : X.mg (Str.ofString "len") = none
  bLen : X.mb (Str.ofString "len") = some (.builtin "len")

def opP : Option Nat → PV
  | none => .none
  | some o => .int o

section
variable {X : Cx} {A : Around} {σ : AH} {Q : PV → AH → Prop}
theorem AH.le_setN {σ τ : AH} (h : σ.le τ) {a : Addr} {p : PO} (ha : σ a = none) : σ.le (τ.set a p) := fun b q e => by
  rw [AH.set_ne _ _ (fun z => by rw [z, ha] at e; cases e)]; exact h b q e

theorem ST.up {env : Env} {x : Str} {p : PV} {L : Addr} {m : Str → Option PV} {Q : AH → Prop} (h : Q (σ.set L (.ns (upd m x p)))) (hL : env.locals = L := by rfl)
    (hl : env.kindOf x = some .local := by rfl) (hp : (env.scope.kind == .class || (env.scope.kind == .module && env.locals != env.globals)) = false := by rfl) : ST X A env x p (σ.set L (.ns m)) Q := by
  subst hL
  exact ST.loc (AH.set_self ..) (by rw [AH.set_set]; exact h) hl hp
theorem ST.at {env : Env} {x : Str} {p : PV} {L : Addr} {m : Str → Option PV} {Q : AH → Prop} (hm : σ L = some (.ns m)) (h : Q (σ.set L (.ns (upd m x p)))) (hL : env.locals = L := by rfl)
    (hl : env.kindOf x = some .local := by rfl) (hp : (env.scope.kind == .class || (env.scope.kind == .module && env.locals != env.globals)) = false := by rfl) : ST X A env x p σ Q := by
  subst hL
  exact ST.loc hm h hl hp

theorem CV.strip (k : KnC X) {n : Nat} (r : Rm A (n + 2)) {x y : Str} (hs : stripP x = some y) (hQ : ∀ σ', σ.le σ' → Q (.str y) σ') : CV X A (.ref k.aS) [.str x] σ Q := by
  intro vals e
  obtain ⟨v, rfl, ev⟩ := map1 e
  obtain ⟨t, rfl⟩ := pv_str ev
  obtain ⟨⟨o, ho, hd⟩, hc⟩ := k.fS
  unfold stripP at hs
  by_cases h1000 : 1000 < x.length
  · rw [if_pos h1000] at hs; cases hs
  rw [if_neg h1000] at hs
  have hxs : x.length ≤ sizeLine := Nat.le_trans (Nat.not_lt.mp h1000) (by decide)
  refine CC.wv (args := ⟨[.str x t], []⟩) (CC.def k.ok r ho hd hc rfl (bind_eq (binds := [(Str.ofString "addr", .str x t)]) (by rfl) ⟨by intro y hy; rw [List.mem_singleton.mp hy]; rfl, fun L hL rL => ?_⟩) (by show ∀ x ∈ stripSrc.scope.names, x.2 ≠ .cell; decide +kernel))
  have hσL : σ L = none := (hL L (Nat.le_refl _)).1
  have hbL : X.base.get? L = none := (hL L (Nat.le_refl _)).2
  refine XS.cons (EX.if (TS.cmp (EV.str (EV.loc (AH.set_self ..) (by rfl) (CMP.notin_s ⟨_, rfl, ?_⟩)))))
  refine ⟨fun hc => ?_, fun hc => ?_⟩
  · refine XS.cons (EX.ret (EV.loc (AH.set_self ..) (by rfl) ?_))
    have hcon : Txt.contains x dq = false := by
      have h2 : (!Txt.contains x (Str.ofString "\"")) = true := hc
      show Txt.contains x (Str.ofString "\"") = false
      simpa using h2
    rw [if_pos hcon] at hs
    cases hs
    exact hQ _ (AH.le_setN (AH.le_refl _) hσL)
  · have hcon : ¬ Txt.contains x dq = false := by
      intro z
      rw [show Txt.contains x (Str.ofString "\"") = false from z] at hc
      cases hc
    rw [if_neg hcon] at hs
    refine XS.nil ?_
    by_cases hend : escEnd x.cps.toList false = true
    · rw [if_pos hend] at hs; cases hs
    rw [if_neg hend] at hs
    cases hgo : stripGo x (esc x.cps.toList 0 false) 0 none [] with
    | none => rw [hgo] at hs; cases hs
    | some fin =>
      rw [hgo] at hs
      dsimp only at hs
      refine XS.cons (EX.assign (EV.int (ST.up ?_)))
      refine XS.cons (EX.assign (EV.noneC (ST.up ?_)))
      refine XS.cons (EX.assign (EV.list ⟨Nat.zero_le _, fun D hD hDb => ?_⟩))
      have hDL : D ≠ L := fun z => by rw [z, AH.set_self] at hD; cases hD
      have hσD : σ D = none := by rw [AH.set_ne _ _ hDL] at hD; exact hD
      refine ST.at (by rw [AH.set_ne _ _ (Ne.symm hDL), AH.set_self]) ?_
      refine XS.cons (EX.forEsc k.ok rL k.nEnum k.bEnum k.gE k.fE (EV.loc (AH.set_self ..) (by rfl) ⟨x, fun i σ' => ∃ m st op res, σ.le σ' ∧ σ' L = some (.ns m) ∧ σ' D = some (.list (res.map PV.str)) ∧ m (Str.ofString "addr") = some (.str x) ∧ m (Str.ofString "result") = some (.ref D) ∧
          m (Str.ofString "start") = some (.int (st : Nat)) ∧ m (Str.ofString "open_pos") = some (opP op) ∧ res.length ≤ i ∧ stripGo x ((esc x.cps.toList 0 false).drop i) st op res = some fin, rfl, by simpa using hend, ?_, ?_, ?_⟩))
      · exact ⟨_, 0, none, [], AH.le_setN (AH.le_setN (AH.le_setN (AH.le_refl _) hσL) hσD) hσL, AH.set_self .., by rw [AH.set_ne _ _ hDL, AH.set_self]; rfl, rfl, rfl, rfl, rfl, Nat.zero_le _, hgo⟩
      · rintro i hi σ' T ⟨m, st, op, res, hle, hmL, hmD, h1, h2, h3, h4, hlen, hgo'⟩ hT hTb
        generalize hit : (esc x.cps.toList 0 false)[i] = it at *
        obtain ⟨p, c⟩ := it
        have hdrop : (esc x.cps.toList 0 false).drop i = (p, c) :: (esc x.cps.toList 0 false).drop (i + 1) := by rw [List.drop_eq_getElem_cons hi, hit]
        rw [hdrop] at hgo'
        have hTL : T ≠ L := fun z => by rw [z, hmL] at hT; cases hT
        have hTD : T ≠ D := fun z => by rw [z, hmD] at hT; cases hT
        refine ASG.tup2 rL.hh (AH.set_self ..) (ST.at (by rw [AH.set_ne _ _ (Ne.symm hTL)]; exact hmL) (ST.up ?_))
        generalize hτ : σ'.set T (.tuple [.int (p : Nat), .str ⟨c.toArray⟩]) = τ
        have hστ : σ.le τ := by rw [← hτ]; exact AH.le_setN hle (by cases q : σ T with | none => rfl | some z => rw [hle T z q] at hT; cases hT)
        have hτD : τ D = some (.list (res.map PV.str)) := by rw [← hτ, AH.set_ne _ _ (Ne.symm hTD)]; exact hmD
        generalize hm2 : upd (upd m (Str.ofString "pos") (.int (p : Nat))) (Str.ofString "ch") (.str ⟨c.toArray⟩) = m2
        have g1 : m2 (Str.ofString "addr") = some (.str x) := by rw [← hm2]; exact h1
        have g2 : m2 (Str.ofString "result") = some (.ref D) := by rw [← hm2]; exact h2
        have g3 : m2 (Str.ofString "start") = some (.int (st : Nat)) := by rw [← hm2]; exact h3
        have g4 : m2 (Str.ofString "open_pos") = some (opP op) := by rw [← hm2]; exact h4
        have g5 : m2 (Str.ofString "pos") = some (.int (p : Nat)) := by rw [← hm2]; rfl
        have g6 : m2 (Str.ofString "ch") = some (.str ⟨c.toArray⟩) := by rw [← hm2]; rfl
        clear hm2 h1 h2 h3 h4 hmL hmD hτ
        have hLs : (τ.set L (.ns m2)) L = some (.ns m2) := AH.set_self ..
        have hDs : (τ.set L (.ns m2)) D = some (.list (res.map PV.str)) := by rw [AH.set_ne _ _ hDL]; exact hτD
        unfold stripGo at hgo'
        refine XS.cons (EX.if (TS.cmp (EV.loc hLs g6 (EV.str (CMP.eq_s ⟨_, rfl, fun hc => ?_, fun hc => ?_⟩)))))
        · have hcd : (⟨c.toArray⟩ : Str) = dq := of_decide_eq_true hc
          rw [if_pos hcd] at hgo'
          refine XS.cons (EX.if (TS.cmp (EV.loc hLs g4 (EV.noneC (CMP.is_none ⟨_, rfl, fun ho => ?_, fun ho => ?_⟩)))))
          · cases op with
            | some o => simp [opP] at ho
            | none =>
              dsimp only at hgo'
              refine XS.cons (EX.assign (EV.loc hLs g5 (ST.up ?_)))
              refine XS.nil (XS.nil (XS.nil ?_))
              exact ⟨_, st, some p, res, AH.le_setN hστ hσL, AH.set_self .., by rw [AH.set_ne _ _ hDL]; exact hτD, g1, g2, g3, rfl, Nat.le_succ_of_le hlen, hgo'⟩
          · cases op with
            | none => simp [opP] at ho
            | some o =>
              dsimp only at hgo'
              by_cases hb : st ≤ o ∧ o ≤ x.length
              · rw [if_pos hb] at hgo'
                refine XS.cons (EX.if (TS.cmp (EV.loc hLs g3 (EV.loc hLs g4 (CMP.ne_i ⟨_, rfl, fun hn => ?_, fun hn => ?_⟩)))))
                · have hne : ¬ st = o := by
                    have : ((st : Int) != (o : Int)) = true := hn
                    simp at this; omega
                  rw [if_neg hne] at hgo'
                  refine XS.cons (EX.expr (EV.methBi (EV.loc hLs g2 ⟨GMB.append hDs, EV.sliceStr (EV.loc hLs g1 (EV.loc hLs g3 (EV.loc hLs g4 ⟨x, st, o, rfl, rfl, rfl, hxs, hb.1, hb.2, ?_⟩)))⟩)))
                  refine CV.append hDs (by simp; have := esc_len x.cps.toList 0 false; simp at this; have : res.length ≤ x.cps.size := by omega
                                           exact Nat.le_trans this hxs) ⟨fun a => by simp, ?_⟩
                  refine XS.nil ?_
                  have hLs2 : ((τ.set L (.ns m2)).set D (.list (res.map PV.str ++ [.str (cut x st o)]))) L = some (.ns m2) := by rw [AH.set_ne _ _ (Ne.symm hDL)]; exact hLs
                  refine XS.cons (EX.assign (EV.bin (EV.loc hLs2 g5 (EV.int (BIN.add (ST.at hLs2 ?_))))))
                  refine XS.cons (EX.assign (EV.noneC (ST.up ?_)))
                  refine XS.nil (XS.nil (XS.nil ?_))
                  exact ⟨_, p + 1, none, res ++ [cut x st o], AH.le_setN (AH.le_setN (AH.le_setN hστ hσL) hσD) hσL, AH.set_self .., by rw [AH.set_ne _ _ hDL, AH.set_self]; simp, g1, g2, by show some (PV.int _) = _; rfl, rfl, by simp; omega, hgo'⟩
                · have hne : st = o := by
                    have : ((st : Int) != (o : Int)) = false := hn
                    simp at this; omega
                  rw [if_pos hne] at hgo'
                  refine XS.nil ?_
                  refine XS.cons (EX.assign (EV.bin (EV.loc hLs g5 (EV.int (BIN.add (ST.up ?_))))))
                  refine XS.cons (EX.assign (EV.noneC (ST.up ?_)))
                  refine XS.nil (XS.nil (XS.nil ?_))
                  exact ⟨_, p + 1, none, res, AH.le_setN hστ hσL, AH.set_self .., by rw [AH.set_ne _ _ hDL]; exact hτD, g1, g2, rfl, rfl, Nat.le_succ_of_le hlen, hgo'⟩
              · rw [if_neg hb] at hgo'; cases hgo'
        · have hcd : ¬ (⟨c.toArray⟩ : Str) = dq := by
            intro z
            have h9 : decide ((⟨c.toArray⟩ : Str) = dq) = false := hc
            simp [z] at h9
          rw [if_neg hcd] at hgo'
          refine XS.nil (XS.nil ?_)
          exact ⟨m2, st, op, res, AH.le_setN hστ hσL, hLs, hDs, g1, g2, g3, g4, Nat.le_succ_of_le hlen, hgo'⟩
      · rintro σ' ⟨m, st, op, res, hle, hmL, hmD, h1, h2, h3, h4, hlen, hgo'⟩
        rw [List.drop_length] at hgo'
        have hfin : fin = (st, res) := by simpa [stripGo] using hgo'.symm
        subst hfin
        dsimp only at hs
        have hres : res.length ≤ sizeLine := by
          have h5 := esc_len x.cps.toList 0 false
          simp only [Array.length_toList] at h5
          exact Nat.le_trans (Nat.le_trans hlen h5) hxs
        refine XS.cons (EX.if (TS.cmp (EV.loc hmL h3 (EV.callBi k.ok k.nLen k.bLen (EV.loc hmL h1 (CV.lenStr hxs (CMP.lt_i ⟨_, rfl, fun hc => ?_, fun hc => ?_⟩)))))))
        · have hlt : st < x.length := by simpa using hc
          rw [if_pos hlt] at hs
          refine XS.cons (EX.expr (EV.methBi (EV.loc hmL h2 ⟨GMB.append hmD, EV.sliceStrFrom (EV.loc hmL h1 (EV.loc hmL h3 ⟨x, st, rfl, rfl, hxs, Nat.le_of_lt hlt, ?_⟩))⟩)))
          refine CV.append hmD (by simpa using hres) ⟨fun a => by simp, XS.nil ?_⟩
          split at hs
          · rename_i hok
            cases hs
            have hLs2 : (σ'.set D (.list (res.map PV.str ++ [.str (cut x st x.length)]))) L = some (.ns m) := by rw [AH.set_ne _ _ (Ne.symm hDL)]; exact hmL
            refine XS.cons (EX.ret (EV.methBi (EV.str ⟨GMB.join, ?_⟩)))
            · refine EV.loc hLs2 h2 ?_
              refine CV.join (texts := res ++ [cut x st x.length]) (by rw [AH.set_self]; simp) hok ?_
              exact hQ _ (AH.le_setN hle hσD)
          · cases hs
        · have hlt : ¬ st < x.length := by
            intro z
            have : decide ((st : Int) < (x.length : Int)) = true := by simpa using z
            rw [this] at hc; cases hc
          rw [if_neg hlt] at hs
          refine XS.nil ?_
          split at hs
          · rename_i hok
            cases hs
            refine XS.cons (EX.ret (EV.methBi (EV.str ⟨GMB.join, ?_⟩)))
            · refine EV.loc hmL h2 ?_
              refine CV.join hmD hok ?_
              exact hQ _ hle
          · cases hs
end
end Mine
end

section
open PySem PySem.W PyProof.Rows Builtin Builtin.Str
set_option maxRecDepth 100000
namespace Mine

def lb : Str := Str.ofString "("
def rb : Str := Str.ofString ")"
def parGo : List (Nat × List Nat) → Int → Bool
  | [], d => d == 0
  | (p, c) :: r, d => if (⟨c.toArray⟩ : Str) = lb then parGo r (d + 1) else if (⟨c.toArray⟩ : Str) = rb then (if d - 1 < 0 then false else parGo r (d - 1)) else parGo r d
def checkP (x : Str) : Option Bool := match stripP x with
  | none => none
  | some y => if escEnd y.cps.toList false then none else some (parGo (esc y.cps.toList 0 false) 0)

section
variable {X : Cx} {A : Around} {σ : AH} {Q : PV → AH → Prop}
theorem CV.check (k : KnC X) {n : Nat} (r : Rm A (n + 3)) {x : Str} {b : Bool} (hs : checkP x = some b) (hQ : ∀ σ', σ.le σ' → Q (.bool b) σ') : CV X A (.ref k.aC) [.str x] σ Q := by
  intro vals e
  obtain ⟨v, rfl, ev⟩ := map1 e
  obtain ⟨t, rfl⟩ := pv_str ev
  obtain ⟨⟨o, ho, hd⟩, hc⟩ := k.fC
  obtain ⟨⟨oS, hoS, hdS⟩, hcS⟩ := k.fS
  unfold checkP at hs
  cases hst : stripP x with
  | none => rw [hst] at hs; cases hs
  | some y =>
    rw [hst] at hs
    dsimp only at hs
    by_cases hend : escEnd y.cps.toList false = true
    · rw [if_pos hend] at hs; cases hs
    rw [if_neg hend] at hs
    have hb : parGo (esc y.cps.toList 0 false) 0 = b := Option.some.inj hs
    refine CC.wv (args := ⟨[.str x t], []⟩) (CC.def k.ok r ho hd hc rfl (bind_eq (binds := [(Str.ofString "addr", .str x t)]) (by rfl) ⟨by intro y hy; rw [List.mem_singleton.mp hy]; rfl, fun L hL rL => ?_⟩) (by show ∀ x ∈ checkSrc.scope.names, x.2 ≠ .cell; decide +kernel))
    have hσL : σ L = none := (hL L (Nat.le_refl _)).1
    refine XS.cons (EX.assign (EV.callDef k.ok k.gS hoS hdS (EV.loc (AH.set_self ..) (by rfl) (CV.strip k rL hst fun σ' hle => ?_))))
    have hσ' : σ.le σ' := AH.le_trans (AH.le_setN (AH.le_refl _) hσL) hle
    have hL' : σ' L = some (.ns (bindP [(Str.ofString "addr", .str x t)])) := hle L _ (AH.set_self ..)
    refine ST.at hL' ?_
    refine XS.cons (EX.assign (EV.int (ST.up ?_)))
    refine XS.cons (EX.forEsc k.ok rL k.nEnum k.bEnum k.gE k.fE (EV.loc (AH.set_self ..) (by rfl) ⟨y, fun i σ' => ∃ (m : Str → Option PV) (d : Int), σ.le σ' ∧ σ' L = some (.ns m) ∧ m (Str.ofString "opens") = some (.int d) ∧ parGo ((esc y.cps.toList 0 false).drop i) d = b, rfl, by simpa using hend, ?_, ?_, ?_⟩))
    · exact ⟨_, 0, AH.le_setN hσ' hσL, AH.set_self .., rfl, hb⟩
    · rintro i hi σ' T ⟨m, d, hle, hmL, h1, hgo⟩ hT hTb
      generalize hit : (esc y.cps.toList 0 false)[i] = it at *
      obtain ⟨p, c⟩ := it
      have hdrop : (esc y.cps.toList 0 false).drop i = (p, c) :: (esc y.cps.toList 0 false).drop (i + 1) := by rw [List.drop_eq_getElem_cons hi, hit]
      rw [hdrop] at hgo
      have hTL : T ≠ L := fun z => by rw [z, hmL] at hT; cases hT
      refine ASG.tup2 rL.hh (AH.set_self ..) (ST.at (by rw [AH.set_ne _ _ (Ne.symm hTL)]; exact hmL) (ST.up ?_))
      generalize hτ : σ'.set T (.tuple [.int (p : Nat), .str ⟨c.toArray⟩]) = τ
      have hστ : σ.le τ := by rw [← hτ]; exact AH.le_setN hle (by cases q : σ T with | none => rfl | some z => rw [hle T z q] at hT; cases hT)
      generalize hm2 : upd (upd m (Str.ofString "pos") (.int (p : Nat))) (Str.ofString "ch") (.str ⟨c.toArray⟩) = m2
      have g1 : m2 (Str.ofString "opens") = some (.int d) := by rw [← hm2]; exact h1
      have g6 : m2 (Str.ofString "ch") = some (.str ⟨c.toArray⟩) := by rw [← hm2]; rfl
      clear hm2 h1 hmL hτ
      have hLs : (τ.set L (.ns m2)) L = some (.ns m2) := AH.set_self ..
      unfold parGo at hgo
      refine XS.cons (EX.if (TS.cmp (EV.loc hLs g6 (EV.str (CMP.eq_s ⟨_, rfl, fun hc => ?_, fun hc => ?_⟩)))))
      · have hcd : (⟨c.toArray⟩ : Str) = lb := of_decide_eq_true hc
        rw [if_pos hcd] at hgo
        refine XS.cons (EX.aug hLs g1 (EV.int (IOP.add (ST.up ?_))))
        refine XS.nil (XS.nil ?_)
        exact ⟨_, d + 1, AH.le_setN hστ hσL, AH.set_self .., rfl, hgo⟩
      · have hcd : ¬ (⟨c.toArray⟩ : Str) = lb := of_decide_eq_false hc
        rw [if_neg hcd] at hgo
        refine XS.cons (EX.if (TS.cmp (EV.loc hLs g6 (EV.str (CMP.eq_s ⟨_, rfl, fun hc => ?_, fun hc => ?_⟩)))))
        · have hcd : (⟨c.toArray⟩ : Str) = rb := of_decide_eq_true hc
          rw [if_pos hcd] at hgo
          refine XS.cons (EX.aug hLs g1 (EV.int (IOP.sub (ST.up ?_))))
          refine XS.cons (EX.if (TS.cmp (EV.loc (AH.set_self ..) (by rfl) (EV.int (CMP.lt_i ⟨_, rfl, fun hc => ?_, fun hc => ?_⟩)))))
          · have hlt : d - 1 < 0 := of_decide_eq_true hc
            rw [if_pos hlt] at hgo
            refine XS.cons (EX.ret (EV.bool ?_))
            have := hQ _ (AH.le_setN hστ hσL (p := .ns (upd m2 (Str.ofString "opens") (.int (d - 1)))))
            rw [← hgo] at this
            exact this
          · have hlt : ¬ d - 1 < 0 := of_decide_eq_false hc
            rw [if_neg hlt] at hgo
            refine XS.nil (XS.nil (XS.nil (XS.nil ?_)))
            exact ⟨_, d - 1, AH.le_setN hστ hσL, AH.set_self .., rfl, hgo⟩
        · have hcd : ¬ (⟨c.toArray⟩ : Str) = rb := of_decide_eq_false hc
          rw [if_neg hcd] at hgo
          refine XS.nil (XS.nil (XS.nil ?_))
          exact ⟨m2, d, AH.le_setN hστ hσL, hLs, g1, hgo⟩
    · rintro σ' ⟨m, d, hle, hmL, h1, hgo⟩
      rw [List.drop_length] at hgo
      have hd0 : (d == 0) = b := by simpa [parGo] using hgo
      refine XS.cons (EX.ret (EV.cmp (EV.loc hmL h1 (EV.int (CMP.eq_i ?_)))))
      have := hQ _ hle
      rw [← hd0] at this
      exact this
end
end Mine
end

section
open PySem PySem.W PyProof.Rows Builtin Builtin.Str
set_option maxRecDepth 100000
namespace Mine

def codeN : Array Nat := #[14, 10, 4, 1, 1, 22, 0, 31, 16, 127, 0, 13, 7, 22, 0, 31, 16, 127, 0, 1]
def codeV : Array Nat := #[14, 14, 4, 1, 1, 9, 4294966783, 0, 0, 2147483648, 0, 0, 0, 0, 0, 13, 11, 9, 4294966783, 0, 0, 2147483648, 0, 0, 0, 0, 0, 1]
def okN (x : Str) : Bool := noHit codeN x && decide (x.length ≤ 1000)
def okV (x : Str) : Bool := noHit codeV x && decide (x.length ≤ 1000)

structure KnH (X : Cx) extends KnC X where
  K : Frag
  kin : K.In X.base
  C : Addr
  cl : Cl K C
  gC' : X.mg (Str.ofString "Headers") = some (.ref C)
  dI : Addr
  oI : ∃ o n, X.base.get? dI = some o ∧ o.data = .seq #[.none] n
  mI : Me X K C (Str.ofString "__init__") (srcAt hdrs 0) (.ref dI)
  mCv : Me X K C (Str.ofString "_convert_string_type") (srcAt hdrs 1) .none
  mSet : Me X K C (Str.ofString "__setitem__") (srcAt hdrs 3) .none
  mDel : Me X K C (Str.ofString "__delitem__") (srcAt hdrs 4) .none
  mAll : Me X K C (Str.ofString "get_all") (srcAt hdrs 7) .none
  dG : Addr
  oG : ∃ o n, X.base.get? dG = some o ∧ o.data = .seq #[.none] n
  mGet : Me X K C (Str.ofString "get") (srcAt hdrs 8) (.ref dG)
  mKeys : Me X K C (Str.ofString "keys") (srcAt hdrs 9) .none
  mAdd : Me X K C (Str.ofString "add_header") (srcAt hdrs 16) .none
  pN : Addr
  gN : X.mg (Str.ofString "_name_disallowed_re") = some (.ref pN)
  patN : Pat X pN codeN
  pV : Addr
  gV : X.mg (Str.ofString "_value_disallowed_re") = some (.ref pV)
  patV : Pat X pV codeV
  nType : X.mg (Str.ofString "type") = none
  bType : X.mb (Str.ofString "type") = some (.type "type")
  nStr : X.mg (Str.ofString "str") = none
  bStr : X.mb (Str.ofString "str") = some (.type "str")
  nList : X.mg (Str.ofString "list") = none
  bList : X.mb (Str.ofString "list") = some (.type "list")
  smod : ∃ o, X.base.get? sysModules = some o

section
variable {X : Cx} {A : Around} {σ : AH} {Q : PV → AH → Prop}
theorem CK.conv (k : KnH X) {n : Nat} (r : Rm A (n + 1)) {x : Addr} {v : Str} {b : Bool} (hn : noHit (if b = true then codeN else codeV) v = true) (hQ : ∀ σ', σ.le σ' → Q (.str v) σ') : CK X A (.ref k.mCv.f) [.ref x, .str v] [(Str.ofString "name", .bool b)] σ Q := by
  intro vals ks e ek
  obtain ⟨v1, v2, rfl, e1, e2⟩ := map2 e
  obtain ⟨t, rfl⟩ := pv_str e2
  have := pv_ref e1
  subst this
  obtain ⟨kv, rfl, ekv⟩ : ∃ kv, ks = [(Str.ofString "name", kv)] ∧ pv kv = .bool b := by
    match ks, ek with
    | [(a, c)], ek => simp at ek; exact ⟨c, by rw [ek.1], ek.2⟩
    | [], ek => simp at ek
    | _ :: _ :: _, ek => simp at ek
  have := pv_bool ekv
  subst this
  obtain ⟨⟨o, ho, hd⟩, hc⟩ := k.mCv.fn
  refine CC.wv (args := ⟨[.ref x, .str v t], [(Str.ofString "name", .bool b)]⟩) (CC.def k.ok r ho hd hc rfl (bind_eq (binds := [(Str.ofString "self", .ref x), (Str.ofString "value", .str v t), (Str.ofString "name", .bool b)]) (by rfl) ⟨fun y hy => ?_, fun L hL rL => ?_⟩) (by show ∀ x ∈ (srcAt hdrs 1).scope.names, x.2 ≠ .cell; decide +kernel))
  · simp only [List.mem_cons, List.not_mem_nil, or_false] at hy
    rcases hy with rfl | rfl | rfl <;> rfl
  have hσL : σ L = none := (hL L (Nat.le_refl _)).1
  have hle : σ.le (σ.set L (.ns (bindP [(Str.ofString "self", .ref x), (Str.ofString "value", .str v t), (Str.ofString "name", .bool b)]))) := AH.le_setN (AH.le_refl _) hσL
  refine XS.cons (EX.if (TS.cmp (EV.callTy k.ok k.nType k.bType (EV.loc (AH.set_self ..) (by rfl) (CV.typeStr (EV.bltn k.ok k.nStr k.bStr (CMP.is_raw rfl ⟨_, rfl, fun _ => ?_, fun hc => ?_⟩)))))))
  · refine XS.cons (EX.assign (EV.ifexp (TS.val (EV.loc (AH.set_self ..) (by rfl) (TRU.bool ⟨fun hb => ?_, fun hb => ?_⟩)))))
    · subst hb
      refine EV.glob k.ok k.gN (ST.up ?_)
      refine XS.cons (EX.if (TS.val (EV.methBi (EV.loc (AH.set_self ..) (by rfl) ⟨GMB.search k.patN, EV.loc (AH.set_self ..) (by rfl) (CV.search k.patN hn (TRU.none ⟨fun h => (nomatch h), fun _ => ?_⟩))⟩))))
      refine XS.nil (XS.cons (EX.ret (EV.loc (AH.set_self ..) (by rfl) ?_)))
      exact hQ _ (AH.le_setN (AH.le_refl _) hσL)
    · subst hb
      refine EV.glob k.ok k.gV (ST.up ?_)
      refine XS.cons (EX.if (TS.val (EV.methBi (EV.loc (AH.set_self ..) (by rfl) ⟨GMB.search k.patV, EV.loc (AH.set_self ..) (by rfl) (CV.search k.patV hn (TRU.none ⟨fun h => (nomatch h), fun _ => ?_⟩))⟩))))
      refine XS.nil (XS.cons (EX.ret (EV.loc (AH.set_self ..) (by rfl) ?_)))
      exact hQ _ (AH.le_setN (AH.le_refl _) hσL)
  · simp at hc
end
end Mine
end

section
open PySem PySem.W PyProof.Rows Builtin Builtin.Str
set_option maxRecDepth 100000
namespace Mine

section
variable {X : Cx} {A : Around} {env : Env} {σ : AH} {Q : PV → AH → Prop}
theorem EV.debug {pos : Pos} (h : Q (.bool true) σ) : EV X A env (.Name (Str.ofString "__debug__") pos) σ Q := WP.of fun s R => by
  rw [arm_eval_Name]
  refine wpAny_bind (wpAny_standAt ?_)
  rw [if_pos (by decide +kernel)]
  exact wpAny_bind (wpAny_rule (wpAny_pure ⟨σ, R, Step.refl σ s, h⟩))
theorem bind_def {fd : FuncData} {args : Args} {binds : List (Str × Value)} {T : Addr} {o : Obj} {items : Array Value} {n : Nat} {k : Option (Array Value) → Sem (List (Str × Value))} {Q : List (Str × Value) → AH → Prop}
    (hd : fd.defaults = .ref T) (ho : X.base.get? T = some o) (hs : o.data = .seq items n) (h₁ : bindArgs fd args = seqItems? fd.defaults >>= k) (h₂ : k (some items) = pure binds) (h : Q binds σ) : WP X A (bindArgs fd args) σ Q :=
  WP.of fun s R => BindsTo.of_defaults hd (R.base _ _ ho) hs h₁ h₂ _ _ _ _ ⟨σ, R, Step.refl σ s, h⟩

theorem CC.init (k : KnH X) {n : Nat} (r : Rm A (n + 1)) {x dx : Addr} (hx : σ x = none) (hdx : σ dx = none) (hne : x ≠ dx) {P : PV → AH → Prop}
    (h : ∀ σ' l, σ.le σ' → σ l = none → σ' l = some (.list []) → Ins σ' x k.C l → P .none σ') : CC X A (.ref k.mI.f) ⟨[.ref x], []⟩ ((σ.set dx (.obj emptyDict)).set x (.inst k.C dx)) P := by
  obtain ⟨⟨o, ho, hd⟩, hc⟩ := k.mI.fn
  obtain ⟨oD, nD, hoD, hsD⟩ := k.oI
  refine CC.def k.ok r ho hd hc rfl (bind_def (binds := [(Str.ofString "self", .ref x), (Str.ofString "headers", .none)]) rfl hoD hsD (by rfl) (by rfl) ⟨fun y hy => ?_, fun L hL rL => ?_⟩) (by show ∀ x ∈ (srcAt hdrs 0).scope.names, x.2 ≠ .cell; decide +kernel)
  · simp only [List.mem_cons, List.not_mem_nil, or_false] at hy
    rcases hy with rfl | rfl <;> rfl
  have hLn := (hL L (Nat.le_refl _)).1
  have hLx : L ≠ x := fun z => by rw [z, AH.set_self] at hLn; cases hLn
  have hLd : L ≠ dx := fun z => by rw [z, AH.set_ne _ _ hne.symm, AH.set_self] at hLn; cases hLn
  have hσL : σ L = none := by rw [AH.set_ne _ _ hLx, AH.set_ne _ _ hLd] at hLn; exact hLn
  refine XS.cons (EX.assign (EV.ifexp (TS.cmp (EV.loc (AH.set_self ..) (by rfl) (EV.noneC (CMP.isnot_none ⟨_, rfl, fun hc => absurd (show (!decide (PV.none = PV.none)) = true from hc) (by decide), fun _ => ?_⟩))))))
  refine EV.list ⟨Nat.zero_le _, fun l hl hlb => ?_⟩
  have hlL : l ≠ L := fun z => by rw [z, AH.set_self] at hl; cases hl
  rw [AH.set_ne _ _ hlL] at hl
  have hlx : l ≠ x := fun z => by rw [z, AH.set_self] at hl; cases hl
  rw [AH.set_ne _ _ hlx] at hl
  have hld : l ≠ dx := fun z => by rw [z, AH.set_self] at hl; cases hl
  rw [AH.set_ne _ _ hld] at hl
  refine ST.at (by rw [AH.set_ne _ _ hlL.symm, AH.set_self]) ?_
  generalize hτ : ((((σ.set dx (.obj emptyDict)).set x (.inst k.C dx)).set L (.ns (bindP [(Str.ofString "self", .ref x), (Str.ofString "headers", .none)]))).set l (.list [])).set L (.ns (upd (bindP [(Str.ofString "self", .ref x), (Str.ofString "headers", .none)]) (Str.ofString "headers") (.ref l))) = τ
  have tL : τ L = some (.ns (upd (bindP [(Str.ofString "self", .ref x), (Str.ofString "headers", .none)]) (Str.ofString "headers") (.ref l))) := by rw [← hτ, AH.set_self]
  have tl : τ l = some (.list []) := by rw [← hτ, AH.set_ne _ _ hlL, AH.set_self]
  have tx : τ x = some (.inst k.C dx) := by rw [← hτ, AH.set_ne _ _ hLx.symm, AH.set_ne _ _ hlx.symm, AH.set_ne _ _ hLx.symm, AH.set_self]
  have td : τ dx = some (.obj emptyDict) := by rw [← hτ, AH.set_ne _ _ hLd.symm, AH.set_ne _ _ hld.symm, AH.set_ne _ _ hLd.symm, AH.set_ne _ _ hne.symm, AH.set_self]
  have hστ : σ.le τ := by rw [← hτ]; exact AH.le_setN (AH.le_setN (AH.le_setN (AH.le_setN (AH.le_setN (AH.le_refl _) hdx) hx) hσL) hl) hσL
  refine XS.cons (EX.if (TS.cmp (EV.callTy k.ok k.nType k.bType (EV.loc tL (by rfl) (CV.typeList tl (EV.bltn k.ok k.nList k.bList (CMP.isnot_raw rfl ⟨_, rfl, fun hc => absurd (show (!(Value.type "list" == Value.type "list")) = true from hc) (by decide), fun _ => ?_⟩)))))))
  refine XS.nil (XS.cons (EX.setHeaders k.kin k.cl (EV.loc tL (by rfl) (EV.loc tL (by rfl) ⟨x, dx, l, _, rfl, rfl, tL, tx, td, fun hs tk => ?_⟩))))
  have hυ : ∀ b p, b ≠ dx → τ b = some p → (τ.set dx (.obj (hObj hs tk l))) b = some p := fun b p hb e => by rw [AH.set_ne _ _ hb]; exact e
  refine XS.cons (EX.if (TS.val (EV.bool (TRU.bool ⟨fun _ => ?_, fun h => (nomatch h)⟩))))
  refine XS.cons (EX.forList rL.hh (EV.loc (hυ L _ hLd tL) (by rfl) ⟨l, [], fun _ σ' => σ' = τ.set dx (.obj (hObj hs tk l)), rfl, hυ l _ hld tl, rfl, fun i σ' _ e => by rw [e]; exact hυ l _ hld tl, fun i σ' hi _ => absurd hi (Nat.not_lt_zero _), fun σ' e => ?_⟩))
  subst e
  refine XS.nil (XS.nil ?_)
  exact h _ l (AH.le_setN hστ hdx) hl (hυ l _ hld tl) ⟨dx, hs, tk, hυ x _ hne tx, AH.set_self ..⟩

theorem EV.newHeaders (k : KnH X) {n : Nat} (r : Rm A (n + 2)) {np pos : Pos} {m : Str → Option PV} {L : Addr} (hm : σ L = some (.ns m))
    (h : ∀ σ' x l, σ.le σ' → σ l = none → σ x = none → σ' l = some (.list []) → Ins σ' x k.C l → Q (.ref x) σ')
    (hg : env.globals = mainGlobals := by rfl) (hk : env.scope.kind = .function := by rfl) (hl : env.kindOf (Str.ofString "Headers") = some .globalImplicit := by rfl) :
    EV X A env (.Call (.Name (Str.ofString "Headers") np) [] [] pos) σ Q :=
  EV.callName (EV.glob k.ok k.gC' (fun v e => by
    rw [pv_ref e]
    refine WP.of fun s R => callWith_K0 (K := k.K) (fun a o e => R.base a o (k.kin a o e)) k.cl.keep ?_
    refine (newH k.kin k.cl r k.mI.find k.mI.ty hm fun A' r' x dx hx hdx hxb hdxb hne => ?_).run s R
    refine CC.init k r' hx hdx hne fun σ' l hle hl hl' I => ⟨rfl, h σ' x l hle hl hx hl' I⟩) hg hk hl)
end
end Mine
end

section
open PySem PySem.W PyProof.Rows Builtin Builtin.Str
set_option maxRecDepth 100000
namespace Mine

section
variable {X : Cx} {A : Around} {env : Env} {σ : AH}
theorem EX.forNoItems {target o : Expr} {ap cp pos : Pos} {body : List Stmt} {Q : PF → AH → Prop} (hh : A.handled = none) (hsm : ∃ o, X.base.get? sysModules = some o)
    (h : EV X A env o σ fun p σ₁ => ∃ D, p = .ref D ∧ σ₁ D = some (.obj emptyDict) ∧ Q .next σ₁)
    (hb : ∀ w, attributeBase o (Str.ofString "items") env w = w := by intro _; rfl) (hl : (ap.endLine == cp.line) = true := by rfl)
    (hs : ∀ x, foldedSetIterable (.Call (.Attribute o (Str.ofString "items") ap) [] [] cp) env x = pure x := by intro _; rfl) :
    EX X A env (.For target (.Call (.Attribute o (Str.ofString "items") ap) [] [] cp) body [] pos) σ Q := WP.of fun s R => by
  refine wpAny_For ?_ hs
  refine MethodCall_ (he := mcall (kws := []) hb rfl rfl (by show 0 + 0 < 29; decide) hl) (h.go R (Step.refl σ s) fun v σ₁ s₁ R₁ S₁ ⟨D, e, hD, q⟩ => ?_)
  rw [pv_ref e]
  have ho := R₁.rz D _ hD
  have hDsm : (D == sysModules) = false := by
    obtain ⟨o, hsm⟩ := hsm
    have := R₁.apart D _ hD
    simp only [beq_eq_false_iff_ne]
    intro z; rw [z, hsm] at this; cases this
  have hAt : s₁.heap.DictAt (strKind X.prog X.w) D [] 0 := ⟨_, #[], ho, ⟨rfl, rfl, rfl⟩, rfl, by intro e he; simp at he, .nil, List.nodup_nil⟩
  have hOf : s₁.heap.DictOf (strKind X.prog X.w) D [] := ⟨_, #[], 0, ho, ⟨rfl, rfl, rfl⟩, rfl, by intro e he; simp at he, .nil, List.nodup_nil⟩
  have hT : s₁.TypeIs (.ref D) "dict" := ⟨_, ho, rfl⟩
  refine getMethod_builtin hT PySem.F.plainAttrs_dict PySem.F.slot_dict_items PySem.F.type_dict_items (fun a ha => by cases ha; exact ⟨_, ho, rfl⟩) ?_
  refine callWith_method0 ?_
  refine call_meetsIn PySem.F.slot_dict_items hT PySem.F.entry_dict_items (PySem.F.args_dict_items_1 _) (meets_dict_items (strKind X.prog X.w) D hDsm) ⟨⟨[], hOf⟩, ?_⟩
  show wpAny _ A (pyIter (.ref s₁.heap.objs.size)) _ _ _
  have hf := fresh_from R₁
  generalize hV : s₁.heap.objs.size = V at hf
  have hv : (s₁.heap.push { cls := .type "dict_items", data := .fields #[.ref D] }).IsItemsView V D := ⟨_, by rw [← hV]; exact Heap.get?_push_size _ rfl, rfl, rfl⟩
  have hAt1 : (s₁.heap.push { cls := .type "dict_items", data := .fields #[.ref D] }).DictAt (strKind X.prog X.w) D [] 0 := by
    obtain ⟨o, es, h1, h2⟩ := hAt; exact ⟨o, es, Heap.get?_push_of_some _ h1, h2⟩
  refine wpAny_pyIter_items hv hAt1 ?_
  dsimp only
  have hsz : (s₁.heap.push { cls := .type "dict_items", data := .fields #[.ref D] }).objs.size = V + 1 := by rw [Heap.size_push, hV]
  rw [hsz]
  generalize hh2 : (s₁.heap.push { cls := .type "dict_items", data := .fields #[.ref D] }).push { cls := .type "dict_itemiterator", data := .fields #[.none, .bool false, .ref D, .int 0 0, .int ([] : List (Str × Value)).length 0, .int (0 : Nat) 0, .none, .none] } = h₂
  have hk2 : ∀ b o, s₁.heap.get? b = some o → h₂.get? b = some o := fun b o e => by rw [← hh2]; exact Heap.get?_push_of_some _ (Heap.get?_push_of_some _ e)
  have hit : IsItemIter h₂ (V + 1) D 0 ([] : List (Str × Value)).length 0 .none .none := by rw [← hh2, ← hsz]; exact Heap.get?_push_size _ rfl
  have hAt2 : h₂.DictAt (strKind X.prog X.w) D [] 0 := by
    obtain ⟨o, es, h1, h2⟩ := hAt; exact ⟨o, es, hk2 _ _ h1, h2⟩
  refine codeAny_forLoop_any (fun n s' => s' = { s₁ with heap := h₂ }) ?_ 0 rfl
  rintro n s' rfl
  refine wpAny_pyNext_items_end hh hit hAt2 rfl fun h' hx => wpAny_execs_nil ?_
  have hk' : ∀ b o, s₁.heap.get? b = some o → h'.get? b = some o := fun b o e => hx b o (Nat.ne_of_lt (Nat.lt_succ_of_lt (by rw [← hV]; exact Heap.lt_size e))) (hk2 b o e)
  obtain ⟨R', S'⟩ := R₁.grow (h' := h') (tk := s₁.toks) hk' R₁.tk
  exact ⟨σ₁, R', S₁.trans S', q⟩
end
end Mine
end

section
open PySem PySem.W PyProof.Rows Builtin Builtin.Str
set_option maxRecDepth 100000
namespace Mine

def leBut (σ σ' : AH) (l : Addr) : Prop := ∀ b p, b ≠ l → σ b = some p → σ' b = some p
theorem leBut.of {σ σ' : AH} {l : Addr} (h : σ.le σ') : leBut σ σ' l := fun b p _ e => h b p e
theorem leBut.trans {a b c : AH} {l : Addr} (x : leBut a b l) (y : leBut b c l) : leBut a c l := fun q p hq e => y q p hq (x q p hq e)
theorem leBut.setL {a b : AH} {l : Addr} {p : PO} (x : leBut a b l) : leBut a (b.set l p) l := fun q z hq e => by rw [AH.set_ne _ _ hq]; exact x q z hq e
theorem leBut.setN {a b : AH} {l c : Addr} {p : PO} (x : leBut a b l) (hc : a c = none) : leBut a (b.set c p) l := fun q z hq e => by rw [AH.set_ne _ _ (fun w => by rw [w, hc] at e; cases e)]; exact x q z hq e
theorem All2.imp {α β : Type} {R R' : α → β → Prop} (h : ∀ a b, R a b → R' a b) : ∀ {l : List α} {m : List β}, All2 R l m → All2 R' l m
  | _, _, .nil => .nil
  | _, _, .cons a r => .cons (h _ _ a) (All2.imp h r)
theorem All2.snoc {α β : Type} {R : α → β → Prop} {a : α} {b : β} (h : R a b) : ∀ {l : List α} {m : List β}, All2 R l m → All2 R (l ++ [a]) (m ++ [b])
  | _, _, .nil => .cons h .nil
  | _, _, .cons a r => .cons a (All2.snoc h r)
theorem All2.len {α β : Type} {R : α → β → Prop} : ∀ {l : List α} {m : List β}, All2 R l m → l.length = m.length
  | _, _, .nil => rfl
  | _, _, .cons _ r => congrArg (· + 1) (All2.len r)

/-- a table of headers in the heap -/
structure Tab (σ : AH) (x C l : Addr) (tbl : List (Str × Str)) : Prop where
  ins : Ins σ x C l
  lst : ∃ ts : List Addr, σ l = some (.list (ts.map PV.ref)) ∧ All2 (fun t e => σ t = some (.tuple [.str e.1, .str e.2])) ts tbl
theorem Tab.keep {σ σ' : AH} {x C l : Addr} {tbl : List (Str × Str)} (T : Tab σ x C l tbl) (h : ∀ b p, (∀ m, p ≠ .ns m) → σ b = some p → σ' b = some p) : Tab σ' x C l tbl :=
  let ⟨ts, h1, h2⟩ := T.lst
  ⟨T.ins.keep fun b p _ hp e => h b p hp e, ts, h l _ (by simp) h1, h2.imp fun t e he => h t _ (by simp) he⟩
theorem Tab.le {σ σ' : AH} {x C l : Addr} {tbl : List (Str × Str)} (T : Tab σ x C l tbl) (h : σ.le σ') : Tab σ' x C l tbl := T.keep fun b p _ e => h b p e
theorem Tab.nil {σ : AH} {x C l : Addr} (I : Ins σ x C l) (hl : σ l = some (.list [])) : Tab σ x C l [] := ⟨I, [], hl, .nil⟩

theorem leBut.keepN {σ σ' : AH} {x l C : Addr} (I : Ins σ x C l) (hl : ∃ vs, σ l = some (.list vs)) (h : leBut σ σ' l) : Ins σ' x C l := by
  obtain ⟨vs, hv⟩ := hl
  exact I.keep fun b p hp _ e => h b p (fun z => by rw [z, hv] at e; cases e; exact hp _ rfl) e

section
variable {X : Cx} {A : Around} {σ : AH} {Q : PV → AH → Prop}
theorem CV.add (k : KnH X) {n : Nat} (r : Rm A (n + 2)) {x l : Addr} {nm vl : Str} {tbl : List (Str × Str)} (T : Tab σ x k.C l tbl) (hn : okN nm = true) (hv : okV vl = true) (hsz : tbl.length ≤ 1000)
    (hQ : ∀ σ', leBut σ σ' l → Tab σ' x k.C l (tbl ++ [(nm, vl)]) → Q .none σ') : CV X A (.ref k.mAdd.f) [.ref x, .str nm, .str vl] σ Q := by
  intro vals e
  obtain ⟨v1, v2, v3, rfl, e1, e2, e3⟩ := map3 e
  obtain ⟨t2, rfl⟩ := pv_str e2
  obtain ⟨t3, rfl⟩ := pv_str e3
  have := pv_ref e1
  subst this
  obtain ⟨hn1, hn2⟩ := Bool.and_eq_true_iff.mp hn
  obtain ⟨hv1, hv2⟩ := Bool.and_eq_true_iff.mp hv
  obtain ⟨ts, hl, hts⟩ := T.lst
  obtain ⟨⟨o, ho, hd⟩, hc⟩ := k.mAdd.fn
  have hb : WP X A.in1 (bindArgs (mkFn (srcAt hdrs 16) k.mAdd.m) ⟨[.ref x, .str nm t2, .str vl t3], []⟩) σ fun binds σ₁ => ∃ D, σ D = none ∧ σ₁ = σ.set D (.obj emptyDict) ∧ binds = [(Str.ofString "self", .ref x), (Str.ofString "_name", .str nm t2), (Str.ofString "_value", .str vl t3), (Str.ofString "_params", .ref D)] := by
    rw [show bindArgs (mkFn (srcAt hdrs 16) k.mAdd.m) ⟨[.ref x, .str nm t2, .str vl t3], []⟩ = (alloc { cls := .type "dict", data := .dict #[] } >>= fun d => pure [(Str.ofString "self", .ref x), (Str.ofString "_name", .str nm t2), (Str.ofString "_value", .str vl t3), (Str.ofString "_params", .ref d)]) by rfl]
    refine WP.of fun s R => wpAny_bind (wpAny_alloc ?_)
    obtain ⟨R', S', hn, hb⟩ := R.new (h' := s.heap.push emptyDict) (tk := s.toks) (p := .obj emptyDict) (by rw [Heap.size_push]; exact Nat.lt_succ_self _) (fun b o e => Heap.get?_push_of_some _ e) (Heap.get?_push_size _ rfl) R.tk
    exact wpAny_pure ⟨_, R', S', _, hn, rfl, rfl⟩
  refine CC.wv (args := ⟨[.ref x, .str nm t2, .str vl t3], []⟩) (CC.def k.ok r ho hd hc rfl (hb.mono fun binds σ₁ ⟨D, hD, e1, e2⟩ => ?_) (by show ∀ x ∈ (srcAt hdrs 16).scope.names, x.2 ≠ .cell; decide +kernel))
  subst e1 e2
  refine ⟨fun y hy => ?_, fun L hL rL => ?_⟩
  · simp only [List.mem_cons, List.not_mem_nil, or_false] at hy
    rcases hy with rfl | rfl | rfl | rfl <;> rfl
  have hLn := (hL L (Nat.le_refl _)).1
  have hLD : L ≠ D := fun z => by rw [z, AH.set_self] at hLn; cases hLn
  have hσL : σ L = none := by rw [AH.set_ne _ _ hLD] at hLn; exact hLn
  have hlL : l ≠ L := fun z => by rw [z, hσL] at hl; cases hl
  have hlD : l ≠ D := fun z => by rw [z, hD] at hl; cases hl
  -- parts = []
  refine XS.cons (EX.assign (EV.list ⟨Nat.zero_le _, fun P hP hPb => ?_⟩))
  have hPL : P ≠ L := fun z => by rw [z, AH.set_self] at hP; cases hP
  rw [AH.set_ne _ _ hPL] at hP
  have hPD : P ≠ D := fun z => by rw [z, AH.set_self] at hP; cases hP
  rw [AH.set_ne _ _ hPD] at hP
  have hlP : l ≠ P := fun z => by rw [z, hP] at hl; cases hl
  refine ST.at (by rw [AH.set_ne _ _ hPL.symm, AH.set_self]) ?_
  generalize hτ : ((((σ.set D (.obj emptyDict)).set L (.ns (bindP [(Str.ofString "self", .ref x), (Str.ofString "_name", .str nm t2), (Str.ofString "_value", .str vl t3), (Str.ofString "_params", .ref D)]))).set P (.list [])).set L (.ns (upd (bindP [(Str.ofString "self", .ref x), (Str.ofString "_name", .str nm t2), (Str.ofString "_value", .str vl t3), (Str.ofString "_params", .ref D)]) (Str.ofString "parts") (.ref P)))) = τ
  have tL : τ L = some (.ns (upd (bindP [(Str.ofString "self", .ref x), (Str.ofString "_name", .str nm t2), (Str.ofString "_value", .str vl t3), (Str.ofString "_params", .ref D)]) (Str.ofString "parts") (.ref P))) := by rw [← hτ, AH.set_self]
  have tP : τ P = some (.list []) := by rw [← hτ, AH.set_ne _ _ hPL, AH.set_self]
  have tD : τ D = some (.obj emptyDict) := by rw [← hτ, AH.set_ne _ _ hLD.symm, AH.set_ne _ _ hPD.symm, AH.set_ne _ _ hLD.symm, AH.set_self]
  have hστ : σ.le τ := by rw [← hτ]; exact AH.le_setN (AH.le_setN (AH.le_setN (AH.le_setN (AH.le_refl _) hD) hσL) hP) hσL
  generalize hm : upd (bindP [(Str.ofString "self", .ref x), (Str.ofString "_name", .str nm t2), (Str.ofString "_value", .str vl t3), (Str.ofString "_params", .ref D)]) (Str.ofString "parts") (.ref P) = m at tL
  have m1 : m (Str.ofString "self") = some (.ref x) := by rw [← hm]; rfl
  have m2 : m (Str.ofString "_name") = some (.str nm) := by rw [← hm]; rfl
  have m3 : m (Str.ofString "_value") = some (.str vl) := by rw [← hm]; rfl
  have m4 : m (Str.ofString "_params") = some (.ref D) := by rw [← hm]; rfl
  have m5 : m (Str.ofString "parts") = some (.ref P) := by rw [← hm]; rfl
  clear hm hτ
  refine XS.cons (EX.if (TS.cmp (EV.loc tL m3 (EV.noneC (CMP.isnot_none ⟨_, rfl, fun _ => ?_, fun hc => absurd (show (!decide (PV.str vl = PV.none)) = false from hc) (by simp)⟩)))))
  refine XS.cons (EX.assign (EV.methKw k.kin k.cl k.mCv (EV.loc tL m1 ⟨x, l, rfl, T.ins.keep fun b p _ _ e => hστ b p e, EV.loc tL m3 (CK.conv k rL (by exact hv1) fun σ' hle => ?_)⟩)))
  refine ST.at (hle L _ tL) ?_
  have hτ' : σ.le (σ'.set L (.ns (upd m (Str.ofString "_value") (.str vl)))) := AH.le_setN (AH.le_trans hστ hle) hσL
  generalize hυ : σ'.set L (.ns (upd m (Str.ofString "_value") (.str vl))) = υ at hτ'
  generalize hm' : upd m (Str.ofString "_value") (.str vl) = m' at hυ
  have uL : υ L = some (.ns m') := by rw [← hυ, AH.set_self]
  have uP : υ P = some (.list []) := by rw [← hυ, AH.set_ne _ _ hPL]; exact hle P _ tP
  have uD : υ D = some (.obj emptyDict) := by rw [← hυ, AH.set_ne _ _ hLD.symm]; exact hle D _ tD
  have n1 : m' (Str.ofString "self") = some (.ref x) := by rw [← hm']; exact m1
  have n2 : m' (Str.ofString "_name") = some (.str nm) := by rw [← hm']; exact m2
  have n3 : m' (Str.ofString "_value") = some (.str vl) := by rw [← hm']; rfl
  have n4 : m' (Str.ofString "_params") = some (.ref D) := by rw [← hm']; exact m4
  have n5 : m' (Str.ofString "parts") = some (.ref P) := by rw [← hm']; exact m5
  clear hm' hυ m1 m2 m3 m4 m5 tL tP tD hle
  refine XS.cons (EX.expr (EV.methBi (EV.loc uL n5 ⟨GMB.append uP, EV.loc uL n3 (CV.append uP (Nat.zero_le _) ⟨fun a => by simp, ?_⟩)⟩)))
  refine XS.nil ?_
  have wL : (υ.set P (.list ([] ++ [.str vl]))) L = some (.ns m') := by rw [AH.set_ne _ _ hPL.symm]; exact uL
  have wD : (υ.set P (.list ([] ++ [.str vl]))) D = some (.obj emptyDict) := by rw [AH.set_ne _ _ hPD.symm]; exact uD
  have hσw : σ.le (υ.set P (.list ([] ++ [.str vl]))) := AH.le_setN hτ' hP
  generalize hw : υ.set P (.list ([] ++ [.str vl])) = w at *
  have wP : w P = some (.list ([vl].map PV.str)) := by rw [← hw, AH.set_self]; rfl
  refine XS.cons (EX.forNoItems rL.hh k.smod (EV.loc wL n4 ⟨D, rfl, wD, ?_⟩))
  have Tw := T.le hσw
  obtain ⟨dx, hs, tk, i1, i2⟩ := T.ins.go
  refine XS.cons (EX.expr (EV.methBi (EV.attrOwn k.kin k.cl (EV.loc wL n1 ⟨x, l, rfl, Tw.ins, GMB.append (hσw l _ hl), EV.tuple (EV.methKw k.kin k.cl k.mCv (EV.loc wL n1 ⟨x, l, rfl, Tw.ins, EV.loc wL n2 (CK.conv k rL (by exact hn1) fun σ'' hle => ?_)⟩))⟩))))
  refine EV.methBi (EV.str ⟨GMB.join, EV.loc (hle L _ wL) n5 (CV.join (texts := [vl]) (hle P _ wP) (by
    have : vl.length ≤ 1000 := of_decide_eq_true hv2
    unfold JoinOk
    have h2 : (Str.ofString "; ").length = 2 := by decide +kernel
    simp [tooLong, sizeLine, h2]; omega) ⟨by show 2 ≤ sizeLine; decide, fun E hE hEb => ?_⟩)⟩)
  have hj : Txt.join (Str.ofString "; ") [vl] = vl := rfl
  rw [hj]
  have hσs : σ.le σ'' := AH.le_trans hσw hle
  have hσE : σ E = none := by
    cases q : σ E with
    | none => rfl
    | some z => rw [hσs E z q] at hE; cases hE
  have hlE : l ≠ E := fun z => by rw [z, hσE] at hl; cases hl
  have zl : (σ''.set E (.tuple [.str nm, .str vl])) l = some (.list (ts.map PV.ref)) := by rw [AH.set_ne _ _ hlE]; exact hσs l _ hl
  have hlen : ts.length = tbl.length := hts.len
  refine CV.append zl (by rw [List.length_map, hlen]; exact Nat.le_trans hsz (by decide)) ⟨fun a => by simp, XS.nil (hQ _ ?_ ?_)⟩
  · exact ((leBut.of hσs).setN hσE).setL
  · have hk : ∀ b p, b ≠ l → σ b = some p → ((σ''.set E (.tuple [.str nm, .str vl])).set l (.list (ts.map PV.ref ++ [.ref E]))) b = some p := fun b p hb e => by
      rw [AH.set_ne _ _ hb, AH.set_ne _ _ (fun z => by rw [z, hσE] at e; cases e)]; exact hσs b p e
    refine ⟨T.ins.keep fun b p h1 _ e => hk b p (fun z => by rw [z, hl] at e; cases e; exact h1 _ rfl) e, ts ++ [E], by rw [AH.set_self]; simp, ?_⟩
    refine All2.snoc (by rw [AH.set_ne _ _ hlE.symm, AH.set_self]) (hts.imp fun t e he => hk t _ (fun z => by rw [z, hl] at he; cases he) he)
end
end Mine
end

section
open PySem PySem.W PyProof.Rows Builtin Builtin.Str
set_option maxRecDepth 100000
namespace Mine

section
variable {X : Cx} {A : Around} {env : Env} {σ : AH} {Q : PV → AH → Prop}
theorem EV.free {x : Str} {pos : Pos} {c : Addr} {p : PV} (hc : env.cells.lookup x = some c) (hx : σ c = some (.cell (some p))) (h : Q p σ)
    (hk : env.scope.kind = .function := by rfl) (hl : env.kindOf x = some .free := by rfl) (hd : (x == ("__debug__" : Str)) = false := by decide) (hn : (x == ("__classdict__" : Str)) = false := by decide) : EV X A env (.Name x pos) σ Q :=
  WV.val (fun s R Q' hQ => by
    obtain ⟨o, u, ho, hd', e⟩ := R.rz _ _ hx
    cases u with
    | none => cases e
    | some v => exact wpAny_Name (wpAny_loadName_free hk hl hc ⟨o, ho, hd'⟩ (hQ v s.toks (Option.some.inj e)) hn) hd) h

def lk (tbl : List (Str × Str)) (nm : Str) : List Str := (tbl.filter fun e => decide (Txt.lower e.1 = nm)).map (·.2)
def okT (tbl : List (Str × Str)) : Bool := tbl.all fun e => decide ((Txt.lower e.1).length ≤ sizeLine)
theorem lk_succ {tbl : List (Str × Str)} {nm : Str} {i : Nat} (hi : i < tbl.length) : lk (tbl.take (i + 1)) nm = lk (tbl.take i) nm ++ (if Txt.lower tbl[i].1 = nm then [tbl[i].2] else []) := by
  unfold lk
  rw [List.take_succ_eq_append_getElem hi, List.filter_append, List.map_append]
  congr 1
  by_cases h : Txt.lower tbl[i].1 = nm <;> simp [h]
theorem All2.get {α β : Type} {R : α → β → Prop} : ∀ {l : List α} {m : List β}, All2 R l m → ∀ i (h1 : i < l.length) (h2 : i < m.length), R l[i] m[i]
  | _, _, .cons a r, 0, _, _ => a
  | _, _, .cons a r, i + 1, h1, h2 => All2.get r i (Nat.lt_of_succ_lt_succ h1) (Nat.lt_of_succ_lt_succ h2)
  | _, _, .nil, _, h1, _ => absurd h1 (Nat.not_lt_zero _)
theorem getD_map {ts : List Addr} {i : Nat} (h : i < ts.length) : (ts.map PV.ref).getD i .none = .ref ts[i] := by
  rw [List.getD_eq_getElem?_getD, List.getElem?_map, List.getElem?_eq_getElem h]; rfl

theorem CV.getAll (k : KnH X) {n : Nat} (r : Rm A (n + 2)) {x l : Addr} {nm : Str} {tbl : List (Str × Str)} (T : Tab σ x k.C l tbl) (hn : okN (Txt.lower nm) = true) (hT : okT tbl = true) (hsz : tbl.length ≤ 1000)
    (hQ : ∀ σ' D, σ.le σ' → σ D = none → σ' D = some (.list ((lk tbl (Txt.lower nm)).map PV.str)) → Q (.ref D) σ') : CV X A (.ref k.mAll.f) [.ref x, .str nm] σ Q := by
  intro vals e
  obtain ⟨v1, v2, rfl, e1, e2⟩ := map2 e
  obtain ⟨t2, rfl⟩ := pv_str e2
  have := pv_ref e1
  subst this
  obtain ⟨hn1, hn2⟩ := Bool.and_eq_true_iff.mp hn
  have hn2 : (Txt.lower nm).length ≤ 1000 := of_decide_eq_true hn2
  obtain ⟨ts, hl, hts⟩ := T.lst
  obtain ⟨⟨o, ho, hd⟩, hc⟩ := k.mAll.fn
  refine CC.wv (args := ⟨[.ref x, .str nm t2], []⟩) (CC.defC k.ok r ho hd hc rfl rfl (fun L p hp => ?_) (bind_eq (binds := [(Str.ofString "self", .ref x), (Str.ofString "name", .str nm t2)]) (by rfl) ⟨fun L y hy => ?_, fun L hL rL => ?_⟩))
  · have hp' : p ∈ [(Str.ofString "name", L + 1)] := hp
    rw [List.mem_singleton.mp hp']; rfl
  · simp only [List.mem_cons, List.not_mem_nil, or_false] at hy
    rcases hy with rfl | rfl
    · exact .inl rfl
    · exact .inr ⟨rfl, rfl⟩
  have hσL : σ L = none := (hL L (Nat.le_refl _)).1
  have hσN : σ (L + 1) = none := (hL (L + 1) (Nat.le_succ _)).1
  have hNL : L + 1 ≠ L := Nat.succ_ne_self L
  have hlL : l ≠ L := fun z => by rw [z, hσL] at hl; cases hl
  have hlN : l ≠ L + 1 := fun z => by rw [z, hσN] at hl; cases hl
  show XS X _ _ _ ((σ.set L (.ns _)).set (L + 1) (.cell (some (.str nm)))) _
  generalize hm : (fun y => (bindL (callEnvC (mkFnD (srcAt hdrs 7) Value.none Value.none k.mAll.m) L k.mAll.f).kindOf [(Str.ofString "self", Value.ref x), (Str.ofString "name", Value.str nm t2)] (fun _ => Option.none) y).map pv) = m
  have m1 : m (Str.ofString "self") = some (.ref x) := by rw [← hm]; rfl
  clear hm
  generalize hτ : (σ.set L (.ns m)).set (L + 1) (.cell (some (.str nm))) = τ
  have hστ : σ.le τ := by rw [← hτ]; exact AH.le_setN (AH.le_setN (AH.le_refl _) hσL) hσN
  have tL : τ L = some (.ns m) := by rw [← hτ, AH.set_ne _ _ hNL.symm, AH.set_self]
  have tN : τ (L + 1) = some (.cell (some (.str nm))) := by rw [← hτ, AH.set_self]
  clear hτ
  refine XS.cons (EX.assign (EV.methKw k.kin k.cl k.mCv (EV.loc tL m1 ⟨x, l, rfl, (T.le hστ).ins, EV.methBi (EV.cell (c := L + 1) (by rfl) tN ⟨GMB.lower, CV.lower (Nat.le_trans hn2 (by decide)) (CK.conv k rL (by exact hn1) fun σ' hle => ?_)⟩)⟩)))
  refine ST.cell (c := L + 1) (by rfl) (hle _ _ tN) ?_
  generalize hυ : σ'.set (L + 1) (.cell (some (.str (Txt.lower nm)))) = υ
  have hσυ : σ.le υ := by rw [← hυ]; exact AH.le_setN (AH.le_trans hστ hle) hσN
  have uL : υ L = some (.ns m) := by rw [← hυ, AH.set_ne _ _ hNL.symm]; exact hle L _ tL
  have uN : υ (L + 1) = some (.cell (some (.str (Txt.lower nm)))) := by rw [← hυ, AH.set_self]
  clear hυ hle tL tN hστ
  have Tu := T.le hσυ
  have hlen : ts.length = tbl.length := hts.len
  refine XS.cons (EX.ret (EV.comp (cl := [(Str.ofString "name", L + 1)]) rL.hh rfl (EV.attrOwn k.kin k.cl (EV.loc uL m1 ⟨x, l, rfl, Tu.ins, (ts.map PV.ref).length, _, _, fun C i acc σ' => σ' = υ ∧ υ C = none ∧ acc = (lk (tbl.take i) (Txt.lower nm)).map PV.str, ISRC.list (hσυ l _ hl), ?_, fun C hC => ⟨rfl, (hC C (Nat.le_refl _)).1, rfl⟩, fun C i acc σ' hi ⟨e1, e2, e3⟩ => ⟨by rw [e1]; exact e2, by rw [e1]; exact hσυ l _ hl⟩, ?_, ?_⟩))))
  · rw [List.length_map, hlen]; exact Nat.le_trans hsz (by decide)
  · rintro C i acc σ' hC hi ⟨e1, hCn, e3⟩
    subst e3
    rw [e1]
    rw [List.length_map] at hi
    have hi' : i < tbl.length := by rw [← hlen]; exact hi
    have ht := hts.get i hi hi'
    have hit : (ts.map PV.ref).getD i .none = .ref ts[i] := getD_map hi
    rw [hit]
    have htC : ts[i] ≠ C := fun z => by have := hσυ _ _ ht; rw [z, hCn] at this; cases this
    have hNC : L + 1 ≠ C := fun z => by rw [z, hCn] at uN; cases uN
    have wt : (υ.set C (nsx (Str.ofString "kv") (some (.ref ts[i])))) ts[i] = some (.tuple [.str tbl[i].1, .str tbl[i].2]) := by rw [AH.set_ne _ _ htC]; exact hσυ _ _ ht
    have wC : (υ.set C (nsx (Str.ofString "kv") (some (.ref ts[i])))) C = some (nsx (Str.ofString "kv") (some (.ref ts[i]))) := AH.set_self ..
    have wN : (υ.set C (nsx (Str.ofString "kv") (some (.ref ts[i])))) (L + 1) = some (.cell (some (.str (Txt.lower nm)))) := by rw [AH.set_ne _ _ hNC]; exact uN
    have hlow : (Txt.lower tbl[i].1).length ≤ sizeLine := by
      have := List.all_eq_true.mp hT tbl[i] (List.getElem_mem _)
      exact of_decide_eq_true this
    refine TS.cmp (EV.methBi (EV.sub (EV.loc wC (by rfl) (EV.int (SUB.tuple wt (by decide) (by decide) rfl ⟨GMB.lower, CV.lower hlow (EV.cell (c := L + 1) (by rfl) wN (CMP.eq_s ⟨_, rfl, fun hc => ?_, fun hc => ?_⟩))⟩)))))
    · have hc' : Txt.lower tbl[i].1 = Txt.lower nm := of_decide_eq_true hc
      refine EV.sub (EV.loc wC (by rfl) (EV.int (SUB.tuple wt (by decide) (by decide) rfl ⟨υ, AH.le_refl _, rfl, hCn, ?_⟩)))
      rw [lk_succ hi', if_pos hc']; simp
    · have hc' : ¬ Txt.lower tbl[i].1 = Txt.lower nm := of_decide_eq_false hc
      refine ⟨υ, AH.le_refl _, rfl, hCn, ?_⟩
      rw [lk_succ hi', if_neg hc']; simp
  · rintro C D acc σ' hD hDC ⟨e1, hCn, e3⟩ hDn
    subst e3
    rw [e1] at hDn ⊢
    refine hQ _ D (AH.le_setN hσυ ?_) ?_ ?_
    · cases q : σ D with
      | none => rfl
      | some z => rw [hσυ D z q] at hDn; cases hDn
    · cases q : σ D with
      | none => rfl
      | some z => rw [hσυ D z q] at hDn; cases hDn
    · rw [AH.set_self, List.length_map, hlen, List.take_length]
end
end Mine
end

section
open PySem PySem.W PyProof.Rows Builtin Builtin.Str
set_option maxRecDepth 100000
namespace Mine

def q1 (v : Str) : Str := Txt.replace v (Str.ofString "\\") (Str.ofString "\\\\")
def q2 (v : Str) : Str := Txt.replace (q1 v) (Str.ofString "\"") (Str.ofString "\\\"")
def fmtP (p v : Str) : Str := if v.length > 0 then ((p ++ Str.ofString "=\"") ++ q2 v) ++ Str.ofString "\"" else p
def okF (p v : Str) : Bool := decide (p.length ≤ 1000) && decide (v.length ≤ 1000) && decide ((q1 v).length ≤ 1000) && decide ((q2 v).length ≤ 1000)
section
variable (X : Cx) (A : Around) (env : Env)
def JN : List Expr → Str → AH → (Str → AH → Prop) → Prop
  | [], out, σ, Q => Q out σ
  | e :: es, out, σ, Q => EV X A env e σ fun p σ₁ => ∃ y, p = .str y ∧ (out ++ y).length ≤ sizeLine ∧ JN es (out ++ y) σ₁ Q
end
section
variable {X : Cx} {A : Around} {env : Env} {σ : AH} {Q : PV → AH → Prop}
theorem JN.run : ∀ {es : List Expr} {out : Str} {σ : AH}, JN X A env es out σ (fun out σ₁ => out.length ≤ sizeLine ∧ Q (.str out) σ₁) → WV X A (joinParts out (evalEach es env)) σ Q
  | [], out, σ, h => WP.of fun s R => joinParts_nil ⟨σ, R.tick _, Step.toks σ s _, h.2⟩ h.1
  | e :: es, out, σ, h => WP.of fun s R => joinParts_cons (WP.go h R (Step.refl σ s) fun v σ₁ s₁ R₁ S₁ ⟨y, e1, hl, q⟩ => by
      obtain ⟨t, rfl⟩ := pv_str e1
      exact ⟨hl, WP.go (JN.run q) R₁ S₁ fun v σ₂ s₂ R₂ S₂ q => ⟨σ₂, R₂, S₂, q⟩⟩)
theorem EV.joined {v₁ v₂ : Expr} {rest : List Expr} {pos : Pos} (h : JN X A env (v₁ :: v₂ :: rest) PySem.Str.empty σ (fun out σ₁ => out.length ≤ sizeLine ∧ Q (.str out) σ₁)) : EV X A env (.JoinedStr (v₁ :: v₂ :: rest) pos) σ Q :=
  WP.of fun s R => JoinedStr_many ((JN.run h).run s R)
theorem EV.fmtS {value : Expr} {pos : Pos} (h : EV X A env value σ fun p σ₁ => ∃ x, p = .str x ∧ x.length ≤ sizeLine ∧ Q (.str x) σ₁) : EV X A env (.FormattedValue value 115 none pos) σ Q := WP.of fun s R => by
  rw [arm_eval_FormattedValue]
  refine wpAny_bind (h.go R (Step.refl σ s) fun v σ₁ s₁ R₁ S₁ ⟨x, e, hx, q⟩ => wpAny_bind (wpAny_standAt ?_))
  obtain ⟨t, rfl⟩ := pv_str e
  show wpAny _ _ (do let v' ← holding [Value.str x t] (habitSame "fstring-hands-on-the-str" (.str x t)); formatField v' PySem.Str.empty) _ _ s₁
  refine with_tk (Nat.le_refl s₁.toks) (wpAny_bind (wpAny_holding (habitSame_str (fun t' tk => formatField_str (fun t'' tk' htk => ?_) hx) hx)))
  exact ⟨σ₁, R₁.toks tk' (Nat.le_trans R₁.tk htk), S₁.trans (Step.toks σ₁ s₁ tk'), q⟩
end
structure KnF (X : Cx) extends KnH X where
  aF : Addr
  mF : FM
  dF : Addr
  fF : FnD X aF fmtSrc (.ref dF) .none mF
  oF : ∃ o n t, X.base.get? dF = some o ∧ o.data = .seq #[.none, .int 1 t] n
  gF : X.mg (Str.ofString "_formatparam") = some (.ref aF)
section
variable {X : Cx} {A : Around} {σ : AH} {Q : PV → AH → Prop}
theorem CV.fmt (k : KnF X) {n : Nat} (r : Rm A (n + 1)) {p v : Str} (hok : okF p v = true) (hQ : ∀ σ', σ.le σ' → Q (.str (fmtP p v)) σ') : CV X A (.ref k.aF) [.str p, .str v] σ Q := by
  intro vals e
  obtain ⟨v1, v2, rfl, e1, e2⟩ := map2 e
  obtain ⟨t1, rfl⟩ := pv_str e1
  obtain ⟨t2, rfl⟩ := pv_str e2
  unfold okF at hok
  simp only [Bool.and_eq_true, decide_eq_true_eq] at hok
  obtain ⟨⟨⟨h1, h2⟩, h3⟩, h4⟩ := hok
  obtain ⟨⟨o, ho, hd⟩, hc⟩ := k.fF
  obtain ⟨oD, nD, tD, hoD, hsD⟩ := k.oF
  refine CC.wv (args := ⟨[.str p t1, .str v t2], []⟩) (CC.def k.ok r ho hd hc rfl (bind_def (binds := [(Str.ofString "param", .str p t1), (Str.ofString "value", .str v t2), (Str.ofString "quote", .int 1 tD)]) rfl hoD hsD (by rfl) (by rfl) ⟨fun y hy => ?_, fun L hL rL => ?_⟩) (by show ∀ x ∈ fmtSrc.scope.names, x.2 ≠ .cell; decide +kernel))
  · simp only [List.mem_cons, List.not_mem_nil, or_false] at hy
    rcases hy with rfl | rfl | rfl <;> rfl
  have hσL : σ L = none := (hL L (Nat.le_refl _)).1
  have hvs : v.length ≤ sizeLine := Nat.le_trans h2 (by decide)
  refine XS.cons (EX.if (TS.and2 (TS.cmp (EV.loc (AH.set_self ..) (by rfl) (EV.noneC (CMP.isnot_none ⟨_, rfl, fun _ => ?_, fun hc => absurd (show (!decide (PV.str v = PV.none)) = false from hc) (by simp)⟩))))))
  refine TS.cmp (EV.callBi k.ok k.nLen k.bLen (EV.loc (AH.set_self ..) (by rfl) (CV.lenStr hvs (EV.int (CMP.gt_i ⟨_, rfl, fun hc => ?_, fun hc => ?_⟩)))))
  · have hlt : v.length > 0 := by
      have h9 : (v.length : Int) > 0 := of_decide_eq_true hc
      omega
    have hf : fmtP p v = ((p ++ Str.ofString "=\"") ++ q2 v) ++ Str.ofString "\"" := if_pos hlt
    refine XS.cons (EX.if (TS.or2 (TS.val (EV.loc (AH.set_self ..) (by rfl) (TRU.int ⟨fun _ => ⟨fun _ => ?_, fun h => (nomatch h)⟩, fun h => absurd h (by decide)⟩)))))
    refine XS.cons (EX.assign (EV.replace (by decide +kernel) (EV.replace (by decide +kernel) (EV.loc (AH.set_self ..) (by rfl) ⟨v, rfl, ?_, q1 v, rfl, ?_, ?_⟩))))
    · have : (Str.ofString "\\\\").length = 2 := by decide +kernel
      rw [this]; omega
    · have : (Str.ofString "\\\"").length = 2 := by decide +kernel
      rw [this]; omega
    refine ST.up ?_
    have l1 : (Str.ofString "=\"").length = 2 := by decide +kernel
    have l2 : (Str.ofString "\"").length = 1 := by decide +kernel
    have z1 : (p ++ Str.ofString "=\"").length = p.length + 2 := by rw [strLen_append, l1]
    have z2 : ((p ++ Str.ofString "=\"") ++ q2 v).length = p.length + 2 + (q2 v).length := by rw [strLen_append, z1]
    have z3 : (((p ++ Str.ofString "=\"") ++ q2 v) ++ Str.ofString "\"").length = p.length + 2 + (q2 v).length + 1 := by rw [strLen_append, z2, l2]
    have hsl : sizeLine = 16777216 := by decide
    refine XS.cons (EX.ret (EV.joined ?_))
    refine EV.fmtS (EV.loc (AH.set_self ..) (by rfl) ⟨p, rfl, by omega, p, rfl, by rw [Str.empty_append]; omega, ?_⟩)
    rw [Str.empty_append]
    refine EV.str ⟨_, rfl, by omega, ?_⟩
    refine EV.fmtS (EV.loc (AH.set_self ..) (by rfl) ⟨q2 v, rfl, by omega, q2 v, rfl, by omega, ?_⟩)
    refine EV.str ⟨_, rfl, by omega, by omega, ?_⟩
    rw [← hf]
    exact hQ _ (AH.le_setN (AH.le_refl _) hσL)
  · have hlt : ¬ v.length > 0 := by
      have h9 : ¬ (v.length : Int) > 0 := of_decide_eq_false hc
      omega
    have hf : fmtP p v = p := if_neg hlt
    refine XS.cons (EX.ret (EV.loc (AH.set_self ..) (by rfl) ?_))
    have := hQ _ (AH.le_setN (AH.le_refl σ) hσL (p := .ns (bindP [(Str.ofString "param", .str p t1), (Str.ofString "value", .str v t2), (Str.ofString "quote", .int 1 tD)])))
    rw [hf] at this
    exact this
end
end Mine
end

section
open PySem PySem.W PyProof.Rows Builtin Builtin.Str
set_option maxRecDepth 100000
namespace Mine

def rowSrc : Src := srcAt top 13
def matesSrc : Src := srcAt top 14
def rowGo : List Int → Str → Int → Int → Str
  | [], row, _, _ => row
  | b :: r, row, d, l => if l > 0 ∧ (d = 0 ∨ b = 1) then rowGo r (row ++ lb) (d + 1) (l - 1) else rowGo r (row ++ rb) (d - 1) l
def rowP (bits : List Int) : Str := rowGo bits (Str.ofString "") 0 ((bits.length : Int).fdiv 2)

structure Kn1 (X : Cx) extends KnF X where
  aR : Addr
  mR : FM
  fR : Fn X aR rowSrc mR
  gR : X.mg (Str.ofString "_law_row") = some (.ref aR)
  aM : Addr
  mM : FM
  fM : Fn X aM matesSrc mM
  gM : X.mg (Str.ofString "_law_mates") = some (.ref aM)
  nRange : X.mg (Str.ofString "range") = none
  bRange : X.mb (Str.ofString "range") = some (.type "range")
  nMin : X.mg (Str.ofString "min") = none
  bMin : X.mb (Str.ofString "min") = some (.builtin "min")
def ifThen : Stmt → List Stmt
  | .If _ b _ _ => b
  | _ => []
def ifElse : Stmt → List Stmt
  | .If _ _ b _ => b
  | _ => []
section
variable {X : Cx} {A : Around} {σ : AH} {Q : PV → AH → Prop}
theorem getD_int {ns : List Int} {i : Nat} (h : i < ns.length) : (ns.map PV.int).getD i .none = .int ns[i] := by
  rw [List.getD_eq_getElem?_getD, List.getElem?_map, List.getElem?_eq_getElem h]; rfl
theorem CV.lawRow (k : Kn1 X) {n : Nat} (r : Rm A (n + 1)) {bl : Addr} {bits : List Int} (hb : σ bl = some (.list (bits.map PV.int))) (hsz : bits.length ≤ 1000) (hQ : ∀ σ', σ.le σ' → Q (.str (rowP bits)) σ') : CV X A (.ref k.aR) [.ref bl] σ Q := by
  intro vals e
  obtain ⟨v1, rfl, e1⟩ := map1 e
  have := pv_ref e1
  subst this
  obtain ⟨⟨o, ho, hd⟩, hc⟩ := k.fR
  refine CC.wv (args := ⟨[.ref bl], []⟩) (CC.def k.ok r ho hd hc rfl (bind_eq (binds := [(Str.ofString "bits", .ref bl)]) (by rfl) ⟨fun y hy => by rw [List.mem_singleton.mp hy]; rfl, fun L hL rL => ?_⟩) (by show ∀ x ∈ rowSrc.scope.names, x.2 ≠ .cell; decide +kernel))
  have hσL : σ L = none := (hL L (Nat.le_refl _)).1
  have hbL : bl ≠ L := fun z => by rw [z, hσL] at hb; cases hb
  have hb' : (σ.set L (.ns (bindP [(Str.ofString "bits", .ref bl)]))) bl = some (.list (bits.map PV.int)) := by rw [AH.set_ne _ _ hbL]; exact hb
  have hbs : (bits.map PV.int).length ≤ sizeLine := by rw [List.length_map]; exact Nat.le_trans hsz (by decide)
  have H : ∀ (τ : AH) (m : Str → Option PV), σ.le τ → τ L = some (.ns m) → m (Str.ofString "bits") = some (.ref bl) → m (Str.ofString "row") = some (.str (Str.ofString "")) → m (Str.ofString "depth") = some (.int 0) → m (Str.ofString "left") = some (.int ((bits.length : Int).fdiv 2)) →
      XS X (A.deeper (callEnv (mkFn rowSrc k.mR) L k.aR)) (callEnv (mkFn rowSrc k.mR) L k.aR) (rowSrc.body.drop 1) τ (fun f σ₂ => Q (rt f) σ₂) := by
    intro τ m hτ hτL m0 m1 m2 m3
    refine XS.cons (EX.forList rL.hh (EV.loc hτL m0 ⟨bl, bits.map PV.int, fun i σ' => ∃ m row d l, σ.le σ' ∧ σ' L = some (.ns m) ∧ m (Str.ofString "row") = some (.str row) ∧ m (Str.ofString "depth") = some (.int d) ∧ m (Str.ofString "left") = some (.int l) ∧ row.length ≤ i ∧ rowGo (bits.drop i) row d l = rowP bits, rfl, hτ _ _ hb, ?_, fun i σ' hi ⟨m, row, d, l, hle, _⟩ => hle _ _ hb, ?_, ?_⟩))
    · refine ⟨m, Str.ofString "", 0, (bits.length : Int).fdiv 2, hτ, hτL, m1, m2, m3, by decide +kernel, rfl⟩
    · rintro i σ' hi ⟨m, row, d, l, hle, hmL, h1, h2, h3, hlen, hgo⟩
      rw [List.length_map] at hi
      rw [getD_int hi]
      rw [List.drop_eq_getElem_cons hi] at hgo
      generalize bits[i] = b at hgo ⊢
      refine ASG.name (ST.at hmL ?_)
      generalize hm2 : upd m (Str.ofString "bit") (.int b) = m2
      have g1 : m2 (Str.ofString "row") = some (.str row) := by rw [← hm2]; exact h1
      have g2 : m2 (Str.ofString "depth") = some (.int d) := by rw [← hm2]; exact h2
      have g3 : m2 (Str.ofString "left") = some (.int l) := by rw [← hm2]; exact h3
      have g4 : m2 (Str.ofString "bit") = some (.int b) := by rw [← hm2]; rfl
      clear hm2 h1 h2 h3
      have hLs : (σ'.set L (.ns m2)) L = some (.ns m2) := AH.set_self ..
      have hσs : σ.le (σ'.set L (.ns m2)) := AH.le_setN hle hσL
      unfold rowGo at hgo
      have hrow : row.length + 1 ≤ sizeLine := by
        have : row.length ≤ 1000 := by omega
        exact Nat.le_trans (Nat.succ_le_succ this) (by decide)
      have llb : lb.length = 1 := by decide +kernel
      have lrb : rb.length = 1 := by decide +kernel
      have yes : (l > 0 ∧ (d = 0 ∨ b = 1)) → XS X (A.deeper (callEnv (mkFn rowSrc k.mR) L k.aR)) (callEnv (mkFn rowSrc k.mR) L k.aR) (ifThen (stAt (forBody (stAt rowSrc.body 1)) 0)) (σ'.set L (.ns m2)) (fun f σ₃ => match f with
          | .next => ∃ m row d l, σ.le σ₃ ∧ σ₃ L = some (.ns m) ∧ m (Str.ofString "row") = some (.str row) ∧ m (Str.ofString "depth") = some (.int d) ∧ m (Str.ofString "left") = some (.int l) ∧ row.length ≤ i + 1 ∧ rowGo (bits.drop (i + 1)) row d l = rowP bits
          | _ => False) := by
        intro hcond
        rw [if_pos hcond] at hgo
        refine XS.cons (EX.tupS rL.hh (EV.tuple ?_))
        refine EV.bin (EV.loc hLs g1 (EV.str (BIN.cat (by show (row ++ lb).length ≤ _; rw [strLen_append, llb]; exact hrow) (EV.bin (EV.loc hLs g2 (EV.int (BIN.add (EV.bin (EV.loc hLs g3 (EV.int (BIN.sub ⟨by show 3 ≤ sizeLine; decide, fun E hE hEb => ⟨E, _, rfl, AH.set_self .., rfl, ?_⟩⟩)))))))))))
        have hEL : E ≠ L := fun z => by rw [z, hLs] at hE; cases hE
        have hσE : σ E = none := by
          cases q : σ E with
          | none => rfl
          | some z => rw [hσs E z q] at hE; cases hE
        refine ST.at (L := L) (by rw [AH.set_ne _ _ hEL.symm]; exact hLs) (ST.up (ST.up ?_))
        unfold STS
        refine XS.nil ?_
        exact ⟨_, row ++ lb, d + 1, l - 1, AH.le_setN (AH.le_setN hσs hσE) hσL, AH.set_self .., rfl, rfl, rfl, by rw [strLen_append, llb]; omega, hgo⟩
      have no : ¬ (l > 0 ∧ (d = 0 ∨ b = 1)) → XS X (A.deeper (callEnv (mkFn rowSrc k.mR) L k.aR)) (callEnv (mkFn rowSrc k.mR) L k.aR) (ifElse (stAt (forBody (stAt rowSrc.body 1)) 0)) (σ'.set L (.ns m2)) (fun f σ₃ => match f with
          | .next => ∃ m row d l, σ.le σ₃ ∧ σ₃ L = some (.ns m) ∧ m (Str.ofString "row") = some (.str row) ∧ m (Str.ofString "depth") = some (.int d) ∧ m (Str.ofString "left") = some (.int l) ∧ row.length ≤ i + 1 ∧ rowGo (bits.drop (i + 1)) row d l = rowP bits
          | _ => False) := by
        intro hcond
        rw [if_neg hcond] at hgo
        refine XS.cons (EX.tupS rL.hh (EV.tuple ?_))
        refine EV.bin (EV.loc hLs g1 (EV.str (BIN.cat (by show (row ++ rb).length ≤ _; rw [strLen_append, lrb]; exact hrow) (EV.bin (EV.loc hLs g2 (EV.int (BIN.sub ⟨by show 2 ≤ sizeLine; decide, fun E hE hEb => ⟨E, _, rfl, AH.set_self .., rfl, ?_⟩⟩)))))))
        have hEL : E ≠ L := fun z => by rw [z, hLs] at hE; cases hE
        have hσE : σ E = none := by
          cases q : σ E with
          | none => rfl
          | some z => rw [hσs E z q] at hE; cases hE
        refine ST.at (L := L) (by rw [AH.set_ne _ _ hEL.symm]; exact hLs) (ST.up ?_)
        unfold STS
        refine XS.nil ?_
        exact ⟨_, row ++ rb, d - 1, l, AH.le_setN (AH.le_setN hσs hσE) hσL, AH.set_self .., rfl, rfl, g3, by rw [strLen_append, lrb]; omega, hgo⟩
      refine XS.cons (EX.if (TS.and2 (TS.cmp (EV.loc hLs g3 (EV.int (CMP.gt_i ⟨_, rfl, fun hc => ?_, fun hc => ⟨fun h => (nomatch h), fun _ => ?_⟩⟩))))))
      · have hl : l > 0 := of_decide_eq_true hc
        refine TS.or2 (TS.cmp (EV.loc hLs g2 (EV.int (CMP.eq_i ⟨_, rfl, fun hd0 => ⟨fun _ => ?_, fun h => (nomatch h)⟩, fun hd0 => ?_⟩))))
        · have hd0 : d = 0 := by simpa using hd0
          refine (yes ⟨hl, .inl hd0⟩).mono fun f σ₃ h => ?_
          cases f <;> first | exact h.elim | exact XS.nil h
        · have hd0 : ¬ d = 0 := by simpa using hd0
          refine TS.cmp (EV.loc hLs g4 (EV.int (CMP.eq_i ⟨_, rfl, fun hb1 => ?_, fun hb1 => ?_⟩)))
          · have hb1 : b = 1 := by simpa using hb1
            refine (yes ⟨hl, .inr hb1⟩).mono fun f σ₃ h => ?_
            cases f <;> first | exact h.elim | exact XS.nil h
          · have hb1 : ¬ b = 1 := by simpa using hb1
            refine (no (fun h => h.2.elim hd0 hb1)).mono fun f σ₃ h => ?_
            cases f <;> first | exact h.elim | exact XS.nil h
      · have hl : ¬ l > 0 := of_decide_eq_false hc
        refine (no (fun h => hl h.1)).mono fun f σ₃ h => ?_
        cases f <;> first | exact h.elim | exact XS.nil h
    · rintro σ' ⟨m, row, d, l, hle, hmL, h1, h2, h3, hlen, hgo⟩
      rw [List.length_map, List.drop_length] at hgo
      refine XS.cons (EX.ret (EV.loc hmL h1 ?_))
      have : row = rowP bits := hgo
      have h9 := hQ _ hle
      rw [← this] at h9
      exact h9
  refine XS.cons (EX.tupS rL.hh (EV.tuple ?_))
  refine EV.str (EV.int (EV.bin (EV.callBi k.ok k.nLen k.bLen (EV.loc (AH.set_self ..) (by rfl) (CV.lenList hb' hbs (EV.int (BIN.floordiv (by decide) (by decide) ⟨by show 3 ≤ sizeLine; decide, fun D hD hDb => ⟨D, _, rfl, AH.set_self .., rfl, ?_⟩⟩)))))))
  have hDL : D ≠ L := fun z => by rw [z, AH.set_self] at hD; cases hD
  have hσD : σ D = none := by rw [AH.set_ne _ _ hDL] at hD; exact hD
  refine ST.at (L := L) (by rw [AH.set_ne _ _ hDL.symm, AH.set_self]) (ST.up (ST.up ?_))
  exact H _ _ (AH.le_setN (AH.le_setN (AH.le_setN (AH.le_refl _) hσL) hσD) hσL) (AH.set_self ..) rfl rfl rfl (by show some (PV.int (((bits.map PV.int).length : Int).fdiv 2)) = _; rw [List.length_map])
end
end Mine
end

section
open PySem PySem.W PyProof.Rows Builtin Builtin.Str
set_option maxRecDepth 100000
namespace Mine

theorem rep_list (v : Value) : ∀ (n : Nat) (acc : Array Value), (List.foldl (fun x1 x2 => x1 ++ x2) acc (List.replicate n #[v])).toList = acc.toList ++ List.replicate n v
  | 0, acc => by simp
  | n + 1, acc => by rw [List.replicate_succ, List.foldl_cons, rep_list v n]; simp [List.replicate_succ]
section
variable {X : Cx} {A : Around} {σ : AH} {Q : PV → AH → Prop}
theorem mul_one_list {prog : Program} {w : World} {A : Around} {E : Value → Shared → Prop} {s : Shared} {l : Addr} {v : Value} {k : Nat} {x : Int} {u : Tok} {Q : Value → Shared → Prop}
    (hl : s.heap.get? l = some { cls := .type "list", dict := none, data := .seq #[v] k, slots := #[] })
    (hlo : -(2 ^ 63 : Int) ≤ x) (hhi : x < 2 ^ 63) (hsz : (#[v] : Array Value).size * x.toNat ≤ 2 ^ 24)
    (h : Q (.ref s.heap.objs.size) { s with heap := s.heap.push { cls := .type "list", data := .seq (List.foldl (fun x1 x2 => x1 ++ x2) #[] (List.replicate (if (#[v] : Array Value).isEmpty = true then 0 else x.toNat) #[v])) } }) :
    wpAny (model prog w) A (binaryOp .Mult (.ref l) (.int x u)) Q E s :=
  wpAny_binaryOp_repeat_ref (T := "list") (U := "int") (by decide) ⟨_, hl, rfl⟩ (fun s' => typeIs_int s' x u) noFill_list_mul F.fills_int_mul F.slot_int_rmul repeat_list F.slot_int_index.lookup
    (call_meets F.slot_int_rmul (typeIs_int s x u) F.entry_int_rmul (F.args_int_rmul_2 _ _) (int___rmul___int_list x u l #[v] k)
      ⟨hl, rfl, ⟨_, hl, rfl⟩, call_meets F.slot_list_mul ⟨_, hl, rfl⟩ F.entry_list_mul (F.args_list_mul_2 _ _)
        (AutoListH.list___mul___list_int_3 l #[v] k x u (by simp [Builtin.List.listFitsIndex]; omega) (by omega) (by simp [Builtin.List.listTooLong, sizeLine] at *; omega))
        ⟨hl, h⟩⟩)
theorem BIN.mulList {l : Addr} {p : PV} {n : Nat} (hl : σ l = some (.list [p])) (hn : n ≤ 1000) (h : ∀ D, σ D = none → X.base.get? D = none → Q (.ref D) (σ.set D (.list (List.replicate n p)))) : BIN X A .Mult (.ref l) (.int n) σ Q := fun va vb ea eb => WP.of fun s R => by
  obtain ⟨u, rfl⟩ := pv_int eb
  rw [pv_ref ea]
  obtain ⟨items, ⟨k, hp⟩, em⟩ := R.rz _ _ hl
  obtain ⟨v, rfl, ev⟩ : ∃ v, items = #[v] ∧ pv v = p := by
    match items, em with
    | ⟨[v]⟩, em => exact ⟨v, rfl, by simpa using em⟩
    | ⟨[]⟩, em => simp at em
    | ⟨_ :: _ :: _⟩, em => simp at em
  have hsz : (#[v] : Array Value).size * ((n : Int)).toNat ≤ 2 ^ 24 := by
    have : (#[v] : Array Value).size = 1 := rfl
    rw [this, Int.toNat_natCast]; omega
  refine mul_one_list hp (by omega) (by omega) hsz ?_
  obtain ⟨R', S', hnn, hbb⟩ := R.new (h' := s.heap.push { cls := .type "list", data := .seq (List.foldl (fun x1 x2 => x1 ++ x2) #[] (List.replicate (if (#[v] : Array Value).isEmpty = true then 0 else ((n : Int)).toNat) #[v])) }) (tk := s.toks) (p := .list (List.replicate n p)) (by rw [Heap.size_push]; exact Nat.lt_succ_self _) (fun b o e => Heap.get?_push_of_some _ e)
    ⟨_, ⟨_, Heap.get?_push_size _ rfl⟩, by
      rw [show (if (#[v] : Array Value).isEmpty = true then 0 else ((n : Int)).toNat) = n from rfl, rep_list]
      simp [ev]⟩ R.tk
  exact ⟨_, R', S', h _ hnn hbb⟩

def matGo : List Nat → Nat → List Nat → List Nat → Option (List Nat)
  | [], _, m, _ => some m
  | c :: r, p, m, st => if (⟨#[c]⟩ : Str) = lb then matGo r (p + 1) m (p :: st) else
      match st with
      | [] => none
      | q :: st' => if q < m.length then matGo r (p + 1) ((m.set p q).set q p) st' else none
def matP (x : Str) : Option (List Nat) := matGo x.cps.toList 0 (List.replicate x.length 0) []
abbrev nI (l : List Nat) : List PV := l.map fun n => PV.int (n : Nat)
theorem nI_get {l : List Nat} {i : Nat} (h : i < l.length) : (nI l)[i]? = some (.int (l[i] : Nat)) := by simp [nI, h]
theorem nI_set (l : List Nat) (i : Nat) (q : Nat) : (nI l).set i (.int (q : Nat)) = nI (l.set i q) := by simp [nI, List.map_set]

theorem CV.lawMates (k : Kn1 X) {n : Nat} (r : Rm A (n + 1)) {x : Str} {fin : List Nat} (hx : x.length ≤ 1000) (hm : matP x = some fin) (hQ : ∀ σ' M, σ.le σ' → σ M = none → σ' M = some (.list (nI fin)) → Q (.ref M) σ') : CV X A (.ref k.aM) [.str x] σ Q := by
  intro vals e
  obtain ⟨v1, rfl, e1⟩ := map1 e
  obtain ⟨t, rfl⟩ := pv_str e1
  obtain ⟨⟨o, ho, hd⟩, hc⟩ := k.fM
  refine CC.wv (args := ⟨[.str x t], []⟩) (CC.def k.ok r ho hd hc rfl (bind_eq (binds := [(Str.ofString "row", .str x t)]) (by rfl) ⟨fun y hy => by rw [List.mem_singleton.mp hy]; rfl, fun L hL rL => ?_⟩) (by show ∀ x ∈ matesSrc.scope.names, x.2 ≠ .cell; decide +kernel))
  have hσL : σ L = none := (hL L (Nat.le_refl _)).1
  have hxs : x.length ≤ sizeLine := Nat.le_trans hx (by decide)
  have H : ∀ (τ : AH) (m : Str → Option PV) (M W : Addr), σ.le τ → σ M = none → σ W = none → M ≠ W → τ L = some (.ns m) → τ M = some (.list (nI (List.replicate x.length 0))) → τ W = some (.list []) →
      m (Str.ofString "row") = some (.str x) → m (Str.ofString "mates") = some (.ref M) → m (Str.ofString "waiting") = some (.ref W) →
      XS X (A.deeper (callEnv (mkFn matesSrc k.mM) L k.aM)) (callEnv (mkFn matesSrc k.mM) L k.aM) (matesSrc.body.drop 1) τ (fun f σ₂ => Q (rt f) σ₂) := by
    intro τ m M W hτ hM hW hMW tL tM tW m1 m2 m3
    refine XS.cons (EX.forRange rL.hh (EV.callTy k.ok k.nRange k.bRange (EV.callBi k.ok k.nLen k.bLen (EV.loc tL m1 (CV.lenStr hxs (CV.range1 fun D hD hDb => ⟨D, 0, x.length, 1, x.length, fun i σ' => ∃ m ms st, σ.le σ' ∧ σ' L = some (.ns m) ∧ σ' M = some (.list (nI ms)) ∧ σ' W = some (.list (nI st.reverse)) ∧ m (Str.ofString "row") = some (.str x) ∧ m (Str.ofString "mates") = some (.ref M) ∧ m (Str.ofString "waiting") = some (.ref W) ∧ ms.length = x.length ∧ st.length ≤ i ∧ matGo (x.cps.toList.drop i) i ms st = some fin, rfl, AH.set_self .., ?_, ?_, ?_, ?_, ?_⟩))))))
    · exact PySem.small_one (by omega) (by omega) (by omega) (by omega)
    · rw [rangeSize_nat]; simp
    · have hDs : ∀ b p, τ b = some p → (τ.set D (.range 0 x.length 1)) b = some p := AH.le_setN (AH.le_refl _) hD
      exact ⟨m, List.replicate x.length 0, [], AH.le_trans hτ (fun b p e => hDs b p e), hDs _ _ tL, hDs _ _ tM, hDs _ _ tW, m1, m2, m3, by simp, Nat.zero_le _, hm⟩
    · rintro i σ' hi ⟨m, ms, st, hle, sL, sM, sW, g1, g2, g3, hlen, hst, hgo⟩
      have ei : (0 : Int) + (i : Int) * 1 = (i : Nat) := by omega
      rw [ei]
      have hi2 : i < x.cps.toList.length := by simpa [Str.length] using hi
      rw [List.drop_eq_getElem_cons hi2] at hgo
      have hci : x.cps[i]? = some (x.cps.toList[i]) := by
        have : i < x.cps.size := hi
        simp [this]
      generalize x.cps.toList[i] = c at hgo hci
      have hML : M ≠ L := fun z => by rw [z, sL] at sM; cases sM
      have hWL : W ≠ L := fun z => by rw [z, sL] at sW; cases sW
      refine ASG.name (ST.at sL ?_)
      generalize hm2 : upd m (Str.ofString "p") (.int (i : Nat)) = m2
      have g1 : m2 (Str.ofString "row") = some (.str x) := by rw [← hm2]; exact g1
      have g2 : m2 (Str.ofString "mates") = some (.ref M) := by rw [← hm2]; exact g2
      have g3 : m2 (Str.ofString "waiting") = some (.ref W) := by rw [← hm2]; exact g3
      have g4 : m2 (Str.ofString "p") = some (.int (i : Nat)) := by rw [← hm2]; rfl
      clear hm2
      generalize hυ : σ'.set L (.ns m2) = υ
      have uL : υ L = some (.ns m2) := by rw [← hυ, AH.set_self]
      have uM : υ M = some (.list (nI ms)) := by rw [← hυ, AH.set_ne _ _ hML]; exact sM
      have uW : υ W = some (.list (nI st.reverse)) := by rw [← hυ, AH.set_ne _ _ hWL]; exact sW
      have hσυ : σ.le υ := by rw [← hυ]; exact AH.le_setN hle hσL
      clear hυ sL sM sW hle
      have hi63 : (i : Int) < 2 ^ 63 := by omega
      unfold matGo at hgo
      refine XS.cons (EX.if (TS.cmp (EV.sub (EV.loc uL g1 (EV.loc uL g4 (SUB.str (c := c) (by omega) hi63 (by simpa using hci) (EV.str (CMP.eq_s ⟨_, rfl, fun hc => ?_, fun hc => ?_⟩))))))))
      · have hcd : (⟨#[c]⟩ : Str) = lb := of_decide_eq_true hc
        rw [if_pos hcd] at hgo
        refine XS.cons (EX.expr (EV.methBi (EV.loc uL g3 ⟨GMB.append uW, EV.loc uL g4 (CV.append uW (by simp [nI]; exact Nat.le_trans (Nat.le_trans hst (Nat.le_of_lt hi)) hxs) ⟨fun a => by simp, XS.nil (XS.nil ?_)⟩)⟩)))
        exact ⟨m2, ms, i :: st, AH.le_setN hσυ hW, by rw [AH.set_ne _ _ hWL.symm]; exact uL, by rw [AH.set_ne _ _ hMW]; exact uM, by rw [AH.set_self]; simp [nI], g1, g2, g3, hlen, by simp; omega, hgo⟩
      · have hcd : ¬ (⟨#[c]⟩ : Str) = lb := of_decide_eq_false hc
        rw [if_neg hcd] at hgo
        cases st with
        | nil => cases hgo
        | cons q st' =>
          dsimp only at hgo
          by_cases hq : q < ms.length
          · rw [if_pos hq] at hgo
            have uW' : υ W = some (.list (nI st'.reverse ++ [.int (q : Nat)])) := by rw [uW]; simp [nI]
            have hpop : (nI st'.reverse).length < sizeLine := by
              have h7 : sizeLine = 16777216 := by decide
              simp at hst
              simp [nI]; omega
            refine XS.cons (EX.setItemL (EV.methBi (EV.loc uL g3 ⟨GMB.pop uW', CV.pop uW' hpop ?_⟩)))
            generalize hw : υ.set W (.list (nI st'.reverse)) = w
            have wL : w L = some (.ns m2) := by rw [← hw, AH.set_ne _ _ hWL.symm]; exact uL
            have wM : w M = some (.list (nI ms)) := by rw [← hw, AH.set_ne _ _ hMW]; exact uM
            have wW : w W = some (.list (nI st'.reverse)) := by rw [← hw, AH.set_self]
            have hσw : σ.le w := by rw [← hw]; exact AH.le_setN hσυ hW
            clear hw uL uM uW uW' hσυ
            have hms : (nI ms).length ≤ sizeLine := by simp [nI]; omega
            refine EV.loc wL g2 (EV.loc wL g4 ⟨M, nI ms, i, rfl, rfl, wM, by simp [nI]; omega, hms, ?_⟩)
            rw [nI_set]
            generalize hz : w.set M (.list (nI (ms.set i q))) = z
            have zL : z L = some (.ns m2) := by rw [← hz, AH.set_ne _ _ hML.symm]; exact wL
            have zM : z M = some (.list (nI (ms.set i q))) := by rw [← hz, AH.set_self]
            have zW : z W = some (.list (nI st'.reverse)) := by rw [← hz, AH.set_ne _ _ hMW.symm]; exact wW
            have hσz : σ.le z := by rw [← hz]; exact AH.le_setN hσw hM
            have hil : i < (ms.set i q).length := by simp; omega
            refine XS.cons (EX.setItemL (EV.loc zL g4 (EV.loc zL g2 (EV.sub (EV.loc zL g2 (EV.loc zL g4 (SUB.list (p := .int (q : Nat)) zM (by omega) hi63 (by rw [Int.toNat_natCast, nI_get hil, List.getElem_set_self]) ?_)))))))
            refine ⟨M, nI (ms.set i q), q, rfl, rfl, zM, by simp [nI]; exact hq, by simp [nI]; omega, ?_⟩
            rw [nI_set]
            refine XS.nil (XS.nil ?_)
            exact ⟨m2, _, st', AH.le_setN hσz hM, by rw [AH.set_ne _ _ hML.symm]; exact zL, AH.set_self .., by rw [AH.set_ne _ _ hMW.symm]; exact zW, g1, g2, g3, by simp; exact hlen, by simp at hst; omega, hgo⟩
          · rw [if_neg hq] at hgo; cases hgo
    · rintro σ' ⟨m, ms, st, hle, sL, sM, sW, g1, g2, g3, hlen, hst, hgo⟩
      have : x.cps.toList.drop x.length = [] := by simp [Str.length]
      rw [this] at hgo
      have hf : ms = fin := by simpa [matGo] using hgo
      subst hf
      exact XS.cons (EX.ret (EV.loc sL g2 (hQ _ M hle hM sM)))
  refine XS.cons (EX.tupS rL.hh (EV.tuple ?_))
  refine EV.bin (EV.list ?_)
  refine EV.int ⟨by show 1 ≤ sizeLine; decide, fun D hD hDb => ?_⟩
  have hDL : D ≠ L := fun z => by rw [z, AH.set_self] at hD; cases hD
  have hσD : σ D = none := by rw [AH.set_ne _ _ hDL] at hD; exact hD
  have tL1 : ((σ.set L (.ns (bindP [(Str.ofString "row", .str x t)]))).set D (.list [.int 0])) L = some (.ns (bindP [(Str.ofString "row", .str x t)])) := by rw [AH.set_ne _ _ hDL.symm, AH.set_self]
  refine EV.callBi k.ok k.nLen k.bLen (EV.loc tL1 (by rfl) (CV.lenStr hxs (BIN.mulList (AH.set_self ..) hx fun M hM hMb => ?_)))
  have hMD : M ≠ D := fun z => by rw [z, AH.set_self] at hM; cases hM
  rw [AH.set_ne _ _ hMD] at hM
  have hML : M ≠ L := fun z => by rw [z, AH.set_self] at hM; cases hM
  have hσM : σ M = none := by rw [AH.set_ne _ _ hML] at hM; exact hM
  refine EV.list ⟨Nat.zero_le _, fun W hW hWb => ?_⟩
  have hWM : W ≠ M := fun z => by rw [z, AH.set_self] at hW; cases hW
  rw [AH.set_ne _ _ hWM] at hW
  have hWD : W ≠ D := fun z => by rw [z, AH.set_self] at hW; cases hW
  rw [AH.set_ne _ _ hWD] at hW
  have hWL : W ≠ L := fun z => by rw [z, AH.set_self] at hW; cases hW
  have hσW : σ W = none := by rw [AH.set_ne _ _ hWL] at hW; exact hW
  refine ⟨by show 2 ≤ sizeLine; decide, fun T hT hTb => ⟨T, _, rfl, AH.set_self .., rfl, ?_⟩⟩
  have hTW : T ≠ W := fun z => by rw [z, AH.set_self] at hT; cases hT
  rw [AH.set_ne _ _ hTW] at hT
  have hTM : T ≠ M := fun z => by rw [z, AH.set_self] at hT; cases hT
  rw [AH.set_ne _ _ hTM] at hT
  have hTD : T ≠ D := fun z => by rw [z, AH.set_self] at hT; cases hT
  rw [AH.set_ne _ _ hTD] at hT
  have hTL : T ≠ L := fun z => by rw [z, AH.set_self] at hT; cases hT
  have hσT : σ T = none := by rw [AH.set_ne _ _ hTL] at hT; exact hT
  refine ST.at (L := L) (by rw [AH.set_ne _ _ hTL.symm, AH.set_ne _ _ hWL.symm, AH.set_ne _ _ hML.symm, AH.set_ne _ _ hDL.symm, AH.set_self]) (ST.up ?_)
  unfold STS
  refine H _ _ M W ?_ hσM hσW hWM.symm (AH.set_self ..) ?_ ?_ rfl rfl rfl
  · exact AH.le_setN (AH.le_setN (AH.le_setN (AH.le_setN (AH.le_setN (AH.le_setN (AH.le_refl _) hσL) hσD) hσM) hσW) hσT) hσL
  · rw [AH.set_ne _ _ hML, AH.set_ne _ _ hTM.symm, AH.set_ne _ _ hWM.symm, AH.set_self]; simp [nI]
  · rw [AH.set_ne _ _ hWL, AH.set_ne _ _ hTW.symm, AH.set_self]
end
end Mine
end

section
open PySem PySem.W PyProof.Rows Builtin Builtin.Str
set_option maxRecDepth 100000
namespace Mine

def lawSrc : Src := srcAt top 15
abbrev lawEnv (fm : FM) (L a : Addr) : Env := callEnvC (mkFn lawSrc fm) L a
def sizeP (n : Nat) : Nat := 4 + 2 * (if n / 2 < 2 then n / 2 else 2)
def figP (ns : List Int) (k : Nat) : Int := if ns.length > 0 then ((ns.getD (k % ns.length) 0).fdiv (4 ^ (k / ns.length))).fmod 4 else 0
def figsP (ns : List Int) : List Int := (List.range (sizeP ns.length)).map (figP ns)
theorem sizeP_le (n : Nat) : sizeP n ≤ 8 := by unfold sizeP; split <;> omega

section
variable {X : Cx} {A : Around} {env : Env} {σ : AH}
theorem SUB.base {value slice : Expr} {l : Addr} {items : Array Value} {ns : List Int} {k : Nat} {Q : PV → AH → Prop} (hl : X.base.IsList l items) (hi : items.toList.map pv = ns.map PV.int) (hk : (k : Int) < 2 ^ 63) (hlt : k < ns.length) (h : Q (.int (ns.getD k 0)) σ)
    (hs : (match slice with | .Slice .. => false | _ => true) = true := by rfl) : SUB X A value slice (.ref l) (.int (k : Nat)) σ Q := fun vo vi eo ei => WV.val (fun s R Q' hQ => by
  obtain ⟨t, rfl⟩ := pv_int ei
  rw [pv_ref eo]
  have hl' : s.heap.IsList l items := hl.at fun o e => R.base l o e
  have hlt' : k < items.size := by
    have := congrArg List.length hi
    simp at this; omega
  have hv : pv items[k] = .int (ns.getD k 0) := by
    have := congrArg (fun l => l[k]?) hi
    simp [hlt, hlt'] at this
    rw [this]
    simp [List.getD_eq_getElem?_getD, hlt]
  exact tail_any hl'.typeIs list_getitem_lookup (wpAny_getItem_list hl' (Int.natCast_nonneg _) hk (x := items[k]) (by simp [hlt']) (hQ _ s.toks hv)) (subscripted_plain hs _ _)) h

theorem neLj {L j : Nat} (h : 1 ≤ j) : L + j ≠ L := by omega
theorem neLL {L i j : Nat} (h : i ≠ j) : L + i ≠ L + j := by omega
/-- the ground under the law's own run: what stands still -/
structure Gd (F σ : AH) (L : Nat) : Prop where
  le : F.le σ
  fl : F L = none
  fc : ∀ j : Nat, 1 ≤ j → j ≤ 8 → F (L + j) = none
  sl : ∃ m, σ L = some (.ns m)
  sc : ∀ j : Nat, 1 ≤ j → j ≤ 8 → ∃ v, σ (L + j) = some (.cell v)
section
variable {F : AH} {L : Nat}
theorem Gd.loc (G : Gd F σ L) {m : Str → Option PV} : Gd F (σ.set L (.ns m)) L :=
  ⟨AH.le_setN G.le G.fl, G.fl, G.fc, ⟨m, AH.set_self ..⟩, fun j h1 h2 => by rw [AH.set_ne _ _ (neLj h1)]; exact G.sc j h1 h2⟩
theorem Gd.cell {j : Nat} (G : Gd F σ L) (h1 : 1 ≤ j) (h2 : j ≤ 8) {p : Option PV} : Gd F (σ.set (L + j) (.cell p)) L :=
  ⟨AH.le_setN G.le (G.fc j h1 h2), G.fl, G.fc, by rw [AH.set_ne _ _ (neLj h1).symm]; exact G.sl, fun i i1 i2 => by
    by_cases h : i = j
    · subst h; exact ⟨p, AH.set_self ..⟩
    · rw [AH.set_ne _ _ (neLL h)]; exact G.sc i i1 i2⟩
theorem Gd.more (G : Gd F σ L) {σ' : AH} (h : σ.le σ') : Gd F σ' L :=
  ⟨AH.le_trans G.le h, G.fl, G.fc, let ⟨m, e⟩ := G.sl; ⟨m, h _ _ e⟩, fun j h1 h2 => let ⟨v, e⟩ := G.sc j h1 h2; ⟨v, h _ _ e⟩⟩
theorem Gd.ne (G : Gd F σ L) {D : Nat} (h : σ D = none) : D ≠ L ∧ (∀ j : Nat, 1 ≤ j → j ≤ 8 → D ≠ L + j) ∧ F D = none := by
  refine ⟨fun z => ?_, fun j h1 h2 z => ?_, ?_⟩
  · obtain ⟨m, e⟩ := G.sl; rw [← z, h] at e; cases e
  · obtain ⟨v, e⟩ := G.sc j h1 h2; rw [← z, h] at e; cases e
  · cases q : F D with
    | none => rfl
    | some p => rw [G.le D p q] at h; cases h
theorem Gd.put (G : Gd F σ L) {D : Nat} (h : σ D = none) {p : PO} : Gd F (σ.set D p) L := G.more (AH.le_setN (AH.le_refl _) h)
theorem Gd.freeze (G : Gd F σ L) {D : Nat} (hL : D ≠ L) (hj : ∀ j : Nat, 1 ≤ j → j ≤ 8 → D ≠ L + j) {p : PO} (h : σ D = some p) : Gd (F.set D p) σ L :=
  ⟨fun b q e => by
    by_cases hb : b = D
    · subst hb; rw [AH.set_self] at e; cases e; exact h
    · rw [AH.set_ne _ _ hb] at e; exact G.le b q e, by rw [AH.set_ne _ _ hL.symm]; exact G.fl, fun j h1 h2 => by rw [AH.set_ne _ _ (hj j h1 h2).symm]; exact G.fc j h1 h2, G.sl, G.sc⟩
end

theorem law_a {fm : FM} {L : Nat} {a sl : Addr} {ns : List Int} {items : Array Value} {F : AH} {n : Nat} (k : Kn1 X) (r : Rm A (n + 1)) (hl : X.base.IsList sl items) (hits : items.toList.map pv = ns.map PV.int) (hn : ns.length ≤ 63) {m : Str → Option PV} {Q : PF → AH → Prop}
    (G : Gd F σ L) (hL : σ L = some (.ns m)) (hc1 : σ (L + 1) = some (.cell (some (.ref sl))))
    (h : ∀ σ' m' F' D, Gd F' σ' L → F.le F' → σ' L = some (.ns m') → (∀ j : Nat, 1 ≤ j → j ≤ 8 → σ' (L + j) = σ (L + j)) → m' (Str.ofString "size") = some (.int (sizeP ns.length : Nat)) → m' (Str.ofString "figures") = some (.ref D) → F' D = some (.list ((figsP ns).map PV.int)) →
      XS X A (lawEnv fm L a) (lawSrc.body.drop 2) σ' Q) :
    XS X A (lawEnv fm L a) lawSrc.body σ Q := by
  have hsize : items.size = ns.length := by
    have := congrArg List.length hits
    simpa using this
  have h8 := sizeP_le ns.length
  have hL1 : ∀ j : Nat, 1 ≤ j → L + j ≠ L := fun j hj z => by omega
  refine XS.cons (EX.assign (EV.bin (EV.int (EV.bin (EV.int (EV.callBi k.ok k.nMin k.bMin (EV.int (EV.bin (EV.callBi k.ok k.nLen k.bLen (EV.cell (c := L + 1) (by rfl) hc1 (CV.lenBase hl (by rw [hsize]; exact Nat.le_trans hn (by decide)) (EV.int (BIN.floordiv (by decide) (by decide) (CV.min2 r.hh ?_))))))))))))))
  have hval : (4 : Int) + 2 * (if ((items.size : Nat) : Int).fdiv 2 < 2 then ((items.size : Nat) : Int).fdiv 2 else 2) = (sizeP ns.length : Nat) := by
    rw [hsize, Int.fdiv_eq_ediv_of_nonneg _ (by decide)]
    unfold sizeP
    split <;> split <;> omega
  refine BIN.mul ?_ (BIN.add ?_)
  · exact IntMulOk.of_left (by decide +kernel)
  rw [hval]
  refine ST.at hL ?_
  generalize hm1 : upd m (Str.ofString "size") (.int (sizeP ns.length : Nat)) = m1
  have g1 : m1 (Str.ofString "size") = some (.int (sizeP ns.length : Nat)) := by rw [← hm1]; rfl
  have G1 : Gd F (σ.set L (.ns m1)) L := G.loc
  have hc1' : (σ.set L (.ns m1)) (L + 1) = some (.cell (some (.ref sl))) := by rw [AH.set_ne _ _ (hL1 1 (Nat.le_refl _))]; exact hc1
  have hLs : (σ.set L (.ns m1)) L = some (.ns m1) := AH.set_self ..
  have hkeep : ∀ j : Nat, 1 ≤ j → j ≤ 8 → (σ.set L (.ns m1)) (L + j) = σ (L + j) := fun j h1 _ => AH.set_ne _ _ (hL1 j h1)
  generalize σ.set L (.ns m1) = τ at *
  refine XS.cons (EX.compUsed (cl := [(Str.ofString "script", L + 1)]) r.hh rfl (EV.callTy k.ok k.nRange k.bRange (EV.loc hLs g1 (CV.range1 fun D hD hDb => ⟨sizeP ns.length, _, _, fun C i acc σ' => σ' = τ.set D (.range 0 (sizeP ns.length : Nat) 1) ∧ σ' C = none ∧ acc = ((List.range i).map (figP ns)).map PV.int, ISRC.range (AH.set_self ..) ?_ ?_, Nat.le_trans h8 (by decide), fun C hC => ⟨rfl, (hC C (Nat.le_refl _)).1, rfl⟩, fun C i acc σ' hi h => ⟨h.2.1, trivial⟩, ?_, ?_⟩))))
  · exact PySem.small_one (by omega) (by omega) (by omega) (by omega)
  · rw [rangeSize_nat]; simp
  · rintro C i acc σ' hC hi ⟨e1, hCn, e3⟩
    subst e3
    rw [e1] at hCn ⊢
    have ei : (0 : Int) + (i : Int) * 1 = (i : Nat) := by omega
    rw [ei]
    have hDL : (L + 1 : Nat) ≠ D := fun z => by rw [← z, hc1'] at hD; cases hD
    have hCN : (L + 1 : Nat) ≠ C := fun z => by rw [← z, AH.set_ne _ _ hDL, hc1'] at hCn; cases hCn
    have wN : ((τ.set D (.range 0 (sizeP ns.length : Nat) 1)).set C (nsx (Str.ofString "k") (some (.int (i : Nat))))) (L + 1) = some (.cell (some (.ref sl))) := by rw [AH.set_ne _ _ hCN, AH.set_ne _ _ hDL]; exact hc1'
    have wC : ((τ.set D (.range 0 (sizeP ns.length : Nat) 1)).set C (nsx (Str.ofString "k") (some (.int (i : Nat))))) C = some (nsx (Str.ofString "k") (some (.int (i : Nat)))) := AH.set_self ..
    have hls : items.size ≤ sizeLine := by rw [hsize]; exact Nat.le_trans hn (by decide)
    have hend : ∀ {y : PV}, y = .int (figP ns i) → ∃ σ₄, AH.le (σ₄.set C (nsx (Str.ofString "k") (some (.int (i : Nat))))) ((τ.set D (.range 0 (sizeP ns.length : Nat) 1)).set C (nsx (Str.ofString "k") (some (.int (i : Nat))))) ∧ σ₄ = τ.set D (.range 0 (sizeP ns.length : Nat) 1) ∧ σ₄ C = none ∧ (((List.range i).map (figP ns)).map PV.int) ++ [y] = ((List.range (i + 1)).map (figP ns)).map PV.int := by
      rintro y rfl
      exact ⟨_, AH.le_refl _, rfl, hCn, by simp [List.range_succ]⟩
    refine ⟨fun _ => ?_, fun h => (nomatch h)⟩
    refine EV.ifexp (TS.cmp (EV.callBi k.ok k.nLen k.bLen (EV.cell (c := L + 1) (by rfl) wN (CV.lenBase hl hls (EV.int (CMP.gt_i ⟨_, rfl, fun hc => ?_, fun hc => ?_⟩))))))
    · have hpos : ns.length > 0 := by
        have h9 : ((items.size : Nat) : Int) > 0 := of_decide_eq_true hc
        omega
      have hf : figP ns i = ((ns.getD (i % ns.length) 0).fdiv (4 ^ (i / ns.length))).fmod 4 := if_pos hpos
      have hidx : ((i : Nat) : Int).fmod ((items.size : Nat) : Int) = ((i % ns.length : Nat) : Int) := by
        rw [hsize, Int.fmod_eq_emod_of_nonneg _ (by omega)]; norm_cast
      have hquo : ((i : Nat) : Int).fdiv ((items.size : Nat) : Int) = ((i / ns.length : Nat) : Int) := by
        rw [hsize, Int.fdiv_eq_ediv_of_nonneg _ (by omega)]; norm_cast
      have hp7 : i / ns.length ≤ 7 := by
        have := Nat.div_le_self i ns.length
        omega
      have hpow : (4 : Int) ^ (i / ns.length) ≠ 0 ∧ ((4 : Int) ^ (i / ns.length)).natAbs < 1073741824 ∧ Builtin.Int.intTooBig (((Builtin.Int.intBits 4 : Nat) : Int) * ((i / ns.length : Nat) : Int)) = false := by
        generalize i / ns.length = e at hp7
        have : e = 0 ∨ e = 1 ∨ e = 2 ∨ e = 3 ∨ e = 4 ∨ e = 5 ∨ e = 6 ∨ e = 7 := by omega
        rcases this with rfl | rfl | rfl | rfl | rfl | rfl | rfl | rfl <;> decide +kernel
      refine EV.bin (EV.bin (EV.sub (EV.cell (c := L + 1) (by rfl) wN (EV.bin (EV.loc wC (by rfl) (EV.callBi k.ok k.nLen k.bLen (EV.cell (c := L + 1) (by rfl) wN (CV.lenBase hl hls (BIN.fmod (by omega) ?_)))))))))
      rw [hidx]
      refine SUB.base hl hits (by have := Nat.mod_lt i hpos; omega) (Nat.mod_lt i hpos) ?_
      refine EV.bin (EV.int (EV.bin (EV.loc wC (by rfl) (EV.callBi k.ok k.nLen k.bLen (EV.cell (c := L + 1) (by rfl) wN (CV.lenBase hl hls (BIN.floordiv (by omega) (by omega) ?_)))))))
      rw [hquo]
      refine BIN.pow (by decide) hpow.2.2 (BIN.floordiv hpow.1 hpow.2.1 (EV.int (BIN.fmod (by decide) ?_)))
      exact hend (by rw [hf])
    · have hpos : ¬ ns.length > 0 := by
        have h9 : ¬ ((items.size : Nat) : Int) > 0 := of_decide_eq_false hc
        omega
      have hf : figP ns i = 0 := if_neg hpos
      exact EV.int (hend (by rw [hf]))
  · rintro C E acc σ' hE hEC ⟨e1, hCn, e3⟩ hEn
    subst e3
    rw [e1] at hEn ⊢
    have hEτ : τ E = none := by
      by_cases hED : E = D
      · rw [hED]; exact hD
      · rw [AH.set_ne _ _ hED] at hEn; exact hEn
    obtain ⟨n1, n2, n3⟩ := G1.ne hEτ
    have G2 : Gd F (((τ.set D (.range 0 (sizeP ns.length : Nat) 1)).set E (.list (((List.range (sizeP ns.length)).map (figP ns)).map PV.int)))) L := G1.more (AH.le_setN (AH.le_setN (AH.le_refl _) hD) hEτ)
    obtain ⟨d1, d2, d3⟩ := G1.ne hD
    refine ST.at (L := L) (m := m1) (by rw [AH.set_ne _ _ n1.symm, AH.set_ne _ _ d1.symm]; exact hLs) ?_
    refine h _ _ _ E (G2.loc.freeze n1 n2 (p := .list ((figsP ns).map PV.int)) (by rw [AH.set_ne _ _ n1, AH.set_self]; rfl)) (AH.le_setN (AH.le_refl _) n3) (AH.set_self ..) (fun j j1 j2 => ?_) g1 rfl (AH.set_self ..)
    rw [AH.set_ne _ _ (neLj j1), AH.set_ne _ _ (n2 j j1 j2).symm, AH.set_ne _ _ (d2 j j1 j2).symm]
    exact hkeep j j1 j2
end
end Mine
end

section
open PySem PySem.W PyProof.Rows Builtin Builtin.Str
set_option maxRecDepth 100000
namespace Mine

section
variable {X : Cx} {A : Around} {env : Env} {σ : AH}
theorem EX.tup2 {x y : Str} {px py tpos pos : Pos} {k : Nat} {value : Expr} {Q : PF → AH → Prop} (hh : A.handled = none)
    (h : EV X A env value σ fun p σ₁ => ∃ t a b, p = .ref t ∧ σ₁ t = some (.tuple [a, b]) ∧ ST X A env x a σ₁ fun σ₂ => ST X A env y b σ₂ fun σ₃ => Q .next σ₃)
    (hs : swapsWithSole [.Tuple [.Name x px, .Name y py] k tpos] value pos.line env = pure false := by rfl)
    (hw : swappedStores [.Tuple [.Name x px, .Name y py] k tpos] value env = pure none := by rfl) : EX X A env (.Assign [.Tuple [.Name x px, .Name y py] k tpos] value pos) σ Q :=
  WP.of fun s R => Assign_Tuple (h.go R (Step.refl σ s) fun v σ₁ s₁ R₁ S₁ ⟨t, a, b, e, ht, h₁⟩ =>
    WP.go ((ASG.tup2 (px := px) (py := py) (pos := tpos) (k := k) hh ht h₁) v e) R₁ S₁ fun _ σ₂ s₂ R₂ S₂ q => ⟨σ₂, R₂, S₂, q⟩) hs hw

/-- [f(x) for x in a list of numbers], f told by the element alone -/
theorem EV.compInts {elt iter : Expr} {scope : Scope} {pos px : Pos} {x : Str} {Q : PV → AH → Prop} {ns : List Int} {f : Int → Int} (hh : A.handled = none) (hclos : closureFor scope env = pure []) (hsz : ns.length ≤ sizeLine)
    (h : EV X A env iter σ fun p σ₁ => ∃ l, p = .ref l ∧ σ₁ l = some (.list (ns.map PV.int)) ∧
      (∀ (C : Nat) i τ, i ∈ ns → τ C = some (nsx x (some (.int i))) → ∀ P : PV → AH → Prop, P (.int (f i)) τ → EV X A (compEnvC scope [] C env) elt τ P) ∧
      (∀ D, σ₁ D = none → X.base.get? D = none ∨ True → Q (.ref D) (σ₁.set D (.list ((ns.map f).map PV.int)))))
    (hcell : ∀ y ∈ scope.names, y.2 ≠ .cell := by decide) (hkind : scope.kind = .function := by rfl) (hnames : ∀ y ∈ scope.names, y.2 = .local → scope.names.lookup y.1 = some .local := by decide) (hx : scope.names.lookup x = some .local := by rfl)
    (hs : ∀ x, foldedSetIterable iter env x = pure x := by intro _; rfl) : EV X A env (.ListComp elt [⟨.Name x px, iter, [], 0⟩] scope pos) σ Q := by
  refine EV.comp hh hclos (WP.mono h fun v σ₁ ⟨l, e, hl, turn, fin⟩ => ?_) hcell hkind hnames hx hs
  refine ⟨(ns.map PV.int).length, _, _, fun C i acc σ' => σ' = σ₁ ∧ σ' C = none ∧ acc = ((ns.take i).map f).map PV.int, by rw [e]; exact ISRC.list hl, by rw [List.length_map]; exact hsz, fun C hC => ⟨rfl, (hC C (Nat.le_refl _)).1, rfl⟩, fun C i acc σ' _ h => ⟨h.2.1, by rw [h.1]; exact hl⟩, ?_, ?_⟩
  · rintro C i acc σ' hC hi ⟨e1, hCn, e3⟩
    subst e3
    rw [e1] at hCn ⊢
    rw [List.length_map] at hi
    rw [getD_int hi]
    refine ⟨fun _ => ?_, fun h => (nomatch h)⟩
    refine turn C ns[i] _ (List.getElem_mem _) (AH.set_self ..) _ ⟨σ₁, AH.le_refl _, rfl, hCn, ?_⟩
    rw [List.take_succ_eq_append_getElem hi, List.map_append, List.map_append]; rfl
  · rintro C D acc σ' hD hDC ⟨e1, hCn, e3⟩ hDn
    subst e3
    rw [e1] at hDn ⊢
    rw [List.length_map, List.take_length]
    exact fin D hDn (.inr trivial)

theorem law_b {fm : FM} {L : Nat} {a D : Addr} {fg : List Int} {F : AH} {n : Nat} (k : Kn1 X) (r : Rm A (n + 2)) (hfl : fg.length ≤ 1000) {m : Str → Option PV} {Q : PF → AH → Prop} {U W : Str} {fu fw : List Nat}
    (G : Gd F σ L) (hL : σ L = some (.ns m)) (hm : m (Str.ofString "figures") = some (.ref D)) (hD : F D = some (.list (fg.map PV.int)))
    (hU : rowP (fg.map (·.fmod 2)) = U) (hW : rowP (fg.map (·.fdiv 2)) = W) (hlU : U.length ≤ 1000) (hlW : W.length ≤ 1000) (hfu : matP U = some fu) (hfw : matP W = some fw)
    (h : ∀ σ' m' F' MA MB, Gd F' σ' L → F.le F' → σ' L = some (.ns m') → σ' (L + 2) = some (.cell (some (.str U))) → σ' (L + 3) = some (.cell (some (.str W))) → (∀ y, y ≠ Str.ofString "above" → y ≠ Str.ofString "below" → m' y = m y) →
      m' (Str.ofString "above") = some (.ref MA) → m' (Str.ofString "below") = some (.ref MB) → F' MA = some (.list (nI fu)) → F' MB = some (.list (nI fw)) → XS X A (lawEnv fm L a) (lawSrc.body.drop 4) σ' Q) :
    XS X A (lawEnv fm L a) (lawSrc.body.drop 2) σ Q := by
  obtain ⟨⟨oR, hoR, hdR⟩, hcR⟩ := k.fR
  obtain ⟨⟨oM, hoM, hdM⟩, hcM⟩ := k.fM
  have hfs : fg.length ≤ sizeLine := Nat.le_trans hfl (by decide)
  refine XS.cons (EX.tup2 r.hh (EV.tuple ?_))
  refine EV.callDef k.ok k.gR hoR hdR (EV.compInts (f := (·.fmod 2)) r.hh rfl hfs (EV.loc hL hm ⟨D, rfl, G.le _ _ hD, fun C i τ _ hC P hP => EV.bin (EV.loc hC (by rfl) (EV.int (BIN.fmod (by decide) hP))), fun E hE _ => ?_⟩))
  have GE := G.put hE (p := .list ((fg.map (·.fmod 2)).map PV.int))
  refine CV.lawRow k r (AH.set_self ..) (by simpa using hfl) fun σ1 hle1 => ?_
  have G1 := GE.more hle1
  have hL1 : σ1 L = some (.ns m) := hle1 _ _ (by rw [AH.set_ne _ _ (G.ne hE).1.symm]; exact hL)
  rw [hU]
  refine EV.callDef k.ok k.gR hoR hdR (EV.compInts (f := (·.fdiv 2)) r.hh rfl hfs (EV.loc hL1 hm ⟨D, rfl, G1.le _ _ hD, fun C i τ _ hC P hP => EV.bin (EV.loc hC (by rfl) (EV.int (BIN.floordiv (by decide) (by decide) hP))), fun E2 hE2 _ => ?_⟩))
  have GE2 := G1.put hE2 (p := .list ((fg.map (·.fdiv 2)).map PV.int))
  refine CV.lawRow k r (AH.set_self ..) (by simpa using hfl) fun σ2 hle2 => ?_
  have G2 := GE2.more hle2
  have hL2 : σ2 L = some (.ns m) := hle2 _ _ (by rw [AH.set_ne _ _ (G1.ne hE2).1.symm]; exact hL1)
  rw [hW]
  refine ⟨by show 2 ≤ sizeLine; decide, fun T hT _ => ⟨T, _, _, rfl, AH.set_self .., ?_⟩⟩
  have G3 := G2.put hT (p := .tuple [.str U, .str W])
  have hL3 : (σ2.set T (.tuple [.str U, .str W])) L = some (.ns m) := by rw [AH.set_ne _ _ (G2.ne hT).1.symm]; exact hL2
  generalize σ2.set T (.tuple [.str U, .str W]) = τ at *
  obtain ⟨u2, hu2⟩ := G3.sc 2 (by decide) (by decide)
  refine ST.cell (c := L + 2) (by rfl) hu2 ?_
  have G4 := G3.cell (j := 2) (by decide) (by decide) (p := some (.str U))
  obtain ⟨u3, hu3⟩ := G4.sc 3 (by decide) (by decide)
  refine ST.cell (c := L + 3) (by rfl) hu3 ?_
  have G5 := G4.cell (j := 3) (by decide) (by decide) (p := some (.str W))
  have hL5 : ((τ.set (L + 2) (.cell (some (.str U)))).set (L + 3) (.cell (some (.str W)))) L = some (.ns m) := by rw [AH.set_ne _ _ (neLj (by decide)).symm, AH.set_ne _ _ (neLj (by decide)).symm]; exact hL3
  have h52 : ((τ.set (L + 2) (.cell (some (.str U)))).set (L + 3) (.cell (some (.str W)))) (L + 2) = some (.cell (some (.str U))) := by rw [AH.set_ne _ _ (neLL (by decide)), AH.set_self]
  have h53 : ((τ.set (L + 2) (.cell (some (.str U)))).set (L + 3) (.cell (some (.str W)))) (L + 3) = some (.cell (some (.str W))) := AH.set_self ..
  generalize (τ.set (L + 2) (.cell (some (.str U)))).set (L + 3) (.cell (some (.str W))) = υ at *
  refine XS.cons (EX.tupS r.hh (EV.tuple ?_))
  refine EV.callDef k.ok k.gM hoM hdM (EV.cell (c := L + 2) (by rfl) h52 (CV.lawMates k r hlU hfu fun σ6 MA hle6 hA0 hA => ?_))
  have G6 := G5.more hle6
  refine EV.callDef k.ok k.gM hoM hdM (EV.cell (c := L + 3) (by rfl) (hle6 _ _ h53) (CV.lawMates k r hlW hfw fun σ7 MB hle7 hB0 hB => ?_))
  have G7 := G6.more hle7
  refine ⟨by show 2 ≤ sizeLine; decide, fun T2 hT2 _ => ⟨T2, _, rfl, AH.set_self .., rfl, ?_⟩⟩
  have nT := G7.ne hT2
  have nA := G5.ne hA0
  have nB := G6.ne hB0
  have hL7 : σ7 L = some (.ns m) := hle7 _ _ (hle6 _ _ hL5)
  refine ST.at (L := L) (by rw [AH.set_ne _ _ nT.1.symm]; exact hL7) (ST.up ?_)
  unfold STS
  have G8 := (G7.put hT2 (p := .tuple [.ref MA, .ref MB])).loc (m := upd (upd m (Str.ofString "below") (.ref MB)) (Str.ofString "above") (.ref MA))
  have kp : ∀ b p, b ≠ L → σ7 b = some p → (((σ7.set T2 (.tuple [.ref MA, .ref MB])).set L (.ns (upd (upd m (Str.ofString "below") (.ref MB)) (Str.ofString "above") (.ref MA))))) b = some p := fun b p hb e => by
    rw [AH.set_ne _ _ hb, AH.set_ne _ _ (fun z => by rw [z, hT2] at e; cases e)]; exact e
  have kA := kp MA _ nA.1 (hle7 _ _ hA)
  have kB := kp MB _ nB.1 hB
  have hAB : MA ≠ MB := fun z => by rw [z, hB0] at hA; cases hA
  refine h _ _ _ MA MB ((G8.freeze nA.1 nA.2.1 kA).freeze nB.1 nB.2.1 kB) (AH.le_setN (AH.le_setN (AH.le_refl _) nA.2.2) nB.2.2) (AH.set_self ..) (kp _ _ (neLj (by decide)) (hle7 _ _ (hle6 _ _ h52))) (kp _ _ (neLj (by decide)) (hle7 _ _ (hle6 _ _ h53))) (fun y h1 h2 => by rw [upd_ne _ _ h1, upd_ne _ _ h2]) rfl rfl (by rw [AH.set_ne _ _ hAB, AH.set_self]) (AH.set_self ..)
end
end Mine
end

section
open PySem PySem.W PyProof.Rows Builtin Builtin.Str
set_option maxRecDepth 100000
namespace Mine

def big (p : Nat) : Str := ⟨#[65 + p]⟩
def sml (p : Nat) : Str := ⟨#[97 + p]⟩
theorem big_at : ∀ p : Nat, p < 8 → (Str.ofString "ABCDEFGH").cps[p]? = some (65 + p) := by decide +kernel
theorem sml_at : ∀ p : Nat, p < 8 → (Str.ofString "abcdefgh").cps[p]? = some (97 + p) := by decide +kernel
theorem big_ok : ∀ p : Nat, p < 8 → okN (big p) = true := by decide +kernel
theorem sml_okN : ∀ p : Nat, p < 8 → okN (sml p) = true := by decide +kernel
theorem sml_okV : ∀ p : Nat, p < 8 → okV (sml p) = true := by decide +kernel

/-- what lasts: all but frames and cells -/
def Lat (σ σ' : AH) : Prop := ∀ b p, (∀ m, p ≠ .ns m) → (∀ v, p ≠ .cell v) → σ b = some p → σ' b = some p
theorem Lat.le {σ σ' : AH} (h : σ.le σ') : Lat σ σ' := fun b p _ _ e => h b p e
theorem Lat.trans {a b c : AH} (x : Lat a b) (y : Lat b c) : Lat a c := fun q p h1 h2 e => y q p h1 h2 (x q p h1 h2 e)
theorem Lat.ns {σ : AH} {L : Addr} {m m' : Str → Option PV} (h : σ L = some (.ns m)) : Lat σ (σ.set L (.ns m')) := fun b p h1 h2 e => by
  rw [AH.set_ne _ _ (fun z => by rw [z, h] at e; cases e; exact h1 _ rfl)]; exact e
theorem Lat.cell {σ : AH} {c : Addr} {v v' : Option PV} (h : σ c = some (.cell v)) : Lat σ (σ.set c (.cell v')) := fun b p h1 h2 e => by
  rw [AH.set_ne _ _ (fun z => by rw [z, h] at e; cases e; exact h2 _ rfl)]; exact e
theorem Lat.fresh {σ : AH} {c : Addr} {p : PO} (h : σ c = none) : Lat σ (σ.set c p) := Lat.le (AH.le_setN (AH.le_refl _) h)
theorem Tab.lat {σ σ' : AH} {x C l : Addr} {tbl : List (Str × Str)} (T : Tab σ x C l tbl) (h : Lat σ σ') : Tab σ' x C l tbl := by
  obtain ⟨ts, h1, h2⟩ := T.lst
  obtain ⟨dx, hs, tk, i1, i2⟩ := T.ins.go
  exact ⟨⟨dx, hs, tk, h x _ (by simp) (by simp) i1, h dx _ (by simp) (by simp) i2⟩, ts, h l _ (by simp) (by simp) h1, h2.imp fun t e he => h t _ (by simp) (by simp) he⟩

section
variable {X : Cx} {A : Around} {σ : AH}
theorem Gd.but {F σ' : AH} {L l : Nat} (G : Gd F σ L) (h : leBut σ σ' l) (hl : ∃ vs, σ l = some (.list vs)) (hF : F l = none) : Gd F σ' L := by
  obtain ⟨vs, hv⟩ := hl
  refine ⟨fun b p e => h b p (fun z => by rw [z, hF] at e; cases e) (G.le b p e), G.fl, G.fc, ?_, fun j h1 h2 => ?_⟩
  · obtain ⟨m, e⟩ := G.sl; exact ⟨m, h _ _ (fun z => by rw [z, hv] at e; cases e) e⟩
  · obtain ⟨v, e⟩ := G.sc j h1 h2; exact ⟨v, h _ _ (fun z => by rw [z, hv] at e; cases e) e⟩

theorem addStep {fm : FM} {L : Nat} {a x l MA : Addr} {n : Nat} (k : Kn1 X) (r : Rm A (n + 2)) {nm s1 s2 : Str} {p1 p2 p3 p4 p5 p6 p7 p8 p9 p10 q1 q2 : Pos} {k1 k2 : Nat} {m : Str → Option PV} {p c1 c2 v : Nat} {fu : List Nat} {tbl : List (Str × Str)} {Q : PF → AH → Prop}
    (hL : σ L = some (.ns m)) (h4 : σ (L + 4) = some (.cell (some (.int (p : Nat))))) (ht : m (Str.ofString "table") = some (.ref x)) (hm : m nm = some (.ref MA)) (hA : σ MA = some (.list (nI fu))) (hp : p < 8)
    (hs1 : s1.cps[p]? = some c1) (hv : fu[p]? = some v) (hv8 : v < 8) (hs2 : s2.cps[v]? = some c2) (T : Tab σ x k.C l tbl) (hn : okN ⟨#[c1]⟩ = true) (hvv : okV ⟨#[c2]⟩ = true) (hsz : tbl.length ≤ 1000)
    (hQ : ∀ σ', leBut σ σ' l → Tab σ' x k.C l (tbl ++ [(⟨#[c1]⟩, ⟨#[c2]⟩)]) → Q .next σ')
    (hl : (p2.endLine == q1.line) = true) (hkn : (lawEnv fm L a).kindOf nm = some .local) (hdb : (nm == ("__debug__" : Str)) = false)
    (hsw : swapsWith (.Call (.Attribute (.Name (Str.ofString "table") p1) (Str.ofString "add_header") p2) [.Subscript (.Constant (.str s1) k1 p3) (.Name (Str.ofString "p") p4) p5, .Subscript (.Constant (.str s2) k2 p6) (.Subscript (.Name nm p7) (.Name (Str.ofString "p") p8) p9) p10] [] q1) none q2.line (lawEnv fm L a) = pure false) :
    XS X A (lawEnv fm L a) [.Expr (.Call (.Attribute (.Name (Str.ofString "table") p1) (Str.ofString "add_header") p2) [.Subscript (.Constant (.str s1) k1 p3) (.Name (Str.ofString "p") p4) p5, .Subscript (.Constant (.str s2) k2 p6) (.Subscript (.Name nm p7) (.Name (Str.ofString "p") p8) p9) p10] [] q1) q2] σ Q := by
  have h63 : (p : Int) < 2 ^ 63 := by omega
  have hv63 : (v : Int) < 2 ^ 63 := by omega
  have hpf : p < fu.length := (List.getElem?_eq_some_iff.mp hv).1
  refine XS.cons (EX.expr (EV.methI k.kin k.cl k.mAdd (EV.loc hL ht ⟨x, l, rfl, T.ins, ?_⟩) (hl := hl) (hnn := by show 2 + 0 < 29; decide)) (hs := hsw))
  refine EV.sub (EV.str (EV.cell (c := L + 4) (by rfl) h4 (SUB.str (c := c1) (by omega) h63 (by simpa using hs1) ?_)))
  refine EV.sub (EV.str (EV.sub (EV.loc hL hm (EV.cell (c := L + 4) (by rfl) h4 (SUB.list (p := .int (v : Nat)) hA (by omega) h63 ?_ ?_)) (hl := hkn) (hd := hdb))))
  · rw [Int.toNat_natCast, nI_get hpf]
    have := (List.getElem?_eq_some_iff.mp hv).2
    rw [this]
  refine SUB.str (c := c2) (by omega) hv63 (by simpa using hs2) ?_
  exact CV.add k.toKnF.toKnH r T hn hvv hsz fun σ' h1 h2 => ⟨fun a => by simp, XS.nil (hQ σ' h1 h2)⟩
end
end Mine
end

section
open PySem PySem.W PyProof.Rows Builtin Builtin.Str
set_option maxRecDepth 100000
namespace Mine

def tA (fu : List Nat) (i : Nat) : List (Str × Str) := (List.range i).map fun p => (big p, sml (fu.getD p 0))
def tB (fw : List Nat) (i : Nat) : List (Str × Str) := (List.range i).map fun p => (sml p, sml (fw.getD p 0))
theorem tA_succ (fu : List Nat) (i : Nat) : tA fu (i + 1) = tA fu i ++ [(big i, sml (fu.getD i 0))] := by simp [tA, List.range_succ]
theorem tB_succ (fu : List Nat) (i : Nat) : tB fu (i + 1) = tB fu i ++ [(sml i, sml (fu.getD i 0))] := by simp [tB, List.range_succ]

section
variable {X : Cx} {A : Around} {σ : AH}
theorem law_c {fm : FM} {L : Nat} {a MA MB : Addr} {F : AH} {n : Nat} (k : Kn1 X) (r : Rm A (n + 2)) {m : Str → Option PV} {Q : PF → AH → Prop} {U W : Str} {fu fw : List Nat} {N : Nat}
    (hN : N ≤ 8) (hfu : fu.length = N) (hfw : fw.length = N) (hu8 : ∀ v ∈ fu, v < 8) (hw8 : ∀ v ∈ fw, v < 8)
    (G : Gd F σ L) (hL : σ L = some (.ns m)) (hs : m (Str.ofString "size") = some (.int (N : Nat))) (hma : m (Str.ofString "above") = some (.ref MA)) (hmb : m (Str.ofString "below") = some (.ref MB)) (hA : F MA = some (.list (nI fu))) (hB : F MB = some (.list (nI fw)))
    (h2 : σ (L + 2) = some (.cell (some (.str U)))) (h3 : σ (L + 3) = some (.cell (some (.str W))))
    (h : ∀ σ' m' x l, Gd F σ' L → σ' L = some (.ns m') → σ' (L + 2) = some (.cell (some (.str U))) → σ' (L + 3) = some (.cell (some (.str W))) → (∀ y, y ≠ Str.ofString "table" → m' y = m y) → m' (Str.ofString "table") = some (.ref x) → Tab σ' x k.C l (tA fu N ++ tB fw N) →
      XS X A (lawEnv fm L a) (lawSrc.body.drop 7) σ' Q) :
    XS X A (lawEnv fm L a) (lawSrc.body.drop 4) σ Q := by
  refine XS.cons (EX.assign (EV.newHeaders k.toKnF.toKnH r hL fun σ1 x l hle hl0 hx0 hl1 I1 => ?_))
  have G1 := G.more hle
  have nl := G.ne hl0
  refine ST.at (L := L) (hle _ _ hL) ?_
  generalize hm1 : upd m (Str.ofString "table") (.ref x) = m1
  have y1 : ∀ y, y ≠ Str.ofString "table" → m1 y = m y := fun y hy => by rw [← hm1, upd_ne _ _ hy]
  have t1 : m1 (Str.ofString "table") = some (.ref x) := by rw [← hm1]; rfl
  have s1 : m1 (Str.ofString "size") = some (.int (N : Nat)) := by rw [y1 _ (by decide +kernel)]; exact hs
  have a1 : m1 (Str.ofString "above") = some (.ref MA) := by rw [y1 _ (by decide +kernel)]; exact hma
  have b1 : m1 (Str.ofString "below") = some (.ref MB) := by rw [y1 _ (by decide +kernel)]; exact hmb
  have G2 := G1.loc (m := m1)
  have T2 : Tab (σ1.set L (.ns m1)) x k.C l [] := (Tab.nil I1 hl1).lat (Lat.ns (hle _ _ hL))
  have L2 : (σ1.set L (.ns m1)) L = some (.ns m1) := AH.set_self ..
  have c2 : (σ1.set L (.ns m1)) (L + 2) = some (.cell (some (.str U))) := by rw [AH.set_ne _ _ (neLj (by decide))]; exact hle _ _ h2
  have c3 : (σ1.set L (.ns m1)) (L + 3) = some (.cell (some (.str W))) := by rw [AH.set_ne _ _ (neLj (by decide))]; exact hle _ _ h3
  generalize σ1.set L (.ns m1) = τ at *
  have hgo : ∀ (fu' : List Nat) (i : Nat), fu'.length = N → (∀ v ∈ fu', v < 8) → i < N → fu'[i]? = some (fu'.getD i 0) ∧ fu'.getD i 0 < 8 := fun fu' i hl' h8 hi => by
    have : fu'[i]? = some fu'[i] := List.getElem?_eq_getElem (by omega)
    have e : fu'.getD i 0 = fu'[i] := by rw [List.getD_eq_getElem?_getD, this]; rfl
    rw [e]
    exact ⟨this, h8 _ (List.getElem_mem _)⟩
  -- the first loop
  refine XS.cons (EX.forRange r.hh (EV.callTy k.ok k.nRange k.bRange (EV.loc L2 s1 (CV.range1 fun D hD hDb => ⟨D, 0, N, 1, N, fun i σ' => Gd F σ' L ∧ σ' L = some (.ns m1) ∧ σ' (L + 2) = some (.cell (some (.str U))) ∧ σ' (L + 3) = some (.cell (some (.str W))) ∧ Tab σ' x k.C l (tA fu i), rfl, AH.set_self .., PySem.small_one (by omega) (by omega) (by omega) (by omega), ?_, ?_, ?_, ?_⟩))))
  · rw [rangeSize_nat]; simp
  · have hDs := AH.le_setN (AH.le_refl τ) hD (p := .range 0 N 1)
    exact ⟨G2.put hD, hDs _ _ L2, hDs _ _ c2, hDs _ _ c3, T2.le hDs⟩
  · rintro i σ' hi ⟨G', L', d2, d3, T'⟩
    have ei : (0 : Int) + (i : Int) * 1 = (i : Nat) := by omega
    rw [ei]
    obtain ⟨u4, hu4⟩ := G'.sc 4 (by decide) (by decide)
    obtain ⟨g1, g2⟩ := hgo fu i hfu hu8 hi
    have hi8 : i < 8 := by omega
    refine ASG.name (ST.cell (c := L + 4) (by rfl) hu4 ?_)
    have G'' := G'.cell (j := 4) (by decide) (by decide) (p := some (.int (i : Nat)))
    have kp : ∀ j : Nat, j ≠ 4 → (σ'.set (L + 4) (.cell (some (.int (i : Nat))))) (L + j) = σ' (L + j) := fun j hj => AH.set_ne _ _ (neLL hj)
    refine addStep k r (by rw [AH.set_ne _ _ (neLj (by decide)).symm]; exact L') (AH.set_self ..) t1 a1 (G''.le _ _ hA) hi8 (big_at i hi8) g1 g2 (sml_at _ g2) (T'.lat (Lat.cell hu4)) (big_ok i hi8) (sml_okV _ g2) (by simp [tA]; omega) (fun σ2 hb T2 => ?_) (by rfl) (by rfl) (by decide) (by rfl)
    have hlst : ∃ vs, (σ'.set (L + 4) (.cell (some (.int (i : Nat))))) l = some (.list vs) := by
      obtain ⟨ts, e, _⟩ := (T'.lat (Lat.cell hu4 (v' := some (.int (i : Nat))))).lst; exact ⟨_, e⟩
    have hne : ∀ b p, (∀ vs, p ≠ .list vs) → (σ'.set (L + 4) (.cell (some (.int (i : Nat))))) b = some p → σ2 b = some p := fun b p hp e => hb b p (fun z => by
      obtain ⟨vs, hv⟩ := hlst
      rw [z, hv] at e; cases e; exact hp _ rfl) e
    refine ⟨G''.but hb hlst nl.2.2, hne _ _ (by simp) (by rw [AH.set_ne _ _ (neLj (by decide)).symm]; exact L'), hne _ _ (by simp) (by rw [kp 2 (by decide)]; exact d2), hne _ _ (by simp) (by rw [kp 3 (by decide)]; exact d3), ?_⟩
    rw [tA_succ]; exact T2
  rintro τ2 ⟨G3, L3, e2, e3, T3⟩
  -- the second loop
  refine XS.cons (EX.forRange r.hh (EV.callTy k.ok k.nRange k.bRange (EV.loc L3 s1 (CV.range1 fun D hD hDb => ⟨D, 0, N, 1, N, fun i σ' => Gd F σ' L ∧ σ' L = some (.ns m1) ∧ σ' (L + 2) = some (.cell (some (.str U))) ∧ σ' (L + 3) = some (.cell (some (.str W))) ∧ Tab σ' x k.C l (tA fu N ++ tB fw i), rfl, AH.set_self .., PySem.small_one (by omega) (by omega) (by omega) (by omega), ?_, ?_, ?_, ?_⟩))))
  · rw [rangeSize_nat]; simp
  · have hDs := AH.le_setN (AH.le_refl τ2) hD (p := .range 0 N 1)
    exact ⟨G3.put hD, hDs _ _ L3, hDs _ _ e2, hDs _ _ e3, by simpa [tB] using T3.le hDs⟩
  · rintro i σ' hi ⟨G', L', d2, d3, T'⟩
    have ei : (0 : Int) + (i : Int) * 1 = (i : Nat) := by omega
    rw [ei]
    obtain ⟨u4, hu4⟩ := G'.sc 4 (by decide) (by decide)
    obtain ⟨g1, g2⟩ := hgo fw i hfw hw8 hi
    have hi8 : i < 8 := by omega
    refine ASG.name (ST.cell (c := L + 4) (by rfl) hu4 ?_)
    have G'' := G'.cell (j := 4) (by decide) (by decide) (p := some (.int (i : Nat)))
    have kp : ∀ j : Nat, j ≠ 4 → (σ'.set (L + 4) (.cell (some (.int (i : Nat))))) (L + j) = σ' (L + j) := fun j hj => AH.set_ne _ _ (neLL hj)
    refine addStep k r (by rw [AH.set_ne _ _ (neLj (by decide)).symm]; exact L') (AH.set_self ..) t1 b1 (G''.le _ _ hB) hi8 (sml_at i hi8) g1 g2 (sml_at _ g2) (T'.lat (Lat.cell hu4)) (sml_okN i hi8) (sml_okV _ g2) (by simp [tA, tB]; omega) (fun σ2 hb T2 => ?_) (by rfl) (by rfl) (by decide) (by rfl)
    have hlst : ∃ vs, (σ'.set (L + 4) (.cell (some (.int (i : Nat))))) l = some (.list vs) := by
      obtain ⟨ts, e, _⟩ := (T'.lat (Lat.cell hu4 (v' := some (.int (i : Nat))))).lst; exact ⟨_, e⟩
    have hne : ∀ b p, (∀ vs, p ≠ .list vs) → (σ'.set (L + 4) (.cell (some (.int (i : Nat))))) b = some p → σ2 b = some p := fun b p hp e => hb b p (fun z => by
      obtain ⟨vs, hv⟩ := hlst
      rw [z, hv] at e; cases e; exact hp _ rfl) e
    refine ⟨G''.but hb hlst nl.2.2, hne _ _ (by simp) (by rw [AH.set_ne _ _ (neLj (by decide)).symm]; exact L'), hne _ _ (by simp) (by rw [kp 2 (by decide)]; exact d2), hne _ _ (by simp) (by rw [kp 3 (by decide)]; exact d3), ?_⟩
    rw [tB_succ, ← List.append_assoc]; exact T2
  rintro τ4 ⟨G5, L5, f2, f3, T5⟩
  exact h τ4 m1 x l G5 L5 f2 f3 y1 t1 T5
end
end Mine
end

section
open PySem PySem.W PyProof.Rows Builtin Builtin.Str
set_option maxRecDepth 100000
namespace Mine

def mix (p : Nat) : Str := ⟨#[if p % 2 = 0 then 97 + p else 65 + p]⟩
theorem mix_at : ∀ p : Nat, p < 8 → (Str.ofString "aBcDeFgH").cps[p]? = some (if p % 2 = 0 then 97 + p else 65 + p) := by decide +kernel
theorem mix_ok : ∀ p : Nat, p < 8 → okN (Txt.lower (mix p)) = true := by decide +kernel
theorem sml_sh : ∀ p : Nat, p < 8 → ∀ q : Nat, q < 8 → SeqAt.shaped (.list ([sml p, sml q].map PyData.str)) = true := by decide +kernel
theorem sml_ix : ∀ v : Nat, v < 8 → occurrences (Str.ofString "abcdefgh") (sml v) 0 (Str.ofString "abcdefgh").length 1 = [v] := by decide +kernel
theorem eqv_self (a b : Str) : PyData.eqv (.list ([a, b].map PyData.str)) (.list ([a, b].map PyData.str)) = true := by
  simp [PyData.eqv, PyData.eqvAll]
abbrev pr2 (fu fw : List Nat) (p : Nat) : List PV := [.int (fu.getD p 0 : Nat), .int (fw.getD p 0 : Nat)]

theorem Tab.but {σ σ' : AH} {x C l E : Addr} {tbl : List (Str × Str)} (T : Tab σ x C l tbl) (h : leBut σ σ' E) (hE : ∃ vs, σ E = some (.list vs)) (hl : E ≠ l) : Tab σ' x C l tbl := by
  obtain ⟨vs, hv⟩ := hE
  obtain ⟨ts, h1, h2⟩ := T.lst
  obtain ⟨dx, hs, tk, i1, i2⟩ := T.ins.go
  exact ⟨⟨dx, hs, tk, h x _ (fun z => by rw [z, hv] at i1; cases i1) i1, h dx _ (fun z => by rw [z, hv] at i2; cases i2) i2⟩, ts, h l _ hl.symm h1, h2.imp fun t e he => h t _ (fun z => by rw [z, hv] at he; cases he) he⟩
section
variable {X : Cx} {A : Around} {σ : AH}
theorem law_d {fm : FM} {L : Nat} {a MA MB x l : Addr} {F : AH} {n : Nat} (k : Kn1 X) (r : Rm A (n + 2)) {m : Str → Option PV} {Q : PF → AH → Prop} {U W : Str} {fu fw : List Nat} {N : Nat}
    (hN : N ≤ 8) (hfu : fu.length = N) (hfw : fw.length = N) (hu8 : ∀ v ∈ fu, v < 8) (hw8 : ∀ v ∈ fw, v < 8)
    (hlk : ∀ p, p < N → lk (tA fu N ++ tB fw N) (Txt.lower (mix p)) = [sml (fu.getD p 0), sml (fw.getD p 0)]) (hokT : okT (tA fu N ++ tB fw N) = true)
    (G : Gd F σ L) (hL : σ L = some (.ns m)) (hs : m (Str.ofString "size") = some (.int (N : Nat))) (hma : m (Str.ofString "above") = some (.ref MA)) (hmb : m (Str.ofString "below") = some (.ref MB)) (hA : F MA = some (.list (nI fu))) (hB : F MB = some (.list (nI fw)))
    (h2 : σ (L + 2) = some (.cell (some (.str U)))) (h3 : σ (L + 3) = some (.cell (some (.str W)))) (ht : m (Str.ofString "table") = some (.ref x)) (T : Tab σ x k.C l (tA fu N ++ tB fw N))
    (h : ∀ σ' m' F' E es, Gd F' σ' L → F.le F' → σ' L = some (.ns m') → σ' (L + 2) = some (.cell (some (.str U))) → σ' (L + 3) = some (.cell (some (.str W))) → (∀ y, y ≠ Str.ofString "ends" → y ≠ Str.ofString "letters" → m' y = m y) → m' (Str.ofString "ends") = some (.ref E) →
      F' E = some (.list (es.map PV.ref)) → All2 (fun t p => F' t = some (.list (pr2 fu fw p))) es (List.range N) → XS X A (lawEnv fm L a) (lawSrc.body.drop 9) σ' Q) :
    XS X A (lawEnv fm L a) (lawSrc.body.drop 7) σ Q := by
  refine XS.cons (EX.assign (EV.list ⟨Nat.zero_le _, fun E hE _ => ?_⟩))
  have nE := G.ne hE
  have hEl : E ≠ l := fun z => by obtain ⟨ts, e, _⟩ := T.lst; rw [← z, hE] at e; cases e
  refine ST.at (L := L) (by rw [AH.set_ne _ _ nE.1.symm]; exact hL) ?_
  generalize hm1 : upd m (Str.ofString "ends") (.ref E) = m1
  have G1 := (G.put hE (p := .list [])).loc (m := m1)
  have kp1 : ∀ b p, b ≠ L → σ b = some p → ((σ.set E (.list [])).set L (.ns m1)) b = some p := fun b p hb e => by rw [AH.set_ne _ _ hb, AH.set_ne _ _ (fun z => by rw [z, hE] at e; cases e)]; exact e
  have L1 : ((σ.set E (.list [])).set L (.ns m1)) L = some (.ns m1) := AH.set_self ..
  have E1 : ((σ.set E (.list [])).set L (.ns m1)) E = some (.list []) := by rw [AH.set_ne _ _ nE.1, AH.set_self]
  have T1 : Tab ((σ.set E (.list [])).set L (.ns m1)) x k.C l (tA fu N ++ tB fw N) := T.lat ((Lat.fresh hE).trans (Lat.ns (m := m) (by rw [AH.set_ne _ _ nE.1.symm]; exact hL)))
  have c2 := kp1 _ _ (neLj (by decide)) h2
  have c3 := kp1 _ _ (neLj (by decide)) h3
  have y1 : ∀ y, y ≠ Str.ofString "ends" → y ≠ Str.ofString "letters" → m1 y = m y := fun y hy _ => by rw [← hm1, upd_ne _ _ hy]
  have e1 : m1 (Str.ofString "ends") = some (.ref E) := by rw [← hm1]; rfl
  have s1 : m1 (Str.ofString "size") = some (.int (N : Nat)) := by rw [y1 _ (by decide +kernel) (by decide +kernel)]; exact hs
  clear hm1 kp1
  generalize (σ.set E (.list [])).set L (.ns m1) = τ at *
  have hgo : ∀ (fu' : List Nat) (i : Nat), fu'.length = N → (∀ v ∈ fu', v < 8) → i < N → fu'[i]? = some (fu'.getD i 0) ∧ fu'.getD i 0 < 8 := fun fu' i hl' h8 hi => by
    have : fu'[i]? = some fu'[i] := List.getElem?_eq_getElem (by omega)
    have e : fu'.getD i 0 = fu'[i] := by rw [List.getD_eq_getElem?_getD, this]; rfl
    rw [e]
    exact ⟨this, h8 _ (List.getElem_mem _)⟩
  refine XS.cons (EX.forRange r.hh (EV.callTy k.ok k.nRange k.bRange (EV.loc L1 s1 (CV.range1 fun D hD hDb => ⟨D, 0, N, 1, N, fun i σ' => ∃ m' F' es, Gd F' σ' L ∧ F.le F' ∧ F' E = none ∧ σ' L = some (.ns m') ∧ σ' (L + 2) = some (.cell (some (.str U))) ∧ σ' (L + 3) = some (.cell (some (.str W))) ∧ Tab σ' x k.C l (tA fu N ++ tB fw N) ∧ (∀ y, y ≠ Str.ofString "ends" → y ≠ Str.ofString "letters" → m' y = m y) ∧ m' (Str.ofString "ends") = some (.ref E) ∧ σ' E = some (.list (es.map PV.ref)) ∧ All2 (fun t p => F' t = some (.list (pr2 fu fw p))) es (List.range i), rfl, AH.set_self .., PySem.small_one (by omega) (by omega) (by omega) (by omega), ?_, ?_, ?_, ?_⟩))))
  · rw [rangeSize_nat]; simp
  · have hDs := AH.le_setN (AH.le_refl τ) hD (p := .range 0 N 1)
    exact ⟨m1, F, [], G1.put hD, AH.le_refl _, nE.2.2, hDs _ _ L1, hDs _ _ c2, hDs _ _ c3, T1.le hDs, y1, e1, hDs _ _ E1, .nil⟩
  · rintro i σ' hi ⟨m', F', es, G', hFF, hFE, L', d2, d3, T', y', e', E', hes⟩
    have ei : (0 : Int) + (i : Int) * 1 = (i : Nat) := by omega
    rw [ei]
    have hi8 : i < 8 := by omega
    have h63 : (i : Int) < 2 ^ 63 := by omega
    obtain ⟨g1, g2⟩ := hgo fu i hfu hu8 hi
    obtain ⟨g3, g4⟩ := hgo fw i hfw hw8 hi
    obtain ⟨u4, hu4⟩ := G'.sc 4 (by decide) (by decide)
    refine ASG.name (ST.cell (c := L + 4) (by rfl) hu4 ?_)
    have G2 := G'.cell (j := 4) (by decide) (by decide) (p := some (.int (i : Nat)))
    have la := Lat.cell hu4 (v' := some (.int (i : Nat)))
    have kp : ∀ b p, b ≠ L + 4 → σ' b = some p → (σ'.set (L + 4) (.cell (some (.int (i : Nat))))) b = some p := fun b p hb e => by rw [AH.set_ne _ _ hb]; exact e
    have L2 := kp _ _ (neLj (by decide)).symm L'
    have k2 := kp _ _ (neLL (by decide)) d2
    have k3 := kp _ _ (neLL (by decide)) d3
    have k4 : (σ'.set (L + 4) (.cell (some (.int (i : Nat))))) (L + 4) = some (.cell (some (.int (i : Nat)))) := AH.set_self ..
    have T2 := T'.lat la
    have E2 := la _ _ (by simp) (by simp) E'
    clear la kp hu4 T' E' d2 d3 L' G'
    generalize σ'.set (L + 4) (.cell (some (.int (i : Nat)))) = υ at *
    have tb : m' (Str.ofString "table") = some (.ref x) := by rw [y' _ (by decide +kernel) (by decide +kernel)]; exact ht
    have ab : m' (Str.ofString "above") = some (.ref MA) := by rw [y' _ (by decide +kernel) (by decide +kernel)]; exact hma
    have be : m' (Str.ofString "below") = some (.ref MB) := by rw [y' _ (by decide +kernel) (by decide +kernel)]; exact hmb
    refine XS.cons (EX.assign (EV.methI k.kin k.cl k.mAll (EV.loc L2 tb ⟨x, l, rfl, T2.ins, EV.sub (EV.str (EV.cell (c := L + 4) (by rfl) k4 (SUB.str (c := if i % 2 = 0 then 97 + i else 65 + i) (by omega) h63 (by simpa using mix_at i hi8) ?_)))⟩)))
    refine CV.getAll k.toKnF.toKnH r (nm := mix i) T2 (mix_ok i hi8) hokT (by simp [tA, tB]; omega) fun σ2 D hle hD hDl => ?_
    rw [hlk i hi] at hDl
    have nD := G2.ne hD
    have G3 := G2.more hle
    refine ST.at (L := L) (hle _ _ L2) ?_
    have G4 := (G3.freeze nD.1 nD.2.1 hDl).loc (m := upd m' (Str.ofString "letters") (.ref D))
    have kp4 : ∀ b p, b ≠ L → υ b = some p → (σ2.set L (.ns (upd m' (Str.ofString "letters") (.ref D)))) b = some p := fun b p hb e => by rw [AH.set_ne _ _ hb]; exact hle _ _ e
    have l4 : (σ2.set L (.ns (upd m' (Str.ofString "letters") (.ref D)))) L = some (.ns (upd m' (Str.ofString "letters") (.ref D))) := AH.set_self ..
    have q2 := kp4 _ _ (neLj (by decide)) k2
    have q3 := kp4 _ _ (neLj (by decide)) k3
    have q4 := kp4 _ _ (neLj (by decide)) k4
    have nEL : E ≠ L := nE.1
    have qE := kp4 _ _ nEL E2
    have qT := (T2.le hle).lat (Lat.ns (m' := upd m' (Str.ofString "letters") (.ref D)) (hle _ _ L2))
    generalize hm4 : upd m' (Str.ofString "letters") (.ref D) = m4 at *
    have y4 : ∀ y, y ≠ Str.ofString "ends" → y ≠ Str.ofString "letters" → m4 y = m y := fun y h1 h2 => by rw [← hm4, upd_ne _ _ h2]; exact y' y h1 h2
    have e4 : m4 (Str.ofString "ends") = some (.ref E) := by rw [← hm4, upd_ne _ _ (by decide +kernel)]; exact e'
    have a4 : m4 (Str.ofString "above") = some (.ref MA) := by rw [← hm4, upd_ne _ _ (by decide +kernel)]; exact ab
    have b4 : m4 (Str.ofString "below") = some (.ref MB) := by rw [← hm4, upd_ne _ _ (by decide +kernel)]; exact be
    have d4 : m4 (Str.ofString "letters") = some (.ref D) := by rw [← hm4]; rfl
    have dD := kp4
    clear hm4
    have hDF : (F'.set D (.list ([sml (fu.getD i 0), sml (fw.getD i 0)].map PV.str))) D = some (.list ([sml (fu.getD i 0), sml (fw.getD i 0)].map PV.str)) := AH.set_self ..
    have hF4 : F'.le (F'.set D (.list ([sml (fu.getD i 0), sml (fw.getD i 0)].map PV.str))) := AH.le_setN (AH.le_refl _) nD.2.2
    have hE4 : (F'.set D (.list ([sml (fu.getD i 0), sml (fw.getD i 0)].map PV.str))) E = none := by
      rw [AH.set_ne _ _ (fun z => by rw [← z, E2] at hD; cases hD)]; exact hFE
    generalize hF4e : F'.set D (.list ([sml (fu.getD i 0), sml (fw.getD i 0)].map PV.str)) = F4 at *
    clear dD kp4
    generalize σ2.set L (.ns m4) = ρ at *
    have hAρ := G4.le _ _ (hF4 _ _ (hFF _ _ hA))
    have hBρ := G4.le _ _ (hF4 _ _ (hFF _ _ hB))
    have pu : i < fu.length := by omega
    have pw : i < fw.length := by omega
    have vu : (nI fu)[(i : Int).toNat]? = some (.int (fu.getD i 0 : Nat)) := by rw [Int.toNat_natCast, nI_get pu, (List.getElem?_eq_some_iff.mp g1).2]
    have vw : (nI fw)[(i : Int).toNat]? = some (.int (fw.getD i 0 : Nat)) := by rw [Int.toNat_natCast, nI_get pw, (List.getElem?_eq_some_iff.mp g3).2]
    refine XS.cons (EX.if (TS.cmp (EV.loc l4 d4 (EV.list ?_))))
    refine EV.sub (EV.str (EV.sub (EV.loc l4 a4 (EV.cell (c := L + 4) (by rfl) q4 (SUB.list hAρ (by omega) h63 vu (SUB.str (c := 97 + fu.getD i 0) (by omega) (by omega) (by simpa using sml_at _ g2) ?_))))))
    refine EV.sub (EV.str (EV.sub (EV.loc l4 b4 (EV.cell (c := L + 4) (by rfl) q4 (SUB.list hBρ (by omega) h63 vw (SUB.str (c := 97 + fw.getD i 0) (by omega) (by omega) (by simpa using sml_at _ g4) ?_))))))
    refine ⟨by show 2 ≤ sizeLine; decide, fun D2 hD2 _ => ?_⟩
    have nD2 := G4.ne hD2
    have G5 := G4.put hD2 (p := .list ([sml (fu.getD i 0), sml (fw.getD i 0)].map PV.str))
    have kp5 : ∀ b p, ρ b = some p → (ρ.set D2 (.list ([sml (fu.getD i 0), sml (fw.getD i 0)].map PV.str))) b = some p := AH.le_setN (AH.le_refl _) hD2
    refine CMP.neD r (Rd.strs (ns := [sml (fu.getD i 0), sml (fw.getD i 0)]) (kp5 _ _ (G4.le _ _ hDF))) (Rd.strs (ns := [sml (fu.getD i 0), sml (fw.getD i 0)]) (AH.set_self ..)) (sml_sh _ g2 _ g4) (sml_sh _ g2 _ g4) ⟨_, rfl, fun hc => ?_, fun _ => ?_⟩
    · rw [eqv_self] at hc; cases hc
    refine XS.nil ?_
    have l5 := kp5 _ _ l4
    have r2 := kp5 _ _ q2
    have r3 := kp5 _ _ q3
    have rE := kp5 _ _ qE
    have rT := qT.le kp5
    have hD5 := G5.le _ _ hDF
    change Gd F4 (ρ.set D2 (.list ([sml (fu.getD i 0), sml (fw.getD i 0)].map PV.str))) L at G5
    show XS X A _ _ (ρ.set D2 (.list ([sml (fu.getD i 0), sml (fw.getD i 0)].map PV.str))) _
    generalize ρ.set D2 (.list ([sml (fu.getD i 0), sml (fw.getD i 0)].map PV.str)) = ω at *
    refine XS.cons (EX.expr (EV.methBi (EV.loc l5 e4 ⟨GMB.append rE, EV.comp (cl := []) r.hh rfl (EV.loc l5 d4 ⟨2, _, _, fun C j acc σ' => σ' = ω ∧ σ' C = none ∧ acc = (pr2 fu fw i).take j, ISRC.list hD5, by decide, fun C hC => ⟨rfl, (hC C (Nat.le_refl _)).1, rfl⟩, fun C j acc σ' _ h => ⟨h.2.1, by rw [h.1]; exact hD5⟩, ?_, ?_⟩)⟩)))
    · rintro C j acc σ' hC hj ⟨z1, hCn, z3⟩
      subst z3
      rw [z1] at hCn ⊢
      refine ⟨fun _ => ?_, fun h => (nomatch h)⟩
      have hj2 : j = 0 ∨ j = 1 := by omega
      rcases hj2 with rfl | rfl
      · exact EV.methBi (EV.str ⟨GMB.index, EV.loc (AH.set_self ..) (by rfl) (CV.index (sml_ix _ g2) ⟨ω, AH.le_refl _, rfl, hCn, rfl⟩)⟩)
      · exact EV.methBi (EV.str ⟨GMB.index, EV.loc (AH.set_self ..) (by rfl) (CV.index (sml_ix _ g4) ⟨ω, AH.le_refl _, rfl, hCn, rfl⟩)⟩)
    · rintro C D3 acc σ' hD3 hDC ⟨z1, hCn, z3⟩ hDn
      subst z3
      rw [z1] at hDn ⊢
      have nD3 := G5.ne hDn
      have hE3 : E ≠ D3 := fun z => by rw [← z, rE] at hDn; cases hDn
      have kp6 : ∀ b p, b ≠ E → ω b = some p → (((ω.set D3 (.list ((pr2 fu fw i).take 2))).set E (.list (es.map PV.ref ++ [.ref D3])))) b = some p := fun b p hb e => by
        rw [AH.set_ne _ _ hb, AH.set_ne _ _ (fun z => by rw [z, hDn] at e; cases e)]; exact e
      have hlen : es.length = i := by have := hes.len; simpa using this
      refine CV.append (by rw [AH.set_ne _ _ hE3]; exact rE) (by rw [List.length_map, hlen]; exact Nat.le_trans (Nat.le_of_lt hi8) (by decide)) ⟨fun a => by simp, XS.nil ?_⟩
      have G6 : Gd (F4.set D3 (.list (pr2 fu fw i))) ((ω.set D3 (.list ((pr2 fu fw i).take 2))).set E (.list (es.map PV.ref ++ [.ref D3]))) L := by
        have z := (G5.put hDn (p := .list (pr2 fu fw i))).but (σ' := (ω.set D3 (.list (pr2 fu fw i))).set E (.list (es.map PV.ref ++ [.ref D3]))) (l := E) (fun b p hb e => by rw [AH.set_ne _ _ hb]; exact e) ⟨_, by rw [AH.set_ne _ _ hE3]; exact rE⟩ hE4
        exact z.freeze nD3.1 nD3.2.1 (by rw [AH.set_ne _ _ hE3.symm, AH.set_self])
      have hF6 : F4.le (F4.set D3 (.list (pr2 fu fw i))) := AH.le_setN (AH.le_refl _) nD3.2.2
      refine ⟨m4, _, es ++ [D3], G6, AH.le_trans hFF (AH.le_trans hF4 hF6), ?_, kp6 _ _ nE.1.symm l5, kp6 _ _ (nE.2.1 2 (by decide) (by decide)).symm r2, kp6 _ _ (nE.2.1 3 (by decide) (by decide)).symm r3, ?_, y4, e4, by rw [AH.set_self]; simp, ?_⟩
      · rw [AH.set_ne _ _ hE3]; exact hE4
      · exact (rT.lat (Lat.fresh hDn)).but (σ' := (ω.set D3 (.list ((pr2 fu fw i).take 2))).set E (.list (es.map PV.ref ++ [.ref D3]))) (fun b p hb e => by rw [AH.set_ne _ _ hb]; exact e) ⟨_, by rw [AH.set_ne _ _ hE3]; exact rE⟩ hEl
      · rw [List.range_succ]
        exact All2.snoc (R := fun t p => (F4.set D3 (.list (pr2 fu fw i))) t = some (.list (pr2 fu fw p))) (AH.set_self ..) (hes.imp fun t p e => hF6 _ _ (hF4 _ _ e))
  · rintro σ' ⟨m', F', es, G', hFF, hFE, L', d2, d3, T', y', e', E', hes⟩
    exact h σ' m' (F'.set E (.list (es.map PV.ref))) E es (G'.freeze nE.1 nE.2.1 E') (AH.le_trans hFF (AH.le_setN (AH.le_refl _) hFE)) L' d2 d3 y' e' (AH.set_self ..) (hes.imp fun t p e => by rw [AH.set_ne _ _ (fun z => by rw [z, hFE] at e; cases e)]; exact e)
end
end Mine
end

section
open PySem PySem.W PyProof.Rows Builtin Builtin.Str
set_option maxRecDepth 100000
namespace Mine

def walkP (fu fw : List Nat) (p : Nat) : Nat → Nat → Nat → List Nat → Option (List Nat)
  | 0, _, _, _ => none
  | f + 1, here, side, acc => if here = p then some acc else if here < fu.length then walkP fu fw p f (if side = 0 then fu.getD here 0 else fw.getD here 0) (1 - side) (acc ++ [here]) else none
def ringsGo (fu fw : List Nat) : List Nat → List (List Nat) → Option (List (List Nat))
  | [], rs => some rs
  | p :: ps, rs => if rs.any (·.contains p) then ringsGo fu fw ps rs else match walkP fu fw p 64 (fu.getD p 0) 1 [p] with
    | none => none
    | some rg => ringsGo fu fw ps (rs ++ [rg])

def ifTestL : Stmt → Expr
  | .If (.Compare l _ _ _) _ _ _ => l
  | _ => .Constant .none 0 ⟨0, 0, 0, 0⟩
theorem any_int (rg : List Nat) (p : Nat) : (rg.map fun n => ((n : Nat) : Int)).any (· == (p : Int)) = rg.contains p := by
  induction rg with
  | nil => rfl
  | cons a r ih =>
    rw [List.map_cons, List.any_cons, List.contains_cons, ih]
    by_cases h : a = p
    · subst h; simp
    · have h2 : ((a : Int) == (p : Int)) = false := by
        rw [beq_eq_false_iff_ne]; intro z; exact h (by exact_mod_cast z)
      have h3 : (p == a) = false := by
        rw [beq_eq_false_iff_ne]; intro z; exact h z.symm
      rw [h2, h3]
theorem nI_int (rg : List Nat) : nI rg = (rg.map fun n => ((n : Nat) : Int)).map PV.int := by simp [nI]

/-- the rings that bear p -/
def hits (rts : List Addr) (rs : List (List Nat)) (p : Nat) (j : Nat) : List (Addr × List Nat) := ((rts.zip rs).take j).filter fun e => e.2.contains p
theorem hits_succ {rts : List Addr} {rs : List (List Nat)} {p j : Nat} (h1 : j < rts.length) (h2 : j < rs.length) : hits rts rs p (j + 1) = hits rts rs p j ++ (if rs[j].contains p = true then [(rts[j], rs[j])] else []) := by
  unfold hits
  have h : j < (rts.zip rs).length := by simp; omega
  rw [List.take_succ_eq_append_getElem h, List.filter_append]
  congr 1
  simp only [List.getElem_zip, List.filter_cons, List.filter_nil]
theorem hits_all {rts : List Addr} {rs : List (List Nat)} {p : Nat} (h : rts.length = rs.length) : (hits rts rs p rts.length = []) ↔ rs.any (·.contains p) = false := by
  unfold hits
  have e : (rts.zip rs).take rts.length = rts.zip rs := List.take_of_length_le (by simp; omega)
  rw [e, List.filter_eq_nil_iff]
  constructor
  · intro hh
    rw [List.any_eq_false]
    intro x hx hc
    obtain ⟨i, hi, rfl⟩ := List.mem_iff_getElem.mp hx
    have hi2 : i < (rts.zip rs).length := by simp; omega
    have := hh _ (List.getElem_mem hi2)
    simp only [List.getElem_zip] at this
    exact this hc
  · intro hh x hx hc
    rw [List.any_eq_false] at hh
    exact hh _ (List.of_mem_zip hx).2 hc

section
variable {X : Cx} {A : Around} {env : Env} {σ : AH}
/-- [ring for ring in rings if p in ring] -/
theorem ringComp {fm : FM} {L a R : Addr} {n : Nat} {rts : List Addr} {rs : List (List Nat)} {p : Nat} {Q : PV → AH → Prop} {m : Str → Option PV} {s : Expr} (r : Rm A (n + 1)) (hL : σ L = some (.ns m)) (hm : m (Str.ofString "rings") = some (.ref R)) (h4 : σ (L + 4) = some (.cell (some (.int (p : Nat)))))
    (hR : σ R = some (.list (rts.map PV.ref))) (hrs : All2 (fun t rg => σ t = some (.list (nI rg))) rts rs) (hsz : rts.length ≤ 1000)
    (hQ : ∀ D, σ D = none → Q (.ref D) (σ.set D (.list ((hits rts rs p rts.length).map fun e => PV.ref e.1))))
    (hs : s = ifTestL (stAt (forBody (stAt lawSrc.body 10)) 0)) : EV X A (lawEnv fm L a) s σ Q := by
  subst hs
  have hlen : rts.length = rs.length := hrs.len
  refine EV.comp (cl := [(Str.ofString "p", L + 4)]) r.hh rfl (EV.loc hL hm ⟨(rts.map PV.ref).length, _, _, fun C i acc σ' => σ' = σ ∧ σ C = none ∧ acc = (hits rts rs p i).map fun e => PV.ref e.1, ISRC.list hR, ?_, fun C hC => ⟨rfl, (hC C (Nat.le_refl _)).1, rfl⟩, fun C i acc σ' hi ⟨e1, e2, e3⟩ => ⟨by rw [e1]; exact e2, by rw [e1]; exact hR⟩, ?_, ?_⟩)
  · rw [List.length_map]; exact Nat.le_trans hsz (by decide)
  · rintro C i acc σ' hC hi ⟨e1, hCn, e3⟩
    subst e3
    rw [e1]
    rw [List.length_map] at hi
    have hi' : i < rs.length := by rw [← hlen]; exact hi
    have ht := hrs.get i hi hi'
    have hit : (rts.map PV.ref).getD i .none = .ref rts[i] := getD_map hi
    rw [hit]
    have htC : rts[i] ≠ C := fun z => by rw [z, hCn] at ht; cases ht
    have hNC : L + 4 ≠ C := fun z => by rw [z, hCn] at h4; cases h4
    have wt : (σ.set C (nsx (Str.ofString "ring") (some (.ref rts[i])))) rts[i] = some (.list ((rs[i].map fun n => ((n : Nat) : Int)).map PV.int)) := by rw [AH.set_ne _ _ htC, ← nI_int]; exact ht
    have wC : (σ.set C (nsx (Str.ofString "ring") (some (.ref rts[i])))) C = some (nsx (Str.ofString "ring") (some (.ref rts[i]))) := AH.set_self ..
    have wN : (σ.set C (nsx (Str.ofString "ring") (some (.ref rts[i])))) (L + 4) = some (.cell (some (.int (p : Nat)))) := by rw [AH.set_ne _ _ hNC]; exact h4
    refine TS.cmp (EV.cell (c := L + 4) (by rfl) wN (EV.loc wC (by rfl) (CMP.inInts wt ⟨_, rfl, fun hc => ?_, fun hc => ?_⟩)))
    · rw [any_int] at hc
      refine EV.loc wC (by rfl) ⟨σ, AH.le_refl _, rfl, hCn, ?_⟩
      rw [hits_succ hi hi', if_pos hc]; simp
    · rw [any_int] at hc
      refine ⟨σ, AH.le_refl _, rfl, hCn, ?_⟩
      rw [hits_succ hi hi', if_neg (by rw [hc]; decide)]; simp
  · rintro C D acc σ' hD hDC ⟨e1, hCn, e3⟩ hDn
    subst e3
    rw [e1] at hDn ⊢
    have := hQ D hDn
    rwa [List.length_map]
end
end Mine
end

section
open PySem PySem.W PyProof.Rows Builtin Builtin.Str
set_option maxRecDepth 100000
namespace Mine

def ifB : Stmt → List Stmt
  | .If _ b _ _ => b
  | _ => []
abbrev walkSt : Stmt := stAt (ifB (stAt (forBody (stAt lawSrc.body 10)) 0)) 2

theorem walkP_len {fu fw : List Nat} {p : Nat} : ∀ {f here side : Nat} {acc rg : List Nat}, walkP fu fw p f here side acc = some rg → acc.length ≤ rg.length ∧ rg.length < acc.length + f
  | 0, here, side, acc, rg, h => nomatch h
  | f + 1, here, side, acc, rg, h => by
    unfold walkP at h
    split at h
    · cases h; omega
    · split at h
      · have := walkP_len h; simp at this; omega
      · cases h

section
variable {X : Cx} {A : Around} {σ : AH}
theorem walkLoop {fm : FM} {L R T E : Nat} {a : Addr} {F : AH} {n : Nat} (r : Rm A (n + 1)) {m : Str → Option PV} {Q : PF → AH → Prop} {fu fw : List Nat} {N : Nat} {es rts : List Addr} {p fuel h0 s0 : Nat} {acc0 rg : List Nat} {s : Stmt}
    (hN : N ≤ 8) (hfu : fu.length = N) (hfw : fw.length = N) (hfl : acc0.length + fuel ≤ 1000)
    (G : Gd F σ L) (hL : σ L = some (.ns m)) (h4 : σ (L + 4) = some (.cell (some (.int (p : Nat)))))
    (hE : F E = some (.list (es.map PV.ref))) (hes : All2 (fun t p => F t = some (.list (pr2 fu fw p))) es (List.range N)) (hme : m (Str.ofString "ends") = some (.ref E))
    (hmr : m (Str.ofString "rings") = some (.ref R)) (hR : σ R = some (.list (rts.map PV.ref ++ [.ref T]))) (hrl : rts.length ≤ 1000) (hT : σ T = some (.list (nI acc0))) (hFT : F T = none) 
    (hmh : m (Str.ofString "here") = some (.int (h0 : Nat))) (hms : m (Str.ofString "side") = some (.int (s0 : Nat))) (hs1 : s0 ≤ 1) (hw : walkP fu fw p fuel h0 s0 acc0 = some rg)
    (hRT : R ≠ T)
    (h : ∀ σ' m', σ' L = some (.ns m') → (∀ y, y ≠ Str.ofString "here" → y ≠ Str.ofString "side" → m' y = m y) → σ' T = some (.list (nI rg)) → (∀ b q, b ≠ L → b ≠ T → σ b = some q → σ' b = some q) → Q .next σ')
    (hs : s = walkSt) : EX X A (lawEnv fm L a) s σ Q := by
  subst hs
  have TL : T ≠ L := fun z => by rw [z, hL] at hT; cases hT
  have Tj : ∀ j : Nat, 1 ≤ j → j ≤ 8 → L + j ≠ T := fun j h1 h2 z => by
    obtain ⟨v, e⟩ := G.sc j h1 h2; rw [z, hT] at e; cases e
  have RL : R ≠ L := fun z => by rw [z, hL] at hR; cases hR
  have hok : ∀ {b q}, F b = some q → b ≠ L ∧ b ≠ T := fun {b q} e => ⟨fun z => by (rw [z, G.fl] at e; cases e), fun z => by (rw [z, hFT] at e; cases e)⟩
  refine EX.while (fun f σ' => ∃ m' here side acc, walkP fu fw p f here side acc = some rg ∧ side ≤ 1 ∧ acc.length + f ≤ 1000 ∧ σ' L = some (.ns m') ∧ m' (Str.ofString "here") = some (.int (here : Nat)) ∧ m' (Str.ofString "side") = some (.int (side : Nat)) ∧ (∀ y, y ≠ Str.ofString "here" → y ≠ Str.ofString "side" → m' y = m y) ∧ σ' T = some (.list (nI acc)) ∧ (∀ b q, b ≠ L → b ≠ T → σ b = some q → σ' b = some q)) fuel
    ⟨m, h0, s0, acc0, hw, hs1, hfl, hL, hmh, hms, fun _ _ _ => rfl, hT, fun _ _ _ _ e => e⟩ ?_
  rintro f σ' ⟨m', here, side, acc, w, s1, al, L', mh, ms, my, T', kp⟩
  have c4 := kp (L + 4) _ (neLj (by decide)) (Tj 4 (by decide) (by decide)) h4
  refine TS.cmp (EV.loc L' mh (EV.cell (c := L + 4) (by rfl) c4 (CMP.ne_i ⟨_, rfl, fun hc => ?_, fun hc => ?_⟩)))
  · have hp : here = p := by
      have z : ((here : Nat) : Int) = (p : Nat) := by simpa using hc
      omega
    cases f with
    | zero => cases w
    | succ f =>
      unfold walkP at w
      rw [if_pos hp] at w
      cases w
      exact h σ' m' L' my T' kp
  · have hp : ¬ here = p := fun z => by
      have y : ¬ ((here : Nat) : Int) = (p : Nat) := by simpa using hc
      omega
    cases f with
    | zero => cases w
    | succ f =>
      unfold walkP at w
      rw [if_neg hp] at w
      have hh : here < fu.length := by
        by_cases hh : here < fu.length
        · exact hh
        · rw [if_neg hh] at w; cases w
      rw [if_pos hh] at w
      have rR := kp _ _ RL hRT hR
      have mr : m' (Str.ofString "rings") = some (.ref R) := by rw [my _ (by decide +kernel) (by decide +kernel)]; exact hmr
      have me : m' (Str.ofString "ends") = some (.ref E) := by rw [my _ (by decide +kernel) (by decide +kernel)]; exact hme
      have hlast : (rts.map PV.ref ++ [PV.ref T])[((-1 : Int) + ((rts.map PV.ref ++ [PV.ref T]).length : Nat)).toNat]? = some (.ref T) := by
        have e : ((-1 : Int) + ((rts.map PV.ref ++ [PV.ref T]).length : Nat)).toNat = (rts.map PV.ref).length := by simp; omega
        rw [e]; simp
      refine XS.cons (EX.expr (EV.methBi (EV.sub (EV.loc L' mr (EV.neg (EV.int ⟨1, rfl, SUB.listNeg (p := .ref T) rR (by decide) (by simp; omega) (by decide) hlast ⟨GMB.append T', EV.loc L' mh (CV.append T' (by simp [nI]; exact Nat.le_trans (by omega) (show 1000 ≤ sizeLine by decide)) ⟨fun a => by simp, ?_⟩)⟩⟩))))))
      have L2 : (σ'.set T (.list (nI acc ++ [.int (here : Nat)]))) L = some (.ns m') := by rw [AH.set_ne _ _ TL.symm]; exact L'
      have T2 : (σ'.set T (.list (nI acc ++ [.int (here : Nat)]))) T = some (.list (nI (acc ++ [here]))) := by rw [AH.set_self]; simp [nI]
      have kp2 : ∀ b q, b ≠ L → b ≠ T → σ b = some q → (σ'.set T (.list (nI acc ++ [.int (here : Nat)]))) b = some q := fun b q h1 h2 e => by rw [AH.set_ne _ _ h2]; exact kp b q h1 h2 e
      clear T' kp L' rR c4
      generalize σ'.set T (.list (nI acc ++ [.int (here : Nat)])) = τ at *
      have fE := kp2 _ _ (hok hE).1 (hok hE).2 (G.le _ _ hE)
      have hel : es.length = N := by have := hes.len; simpa using this
      have hi : here < es.length := by omega
      have fD := hes.get here hi (by simp; omega)
      rw [List.getElem_range] at fD
      have fD2 := kp2 _ _ (hok fD).1 (hok fD).2 (G.le _ _ fD)
      refine XS.cons (EX.tupS r.hh (EV.tuple ?_))
      refine EV.sub (EV.sub (EV.loc L2 me (EV.loc L2 mh (SUB.list (p := .ref es[here]) fE (by omega) (by omega) (by rw [Int.toNat_natCast]; simp [hi]) (EV.loc L2 ms (SUB.list (p := .int ((if side = 0 then fu.getD here 0 else fw.getD here 0) : Nat)) fD2 (by omega) (by omega) ?_ ?_))))))
      · have : side = 0 ∨ side = 1 := by omega
        rcases this with rfl | rfl <;> rfl
      refine EV.bin (EV.int (EV.loc L2 ms (BIN.sub ⟨by show 2 ≤ sizeLine; decide, fun D hD _ => ⟨D, _, rfl, AH.set_self .., rfl, ?_⟩⟩)))
      have nDL : D ≠ L := fun z => by rw [z, L2] at hD; cases hD
      have nDT : D ≠ T := fun z => by rw [z, T2] at hD; cases hD
      refine ST.at (L := L) (by rw [AH.set_ne _ _ nDL.symm]; exact L2) (ST.up ?_)
      unfold STS
      refine XS.nil ⟨f, Nat.lt_succ_self f, upd (upd m' (Str.ofString "side") (.int (1 - (side : Nat)))) (Str.ofString "here") (.int ((if side = 0 then fu.getD here 0 else fw.getD here 0) : Nat)), _, 1 - side, acc ++ [here], w, by omega, by simp; omega, AH.set_self .., rfl, ?_, ?_, ?_, ?_⟩
      · rw [upd_ne _ _ (by decide +kernel)]
        show some (PV.int (1 - (side : Nat))) = _
        congr 2; omega
      · intro y y1 y2; rw [upd_ne _ _ y1, upd_ne _ _ y2]; exact my y y1 y2
      · rw [AH.set_ne _ _ TL, AH.set_ne _ _ nDT.symm]; exact T2
      · intro b q b1 b2 e
        have e2 := kp2 b q b1 b2 e
        rw [AH.set_ne _ _ b1, AH.set_ne _ _ (fun z => by rw [z, hD] at e2; cases e2)]; exact e2
end
end Mine
end

section
open PySem PySem.W PyProof.Rows Builtin Builtin.Str
set_option maxRecDepth 100000
namespace Mine

def ifT : Stmt → Expr
  | .If t _ _ _ => t
  | _ => .Constant .none 0 ⟨0, 0, 0, 0⟩
abbrev pdN (l : List Nat) : PyData := .list ((l.map fun n => ((n : Nat) : Int)).map PyData.int)
theorem canN : ∀ ns : List Int, PyData.canLayAll0 (ns.map PyData.int) = true
  | [] => rfl
  | _ :: r => by simp [PyData.canLayAll0, PyData.canLay0, canN r]
theorem depN : ∀ ns : List Int, PyData.depthAll (ns.map PyData.int) = 0
  | [] => rfl
  | _ :: r => by simp [PyData.depthAll, PyData.depth, depN r]
theorem canNN : ∀ l : List (List Nat), PyData.canLayAll0 (l.map pdN) = true
  | [] => rfl
  | x :: r => by
    show (PyData.canLay0 (pdN x) && PyData.canLayAll0 (r.map pdN)) = true
    rw [canNN r, Bool.and_true]
    exact canN _
theorem depNN : ∀ l : List (List Nat), PyData.depthAll (l.map pdN) ≤ 1
  | [] => Nat.zero_le _
  | x :: r => by
    show max (PyData.depthAll ((x.map fun n => ((n : Nat) : Int)).map PyData.int) + 1) (PyData.depthAll (r.map pdN)) ≤ 1
    rw [depN]
    have := depNN r
    omega
theorem shNN (l : List (List Nat)) : SeqAt.shaped (.list (l.map pdN)) = true := by
  unfold SeqAt.shaped
  rw [Bool.and_eq_true]
  refine ⟨canNN l, decide_eq_true ?_⟩
  show PyData.depthAll (l.map pdN) + 1 ≤ 64
  have := depNN l
  omega
theorem eqvNN (l : List (List Nat)) : PyData.eqv (.list (l.map pdN)) (.list []) = decide (l = []) := by
  cases l with
  | nil => rfl
  | cons x r => rfl
theorem hitsRd {X : Cx} {σ : AH} {rts : List Addr} {rs : List (List Nat)} {p j : Nat} (hrs : All2 (fun t rg => σ t = some (.list (nI rg))) rts rs) : All2 (Rd X σ) ((hits rts rs p j).map fun e => PV.ref e.1) ((hits rts rs p j).map fun e => pdN e.2) := by
  have h : ∀ e ∈ hits rts rs p j, σ e.1 = some (.list (nI e.2)) := fun e he => by
    have h1 := List.mem_of_mem_take (List.mem_filter.mp he).1
    obtain ⟨i, hi, rfl⟩ := List.mem_iff_getElem.mp h1
    simp only [List.length_zip] at hi
    rw [List.getElem_zip]
    exact hrs.get i (by omega) (by omega)
  generalize hits rts rs p j = l at *
  induction l with
  | nil => exact .nil
  | cons e r ih =>
    refine .cons (Rd.ints (ns := e.2.map fun n => ((n : Nat) : Int)) ?_) (ih fun x hx => h x (List.mem_cons_of_mem _ hx))
    rw [h e List.mem_cons_self, nI_int]

section
variable {X : Cx} {A : Around} {σ : AH}
theorem ringTest {fm : FM} {L R : Nat} {a : Addr} {n : Nat} {rts : List Addr} {rs : List (List Nat)} {p : Nat} {Q : Bool → AH → Prop} {m : Str → Option PV} {s : Expr} (r : Rm A (n + 1)) (hL : σ L = some (.ns m)) (hm : m (Str.ofString "rings") = some (.ref R)) (h4 : σ (L + 4) = some (.cell (some (.int (p : Nat)))))
    (hR : σ R = some (.list (rts.map PV.ref))) (hrs : All2 (fun t rg => σ t = some (.list (nI rg))) rts rs) (hsz : rts.length ≤ 1000)
    (hQ : ∀ σ', σ.le σ' → Q (!(rs.any (·.contains p))) σ')
    (hs : s = ifT (stAt (forBody (stAt lawSrc.body 10)) 0)) : TS X A (lawEnv fm L a) s σ Q := by
  subst hs
  refine TS.cmp (ringComp r hL hm h4 hR hrs hsz (fun D hD => EV.list ⟨Nat.zero_le _, fun D2 hD2 _ => ?_⟩) rfl)
  have le1 : σ.le (σ.set D (.list ((hits rts rs p rts.length).map fun e => PV.ref e.1))) := AH.le_setN (AH.le_refl _) hD
  have le2 := AH.le_setN (AH.le_refl (σ.set D (.list ((hits rts rs p rts.length).map fun e => PV.ref e.1)))) hD2 (p := .list [])
  refine CMP.eqD (da := .list ((hits rts rs p rts.length).map fun e => pdN e.2)) (db := .list []) r (Rd.list (le2 _ _ (AH.set_self ..)) (hitsRd (hrs.imp fun t rg e => le2 _ _ (le1 _ _ e)))) (Rd.list (vs := []) (AH.set_self ..) .nil) ?_ (by decide) ⟨_, rfl, ?_⟩
  · rw [show ((hits rts rs p rts.length).map fun e => pdN e.2) = ((hits rts rs p rts.length).map (·.2)).map pdN by rw [List.map_map]; rfl]
    exact shNN _
  · rw [show ((hits rts rs p rts.length).map fun e => pdN e.2) = ((hits rts rs p rts.length).map (·.2)).map pdN by rw [List.map_map]; rfl, eqvNN]
    have h1 := hits_all (p := p) hrs.len
    have h2 : decide ((hits rts rs p rts.length).map (·.2) = []) = !(rs.any (·.contains p)) := by
      cases hx : rs.any (·.contains p) with
      | false => exact decide_eq_true (List.map_eq_nil_iff.mpr (h1.mpr hx))
      | true => exact decide_eq_false fun z => by rw [h1.mp (List.map_eq_nil_iff.mp z)] at hx; cases hx
    rw [h2]
    exact hQ _ (AH.le_trans le1 le2)
end
end Mine
end

section
open PySem PySem.W PyProof.Rows Builtin Builtin.Str
set_option maxRecDepth 100000
namespace Mine

theorem ringsGo_hit {fu fw : List Nat} {p : Nat} {ps : List Nat} {rs : List (List Nat)} (h : rs.any (·.contains p) = true) : ringsGo fu fw (p :: ps) rs = ringsGo fu fw ps rs := by
  show (if rs.any (·.contains p) then _ else _) = _
  rw [if_pos h]
theorem ringsGo_new {fu fw : List Nat} {p : Nat} {ps : List Nat} {rs rF : List (List Nat)} (h : rs.any (·.contains p) = false) (e : ringsGo fu fw (p :: ps) rs = some rF) : ∃ rg, walkP fu fw p 64 (fu.getD p 0) 1 [p] = some rg ∧ ringsGo fu fw ps (rs ++ [rg]) = some rF := by
  rw [show ringsGo fu fw (p :: ps) rs = (if rs.any (·.contains p) then ringsGo fu fw ps rs else match walkP fu fw p 64 (fu.getD p 0) 1 [p] with
    | none => none
    | some rg => ringsGo fu fw ps (rs ++ [rg])) from rfl, if_neg (by rw [h]; decide)] at e
  cases w : walkP fu fw p 64 (fu.getD p 0) 1 [p] with
  | none => rw [w] at e; cases e
  | some rg => rw [w] at e; exact ⟨rg, rfl, e⟩

section
variable {X : Cx} {A : Around} {σ : AH}
theorem law_e {fm : FM} {L E : Nat} {a : Addr} {F : AH} {n : Nat} (k : Kn1 X) (r : Rm A (n + 2)) {m : Str → Option PV} {Q : PF → AH → Prop} {c2 c3 : PO} {fu fw : List Nat} {N : Nat} {es : List Addr} {rF : List (List Nat)}
    (hN : N ≤ 8) (hfu : fu.length = N) (hfw : fw.length = N) (hrg : ringsGo fu fw (List.range N) [] = some rF)
    (G : Gd F σ L) (hL : σ L = some (.ns m)) (hs : m (Str.ofString "size") = some (.int (N : Nat)))
    (h2 : σ (L + 2) = some c2) (h3 : σ (L + 3) = some c3) (hme : m (Str.ofString "ends") = some (.ref E)) (hE : F E = some (.list (es.map PV.ref))) (hes : All2 (fun t p => F t = some (.list (pr2 fu fw p))) es (List.range N))
    (h : ∀ σ' m' F' R rts, Gd F' σ' L → F.le F' → σ' L = some (.ns m') → σ' (L + 2) = some c2 → σ' (L + 3) = some c3 → (∀ y, y ≠ Str.ofString "rings" → y ≠ Str.ofString "here" → y ≠ Str.ofString "side" → m' y = m y) → m' (Str.ofString "rings") = some (.ref R) →
      F' R = some (.list (rts.map PV.ref)) → All2 (fun t rg => F' t = some (.list (nI rg))) rts rF → XS X A (lawEnv fm L a) (lawSrc.body.drop 11) σ' Q) :
    XS X A (lawEnv fm L a) (lawSrc.body.drop 9) σ Q := by
  have r1 : Rm A (n + 1) := r.up (by omega)
  refine XS.cons (EX.assign (EV.list ⟨Nat.zero_le _, fun R hR _ => ?_⟩))
  have nR := G.ne hR
  refine ST.at (L := L) (by rw [AH.set_ne _ _ nR.1.symm]; exact hL) ?_
  generalize hm1 : upd m (Str.ofString "rings") (.ref R) = m1
  have G1 := (G.put hR (p := .list [])).loc (m := m1)
  have kp1 : ∀ b p, b ≠ L → σ b = some p → ((σ.set R (.list [])).set L (.ns m1)) b = some p := fun b p hb e => by rw [AH.set_ne _ _ hb, AH.set_ne _ _ (fun z => by rw [z, hR] at e; cases e)]; exact e
  have L1 : ((σ.set R (.list [])).set L (.ns m1)) L = some (.ns m1) := AH.set_self ..
  have R1 : ((σ.set R (.list [])).set L (.ns m1)) R = some (.list []) := by rw [AH.set_ne _ _ nR.1, AH.set_self]
  have d2 := kp1 _ _ (neLj (by decide)) h2
  have d3 := kp1 _ _ (neLj (by decide)) h3
  have y1 : ∀ y, y ≠ Str.ofString "rings" → y ≠ Str.ofString "here" → y ≠ Str.ofString "side" → m1 y = m y := fun y hy _ _ => by rw [← hm1, upd_ne _ _ hy]
  have e1 : m1 (Str.ofString "rings") = some (.ref R) := by rw [← hm1]; rfl
  have s1 : m1 (Str.ofString "size") = some (.int (N : Nat)) := by rw [y1 _ (by decide +kernel) (by decide +kernel) (by decide +kernel)]; exact hs
  clear hm1 kp1
  generalize (σ.set R (.list [])).set L (.ns m1) = τ at *
  refine XS.cons (EX.forRange r.hh (EV.callTy k.ok k.nRange k.bRange (EV.loc L1 s1 (CV.range1 fun D hD hDb => ⟨D, 0, N, 1, N, fun i σ' => ∃ m' F' rts rs, Gd F' σ' L ∧ F.le F' ∧ F' R = none ∧ σ' L = some (.ns m') ∧ σ' (L + 2) = some c2 ∧ σ' (L + 3) = some c3 ∧ (∀ y, y ≠ Str.ofString "rings" → y ≠ Str.ofString "here" → y ≠ Str.ofString "side" → m' y = m y) ∧ m' (Str.ofString "rings") = some (.ref R) ∧ σ' R = some (.list (rts.map PV.ref)) ∧ All2 (fun t rg => F' t = some (.list (nI rg))) rts rs ∧ rts.length ≤ i ∧ ringsGo fu fw ((List.range N).drop i) rs = some rF, rfl, AH.set_self .., PySem.small_one (by omega) (by omega) (by omega) (by omega), ?_, ?_, ?_, ?_⟩))))
  · rw [rangeSize_nat]; simp
  · have hDs := AH.le_setN (AH.le_refl τ) hD (p := .range 0 N 1)
    exact ⟨m1, F, [], [], G1.put hD, AH.le_refl _, nR.2.2, hDs _ _ L1, hDs _ _ d2, hDs _ _ d3, y1, e1, hDs _ _ R1, .nil, Nat.le_refl _, hrg⟩
  · rintro i σ' hi ⟨m', F', rts, rs, G', hFF, hFR, L', d2', d3', y', e', R', hrs, hlen, hgo⟩
    have ei : (0 : Int) + (i : Int) * 1 = (i : Nat) := by omega
    rw [ei]
    have hgo2 : ringsGo fu fw (i :: (List.range N).drop (i + 1)) rs = some rF := by
      have hd := List.drop_eq_getElem_cons (l := List.range N) (i := i) (by simpa using hi)
      rw [List.getElem_range] at hd
      rw [← hd]; exact hgo
    obtain ⟨u4, hu4⟩ := G'.sc 4 (by decide) (by decide)
    refine ASG.name (ST.cell (c := L + 4) (by rfl) hu4 ?_)
    have G2 := G'.cell (j := 4) (by decide) (by decide) (p := some (.int (i : Nat)))
    have kp : ∀ b p, b ≠ L + 4 → σ' b = some p → (σ'.set (L + 4) (.cell (some (.int (i : Nat))))) b = some p := fun b p hb e => by rw [AH.set_ne _ _ hb]; exact e
    have L2 := kp _ _ (neLj (by decide)).symm L'
    have k2 := kp _ _ (neLL (by decide)) d2'
    have k3 := kp _ _ (neLL (by decide)) d3'
    have k4 : (σ'.set (L + 4) (.cell (some (.int (i : Nat))))) (L + 4) = some (.cell (some (.int (i : Nat)))) := AH.set_self ..
    have R2 := kp _ _ (fun z => by rw [z, hu4] at R'; cases R') R'
    clear kp hu4 R' d2' d3' L' G'
    generalize σ'.set (L + 4) (.cell (some (.int (i : Nat)))) = υ at *
    have hl9 : rts.length ≤ 1000 := by omega
    refine XS.cons (EX.if (ringTest r1 L2 e' k4 R2 (hrs.imp fun t rg e => G2.le _ _ e) hl9 (fun σ3 hle => ⟨fun hc => ?_, fun hc => ?_⟩) rfl))
    · have hno : rs.any (·.contains i) = false := by simpa using hc
      obtain ⟨rg, w, hgo3⟩ := ringsGo_new hno hgo2
      have G3 := G2.more hle
      have q2 := hle _ _ k2
      have q3 := hle _ _ k3
      have q4 := hle _ _ k4
      have R3 := hle _ _ R2
      have L3 := hle _ _ L2
      refine XS.cons (EX.expr (EV.methBi (EV.loc L3 e' ⟨GMB.append R3, EV.list (EV.cell (c := L + 4) (by rfl) q4 ⟨by show 1 ≤ sizeLine; decide, fun T hT _ => ?_⟩)⟩)))
      have nT := G3.ne hT
      have hRT : R ≠ T := fun z => by rw [← z, R3] at hT; cases hT
      have nR3 : R ≠ L := nR.1
      refine CV.append (by rw [AH.set_ne _ _ hRT]; exact R3) (by rw [List.length_map]; exact Nat.le_trans hl9 (by decide)) ⟨fun a => by simp, ?_⟩
      have kp4 : ∀ b p, b ≠ R → σ3 b = some p → (((σ3.set T (.list [.int (i : Nat)])).set R (.list (rts.map PV.ref ++ [.ref T])))) b = some p := fun b p hb e => by
        rw [AH.set_ne _ _ hb, AH.set_ne _ _ (fun z => by rw [z, hT] at e; cases e)]; exact e
      have G4 : Gd F' ((σ3.set T (.list [.int (i : Nat)])).set R (.list (rts.map PV.ref ++ [.ref T]))) L := (G3.put hT (p := .list [.int (i : Nat)])).but (l := R) (fun b p hb e => by rw [AH.set_ne _ _ hb]; exact e) ⟨_, by rw [AH.set_ne _ _ hRT]; exact R3⟩ hFR
      have L4 := kp4 _ _ nR3.symm L3
      have v2 := kp4 _ _ (nR.2.1 2 (by decide) (by decide)).symm q2
      have v3 := kp4 _ _ (nR.2.1 3 (by decide) (by decide)).symm q3
      have v4 := kp4 _ _ (nR.2.1 4 (by decide) (by decide)).symm q4
      have R4 : ((σ3.set T (.list [.int (i : Nat)])).set R (.list (rts.map PV.ref ++ [.ref T]))) R = some (.list (rts.map PV.ref ++ [.ref T])) := AH.set_self ..
      have T4 : ((σ3.set T (.list [.int (i : Nat)])).set R (.list (rts.map PV.ref ++ [.ref T]))) T = some (.list (nI [i])) := by rw [AH.set_ne _ _ hRT.symm, AH.set_self]; rfl
      clear kp4 hT R3 L3 q2 q3 q4 G3
      generalize (σ3.set T (.list [.int (i : Nat)])).set R (.list (rts.map PV.ref ++ [.ref T])) = ω at *
      have me : m' (Str.ofString "ends") = some (.ref E) := by rw [y' _ (by decide +kernel) (by decide +kernel) (by decide +kernel)]; exact hme
      have hel : es.length = N := by have := hes.len; simpa using this
      have hie : i < es.length := by omega
      have fD := hes.get i hie (by simp; omega)
      rw [List.getElem_range] at fD
      refine XS.cons (EX.tupS r.hh (EV.tuple ?_))
      refine EV.sub (EV.sub (EV.loc L4 me (EV.cell (c := L + 4) (by rfl) v4 (SUB.list (p := .ref es[i]) (G4.le _ _ (hFF _ _ hE)) (by omega) (by omega) (by rw [Int.toNat_natCast]; simp [hie]) (EV.int (SUB.list (p := .int (fu.getD i 0 : Nat)) (G4.le _ _ (hFF _ _ fD)) (by omega) (by omega) rfl (EV.int ⟨by show 2 ≤ sizeLine; decide, fun D2 hD2 _ => ⟨D2, _, rfl, AH.set_self .., rfl, ?_⟩⟩)))))))
      have nD := G4.ne hD2
      refine ST.at (L := L) (by rw [AH.set_ne _ _ nD.1.symm]; exact L4) (ST.up ?_)
      unfold STS
      have G5 := (G4.put hD2 (p := .tuple [.int (fu.getD i 0 : Nat), .int 1])).loc (m := upd (upd m' (Str.ofString "side") (.int 1)) (Str.ofString "here") (.int (fu.getD i 0 : Nat)))
      have kp5 : ∀ b p, b ≠ L → ω b = some p → (((ω.set D2 (.tuple [.int (fu.getD i 0 : Nat), .int 1])).set L (.ns (upd (upd m' (Str.ofString "side") (.int 1)) (Str.ofString "here") (.int (fu.getD i 0 : Nat)))))) b = some p := fun b p hb e => by
        rw [AH.set_ne _ _ hb, AH.set_ne _ _ (fun z => by rw [z, hD2] at e; cases e)]; exact e
      have yy : ∀ y, y ≠ Str.ofString "here" → y ≠ Str.ofString "side" → upd (upd m' (Str.ofString "side") (.int 1)) (Str.ofString "here") (.int (fu.getD i 0 : Nat)) y = m' y := fun y z1 z2 => by rw [upd_ne _ _ z1, upd_ne _ _ z2]
      refine XS.cons (walkLoop (fuel := 64) (acc0 := [i]) (h0 := fu.getD i 0) (s0 := 1) (rts := rts) (T := T) r1 hN hfu hfw (by simp) G5 (AH.set_self ..) (kp5 _ _ (neLj (by decide)) v4) (hFF _ _ hE) (hes.imp fun t p e => hFF _ _ e) (by rw [yy _ (by decide +kernel) (by decide +kernel)]; exact me) (by rw [yy _ (by decide +kernel) (by decide +kernel)]; exact e') (kp5 _ _ nR3 R4) hl9 (kp5 _ _ nT.1 T4) nT.2.2 rfl (by rw [upd_ne _ _ (by decide +kernel)]; rfl) (Nat.le_refl _) w hRT (fun σ6 m6 L6 y6 T6 kp6 => XS.nil (XS.nil ?_)) rfl)
      have kp7 : ∀ b p, b ≠ L → b ≠ T → ω b = some p → σ6 b = some p := fun b p h1 h2 e => kp6 _ _ h1 h2 (kp5 _ _ h1 e)
      have G6 : Gd F' σ6 L := ⟨fun b q e => kp7 _ _ (fun z => by rw [z, G4.fl] at e; cases e) (fun z => by rw [z, nT.2.2] at e; cases e) (G4.le _ _ e), G4.fl, G4.fc, ⟨_, L6⟩, fun j h1 h2 => by
        obtain ⟨v, e⟩ := G4.sc j h1 h2
        exact ⟨v, kp7 _ _ (neLj h1) (nT.2.1 j h1 h2).symm e⟩⟩
      have hF6 : F'.le (F'.set T (.list (nI rg))) := AH.le_setN (AH.le_refl _) nT.2.2
      refine ⟨m6, _, rts ++ [T], rs ++ [rg], G6.freeze nT.1 nT.2.1 T6, AH.le_trans hFF hF6, by rw [AH.set_ne _ _ hRT]; exact hFR, L6, kp7 _ _ (neLj (by decide)) (nT.2.1 2 (by decide) (by decide)).symm v2, kp7 _ _ (neLj (by decide)) (nT.2.1 3 (by decide) (by decide)).symm v3, ?_, ?_, by rw [List.map_append]; exact kp7 _ _ nR3 hRT R4, All2.snoc (R := fun t rg' => (F'.set T (.list (nI rg))) t = some (.list (nI rg'))) (AH.set_self ..) (hrs.imp fun t p e => hF6 _ _ e), by simp; omega, hgo3⟩
      · intro y z1 z2 z3; rw [y6 y z2 z3, yy y z2 z3]; exact y' y z1 z2 z3
      · rw [y6 _ (by decide +kernel) (by decide +kernel), yy _ (by decide +kernel) (by decide +kernel)]; exact e'
    · have hyes : rs.any (·.contains i) = true := by simpa using hc
      rw [ringsGo_hit hyes] at hgo2
      refine XS.nil (XS.nil ⟨m', F', rts, rs, G2.more hle, hFF, hFR, hle _ _ L2, hle _ _ k2, hle _ _ k3, y', e', hle _ _ R2, hrs, by omega, hgo2⟩)
  · rintro σ' ⟨m', F', rts, rs, G', hFF, hFR, L', d2', d3', y', e', R', hrs, hlen, hgo⟩
    have : rs = rF := by
      rw [List.drop_of_length_le (by simp)] at hgo
      cases hgo; rfl
    subst this
    exact h σ' m' (F'.set R (.list (rts.map PV.ref))) R rts (G'.freeze nR.1 nR.2.1 R') (AH.le_trans hFF (AH.le_setN (AH.le_refl _) hFR)) L' d2' d3' y' e' (AH.set_self ..) (hrs.imp fun t p e => by rw [AH.set_ne _ _ (fun z => by rw [z, hFR] at e; cases e)]; exact e)
end
end Mine
end

section
open PySem PySem.W PyProof.Rows Builtin Builtin.Str
set_option maxRecDepth 100000
namespace Mine

def dressP : Nat → Str × Str
  | 0 => (Str.ofString "", Str.ofString "")
  | 1 => (Str.ofString "\\)", Str.ofString "\"")
  | _ => (Str.ofString "\\(", Str.ofString "\\")
abbrev dT (i : Nat) : List PV := [.str (dressP i).1, .str (dressP i).2]

section
variable {X : Cx} {A : Around} {σ : AH}
theorem law_f1 {fm : FM} {L : Nat} {a : Addr} {F : AH} {n : Nat} (r : Rm A (n + 2)) {m : Str → Option PV} {Q : PF → AH → Prop} {c2 c3 : PO}
    (G : Gd F σ L) (hL : σ L = some (.ns m)) (h2 : σ (L + 2) = some c2) (h3 : σ (L + 3) = some c3)
    (h : ∀ σ' F' D ts, Gd F' σ' L → F.le F' → σ' L = some (.ns m) → σ' (L + 2) = some c2 → σ' (L + 3) = some c3 → σ' (L + 5) = some (.cell (some (.ref D))) → F' D = some (.list (ts.map PV.ref)) → All2 (fun t i => F' t = some (.tuple (dT i))) ts [0, 1, 2] → XS X A (lawEnv fm L a) (lawSrc.body.drop 12) σ' Q) :
    XS X A (lawEnv fm L a) (lawSrc.body.drop 11) σ Q := by
  refine XS.cons (EX.assign (EV.list ?_))
  refine EV.tuple (EV.str (EV.str ⟨by show 2 ≤ sizeLine; decide, fun A0 hA0 _ => ?_⟩))
  have n0 := G.ne hA0
  have G0 := (G.put hA0 (p := .tuple (dT 0))).freeze n0.1 n0.2.1 (AH.set_self ..)
  have f0 : F.le (F.set A0 (.tuple (dT 0))) := AH.le_setN (AH.le_refl _) n0.2.2
  have l0 : σ.le (σ.set A0 (.tuple (dT 0))) := AH.le_setN (AH.le_refl _) hA0
  have s0 : (F.set A0 (.tuple (dT 0))) A0 = some (.tuple (dT 0)) := AH.set_self ..
  generalize hF0 : F.set A0 (.tuple (dT 0)) = F0 at *
  refine EV.tuple (EV.str (EV.str ⟨by show 2 ≤ sizeLine; decide, fun A1 hA1 _ => ?_⟩))
  have n1 := G0.ne hA1
  have G1 := (G0.put hA1 (p := .tuple (dT 1))).freeze n1.1 n1.2.1 (AH.set_self ..)
  have f1 : F0.le (F0.set A1 (.tuple (dT 1))) := AH.le_setN (AH.le_refl _) n1.2.2
  have l1 := AH.le_setN (AH.le_refl (σ.set A0 (.tuple (dT 0)))) hA1 (p := .tuple (dT 1))
  have s1 : (F0.set A1 (.tuple (dT 1))) A1 = some (.tuple (dT 1)) := AH.set_self ..
  generalize hF1 : F0.set A1 (.tuple (dT 1)) = F1 at *
  refine EV.tuple (EV.str (EV.str ⟨by show 2 ≤ sizeLine; decide, fun A2 hA2 _ => ?_⟩))
  have n2 := G1.ne hA2
  have G2 := (G1.put hA2 (p := .tuple (dT 2))).freeze n2.1 n2.2.1 (AH.set_self ..)
  have f2 : F1.le (F1.set A2 (.tuple (dT 2))) := AH.le_setN (AH.le_refl _) n2.2.2
  have l2 := AH.le_setN (AH.le_refl ((σ.set A0 (.tuple (dT 0))).set A1 (.tuple (dT 1)))) hA2 (p := .tuple (dT 2))
  have s2 : (F1.set A2 (.tuple (dT 2))) A2 = some (.tuple (dT 2)) := AH.set_self ..
  generalize hF2 : F1.set A2 (.tuple (dT 2)) = F2 at *
  refine ⟨by show 3 ≤ sizeLine; decide, fun D hD _ => ?_⟩
  have n3 := G2.ne hD
  have G3 := (G2.put hD (p := .list ([A0, A1, A2].map PV.ref))).freeze n3.1 n3.2.1 (AH.set_self ..)
  have f3 : F2.le (F2.set D (.list ([A0, A1, A2].map PV.ref))) := AH.le_setN (AH.le_refl _) n3.2.2
  have l3 := AH.le_setN (AH.le_refl (((σ.set A0 (.tuple (dT 0))).set A1 (.tuple (dT 1))).set A2 (.tuple (dT 2)))) hD (p := .list ([A0, A1, A2].map PV.ref))
  have s3 : (F2.set D (.list ([A0, A1, A2].map PV.ref))) D = some (.list ([A0, A1, A2].map PV.ref)) := AH.set_self ..
  have le : σ.le ((((σ.set A0 (.tuple (dT 0))).set A1 (.tuple (dT 1))).set A2 (.tuple (dT 2))).set D (.list ([A0, A1, A2].map PV.ref))) := AH.le_trans (AH.le_trans (AH.le_trans l0 l1) l2) l3
  obtain ⟨u5, hu5⟩ := G3.sc 5 (by decide) (by decide)
  refine ST.cell (c := L + 5) (by rfl) hu5 ?_
  have kp : ∀ b p, b ≠ L + 5 → σ b = some p → (((((σ.set A0 (.tuple (dT 0))).set A1 (.tuple (dT 1))).set A2 (.tuple (dT 2))).set D (.list ([A0, A1, A2].map PV.ref))).set (L + 5) (.cell (some (.ref D)))) b = some p := fun b p hb e => by rw [AH.set_ne _ _ hb]; exact le _ _ e
  exact h _ _ D [A0, A1, A2] (G3.cell (j := 5) (by decide) (by decide)) (AH.le_trans (AH.le_trans (AH.le_trans f0 f1) f2) f3) (kp _ _ (neLj (by decide)).symm hL) (kp _ _ (neLL (by decide)) h2) (kp _ _ (neLL (by decide)) h3) (AH.set_self ..) s3 (.cons (f3 _ _ (f2 _ _ (f1 _ _ s0))) (.cons (f3 _ _ (f2 _ _ s1)) (.cons (f3 _ _ s2) .nil)))
end
end Mine
end

section
open PySem PySem.W PyProof.Rows Builtin Builtin.Str
set_option maxRecDepth 100000
namespace Mine

def chP (U : Str) (p : Nat) : Str := ⟨#[U.cps.getD p 0]⟩
def cellP (U W : Str) (p : Nat) : Str := fmtP ((dressP (p % 3)).1 ++ chP U p) ((dressP (p % 3)).2 ++ chP W p)
def cellOk (U W : Str) (p : Nat) : Bool := okF ((dressP (p % 3)).1 ++ chP U p) ((dressP (p % 3)).2 ++ chP W p)

section
variable {X : Cx} {A : Around} {σ : AH}
theorem law_f2 {fm : FM} {L D : Nat} {a : Addr} {F : AH} {n : Nat} (k : Kn1 X) (r : Rm A (n + 2)) {m : Str → Option PV} {Q : PF → AH → Prop} {U W : Str} {N : Nat} {ts : List Addr}
    (hN : N ≤ 8) (hU : N ≤ U.cps.size) (hW : N ≤ W.cps.size) (hok : ∀ p, p < N → cellOk U W p = true)
    (G : Gd F σ L) (hL : σ L = some (.ns m)) (hs : m (Str.ofString "size") = some (.int (N : Nat))) (h2 : σ (L + 2) = some (.cell (some (.str U)))) (h3 : σ (L + 3) = some (.cell (some (.str W)))) (h5 : σ (L + 5) = some (.cell (some (.ref D))))
    (hD : F D = some (.list (ts.map PV.ref))) (hts : All2 (fun t i => F t = some (.tuple (dT i))) ts [0, 1, 2])
    (h : ∀ σ' F' C, Gd F' σ' L → F.le F' → σ' L = some (.ns (upd m (Str.ofString "cells") (.ref C))) → F' C = some (.list (((List.range N).map (cellP U W)).map PV.str)) → XS X A (lawEnv fm L a) (lawSrc.body.drop 13) σ' Q) :
    XS X A (lawEnv fm L a) (lawSrc.body.drop 12) σ Q := by
  obtain ⟨⟨oF, hoF, hdF⟩, hcF⟩ := k.fF
  refine XS.cons (EX.compUsed (cl := [(Str.ofString "upper", L + 2), (Str.ofString "lower", L + 3), (Str.ofString "dress", L + 5)]) r.hh rfl (EV.callTy k.ok k.nRange k.bRange (EV.loc hL hs (CV.range1 fun R hR hRb => ⟨N, _, _, fun C i acc σ' => σ' = σ.set R (.range 0 (N : Nat) 1) ∧ σ' C = none ∧ acc = ((List.range i).map (cellP U W)).map PV.str, ISRC.range (AH.set_self ..) ?_ ?_, Nat.le_trans hN (by decide), fun C hC => ⟨rfl, (hC C (Nat.le_refl _)).1, rfl⟩, fun C i acc σ' hi h => ⟨h.2.1, trivial⟩, ?_, ?_⟩))))
  · exact PySem.small_one (by omega) (by omega) (by omega) (by omega)
  · rw [rangeSize_nat]; simp
  · rintro C i acc σ' hC hi ⟨e1, hCn, e3⟩
    subst e3
    rw [e1] at hCn ⊢
    have ei : (0 : Int) + (i : Int) * 1 = (i : Nat) := by omega
    rw [ei]
    have kp : ∀ b p, σ b = some p → ((σ.set R (.range 0 (N : Nat) 1)).set C (nsx (Str.ofString "p") (some (.int (i : Nat))))) b = some p := fun b p e => by
      have e2 : (σ.set R (.range 0 (N : Nat) 1)) b = some p := by rw [AH.set_ne _ _ (fun z => by rw [z, hR] at e; cases e)]; exact e
      rw [AH.set_ne _ _ (fun z => by rw [z, hCn] at e2; cases e2)]; exact e2
    have wC : ((σ.set R (.range 0 (N : Nat) 1)).set C (nsx (Str.ofString "p") (some (.int (i : Nat))))) C = some (nsx (Str.ofString "p") (some (.int (i : Nat)))) := AH.set_self ..
    refine ⟨fun _ => ?_, fun h => (nomatch h)⟩
    have w2 := kp _ _ h2
    have w3 := kp _ _ h3
    have w5 := kp _ _ h5
    have wD := kp _ _ (G.le _ _ hD)
    have hm3 : ((i : Nat) : Int).fmod 3 = ((i % 3 : Nat) : Int) := by
      rw [Int.fmod_eq_emod_of_nonneg _ (by omega)]; norm_cast
    have hl3 : ts.length = 3 := hts.len
    have h3' : i % 3 < ts.length := by omega
    have wt0 := hts.get (i % 3) h3' (by simp; omega)
    have e012 : ([0, 1, 2] : List Nat)[i % 3]'(by simp; omega) = i % 3 := by
      have : i % 3 = 0 ∨ i % 3 = 1 ∨ i % 3 = 2 := by omega
      rcases this with z | z | z <;> simp [z]
    rw [e012] at wt0
    have wt := kp _ _ (G.le _ _ wt0)
    have gu : U.cps[(i : Int).toNat]? = some (U.cps.getD i 0) := by rw [Int.toNat_natCast]; simp [show i < U.cps.size by omega]
    have gw : W.cps[(i : Int).toNat]? = some (W.cps.getD i 0) := by rw [Int.toNat_natCast]; simp [show i < W.cps.size by omega]
    have hx := hok i hi
    have lens : (((dressP (i % 3)).1 ++ chP U i) : Str).length ≤ sizeLine ∧ (((dressP (i % 3)).2 ++ chP W i) : Str).length ≤ sizeLine := by
      unfold cellOk okF at hx
      simp only [Bool.and_eq_true, decide_eq_true_eq] at hx
      exact ⟨Nat.le_trans hx.1.1.1 (by decide), Nat.le_trans hx.1.1.2 (by decide)⟩
    refine EV.callDef k.ok k.gF hoF hdF (EV.bin (EV.sub (EV.sub (EV.cell (c := L + 5) (by rfl) w5 (EV.bin (EV.loc wC (by rfl) (EV.int (BIN.fmod (by decide) ?_))))))))
    rw [hm3]
    refine SUB.list (p := .ref ts[i % 3]) wD (by omega) (by omega) (by rw [Int.toNat_natCast]; simp [h3']) (EV.int (SUB.tuple (p := .str (dressP (i % 3)).1) wt (by decide) (by decide) rfl ?_))
    refine EV.sub (EV.cell (c := L + 2) (by rfl) w2 (EV.loc wC (by rfl) (SUB.str (by omega) (by omega) gu (BIN.cat lens.1 ?_))))
    refine EV.bin (EV.sub (EV.sub (EV.cell (c := L + 5) (by rfl) w5 (EV.bin (EV.loc wC (by rfl) (EV.int (BIN.fmod (by decide) ?_)))))))
    rw [hm3]
    refine SUB.list (p := .ref ts[i % 3]) wD (by omega) (by omega) (by rw [Int.toNat_natCast]; simp [h3']) (EV.int (SUB.tuple (p := .str (dressP (i % 3)).2) wt (by decide) (by decide) rfl ?_))
    refine EV.sub (EV.cell (c := L + 3) (by rfl) w3 (EV.loc wC (by rfl) (SUB.str (by omega) (by omega) gw (BIN.cat lens.2 ?_))))
    refine CV.fmt k.toKnF r hx fun σ'' hle => ⟨_, hle, rfl, hCn, ?_⟩
    rw [List.range_succ, List.map_append, List.map_append]; rfl
  · rintro C E acc σ' hE hEC ⟨e1, hCn, e3⟩ hEn
    subst e3
    rw [e1] at hEn ⊢
    have G1 := G.put hR (p := .range 0 (N : Nat) 1)
    have nE := G1.ne hEn
    have nR := G.ne hR
    refine ST.at (L := L) (by rw [AH.set_ne _ _ nE.1.symm, AH.set_ne _ _ nR.1.symm]; exact hL) ?_
    exact h _ _ E ((((G1.put hEn (p := .list (((List.range N).map (cellP U W)).map PV.str))).loc (m := upd m (Str.ofString "cells") (.ref E)))).freeze nE.1 nE.2.1 (by rw [AH.set_ne _ _ nE.1, AH.set_self])) (AH.le_setN (AH.le_refl _) nE.2.2) (AH.set_self ..) (AH.set_self ..)
end
end Mine
end

section
open PySem PySem.W PyProof.Rows Builtin Builtin.Str
set_option maxRecDepth 100000
namespace Mine
section
variable {X : Cx} {A : Around} {σ : AH} {Q : PV → AH → Prop}
/-- list of a range -/
theorem CV.listRange {l : Addr} {a b c : Int} {n : Nat} (hh : A.handled = none) (hl : σ l = some (.range a b c)) (hsm : Builtin.Range.small a b c = true) (hn : Builtin.Range.rangeSize a b c = n) (hlen : n ≤ 2 ^ 24)
    (h : ∀ D, σ D = none → X.base.get? D = none → Q (.ref D) (σ.set D (.list ((List.range n).map fun (i : Nat) => PV.int (a + (i : Int) * c))))) : CV X A (.type "list") [.ref l] σ Q := fun vals e => WP.of fun s R => by
  obtain ⟨v, rfl, ev⟩ := map1 e
  rw [pv_ref ev]
  obtain ⟨t, u, w, hr⟩ := R.rz _ _ hl
  refine with_tk (Nat.le_refl s.toks) (call_list_range hh hr hsm hn hlen fun h' tk acc' c' hk hS hacc htk => ?_)
  have hmap : acc'.toList.map pv = (List.range n).map fun (i : Nat) => PV.int (a + (i : Int) * c) := by
    apply List.ext_getElem?
    intro j
    rw [List.getElem?_map, List.getElem?_map]
    by_cases hj : j < n
    · have hsz : j < acc'.size := by rw [hacc.1]; exact hj
      have hv : acc'[j]? = some acc'[j] := Array.getElem?_eq_getElem hsz
      obtain ⟨t, et⟩ := hacc.2 j _ hv
      rw [Array.getElem?_toList, hv, et]
      simp [hj, pv]
    · have h1 : acc'[j]? = none := by rw [Array.getElem?_eq_none_iff, hacc.1]; omega
      rw [Array.getElem?_toList, h1]
      simp [hj]
  obtain ⟨R', S', hn', hb⟩ := R.new (h' := h') (tk := tk) (p := .list ((List.range n).map fun (i : Nat) => PV.int (a + (i : Int) * c))) (Heap.lt_size hS) hk ⟨acc', ⟨c', hS⟩, hmap⟩ (Nat.le_trans R.tk htk)
  exact ⟨_, R', S', h _ hn' hb⟩
end
end Mine
end

section
open PySem PySem.W PyProof.Rows Builtin Builtin.Str
set_option maxRecDepth 100000
namespace Mine
section
variable {X : Cx} {A : Around} {σ : AH}
/-- rooms = list(range(size + 1)) -/
theorem law_g0 {fm : FM} {L : Nat} {a : Addr} {F : AH} {n : Nat} (k : Kn1 X) (r : Rm A (n + 2)) {m : Str → Option PV} {Q : PF → AH → Prop} {N : Nat}
    (hN : N ≤ 8) (G : Gd F σ L) (hL : σ L = some (.ns m)) (hs : m (Str.ofString "size") = some (.int (N : Nat)))
    (h : ∀ σ' D, Gd F σ' L → F D = none → σ' L = some (.ns m) → σ' (L + 6) = some (.cell (some (.ref D))) → σ' D = some (.list (nI (List.range (N + 1)))) → XS X A (lawEnv fm L a) (lawSrc.body.drop 14) σ' Q) :
    XS X A (lawEnv fm L a) (lawSrc.body.drop 13) σ Q := by
  refine XS.cons (EX.assign (EV.callTy k.ok k.nList k.bList (EV.callTy k.ok k.nRange k.bRange (EV.bin (EV.loc hL hs (EV.int (BIN.add (CV.range1 fun R hR _ => CV.listRange (n := N + 1) r.hh (AH.set_self ..) ?_ ?_ ?_ fun D hD _ => ?_))))))))
  · exact PySem.small_one (by omega) (by omega) (by omega) (by omega)
  · rw [show ((N : Nat) : Int) + 1 = ((N + 1 : Nat) : Int) by omega, rangeSize_nat]; simp
  · exact Nat.le_trans (show N + 1 ≤ 9 by omega) (by decide)
  · have G1 := G.put hR (p := .range 0 ((N : Nat) + 1) 1)
    have nR := G.ne hR
    have nD := G1.ne hD
    have e : ((List.range (N + 1)).map fun (i : Nat) => PV.int (0 + (i : Int) * 1)) = nI (List.range (N + 1)) := by
      unfold nI
      apply List.map_congr_left
      intro i _
      congr 1
      omega
    rw [e]
    have G2 := G1.put hD (p := .list (nI (List.range (N + 1))))
    obtain ⟨u6, hu6⟩ := G2.sc 6 (by decide) (by decide)
    refine ST.cell (c := L + 6) (by rfl) hu6 ?_
    exact h _ D (G2.cell (j := 6) (by decide) (by decide)) nD.2.2 (by rw [AH.set_ne _ _ (neLj (by decide)).symm, AH.set_ne _ _ nD.1.symm, AH.set_ne _ _ nR.1.symm]; exact hL) (AH.set_self ..) (by rw [AH.set_ne _ _ (nD.2.1 6 (by decide) (by decide)), AH.set_self])
end
end Mine
end

section
open PySem PySem.W PyProof.Rows Builtin Builtin.Str
set_option maxRecDepth 100000
namespace Mine
abbrev roomBody : List Stmt := forBody (stAt (forBody (stAt lawSrc.body 14)) 0)
section
variable {X : Cx} {A : Around} {σ : AH}
/-- text = ''.join(cells[a:b]) -/
theorem textStep {fm : FM} {L Cc : Nat} {e : Addr} {F : AH} {m : Str → Option PV} {Q : PF → AH → Prop} {cs : List Str} {i j : Nat} {s : Stmt}
    (G : Gd F σ L) (hL : σ L = some (.ns m)) (hc : m (Str.ofString "cells") = some (.ref Cc)) (hC : F Cc = some (.list (cs.map PV.str))) (h7 : σ (L + 7) = some (.cell (some (.int (i : Nat))))) (h8 : σ (L + 8) = some (.cell (some (.int (j : Nat)))))
    (hij : i ≤ j) (hj : j ≤ cs.length) (hlen : cs.length ≤ 1000) (hok : JoinOk (Str.ofString "") ((cs.drop i).take (j - i)) = true)
    (h : ∀ σ', (∀ b q, b ≠ L → σ b = some q → σ' b = some q) → σ' L = some (.ns (upd m (Str.ofString "text") (.str (Txt.join (Str.ofString "") ((cs.drop i).take (j - i)))))) → Q .next σ')
    (hs : s = stAt roomBody 0) : EX X A (lawEnv fm L e) s σ Q := by
  subst hs
  have hCσ := G.le _ _ hC
  refine EX.assign (EV.methBi (EV.str ⟨GMB.join, EV.sliceList (EV.loc hL hc (EV.cell (c := L + 7) (by rfl) h7 (EV.cell (c := L + 8) (by rfl) h8 ⟨Cc, _, i, j, rfl, rfl, rfl, hCσ, by rw [List.length_map]; exact Nat.le_trans hlen (by decide), hij, by rw [List.length_map]; exact hj, ?_⟩)))⟩))
  intro D hD _
  refine CV.join (texts := (cs.drop i).take (j - i)) (by rw [AH.set_self, List.map_take, List.map_drop]) hok ?_
  have nD := G.ne hD
  refine ST.at (L := L) (by rw [AH.set_ne _ _ nD.1.symm]; exact hL) ?_
  refine h _ (fun b q hb e => ?_) (AH.set_self ..)
  rw [AH.set_ne _ _ hb, AH.set_ne _ _ (fun z => by rw [z, hD] at e; cases e)]; exact e
end
end Mine
end

section
open PySem PySem.W PyProof.Rows Builtin Builtin.Str
set_option maxRecDepth 100000
namespace Mine
def moveP (rm : List Nat) (i j : Nat) : List Nat := rm.map fun v => if v = rm.getD j 0 then rm.getD i 0 else v
section
variable {X : Cx} {A : Around} {σ : AH}
theorem moveStep {fm : FM} {L R n : Nat} {e : Addr} {Q : PF → AH → Prop} {rm : List Nat} {i j : Nat} {s : Stmt} (r : Rm A (n + 1))
    (hR : σ R = some (.list (nI rm))) (h6 : σ (L + 6) = some (.cell (some (.ref R)))) (h7 : σ (L + 7) = some (.cell (some (.int (i : Nat))))) (h8 : σ (L + 8) = some (.cell (some (.int (j : Nat)))))
    (hi : i < rm.length) (hj : j < rm.length) (hlen : rm.length ≤ 1000)
    (h : ∀ D, σ D = none → Q .next ((σ.set D (.list (nI (moveP rm i j)))).set (L + 6) (.cell (some (.ref D)))))
    (hs : s = stAt (ifThen (stAt (forBody (stAt roomBody 1)) 0)) 0) : EX X A (lawEnv fm L e) s σ Q := by
  subst hs
  have gi : (nI rm)[(i : Int).toNat]? = some (.int (rm.getD i 0 : Nat)) := by rw [Int.toNat_natCast, nI_get hi]; simp [hi]
  have gj : (nI rm)[(j : Int).toNat]? = some (.int (rm.getD j 0 : Nat)) := by rw [Int.toNat_natCast, nI_get hj]; simp [hj]
  refine EX.assign (EV.comp (cl := [(Str.ofString "rooms", L + 6), (Str.ofString "b", L + 8), (Str.ofString "a", L + 7)]) r.hh rfl (EV.cell (c := L + 6) (by rfl) h6 ⟨(nI rm).length, _, _, fun C t acc σ' => σ' = σ ∧ σ C = none ∧ acc = nI ((moveP rm i j).take t), ISRC.list hR, by simp [nI]; exact Nat.le_trans hlen (by decide), fun C hC => ⟨rfl, (hC C (Nat.le_refl _)).1, rfl⟩, fun C t acc σ' _ ⟨e1, e2, e3⟩ => ⟨by rw [e1]; exact e2, by rw [e1]; exact hR⟩, ?_, ?_⟩))
  · rintro C t acc σ' hC ht ⟨e1, hCn, e3⟩
    subst e3
    rw [e1]
    have ht' : t < rm.length := by simpa [nI] using ht
    have hit : (nI rm).getD t .none = .int (rm[t] : Nat) := by rw [List.getD_eq_getElem?_getD, nI_get ht']; rfl
    rw [hit]
    have kp : ∀ b p, σ b = some p → (σ.set C (nsx (Str.ofString "room") (some (.int (rm[t] : Nat))))) b = some p := fun b p e => by
      rw [AH.set_ne _ _ (fun z => by rw [z, hCn] at e; cases e)]; exact e
    have wC : (σ.set C (nsx (Str.ofString "room") (some (.int (rm[t] : Nat))))) C = some (nsx (Str.ofString "room") (some (.int (rm[t] : Nat)))) := AH.set_self ..
    have hm : t < (moveP rm i j).length := by simp [moveP]; exact ht'
    have hend : ∀ {y : PV}, y = .int ((if rm[t] = rm.getD j 0 then rm.getD i 0 else rm[t] : Nat)) → nI ((moveP rm i j).take t) ++ [y] = nI ((moveP rm i j).take (t + 1)) := by
      rintro y rfl
      rw [List.take_succ_eq_append_getElem hm]
      simp [nI, moveP]
    refine ⟨fun _ => ?_, fun h => (nomatch h)⟩
    refine EV.ifexp (TS.cmp (EV.loc wC (by rfl) (EV.sub (EV.cell (c := L + 6) (by rfl) (kp _ _ h6) (EV.cell (c := L + 8) (by rfl) (kp _ _ h8) (SUB.list (kp _ _ hR) (by omega) (by omega) gj (CMP.eq_i ⟨_, rfl, fun hc => ?_, fun hc => ?_⟩)))))))
    · have hc' : rm[t] = rm.getD j 0 := by
        have z : ((rm[t] : Nat) : Int) = (rm.getD j 0 : Nat) := eq_of_beq hc
        omega
      exact EV.sub (EV.cell (c := L + 6) (by rfl) (kp _ _ h6) (EV.cell (c := L + 7) (by rfl) (kp _ _ h7) (SUB.list (kp _ _ hR) (by omega) (by omega) gi ⟨σ, AH.le_refl _, rfl, hCn, hend (by rw [if_pos hc'])⟩)))
    · have hc' : ¬ rm[t] = rm.getD j 0 := fun z => by rw [z] at hc; simp at hc
      exact EV.loc wC (by rfl) ⟨σ, AH.le_refl _, rfl, hCn, hend (by rw [if_neg hc'])⟩
  · rintro C D acc σ' hD hDC ⟨e1, hCn, e3⟩ hDn
    subst e3
    rw [e1] at hDn ⊢
    have hl : (moveP rm i j).take (nI rm).length = moveP rm i j := List.take_of_length_le (by simp [moveP, nI])
    rw [hl]
    have n6 : L + 6 ≠ D := fun z => by rw [z, hDn] at h6; cases h6
    exact ST.cell (c := L + 6) (by rfl) (by rw [AH.set_ne _ _ n6]; exact h6) (h D hDn)
end
end Mine
end

section
open PySem PySem.W PyProof.Rows Builtin Builtin.Str
set_option maxRecDepth 100000
namespace Mine
def toldGo (i j : Nat) : List Bool → List Nat → List Nat
  | [], rm => rm
  | b :: r, rm => toldGo i j r (if b then moveP rm i j else rm)
theorem moveP_len (rm : List Nat) (i j : Nat) : (moveP rm i j).length = rm.length := by simp [moveP]
theorem toldGo_len (i j : Nat) : ∀ (bs : List Bool) (rm : List Nat), (toldGo i j bs rm).length = rm.length
  | [], rm => rfl
  | b :: r, rm => by
    unfold toldGo
    rw [toldGo_len i j r]
    cases b
    · rfl
    · exact moveP_len rm i j
section
variable {X : Cx} {A : Around} {σ : AH}
theorem toldLoop {fm : FM} {L R0 n : Nat} {e : Addr} {F : AH} (k : Kn1 X) (r : Rm A (n + 3)) {m : Str → Option PV} {Q : PF → AH → Prop} {rm : List Nat} {i j : Nat} {t : Str} {b1 b2 : Bool} {s : Stmt}
    (G : Gd F σ L) (hL : σ L = some (.ns m)) (ht : m (Str.ofString "text") = some (.str t)) (hR : σ R0 = some (.list (nI rm))) (h6 : σ (L + 6) = some (.cell (some (.ref R0)))) (h7 : σ (L + 7) = some (.cell (some (.int (i : Nat))))) (h8 : σ (L + 8) = some (.cell (some (.int (j : Nat)))))
    (hi : i < rm.length) (hj : j < rm.length) (hlen : rm.length ≤ 1000) (hc1 : checkP t = some b1) (hc2 : checkP (dq ++ t) = some b2) (hl : (dq ++ t).length ≤ sizeLine)
    (h : ∀ σ' m' R', Gd F σ' L → σ' L = some (.ns m') → (∀ y, y ≠ Str.ofString "told" → m' y = m y) → σ' R' = some (.list (nI (toldGo i j [b1, b2] rm))) → σ' (L + 6) = some (.cell (some (.ref R'))) → σ' (L + 7) = some (.cell (some (.int (i : Nat)))) → Q .next σ')
    (hs : s = stAt roomBody 1) : EX X A (lawEnv fm L e) s σ Q := by
  subst hs
  obtain ⟨⟨oC, hoC, hdC⟩, hcC⟩ := k.fC
  refine EX.forList r.hh (EV.list (EV.callDef k.ok k.gC hoC hdC (EV.loc hL ht (CV.check k.toKnC r hc1 fun σ1 hle1 => ?_))))
  refine EV.callDef k.ok k.gC hoC hdC (EV.bin (EV.str (EV.loc (hle1 _ _ hL) ht (BIN.cat hl (CV.check k.toKnC r hc2 fun σ2 hle2 => ⟨by show 2 ≤ sizeLine; decide, fun T hT _ => ?_⟩)))))
  have hle := AH.le_trans hle1 hle2
  have G2 := G.more hle
  have nT := G2.ne hT
  have le3 : σ.le (σ2.set T (.list ([b1, b2].map PV.bool))) := AH.le_trans hle (AH.le_setN (AH.le_refl _) hT)
  have G3 := (G2.put hT (p := .list ([b1, b2].map PV.bool))).freeze nT.1 nT.2.1 (AH.set_self ..)
  have hFT : (F.set T (.list ([b1, b2].map PV.bool))) T = some (.list ([b1, b2].map PV.bool)) := AH.set_self ..
  have hFle : F.le (F.set T (.list ([b1, b2].map PV.bool))) := AH.le_setN (AH.le_refl _) nT.2.2
  refine ⟨T, [b1, b2].map PV.bool, fun d σ' => ∃ m' R' rm', Gd (F.set T (.list ([b1, b2].map PV.bool))) σ' L ∧ σ' L = some (.ns m') ∧ (∀ y, y ≠ Str.ofString "told" → m' y = m y) ∧ σ' R' = some (.list (nI rm')) ∧ rm'.length = rm.length ∧ σ' (L + 6) = some (.cell (some (.ref R'))) ∧ σ' (L + 7) = some (.cell (some (.int (i : Nat)))) ∧ σ' (L + 8) = some (.cell (some (.int (j : Nat)))) ∧ toldGo i j ([b1, b2].drop d) rm' = toldGo i j [b1, b2] rm, rfl, AH.set_self .., ?_, fun d σ' _ ⟨m', R', rm', G', _⟩ => G'.le _ _ hFT, ?_, ?_⟩
  · exact ⟨m, R0, rm, G3, le3 _ _ hL, fun _ _ => rfl, le3 _ _ hR, rfl, le3 _ _ h6, le3 _ _ h7, le3 _ _ h8, rfl⟩
  · rintro d σ' hd ⟨m', R', rm', G', L', y', R'', rl, c6, c7, c8, go⟩
    have hd2 : d < [b1, b2].length := by simpa using hd
    have hit : ([b1, b2].map PV.bool).getD d .none = .bool [b1, b2][d] := by
      rw [List.getD_eq_getElem?_getD, List.getElem?_map, List.getElem?_eq_getElem hd2]; rfl
    rw [hit]
    rw [List.drop_eq_getElem_cons hd2] at go
    generalize [b1, b2][d] = b at go ⊢
    unfold toldGo at go
    refine ASG.name (ST.at L' ?_)
    have kp : ∀ b p, b ≠ L → σ' b = some p → (σ'.set L (.ns (upd m' (Str.ofString "told") (.bool b1)))) b = some p := fun b p hb e => by rw [AH.set_ne _ _ hb]; exact e
    have G4 := G'.loc (m := upd m' (Str.ofString "told") (.bool b))
    have R4 : (σ'.set L (.ns (upd m' (Str.ofString "told") (.bool b)))) R' = some (.list (nI rm')) := by rw [AH.set_ne _ _ (fun z => by rw [z, L'] at R''; cases R'')]; exact R''
    have k6 : (σ'.set L (.ns (upd m' (Str.ofString "told") (.bool b)))) (L + 6) = _ := (AH.set_ne _ _ (neLj (by decide))).trans c6
    have k7 : (σ'.set L (.ns (upd m' (Str.ofString "told") (.bool b)))) (L + 7) = _ := (AH.set_ne _ _ (neLj (by decide))).trans c7
    have k8 : (σ'.set L (.ns (upd m' (Str.ofString "told") (.bool b)))) (L + 8) = _ := (AH.set_ne _ _ (neLj (by decide))).trans c8
    have L4 : (σ'.set L (.ns (upd m' (Str.ofString "told") (.bool b)))) L = some (.ns (upd m' (Str.ofString "told") (.bool b))) := AH.set_self ..
    have tb : upd m' (Str.ofString "told") (.bool b) (Str.ofString "told") = some (.bool b) := rfl
    have y4 : ∀ y, y ≠ Str.ofString "told" → upd m' (Str.ofString "told") (.bool b) y = m y := fun y hy => by rw [upd_ne _ _ hy]; exact y' y hy
    clear kp
    generalize upd m' (Str.ofString "told") (.bool b) = m4 at *
    generalize σ'.set L (.ns m4) = τ at *
    refine XS.cons (EX.if (TS.cmp (EV.loc L4 tb (EV.bool (CMP.is_b ⟨_, rfl, fun hc => ?_, fun hc => ?_⟩)))))
    · have hb : b = true := by simpa using hc
      subst hb
      refine XS.cons (moveStep (r.up (by omega) : Rm A (0 + 1)) R4 k6 k7 k8 (by omega) (by omega) (by omega) (fun D hD => ?_) rfl)
      have nD := G4.ne hD
      have G5 := (G4.put hD (p := .list (nI (moveP rm' i j)))).cell (j := 6) (by decide) (by decide) (p := some (.ref D))
      have kp : ∀ b p, b ≠ L + 6 → τ b = some p → ((τ.set D (.list (nI (moveP rm' i j)))).set (L + 6) (.cell (some (.ref D)))) b = some p := fun b p hb e => by
        rw [AH.set_ne _ _ hb, AH.set_ne _ _ (fun z => by rw [z, hD] at e; cases e)]; exact e
      refine XS.nil (XS.nil ⟨m4, D, moveP rm' i j, G5, kp _ _ (neLj (by decide)).symm L4, y4, by rw [AH.set_ne _ _ (nD.2.1 6 (by decide) (by decide)), AH.set_self], by rw [moveP_len]; exact rl, AH.set_self .., kp _ _ (neLL (by decide)) k7, kp _ _ (neLL (by decide)) k8, go⟩)
    · have hb : b = false := by simpa using hc
      subst hb
      refine XS.cons (EX.if (TS.cmp (EV.loc L4 tb (EV.bool (CMP.isnot_b ⟨_, rfl, fun hc => absurd hc (by decide), fun _ => ?_⟩)))))
      exact XS.nil (XS.nil (XS.nil ⟨m4, R', rm', G4, L4, y4, R4, rl, k6, k7, k8, go⟩))
  · rintro σ' ⟨m', R', rm', G', L', y', R'', rl, c6, c7, c8, go⟩
    have e : toldGo i j [b1, b2] rm = rm' := go.symm
    exact h σ' m' R' ⟨AH.le_trans hFle G'.le, G.fl, G.fc, G'.sl, G'.sc⟩ L' y' (by rw [e]; exact R'') c6 c7
end
end Mine
end

section
open PySem PySem.W PyProof.Rows Builtin Builtin.Str
set_option maxRecDepth 100000
namespace Mine
def txtP (cs : List Str) (i j : Nat) : Str := Txt.join (Str.ofString "") ((cs.drop i).take (j - i))
def tellP (cs : List Str) (i j : Nat) (rm : List Nat) : Option (List Nat) :=
  if JoinOk (Str.ofString "") ((cs.drop i).take (j - i)) && decide ((dq ++ txtP cs i j).length ≤ 1000) then
    match checkP (txtP cs i j), checkP (dq ++ txtP cs i j) with
    | some b1, some b2 => some (toldGo i j [b1, b2] rm)
    | _, _ => none
  else none
def rowsGo (cs : List Str) (i : Nat) : List Nat → List Nat → Option (List Nat)
  | [], rm => some rm
  | j :: js, rm => match tellP cs i j rm with
    | none => none
    | some r => rowsGo cs i js r
def jsOf (N i : Nat) : List Nat := (List.range ((N - i) / 2)).map fun t => i + 2 + t * 2
def roomsGo (cs : List Str) (N : Nat) : List Nat → List Nat → Option (List Nat)
  | [], rm => some rm
  | i :: is, rm => match rowsGo cs i (jsOf N i) rm with
    | none => none
    | some r => roomsGo cs N is r
theorem tellP_ok {cs : List Str} {i j : Nat} {rm r : List Nat} (h : tellP cs i j rm = some r) : ∃ b1 b2, JoinOk (Str.ofString "") ((cs.drop i).take (j - i)) = true ∧ (dq ++ txtP cs i j).length ≤ 1000 ∧ checkP (txtP cs i j) = some b1 ∧ checkP (dq ++ txtP cs i j) = some b2 ∧ r = toldGo i j [b1, b2] rm := by
  unfold tellP at h
  split at h
  · rename_i hc
    rw [Bool.and_eq_true] at hc
    split at h
    · rename_i b1 b2 e1 e2
      exact ⟨b1, b2, hc.1, of_decide_eq_true hc.2, e1, e2, (Option.some.inj h).symm⟩
    · cases h
  · cases h
theorem rowsGo_cons {cs : List Str} {i j : Nat} {js rm r : List Nat} (h : rowsGo cs i (j :: js) rm = some r) : ∃ r1, tellP cs i j rm = some r1 ∧ rowsGo cs i js r1 = some r := by
  unfold rowsGo at h
  split at h
  · cases h
  · exact ⟨_, by assumption, h⟩
theorem roomsGo_cons {cs : List Str} {N i : Nat} {is rm r : List Nat} (h : roomsGo cs N (i :: is) rm = some r) : ∃ r1, rowsGo cs i (jsOf N i) rm = some r1 ∧ roomsGo cs N is r1 = some r := by
  unfold roomsGo at h
  split at h
  · cases h
  · exact ⟨_, by assumption, h⟩
theorem rs2 : ∀ N : Nat, N ≤ 8 → ∀ i : Nat, i < N → Builtin.Range.rangeSize ((i : Nat) + 2) ((N : Nat) + 1) 2 = ((N - i) / 2 : Nat) ∧ Builtin.Range.small ((i : Nat) + 2) ((N : Nat) + 1) 2 = true ∧ Builtin.divisionGoesByPylong (((N : Nat) + 1 : Int) - ((i : Nat) + 2)) 2 = false := by decide +kernel
section
variable {X : Cx} {A : Around} {σ : AH}
theorem law_g {fm : FM} {L Cc R0 n : Nat} {e : Addr} {F : AH} (k : Kn1 X) (r : Rm A (n + 3)) {m : Str → Option PV} {Q : PF → AH → Prop} {cs : List Str} {N : Nat} {rmF : List Nat}
    (hN : N ≤ 8) (hcl : cs.length = N) (hgo : roomsGo cs N (List.range N) (List.range (N + 1)) = some rmF)
    (G : Gd F σ L) (hL : σ L = some (.ns m)) (hs : m (Str.ofString "size") = some (.int (N : Nat))) (hc : m (Str.ofString "cells") = some (.ref Cc)) (hC : F Cc = some (.list (cs.map PV.str)))
    (h6 : σ (L + 6) = some (.cell (some (.ref R0)))) (hR : σ R0 = some (.list (nI (List.range (N + 1)))))
    (h : ∀ σ' m' R', Gd F σ' L → σ' L = some (.ns m') → (∀ y, y ≠ Str.ofString "text" → y ≠ Str.ofString "told" → m' y = m y) → σ' (L + 6) = some (.cell (some (.ref R'))) → σ' R' = some (.list (nI rmF)) → rmF.length = N + 1 → XS X A (lawEnv fm L e) (lawSrc.body.drop 15) σ' Q) :
    XS X A (lawEnv fm L e) (lawSrc.body.drop 14) σ Q := by
  refine XS.cons (EX.forRange r.hh (EV.callTy k.ok k.nRange k.bRange (EV.loc hL hs (CV.range1 fun D hD hDb => ⟨D, 0, N, 1, N, fun i σ' => ∃ m' R' rm', Gd F σ' L ∧ σ' L = some (.ns m') ∧ (∀ y, y ≠ Str.ofString "text" → y ≠ Str.ofString "told" → m' y = m y) ∧ σ' (L + 6) = some (.cell (some (.ref R'))) ∧ σ' R' = some (.list (nI rm')) ∧ rm'.length = N + 1 ∧ roomsGo cs N ((List.range N).drop i) rm' = some rmF, rfl, AH.set_self .., PySem.small_one (by omega) (by omega) (by omega) (by omega), ?_, ?_, ?_, ?_⟩))))
  · rw [rangeSize_nat]; simp
  · have hDs := AH.le_setN (AH.le_refl σ) hD (p := .range 0 N 1)
    exact ⟨m, R0, List.range (N + 1), G.put hD, hDs _ _ hL, fun _ _ _ => rfl, hDs _ _ h6, hDs _ _ hR, by simp, hgo⟩
  · rintro i σ' hi ⟨m', R', rm', G', L', y', c6, R'', rl, go⟩
    have ei : (0 : Int) + (i : Int) * 1 = (i : Nat) := by omega
    rw [ei]
    have hd := List.drop_eq_getElem_cons (l := List.range N) (i := i) (by simpa using hi)
    rw [List.getElem_range] at hd
    rw [hd] at go
    obtain ⟨rm2, go2, go3⟩ := roomsGo_cons go
    obtain ⟨u7, hu7⟩ := G'.sc 7 (by decide) (by decide)
    refine ASG.name (ST.cell (c := L + 7) (by rfl) hu7 ?_)
    have G2 := G'.cell (j := 7) (by decide) (by decide) (p := some (.int (i : Nat)))
    have kp : ∀ b p, b ≠ L + 7 → σ' b = some p → (σ'.set (L + 7) (.cell (some (.int (i : Nat))))) b = some p := fun b p hb e => by rw [AH.set_ne _ _ hb]; exact e
    have L2 := kp _ _ (neLj (by decide)).symm L'
    have k6 := kp _ _ (neLL (by decide)) c6
    have k7 : (σ'.set (L + 7) (.cell (some (.int (i : Nat))))) (L + 7) = some (.cell (some (.int (i : Nat)))) := AH.set_self ..
    have R2 := kp _ _ (fun z => by rw [z, hu7] at R''; cases R'') R''
    clear kp hu7 R'' c6 L' G'
    generalize σ'.set (L + 7) (.cell (some (.int (i : Nat)))) = υ at *
    obtain ⟨z1, z2, z3⟩ := rs2 N hN i hi
    have ss : m' (Str.ofString "size") = some (.int (N : Nat)) := by rw [y' _ (by decide +kernel) (by decide +kernel)]; exact hs
    have cc : m' (Str.ofString "cells") = some (.ref Cc) := by rw [y' _ (by decide +kernel) (by decide +kernel)]; exact hc
    refine XS.cons (EX.forRange r.hh (EV.callTy k.ok k.nRange k.bRange (EV.bin (EV.cell (c := L + 7) (by rfl) k7 (EV.int (BIN.add (EV.bin (EV.loc L2 ss (EV.int (BIN.add (EV.int (CV.range3 (by decide) z3 fun D2 hD2 _ => ⟨D2, _, _, 2, (N - i) / 2, fun t σ3 => ∃ m3 R3 rm3, Gd F σ3 L ∧ σ3 L = some (.ns m3) ∧ (∀ y, y ≠ Str.ofString "text" → y ≠ Str.ofString "told" → m3 y = m y) ∧ σ3 (L + 6) = some (.cell (some (.ref R3))) ∧ σ3 (L + 7) = some (.cell (some (.int (i : Nat)))) ∧ σ3 R3 = some (.list (nI rm3)) ∧ rm3.length = N + 1 ∧ rowsGo cs i ((jsOf N i).drop t) rm3 = some rm2, rfl, AH.set_self .., z2, z1, ?_, ?_, ?_⟩))))))))))))
    · have hDs := AH.le_setN (AH.le_refl υ) hD2 (p := .range ((i : Nat) + 2) ((N : Nat) + 1) 2)
      exact ⟨m', R', rm', G2.put hD2, hDs _ _ L2, y', hDs _ _ k6, hDs _ _ k7, hDs _ _ R2, rl, go2⟩
    · rintro t σ3 ht ⟨m3, R3, rm3, G3, L3, y3, c6, c7, R3', rl3, go4⟩
      have hjl : (jsOf N i).length = (N - i) / 2 := by simp [jsOf]
      have hjd := List.drop_eq_getElem_cons (l := jsOf N i) (i := t) (by omega)
      have hjt : (jsOf N i)[t]'(by omega) = i + 2 + t * 2 := by simp [jsOf]
      rw [hjt] at hjd
      rw [hjd] at go4
      obtain ⟨rm5, go5, go6⟩ := rowsGo_cons go4
      obtain ⟨b1, b2, e1, e2, e3, e4, e5⟩ := tellP_ok go5
      have hjN : i + 2 + t * 2 ≤ N := by omega
      have ej : ((i : Nat) : Int) + 2 + (t : Int) * 2 = ((i + 2 + t * 2 : Nat) : Int) := by push_cast; rfl
      rw [ej]
      generalize hj : i + 2 + t * 2 = j at *
      obtain ⟨u8, hu8⟩ := G3.sc 8 (by decide) (by decide)
      refine ASG.name (ST.cell (c := L + 8) (by rfl) hu8 ?_)
      have G4 := G3.cell (j := 8) (by decide) (by decide) (p := some (.int (j : Nat)))
      have kp : ∀ b p, b ≠ L + 8 → σ3 b = some p → (σ3.set (L + 8) (.cell (some (.int (j : Nat))))) b = some p := fun b p hb e => by rw [AH.set_ne _ _ hb]; exact e
      have L4 := kp _ _ (neLj (by decide)).symm L3
      have d6 := kp _ _ (neLL (by decide)) c6
      have d7 := kp _ _ (neLL (by decide)) c7
      have d8 : (σ3.set (L + 8) (.cell (some (.int (j : Nat))))) (L + 8) = some (.cell (some (.int (j : Nat)))) := AH.set_self ..
      have R4 := kp _ _ (fun z => by rw [z, hu8] at R3'; cases R3') R3'
      clear kp hu8 R3' c6 c7 L3 G3
      generalize σ3.set (L + 8) (.cell (some (.int (j : Nat)))) = τ at *
      have c3 : m3 (Str.ofString "cells") = some (.ref Cc) := by rw [y3 _ (by decide +kernel) (by decide +kernel)]; exact hc
      refine XS.cons (textStep G4 L4 c3 hC d7 d8 (by omega) (by omega) (by omega) e1 (fun σ5 kp5 L5 => ?_) rfl)
      have G5 : Gd F σ5 L := ⟨fun b q e => kp5 _ _ (fun z => by rw [z, G4.fl] at e; cases e) (G4.le _ _ e), G4.fl, G4.fc, ⟨_, L5⟩, fun j h1 h2 => by
        obtain ⟨v, e⟩ := G4.sc j h1 h2
        exact ⟨v, kp5 _ _ (neLj h1) e⟩⟩
      have tx : upd m3 (Str.ofString "text") (.str (Txt.join (Str.ofString "") ((cs.drop i).take (j - i)))) (Str.ofString "text") = some (.str (txtP cs i j)) := rfl
      refine XS.cons (toldLoop k r G5 L5 tx (kp5 _ _ (fun z => by rw [z, L4] at R4; cases R4) R4) (kp5 _ _ (neLj (by decide)) d6) (kp5 _ _ (neLj (by decide)) d7) (kp5 _ _ (neLj (by decide)) d8) (by omega) (by omega) (by omega) e3 e4 (Nat.le_trans e2 (by decide)) (fun σ6 m6 R6 G6 L6 y6 R6' c6 c7 => ?_) rfl)
      refine XS.nil ⟨m6, R6, _, G6, L6, fun y h1 h2 => by rw [y6 y h2, upd_ne _ _ h1]; exact y3 y h1 h2, c6, c7, R6', by rw [toldGo_len]; exact rl3, by rw [← e5]; exact go6⟩
    · rintro σ3 ⟨m3, R3, rm3, G3, L3, y3, c6, c7, R3', rl3, go4⟩
      have e : rm3 = rm2 := by
        rw [List.drop_of_length_le (by simp [jsOf])] at go4
        exact Option.some.inj go4
      subst e
      exact XS.nil ⟨m3, R3, rm3, G3, L3, y3, c6, R3', rl3, go3⟩
  · rintro σ' ⟨m', R', rm', G', L', y', c6, R'', rl, go⟩
    have e : rm' = rmF := by
      rw [List.drop_of_length_le (by simp)] at go
      exact Option.some.inj go
    subst e
    exact h σ' m' R' G' L' y' c6 R'' rl
end
end Mine
end

section
open PySem PySem.W PyProof.Rows Builtin Builtin.Str
set_option maxRecDepth 100000
namespace Mine
def inP (rg : List Nat) (i j : Nat) : List Nat := rg.filter fun p => decide (i ≤ p) && decide (p < j)
def oddB (rg : List Nat) (i j : Nat) : Bool := (inP rg i j).length % 2 == 1
def oddL (rts : List Addr) (rs : List (List Nat)) (i j d : Nat) : List (Addr × List Nat) := ((rts.zip rs).take d).filter fun e => oddB e.2 i j
theorem oddL_succ {rts : List Addr} {rs : List (List Nat)} {i j d : Nat} (h1 : d < rts.length) (h2 : d < rs.length) : oddL rts rs i j (d + 1) = oddL rts rs i j d ++ (if oddB rs[d] i j = true then [(rts[d], rs[d])] else []) := by
  unfold oddL
  have h : d < (rts.zip rs).length := by simp; omega
  rw [List.take_succ_eq_append_getElem h, List.filter_append]
  congr 1
  simp only [List.getElem_zip, List.filter_cons, List.filter_nil]
theorem oddL_all {rts : List Addr} {rs : List (List Nat)} {i j : Nat} (h : rts.length = rs.length) : (oddL rts rs i j rts.length = []) ↔ rs.any (oddB · i j) = false := by
  unfold oddL
  have e : (rts.zip rs).take rts.length = rts.zip rs := List.take_of_length_le (by simp; omega)
  rw [e, List.filter_eq_nil_iff]
  constructor
  · intro hh
    rw [List.any_eq_false]
    intro x hx hc
    obtain ⟨t, ht, rfl⟩ := List.mem_iff_getElem.mp hx
    have hi2 : t < (rts.zip rs).length := by simp; omega
    have := hh _ (List.getElem_mem hi2)
    simp only [List.getElem_zip] at this
    exact this hc
  · intro hh x hx hc
    rw [List.any_eq_false] at hh
    exact hh _ (List.of_mem_zip hx).2 hc
theorem inP_succ {rg : List Nat} {i j t : Nat} (ht : t < rg.length) : inP (rg.take (t + 1)) i j = inP (rg.take t) i j ++ (if (decide (i ≤ rg[t]) && decide (rg[t] < j)) = true then [rg[t]] else []) := by
  unfold inP
  rw [List.take_succ_eq_append_getElem ht, List.filter_append]
  congr 1
  simp only [List.filter_cons, List.filter_nil]
abbrev lastBody : List Stmt := forBody (stAt (forBody (stAt lawSrc.body 15)) 0)
section
variable {X : Cx} {A : Around} {env : Env} {σ : AH}
/-- [ring for ring in rings if len([p for p in ring if a <= p < b]) % 2 == 1] -/
theorem oddComp {fm : FM} {L e R : Addr} {n : Nat} {rts : List Addr} {rs : List (List Nat)} {i j : Nat} {Q : PF → AH → Prop} {m : Str → Option PV} {s : Stmt} (k : Kn1 X) (r : Rm A (n + 1)) (hL : σ L = some (.ns m)) (hm : m (Str.ofString "rings") = some (.ref R)) (h7 : σ (L + 7) = some (.cell (some (.int (i : Nat))))) (h8 : σ (L + 8) = some (.cell (some (.int (j : Nat)))))
    (hR : σ R = some (.list (rts.map PV.ref))) (hrs : All2 (fun t rg => σ t = some (.list (nI rg))) rts rs) (hsz : rts.length ≤ 1000) (hsz2 : ∀ rg ∈ rs, rg.length ≤ 1000)
    (hQ : ∀ D, σ D = none → Q .next ((σ.set D (.list ((oddL rts rs i j rts.length).map fun e => PV.ref e.1))).set L (.ns (upd m (Str.ofString "odd") (.ref D)))))
    (hs : s = stAt lastBody 0) : EX X A (lawEnv fm L e) s σ Q := by
  subst hs
  have hlen : rts.length = rs.length := hrs.len
  refine EX.compUsed (cl := [(Str.ofString "b", L + 8), (Str.ofString "a", L + 7)]) r.hh rfl (EV.loc hL hm ⟨(rts.map PV.ref).length, _, _, fun C d acc σ' => σ' = σ ∧ σ C = none ∧ acc = (oddL rts rs i j d).map fun e => PV.ref e.1, ISRC.list hR, ?_, fun C hC => ⟨rfl, (hC C (Nat.le_refl _)).1, rfl⟩, fun C d acc σ' hi ⟨e1, e2, e3⟩ => ⟨by rw [e1]; exact e2, by rw [e1]; exact hR⟩, ?_, ?_⟩)
  · rw [List.length_map]; exact Nat.le_trans hsz (by decide)
  · rintro C d acc σ' hC hi ⟨e1, hCn, e3⟩
    subst e3
    rw [e1]
    rw [List.length_map] at hi
    have hi' : d < rs.length := by rw [← hlen]; exact hi
    have ht := hrs.get d hi hi'
    have hit : (rts.map PV.ref).getD d .none = .ref rts[d] := getD_map hi
    rw [hit]
    have hrl : rs[d].length ≤ 1000 := hsz2 _ (List.getElem_mem _)
    have kp : ∀ b p, σ b = some p → (σ.set C (nsx (Str.ofString "ring") (some (.ref rts[d])))) b = some p := fun b p e => by
      rw [AH.set_ne _ _ (fun z => by rw [z, hCn] at e; cases e)]; exact e
    have wC : (σ.set C (nsx (Str.ofString "ring") (some (.ref rts[d])))) C = some (nsx (Str.ofString "ring") (some (.ref rts[d]))) := AH.set_self ..
    have wt := kp _ _ ht
    have w7 := kp _ _ h7
    have w8 := kp _ _ h8
    generalize hτ : σ.set C (nsx (Str.ofString "ring") (some (.ref rts[d]))) = τ at *
    refine TS.cmp (EV.bin (EV.callBi k.ok k.nLen k.bLen (EV.comp (cl := [(Str.ofString "b", L + 8), (Str.ofString "a", L + 7)]) r.hh rfl (EV.loc wC (by rfl) ⟨(nI rs[d]).length, _, _, fun C2 t acc σ'' => σ'' = τ ∧ τ C2 = none ∧ acc = nI (inP (rs[d].take t) i j), ISRC.list wt, ?_, fun C2 hC2 => ⟨rfl, (hC2 C2 (Nat.le_refl _)).1, rfl⟩, fun C2 t acc σ'' _ ⟨z1, z2, z3⟩ => ⟨by rw [z1]; exact z2, by rw [z1]; exact wt⟩, ?_, ?_⟩))))
    · simp [nI]; exact Nat.le_trans hrl (by decide)
    · rintro C2 t acc σ'' hC2 ht2 ⟨z1, hC2n, z3⟩
      subst z3
      rw [z1]
      have ht' : t < rs[d].length := by simpa [nI] using ht2
      have hit2 : (nI rs[d]).getD t .none = .int (rs[d][t] : Nat) := by rw [List.getD_eq_getElem?_getD, nI_get ht']; rfl
      rw [hit2]
      have kp2 : ∀ b p, τ b = some p → (τ.set C2 (nsx (Str.ofString "p") (some (.int (rs[d][t] : Nat))))) b = some p := fun b p e => by
        rw [AH.set_ne _ _ (fun z => by rw [z, hC2n] at e; cases e)]; exact e
      have wC2 : (τ.set C2 (nsx (Str.ofString "p") (some (.int (rs[d][t] : Nat))))) C2 = some (nsx (Str.ofString "p") (some (.int (rs[d][t] : Nat)))) := AH.set_self ..
      have no : (decide (i ≤ rs[d][t]) && decide (rs[d][t] < j)) = false → ∃ σ₄, AH.le (σ₄.set C2 (nsx (Str.ofString "p") (some (.int (rs[d][t] : Nat))))) (τ.set C2 (nsx (Str.ofString "p") (some (.int (rs[d][t] : Nat))))) ∧ σ₄ = τ ∧ τ C2 = none ∧ nI (inP (rs[d].take t) i j) = nI (inP (rs[d].take (t + 1)) i j) := fun hc => by
        refine ⟨τ, AH.le_refl _, rfl, hC2n, ?_⟩
        rw [inP_succ ht', if_neg (by rw [hc]; decide)]; simp
      refine TS.chain (EV.cell (c := L + 7) (by rfl) (kp2 _ _ w7) (EV.loc wC2 (by rfl) (CMP.le_i ⟨_, rfl, fun hc => ?_, fun hc => ?_⟩)))
      · have h1 : decide (i ≤ rs[d][t]) = false := by
          have : ¬ ((i : Int) ≤ (rs[d][t] : Nat)) := of_decide_eq_false hc
          exact decide_eq_false (by omega)
        exact ⟨fun h => (nomatch h), fun _ => no (by rw [h1]; rfl)⟩
      · have h1 : decide (i ≤ rs[d][t]) = true := by
          have : ((i : Int) ≤ (rs[d][t] : Nat)) := of_decide_eq_true hc
          exact decide_eq_true (by omega)
        refine EV.cell (c := L + 8) (by rfl) (kp2 _ _ w8) (CMP.lt_i ⟨_, rfl, fun hd => ?_, fun hd => ?_⟩)
        · have h2 : decide (rs[d][t] < j) = true := by
            have : (((rs[d][t] : Nat) : Int) < (j : Nat)) := of_decide_eq_true hd
            exact decide_eq_true (by omega)
          refine EV.loc wC2 (by rfl) ⟨τ, AH.le_refl _, rfl, hC2n, ?_⟩
          rw [inP_succ ht', if_pos (by rw [h1, h2]; rfl)]; simp [nI]
        · have h2 : decide (rs[d][t] < j) = false := by
            have : ¬ (((rs[d][t] : Nat) : Int) < (j : Nat)) := of_decide_eq_false hd
            exact decide_eq_false (by omega)
          exact no (by rw [h1, h2]; rfl)
    · rintro C2 D2 acc σ'' hD2 hDC2 ⟨z1, hC2n, z3⟩ hD2n
      subst z3
      rw [z1] at hD2n ⊢
      have htk : rs[d].take (nI rs[d]).length = rs[d] := List.take_of_length_le (by simp [nI])
      rw [htk]
      have hil : (inP rs[d] i j).length ≤ 1000 := Nat.le_trans (List.length_filter_le _ _) hrl
      refine CV.lenList (AH.set_self ..) (by simp [nI]; exact Nat.le_trans hil (by decide)) (EV.int (BIN.fmod (by decide) (EV.int (CMP.eq_i ⟨_, rfl, ?_⟩))))
      have le2 : τ.le (τ.set D2 (.list (nI (inP rs[d] i j)))) := AH.le_setN (AH.le_refl _) hD2n
      have hodd : (((((nI (inP rs[d] i j)).length : Nat) : Int).fmod 2) == 1) = oddB rs[d] i j := by
        have e : (nI (inP rs[d] i j)).length = (inP rs[d] i j).length := by simp [nI]
        rw [e, Int.fmod_eq_emod_of_nonneg _ (by decide)]
        unfold oddB
        generalize (inP rs[d] i j).length = q
        have : q % 2 = 0 ∨ q % 2 = 1 := by omega
        rcases this with h | h
        · have : ((q : Int) % 2) = 0 := by omega
          rw [this, h]; rfl
        · have : ((q : Int) % 2) = 1 := by omega
          rw [this, h]; rfl
      rw [hodd]
      refine ⟨fun hc => ?_, fun hc => ?_⟩
      · refine EV.loc (le2 _ _ wC) (by rfl) ⟨σ, by rw [hτ]; exact le2, rfl, hCn, ?_⟩
        rw [oddL_succ hi hi', if_pos hc]; simp
      · refine ⟨σ, by rw [hτ]; exact le2, rfl, hCn, ?_⟩
        rw [oddL_succ hi hi', if_neg (by rw [hc]; decide)]; simp
  · rintro C D acc σ' hD hDC ⟨e1, hCn, e3⟩ hDn
    subst e3
    rw [e1] at hDn ⊢
    rw [List.length_map]
    exact ST.at (L := L) (by rw [AH.set_ne _ _ (fun z => by rw [z, hDn] at hL; cases hL)]; exact hL) (hQ D hDn)
end
end Mine
end

section
open PySem PySem.W PyProof.Rows Builtin Builtin.Str
set_option maxRecDepth 100000
namespace Mine
def lastOk (rm : List Nat) (rs : List (List Nat)) (N : Nat) : Bool := (List.range (N + 1)).all fun i => (List.range (N - i)).all fun t => decide (rm.getD i 0 = rm.getD (i + 1 + t) 0) == !(rs.any (oddB · i (i + 1 + t)))
theorem CMP.ne_b {X : Cx} {A : Around} {σ : AH} {Q : PV → AH → Prop} {p q : Bool} (h : Q (.bool (!(p == q))) σ) : CMP X A .NotEq (.bool p) (.bool q) σ Q := fun va vb ea eb => WP.of fun s R => by
  rw [pv_bool ea, pv_bool eb]
  exact EqBoolInt.of_rcne (SeqAt.RcNeAt.bool_bool p q) ⟨σ, R, Step.refl σ s, h⟩
theorem oddRd {X : Cx} {σ : AH} {rts : List Addr} {rs : List (List Nat)} {i j d : Nat} (hrs : All2 (fun t rg => σ t = some (.list (nI rg))) rts rs) : All2 (Rd X σ) ((oddL rts rs i j d).map fun e => PV.ref e.1) ((oddL rts rs i j d).map fun e => pdN e.2) := by
  have h : ∀ e ∈ oddL rts rs i j d, σ e.1 = some (.list (nI e.2)) := fun e he => by
    have h1 := List.mem_of_mem_take (List.mem_filter.mp he).1
    obtain ⟨i, hi, rfl⟩ := List.mem_iff_getElem.mp h1
    simp only [List.length_zip] at hi
    rw [List.getElem_zip]
    exact hrs.get i (by omega) (by omega)
  generalize oddL rts rs i j d = l at *
  induction l with
  | nil => exact .nil
  | cons e r ih =>
    refine .cons (Rd.ints (ns := e.2.map fun n => ((n : Nat) : Int)) ?_) (ih fun x hx => h x (List.mem_cons_of_mem _ hx))
    rw [h e List.mem_cons_self, nI_int]
section
variable {X : Cx} {A : Around} {σ : AH}
theorem law_h {fm : FM} {L R R0 n : Nat} {e : Addr} {F : AH} (k : Kn1 X) (r : Rm A (n + 3)) {m : Str → Option PV} {Q : PF → AH → Prop} {N : Nat} {rm : List Nat} {rts : List Addr} {rs : List (List Nat)}
    (hN : N ≤ 8) (hrl : rm.length = N + 1) (hok : lastOk rm rs N = true) (hsz : rts.length ≤ 1000) (hsz2 : ∀ rg ∈ rs, rg.length ≤ 1000)
    (G : Gd F σ L) (hL : σ L = some (.ns m)) (hs : m (Str.ofString "size") = some (.int (N : Nat))) (hm : m (Str.ofString "rings") = some (.ref R)) (hR : F R = some (.list (rts.map PV.ref))) (hrs : All2 (fun t rg => F t = some (.list (nI rg))) rts rs)
    (h6 : σ (L + 6) = some (.cell (some (.ref R0)))) (hR0 : σ R0 = some (.list (nI rm)))
    (h : ∀ σ', Q (.ret (.bool true)) σ') :
    XS X A (lawEnv fm L e) (lawSrc.body.drop 15) σ Q := by
  refine XS.cons (EX.forRange r.hh (EV.callTy k.ok k.nRange k.bRange (EV.bin (EV.loc hL hs (EV.int (BIN.add (CV.range1 fun D hD hDb => ⟨D, 0, (N : Nat) + 1, 1, N + 1, fun i σ' => ∃ m', Gd F σ' L ∧ σ' L = some (.ns m') ∧ (∀ y, y ≠ Str.ofString "odd" → m' y = m y) ∧ σ' (L + 6) = some (.cell (some (.ref R0))) ∧ σ' R0 = some (.list (nI rm)), rfl, AH.set_self .., PySem.small_one (by omega) (by omega) (by omega) (by omega), ?_, ?_, ?_, ?_⟩)))))))
  · rw [show ((N : Nat) : Int) + 1 = ((N + 1 : Nat) : Int) by omega, rangeSize_nat]; simp
  · have hDs := AH.le_setN (AH.le_refl σ) hD (p := .range 0 ((N : Nat) + 1) 1)
    exact ⟨m, G.put hD, hDs _ _ hL, fun _ _ => rfl, hDs _ _ h6, hDs _ _ hR0⟩
  · rintro i σ' hi ⟨m', G', L', y', c6, R'⟩
    have ei : (0 : Int) + (i : Int) * 1 = (i : Nat) := by omega
    rw [ei]
    obtain ⟨u7, hu7⟩ := G'.sc 7 (by decide) (by decide)
    refine ASG.name (ST.cell (c := L + 7) (by rfl) hu7 ?_)
    have G2 := G'.cell (j := 7) (by decide) (by decide) (p := some (.int (i : Nat)))
    have kp : ∀ b p, b ≠ L + 7 → σ' b = some p → (σ'.set (L + 7) (.cell (some (.int (i : Nat))))) b = some p := fun b p hb e => by rw [AH.set_ne _ _ hb]; exact e
    have L2 := kp _ _ (neLj (by decide)).symm L'
    have k6 := kp _ _ (neLL (by decide)) c6
    have k7 : (σ'.set (L + 7) (.cell (some (.int (i : Nat))))) (L + 7) = some (.cell (some (.int (i : Nat)))) := AH.set_self ..
    have R2 := kp _ _ (fun z => by rw [z, hu7] at R'; cases R') R'
    clear kp hu7 R' c6 L' G'
    generalize σ'.set (L + 7) (.cell (some (.int (i : Nat)))) = υ at *
    have ss : m' (Str.ofString "size") = some (.int (N : Nat)) := by rw [y' _ (by decide +kernel)]; exact hs
    refine XS.cons (EX.forRange r.hh (EV.callTy k.ok k.nRange k.bRange (EV.bin (EV.cell (c := L + 7) (by rfl) k7 (EV.int (BIN.add (EV.bin (EV.loc L2 ss (EV.int (BIN.add (CV.range2 fun D2 hD2 _ => ⟨D2, _, _, 1, N - i, fun t σ3 => ∃ m3, Gd F σ3 L ∧ σ3 L = some (.ns m3) ∧ (∀ y, y ≠ Str.ofString "odd" → m3 y = m y) ∧ σ3 (L + 6) = some (.cell (some (.ref R0))) ∧ σ3 (L + 7) = some (.cell (some (.int (i : Nat)))) ∧ σ3 R0 = some (.list (nI rm)), rfl, AH.set_self .., PySem.small_one (by omega) (by omega) (by omega) (by omega), ?_, ?_, ?_, ?_⟩)))))))))))
    · rw [show ((N : Nat) : Int) + 1 = ((N + 1 : Nat) : Int) by omega, show ((i : Nat) : Int) + 1 = ((i + 1 : Nat) : Int) by omega, rangeSize_nat]; congr 1; omega
    · have hDs := AH.le_setN (AH.le_refl υ) hD2 (p := .range ((i : Nat) + 1) ((N : Nat) + 1) 1)
      exact ⟨m', G2.put hD2, hDs _ _ L2, y', hDs _ _ k6, hDs _ _ k7, hDs _ _ R2⟩
    · rintro t σ3 ht ⟨m3, G3, L3, y3, c6, c7, R3⟩
      have hok2 : decide (rm.getD i 0 = rm.getD (i + 1 + t) 0) = !(rs.any (oddB · i (i + 1 + t))) := by
        have h1 := List.all_eq_true.mp hok i (by simpa using hi)
        have h2 := List.all_eq_true.mp h1 t (by simpa using ht)
        exact eq_of_beq h2
      have ej : ((i : Nat) : Int) + 1 + (t : Int) * 1 = ((i + 1 + t : Nat) : Int) := by push_cast; omega
      rw [ej]
      have hjN : i + 1 + t < N + 1 := by omega
      generalize hj : i + 1 + t = j at *
      obtain ⟨u8, hu8⟩ := G3.sc 8 (by decide) (by decide)
      refine ASG.name (ST.cell (c := L + 8) (by rfl) hu8 ?_)
      have G4 := G3.cell (j := 8) (by decide) (by decide) (p := some (.int (j : Nat)))
      have kp : ∀ b p, b ≠ L + 8 → σ3 b = some p → (σ3.set (L + 8) (.cell (some (.int (j : Nat))))) b = some p := fun b p hb e => by rw [AH.set_ne _ _ hb]; exact e
      have L4 := kp _ _ (neLj (by decide)).symm L3
      have d6 := kp _ _ (neLL (by decide)) c6
      have d7 := kp _ _ (neLL (by decide)) c7
      have d8 : (σ3.set (L + 8) (.cell (some (.int (j : Nat))))) (L + 8) = some (.cell (some (.int (j : Nat)))) := AH.set_self ..
      have R4 := kp _ _ (fun z => by rw [z, hu8] at R3; cases R3) R3
      clear kp hu8 R3 c6 c7 L3 G3
      generalize σ3.set (L + 8) (.cell (some (.int (j : Nat)))) = τ at *
      have mr : m3 (Str.ofString "rings") = some (.ref R) := by rw [y3 _ (by decide +kernel)]; exact hm
      refine XS.cons (oddComp k (r.up (by omega) : Rm A (0 + 1)) L4 mr d7 d8 (G4.le _ _ hR) (hrs.imp fun t rg e => G4.le _ _ e) hsz hsz2 (fun D hD => ?_) rfl)
      have nD := G4.ne hD
      have G5 := (G4.put hD (p := .list ((oddL rts rs i j rts.length).map fun e => PV.ref e.1))).loc (m := upd m3 (Str.ofString "odd") (.ref D))
      have kp : ∀ b p, b ≠ L → τ b = some p → ((τ.set D (.list ((oddL rts rs i j rts.length).map fun e => PV.ref e.1))).set L (.ns (upd m3 (Str.ofString "odd") (.ref D)))) b = some p := fun b p hb e => by
        rw [AH.set_ne _ _ hb, AH.set_ne _ _ (fun z => by rw [z, hD] at e; cases e)]; exact e
      have L5 : ((τ.set D (.list ((oddL rts rs i j rts.length).map fun e => PV.ref e.1))).set L (.ns (upd m3 (Str.ofString "odd") (.ref D)))) L = some (.ns (upd m3 (Str.ofString "odd") (.ref D))) := AH.set_self ..
      have O5 : ((τ.set D (.list ((oddL rts rs i j rts.length).map fun e => PV.ref e.1))).set L (.ns (upd m3 (Str.ofString "odd") (.ref D)))) D = some (.list ((oddL rts rs i j rts.length).map fun e => PV.ref e.1)) := by rw [AH.set_ne _ _ nD.1, AH.set_self]
      have f6 := kp _ _ (neLj (by decide)) d6
      have f7 := kp _ _ (neLj (by decide)) d7
      have f8 := kp _ _ (neLj (by decide)) d8
      have R5 := kp _ _ (fun z => by rw [z, L4] at R4; cases R4) R4
      have od : upd m3 (Str.ofString "odd") (.ref D) (Str.ofString "odd") = some (.ref D) := rfl
      have y5 : ∀ y, y ≠ Str.ofString "odd" → upd m3 (Str.ofString "odd") (.ref D) y = m y := fun y hy => by rw [upd_ne _ _ hy]; exact y3 y hy
      clear kp
      generalize upd m3 (Str.ofString "odd") (.ref D) = m5 at *
      generalize (τ.set D (.list ((oddL rts rs i j rts.length).map fun e => PV.ref e.1))).set L (.ns m5) = ω at *
      have gi : (nI rm)[(i : Int).toNat]? = some (.int (rm.getD i 0 : Nat)) := by rw [Int.toNat_natCast, nI_get (by omega)]; simp [show i < rm.length by omega]
      have gj : (nI rm)[(j : Int).toNat]? = some (.int (rm.getD j 0 : Nat)) := by rw [Int.toNat_natCast, nI_get (by omega)]; simp [show j < rm.length by omega]
      refine XS.cons (EX.if (TS.cmp (EV.cmp (EV.sub (EV.cell (c := L + 6) (by rfl) f6 (EV.cell (c := L + 7) (by rfl) f7 (SUB.list R5 (by omega) (by omega) gi (EV.sub (EV.cell (c := L + 6) (by rfl) f6 (EV.cell (c := L + 8) (by rfl) f8 (SUB.list R5 (by omega) (by omega) gj (CMP.eq_i ?_))))))))))))
      refine EV.cmp (EV.loc L5 od (EV.list ⟨Nat.zero_le _, fun D3 hD3 _ => ?_⟩))
      have le3 := AH.le_setN (AH.le_refl ω) hD3 (p := .list [])
      refine CMP.eqD (da := .list ((oddL rts rs i j rts.length).map fun e => pdN e.2)) (db := .list []) r (Rd.list (le3 _ _ O5) (oddRd (hrs.imp fun t rg e => le3 _ _ (G5.le _ _ e)))) (Rd.list (vs := []) (AH.set_self ..) .nil) ?_ (by decide) ?_
      · rw [show ((oddL rts rs i j rts.length).map fun e => pdN e.2) = ((oddL rts rs i j rts.length).map (·.2)).map pdN by rw [List.map_map]; rfl]
        exact shNN _
      · rw [show ((oddL rts rs i j rts.length).map fun e => pdN e.2) = ((oddL rts rs i j rts.length).map (·.2)).map pdN by rw [List.map_map]; rfl, eqvNN]
        have h1 := oddL_all (i := i) (j := j) hrs.len
        have h2 : decide ((oddL rts rs i j rts.length).map (·.2) = []) = !(rs.any (oddB · i j)) := by
          cases hx : rs.any (oddB · i j) with
          | false => exact decide_eq_true (List.map_eq_nil_iff.mpr (h1.mpr hx))
          | true => exact decide_eq_false fun z => by rw [h1.mp (List.map_eq_nil_iff.mp z)] at hx; cases hx
        have h3 : (((rm.getD i 0 : Nat) : Int) == (rm.getD j 0 : Nat)) = decide (rm.getD i 0 = rm.getD j 0) := by
          generalize rm.getD i 0 = x
          generalize rm.getD j 0 = y
          by_cases z : x = y
          · subst z; simp
          · rw [decide_eq_false z, beq_eq_false_iff_ne]; intro q; exact z (by exact_mod_cast q)
        rw [h2, h3, hok2]
        refine CMP.ne_b ⟨_, rfl, fun hc => ?_, fun _ => ?_⟩
        · simp at hc
        · refine XS.nil (XS.nil ⟨m5, G5.put hD3, le3 _ _ L5, y5, le3 _ _ f6, le3 _ _ f7, le3 _ _ R5⟩)
    · rintro σ3 ⟨m3, G3, L3, y3, c6, c7, R3⟩
      exact XS.nil ⟨m3, G3, L3, y3, c6, R3⟩
  · rintro σ' ⟨m', G', L', y', c6, R'⟩
    exact XS.cons (EX.ret (EV.bool (h σ')))
end
end Mine
end

section
open PySem PySem.W PyProof.Rows Builtin Builtin.Str
set_option maxRecDepth 100000
namespace Mine
/-- _strip_quoted_realnames, a sign at a time: flag (behind a backslash), the piece ahead of an open quotation mark, what stands since the last closed one, what is out -/
def stripL : List Nat → Bool → Option (List Nat) → List Nat → List Nat → List Nat
  | [], _, _, cur, out => out ++ cur
  | c :: r, true, op, cur, out => stripL r false op (cur ++ [c]) out
  | c :: r, false, op, cur, out => if c = 92 then stripL r true op (cur ++ [c]) out else
      if c = 34 then (match op with
        | none => stripL r false (some cur) (cur ++ [c]) out
        | some q => stripL r false none [] (out ++ q))
      else stripL r false op (cur ++ [c]) out
/-- the brackets' count, a sign at a time -/
def parL : List Nat → Bool → Int → Bool
  | [], _, d => d == 0
  | c :: r, true, d => parL r false d
  | c :: r, false, d => if c = 92 then parL r true d else if c = 40 then parL r false (d + 1) else if c = 41 then (if d - 1 < 0 then false else parL r false (d - 1)) else parL r false d

theorem dq_eq : dq = ⟨#[34]⟩ := by decide +kernel
theorem lb_eq : lb = ⟨#[40]⟩ := by decide +kernel
theorem rb_eq : rb = ⟨#[41]⟩ := by decide +kernel
theorem one_is {a c : Nat} : ((⟨[a].toArray⟩ : Str) = ⟨#[c]⟩) ↔ a = c := by simp
theorem two_is {a b c : Nat} : ¬ ((⟨[a, b].toArray⟩ : Str) = ⟨#[c]⟩) := by simp

theorem par_run : ∀ (l : List Nat) (p : Nat) (f : Bool) (d : Int), escEnd l f = false → parGo (esc l p f) d = parL l f d
  | [], p, true, d, h => by cases h
  | [], p, false, d, _ => rfl
  | c :: r, p, true, d, h => by
    show parGo ((p, [92, c]) :: esc r (p + 1) false) d = parL r false d
    unfold parGo
    rw [lb_eq, rb_eq, if_neg two_is, if_neg two_is]
    exact par_run r (p + 1) false d h
  | c :: r, p, false, d, h => by
    unfold esc parL
    unfold escEnd at h
    by_cases hc : c = 92
    · rw [if_pos hc, if_pos hc]
      exact par_run r (p + 1) true d (by simpa [hc] using h)
    · rw [if_neg hc, if_neg hc]
      have h' : escEnd r false = false := by simpa [hc] using h
      unfold parGo
      rw [lb_eq, rb_eq]
      by_cases h1 : c = 40
      · rw [if_pos (one_is.mpr h1), if_pos h1]; exact par_run r (p + 1) false (d + 1) h'
      · rw [if_neg (fun z => h1 (one_is.mp z)), if_neg h1]
        by_cases h2 : c = 41
        · rw [if_pos (one_is.mpr h2), if_pos h2]
          split
          · rfl
          · exact par_run r (p + 1) false (d - 1) h'
        · rw [if_neg (fun z => h2 (one_is.mp z)), if_neg h2]; exact par_run r (p + 1) false d h'

theorem stripL_no : ∀ (l : List Nat) (f : Bool) (cur out : List Nat), 34 ∉ l → stripL l f none cur out = out ++ cur ++ l
  | [], f, cur, out, _ => by cases f <;> simp [stripL]
  | c :: r, true, cur, out, h => by
    unfold stripL
    rw [stripL_no r false _ _ (fun z => h (List.mem_cons_of_mem _ z))]; simp
  | c :: r, false, cur, out, h => by
    have hr : 34 ∉ r := fun z => h (List.mem_cons_of_mem _ z)
    have hc : c ≠ 34 := fun z => h (by rw [z]; exact List.mem_cons_self)
    unfold stripL
    split
    · rw [stripL_no r true _ _ hr]; simp
    · rw [stripL_no r false _ _ hr]; simp

def flat (l : List Str) : List Nat := (l.map fun x => x.cps.toList).flatten
theorem flat_snoc (l : List Str) (x : Str) : flat (l ++ [x]) = flat l ++ x.cps.toList := by simp [flat]
theorem join_flat : ∀ l : List Str, (Txt.join (Str.ofString "") l).cps.toList = flat l := by
  intro l
  show (glued (Str.ofString "") l).cps.toList = _
  rw [StrLaws.glued_eq_join]
  have e : Str.ofString "" = Str.empty := by decide +kernel
  rw [e]
  induction l with
  | nil => rfl
  | cons x r ih =>
    cases r with
    | nil => simp [flat, PySem.Str.join]
    | cons y r =>
      show ((x ++ Str.empty) ++ PySem.Str.join Str.empty (y :: r)).cps.toList = _
      have ap : ∀ a b : Str, (a ++ b).cps.toList = a.cps.toList ++ b.cps.toList := fun a b => by
        show (a.cps ++ b.cps).toList = _; simp
      rw [ap, ap, ih]
      show (x.cps.toList ++ []) ++ _ = _
      simp [flat]
theorem flat_len : ∀ l : List Str, (flat l).length = (l.map (·.length)).sum
  | [] => rfl
  | x :: r => by
    have : flat (x :: r) = x.cps.toList ++ flat r := rfl
    rw [this, List.length_append, flat_len r]
    simp [PySem.Str.length]
theorem joinOk_flat {l : List Str} (h : (flat l).length ≤ 100000) : JoinOk (Str.ofString "") l = true := by
  unfold JoinOk
  rw [Bool.not_eq_true', StrLaws.joinTotal, ← flat_len]
  have : (Str.ofString "").length = 0 := by decide +kernel
  rw [this]
  unfold tooLong sizeLine
  exact decide_eq_false (by omega)

theorem drop_snoc {pre : List Nat} {c st : Nat} (h : st ≤ pre.length) : (pre ++ [c]).drop st = pre.drop st ++ [c] := by
  rw [List.drop_append_of_le_length h]
theorem take_snoc {pre : List Nat} {c st o : Nat} (h : st ≤ pre.length) (h2 : o ≤ pre.length) : ((pre ++ [c]).drop st).take (o - st) = (pre.drop st).take (o - st) := by
  rw [drop_snoc h, List.take_append_of_le_length (by simp; omega)]

def opOk (pre : List Nat) (st : Nat) : Option Nat → Option (List Nat) → Prop
  | none, none => True
  | some o, some q => st ≤ o ∧ o ≤ pre.length ∧ q = (pre.drop st).take (o - st)
  | _, _ => False
theorem opOk.snoc {pre : List Nat} {st c : Nat} (hs : st ≤ pre.length) : ∀ {op : Option Nat} {q : Option (List Nat)}, opOk pre st op q → opOk (pre ++ [c]) st op q
  | none, none, _ => trivial
  | some o, some q, ⟨h1, h2, h3⟩ => ⟨h1, by simp; omega, by rw [take_snoc hs h2]; exact h3⟩
  | none, some _, h => h
  | some _, none, h => h

theorem strip_run (x : Str) : ∀ (l pre : List Nat) (f : Bool) (st : Nat) (op : Option Nat) (q : Option (List Nat)) (res : List Str), x.cps.toList = pre ++ l → escEnd l f = false → st ≤ pre.length → opOk pre st op q →
    ∃ st' res', stripGo x (esc l pre.length f) st op res = some (st', res') ∧ st' ≤ x.length ∧ flat res' ++ x.cps.toList.drop st' = stripL l f q (pre.drop st) (flat res)
  | [], pre, true, _, _, _, _, _, h, _, _ => by cases h
  | [], pre, false, st, op, q, res, hx, _, hs, ho => by
    refine ⟨st, res, rfl, ?_, ?_⟩
    · have := congrArg List.length hx
      simp at this
      show st ≤ x.cps.size
      omega
    · unfold stripL; rw [hx]; simp
  | c :: r, pre, true, st, op, q, res, hx, h, hs, ho => by
    have ih := strip_run x r (pre ++ [c]) false st op q res (by rw [hx]; simp) h (by simp; omega) (ho.snoc hs)
    rw [drop_snoc hs, List.length_append] at ih
    obtain ⟨st', res', e1, e2, e3⟩ := ih
    refine ⟨st', res', ?_, e2, e3⟩
    show stripGo x ((pre.length, [92, c]) :: esc r (pre.length + 1) false) st op res = _
    unfold stripGo
    rw [dq_eq, if_neg two_is]
    exact e1
  | c :: r, pre, false, st, op, q, res, hx, h, hs, ho => by
    have hlen : (pre ++ [c]).length = pre.length + 1 := by simp
    have hxl : x.length = pre.length + 1 + r.length := by
      have := congrArg List.length hx
      simp at this
      show x.cps.size = _
      omega
    unfold esc stripL
    unfold escEnd at h
    by_cases hc : c = 92
    · have h' : escEnd r true = false := by simpa [hc] using h
      rw [if_pos hc, if_pos hc]
      have ih := strip_run x r (pre ++ [c]) true st op q res (by rw [hx]; simp) h' (by simp; omega) (ho.snoc hs)
      rw [drop_snoc hs, hlen] at ih
      exact ih
    · have h' : escEnd r false = false := by simpa [hc] using h
      rw [if_neg hc, if_neg hc]
      by_cases hq : c = 34
      · rw [if_pos hq]
        have hdq : (⟨[c].toArray⟩ : Str) = dq := by rw [dq_eq]; exact one_is.mpr hq
        match op, q, ho with
        | none, none, _ =>
          have ih := strip_run x r (pre ++ [c]) false st (some pre.length) (some (pre.drop st)) res (by rw [hx]; simp) h' (by simp; omega) ⟨hs, by simp, by rw [take_snoc hs (Nat.le_refl _), List.take_of_length_le (by simp)]⟩
          rw [drop_snoc hs, hlen] at ih
          obtain ⟨st', res', e1, e2, e3⟩ := ih
          refine ⟨st', res', ?_, e2, e3⟩
          unfold stripGo
          rw [if_pos hdq]
          exact e1
        | some o, some q, ⟨h1, h2, h3⟩ =>
          have ih := strip_run x r (pre ++ [c]) false (pre.length + 1) none none (if st = o then res else res ++ [cut x st o]) (by rw [hx]; simp) h' (by simp) trivial
          have hd : (pre ++ [c]).drop (pre.length + 1) = [] := List.drop_of_length_le (by simp)
          have hf : flat (if st = o then res else res ++ [cut x st o]) = flat res ++ q := by
            split
            · rename_i e
              rw [h3, e]; simp
            · rw [flat_snoc]
              congr 1
              show (((x.cps.toList.drop st).take (o - st)).toArray).toList = q
              rw [hx, h3]
              simp only [List.drop_append_of_le_length hs]
              rw [List.take_append_of_le_length (by simp; omega)]
          rw [hd, hlen, hf] at ih
          obtain ⟨st', res', e1, e2, e3⟩ := ih
          refine ⟨st', res', ?_, e2, e3⟩
          unfold stripGo
          rw [if_pos hdq]
          dsimp only
          rw [if_pos ⟨h1, by omega⟩]
          exact e1
        | none, some _, h => exact h.elim
        | some _, none, h => exact h.elim
      · rw [if_neg hq]
        have ih := strip_run x r (pre ++ [c]) false st op q res (by rw [hx]; simp) h' (by simp; omega) (ho.snoc hs)
        rw [drop_snoc hs, hlen] at ih
        obtain ⟨st', res', e1, e2, e3⟩ := ih
        refine ⟨st', res', ?_, e2, e3⟩
        unfold stripGo
        rw [dq_eq, if_neg (fun z => hq (one_is.mp z))]
        exact e1

theorem stripL_len : ∀ (l : List Nat) (f : Bool) (q : Option (List Nat)) (cur out : List Nat), (∀ z, q = some z → z.length ≤ cur.length) → (stripL l f q cur out).length ≤ out.length + cur.length + l.length
  | [], f, q, cur, out, _ => by cases f <;> simp [stripL]
  | c :: r, true, q, cur, out, h => by
    unfold stripL
    have := stripL_len r false q (cur ++ [c]) out (fun z e => by have := h z e; simp; omega)
    simp at this ⊢; omega
  | c :: r, false, q, cur, out, h => by
    unfold stripL
    split
    · have := stripL_len r true q (cur ++ [c]) out (fun z e => by have := h z e; simp; omega)
      simp at this ⊢; omega
    · split
      · cases q with
        | none =>
          have := stripL_len r false (some cur) (cur ++ [c]) out (fun z e => by cases e; simp)
          simp at this ⊢; omega
        | some z =>
          have := stripL_len r false none [] (out ++ z) (fun _ e => by cases e)
          have h2 := h z rfl
          simp at this ⊢; omega
      · have := stripL_len r false q (cur ++ [c]) out (fun z e => by have := h z e; simp; omega)
        simp at this ⊢; omega

theorem stripP_eq {x : Str} (hl : x.length ≤ 1000) (he : escEnd x.cps.toList false = false) : stripP x = some ⟨(stripL x.cps.toList false none [] []).toArray⟩ := by
  unfold stripP
  rw [if_neg (by omega)]
  have hco : Txt.contains x dq = decide (34 ∈ x.cps.toList) := by
    rw [dq_eq]; exact StrLaws.found_one x 34
  by_cases hm : 34 ∈ x.cps.toList
  · rw [if_neg (by rw [hco]; simp [hm]), if_neg (by rw [he]; decide)]
    obtain ⟨st, res, e1, e2, e3⟩ := strip_run x x.cps.toList [] false 0 none none [] rfl he (Nat.le_refl _) trivial
    have e1' : stripGo x (esc x.cps.toList 0 false) 0 none [] = some (st, res) := e1
    rw [e1']
    have hsl : (stripL x.cps.toList false none [] []).length ≤ 1000 := by
      have := stripL_len x.cps.toList false none [] [] (fun _ e => by cases e)
      have h9 : x.cps.toList.length = x.length := by simp [PySem.Str.length]
      simp only [List.length_nil] at this
      omega
    have e3' : flat res ++ x.cps.toList.drop st = stripL x.cps.toList false none [] [] := e3
    have hfl : flat (if st < x.length then res ++ [cut x st x.length] else res) = stripL x.cps.toList false none [] [] := by
      rw [← e3']
      split
      · rw [flat_snoc]
        congr 1
        show (((x.cps.toList.drop st).take (x.length - st)).toArray).toList = _
        rw [List.take_of_length_le (by simp [PySem.Str.length])]
      · rw [List.drop_of_length_le (by simp [PySem.Str.length] at *; omega)]; simp
    dsimp only
    rw [if_pos (joinOk_flat (by rw [hfl]; omega)), ← hfl, ← join_flat]
  · rw [if_pos (by rw [hco]; simp [hm]), stripL_no _ _ _ _ hm]
    simp
/-- _check_parenthesis, a sign at a time -/
def chkL (l : List Nat) : Bool := parL (stripL l false none [] []) false 0
theorem checkP_eq {x : Str} (hl : x.length ≤ 1000) (he : escEnd x.cps.toList false = false) (he2 : escEnd (stripL x.cps.toList false none [] []) false = false) : checkP x = some (chkL x.cps.toList) := by
  unfold checkP
  rw [stripP_eq hl he]
  dsimp only
  rw [if_neg (by rw [he2]; decide)]
  congr 1
  exact par_run _ 0 false 0 he2
end Mine
end

section
open PySem PySem.W PyProof.Rows Builtin Builtin.Str
set_option maxRecDepth 100000
namespace Mine
def nmL : Nat → Nat → List Nat
  | 0, a => [a, 61]
  | 1, a => [92, 41, a, 61]
  | _, a => [92, 40, a, 61]
def vlL : Nat → Nat → List Nat
  | 0, b => [b]
  | 1, b => [92, 34, b]
  | _, b => [92, 92, b]
def cellL (r a b : Nat) : List Nat := nmL r a ++ 34 :: vlL r b ++ [34]
def isB (a : Nat) : Prop := a = 40 ∨ a = 41
abbrev Tr := Nat × Nat × Nat
def okTr (t : Tr) : Prop := isB t.2.1 ∧ isB t.2.2
def cells (ts : List Tr) : List Nat := (ts.map fun t => cellL t.1 t.2.1 t.2.2).flatten
def nms (ts : List Tr) : List Nat := (ts.map fun t => nmL t.1 t.2.1).flatten
def vls (ts : List Tr) : List Nat := (ts.map fun t => vlL t.1 t.2.2).flatten
def balB : List Nat → Int → Bool
  | [], d => d == 0
  | a :: r, d => if a = 40 then balB r (d + 1) else if d - 1 < 0 then false else balB r (d - 1)

theorem strip_none : ∀ (ts : List Tr) (out : List Nat), (∀ t ∈ ts, okTr t) → stripL (cells ts) false none [] out = out ++ nms ts
  | [], out, _ => rfl
  | (r, a, b) :: ts, out, h => by
    have ih := fun out => strip_none ts out fun t ht => h t (List.mem_cons_of_mem _ ht)
    obtain ⟨ha, hb⟩ := h _ List.mem_cons_self
    have e : stripL (cells ((r, a, b) :: ts)) false none [] out = stripL (cells ts) false none [] (out ++ nmL r a) := by
      show stripL (cellL r a b ++ cells ts) false none [] out = _
      rcases ha with ha | ha <;> rcases hb with hb | hb <;> simp only at ha hb <;> subst ha <;> subst hb <;>
      (match r with
        | 0 => rfl
        | 1 => rfl
        | _ + 2 => rfl)
    rw [e, ih]
    show _ = out ++ (nmL r a ++ nms ts)
    simp
theorem strip_some : ∀ (ts : List Tr) (q out : List Nat), (∀ t ∈ ts, okTr t) → stripL (cells ts) false (some q) (q ++ [34]) out = out ++ q ++ vls ts ++ [34]
  | [], q, out, _ => by
    show out ++ (q ++ [34]) = out ++ q ++ [] ++ [34]
    simp
  | (r, a, b) :: ts, q, out, h => by
    have ih := fun q out => strip_some ts q out fun t ht => h t (List.mem_cons_of_mem _ ht)
    obtain ⟨ha, hb⟩ := h _ List.mem_cons_self
    have e : stripL (cells ((r, a, b) :: ts)) false (some q) (q ++ [34]) out = stripL (cells ts) false (some (vlL r b)) (vlL r b ++ [34]) (out ++ q) := by
      show stripL (cellL r a b ++ cells ts) false (some q) (q ++ [34]) out = _
      rcases ha with ha | ha <;> rcases hb with hb | hb <;> simp only at ha hb <;> subst ha <;> subst hb <;>
      (match r with
        | 0 => rfl
        | 1 => rfl
        | _ + 2 => rfl)
    rw [e, ih]
    show _ = out ++ q ++ (vlL r b ++ vls ts) ++ [34]
    simp
theorem par_nms : ∀ (ts : List Tr) (d : Int), (∀ t ∈ ts, okTr t) → parL (nms ts) false d = balB (ts.map (·.2.1)) d
  | [], d, _ => rfl
  | (r, a, b) :: ts, d, h => by
    have ih := fun d => par_nms ts d fun t ht => h t (List.mem_cons_of_mem _ ht)
    obtain ⟨ha, hb⟩ := h _ List.mem_cons_self
    show parL (nmL r a ++ nms ts) false d = balB (a :: ts.map (·.2.1)) d
    unfold balB
    rw [← ih, ← ih]
    rcases ha with ha | ha <;> simp only at ha <;> subst ha <;>
      (match r with
        | 0 => rfl
        | 1 => rfl
        | _ + 2 => rfl)
theorem par_vls : ∀ (ts : List Tr) (d : Int), (∀ t ∈ ts, okTr t) → parL (vls ts ++ [34]) false d = balB (ts.map (·.2.2)) d
  | [], d, _ => rfl
  | (r, a, b) :: ts, d, h => by
    have ih := fun d => par_vls ts d fun t ht => h t (List.mem_cons_of_mem _ ht)
    obtain ⟨ha, hb⟩ := h _ List.mem_cons_self
    have e : vls ((r, a, b) :: ts) ++ [34] = vlL r b ++ (vls ts ++ [34]) := by
      show (vlL r b ++ vls ts) ++ [34] = _
      simp
    rw [e]
    show _ = balB (b :: ts.map (·.2.2)) d
    unfold balB
    rw [← ih, ← ih]
    rcases hb with hb | hb <;> simp only at hb <;> subst hb <;>
      (match r with
        | 0 => rfl
        | 1 => rfl
        | _ + 2 => rfl)
theorem end_cells : ∀ (ts : List Tr), (∀ t ∈ ts, okTr t) → escEnd (cells ts) false = false
  | [], _ => rfl
  | (r, a, b) :: ts, h => by
    have ih := end_cells ts fun t ht => h t (List.mem_cons_of_mem _ ht)
    obtain ⟨ha, hb⟩ := h _ List.mem_cons_self
    refine Eq.trans ?_ ih
    show escEnd (cellL r a b ++ cells ts) false = _
    rcases ha with ha | ha <;> rcases hb with hb | hb <;> simp only at ha hb <;> subst ha <;> subst hb <;>
      (match r with
        | 0 => rfl
        | 1 => rfl
        | _ + 2 => rfl)
theorem end_nms : ∀ (ts : List Tr), (∀ t ∈ ts, okTr t) → escEnd (nms ts) false = false
  | [], _ => rfl
  | (r, a, b) :: ts, h => by
    have ih := end_nms ts fun t ht => h t (List.mem_cons_of_mem _ ht)
    obtain ⟨ha, hb⟩ := h _ List.mem_cons_self
    refine Eq.trans ?_ ih
    show escEnd (nmL r a ++ nms ts) false = _
    rcases ha with ha | ha <;> simp only at ha <;> subst ha <;>
      (match r with
        | 0 => rfl
        | 1 => rfl
        | _ + 2 => rfl)
theorem end_vls : ∀ (ts : List Tr), (∀ t ∈ ts, okTr t) → escEnd (vls ts ++ [34]) false = false
  | [], _ => rfl
  | (r, a, b) :: ts, h => by
    have ih := end_vls ts fun t ht => h t (List.mem_cons_of_mem _ ht)
    obtain ⟨ha, hb⟩ := h _ List.mem_cons_self
    refine Eq.trans ?_ ih
    have e : vls ((r, a, b) :: ts) ++ [34] = vlL r b ++ (vls ts ++ [34]) := by
      show (vlL r b ++ vls ts) ++ [34] = _
      simp
    rw [e]
    rcases hb with hb | hb <;> simp only at hb <;> subst hb <;>
      (match r with
        | 0 => rfl
        | 1 => rfl
        | _ + 2 => rfl)
theorem cells_len : ∀ (ts : List Tr), (cells ts).length ≤ 9 * ts.length
  | [] => Nat.le_refl _
  | (r, a, b) :: ts => by
    have ih := cells_len ts
    have e : cells ((r, a, b) :: ts) = cellL r a b ++ cells ts := rfl
    have h9 : (cellL r a b).length ≤ 9 := by
      match r with
        | 0 => exact Nat.le_of_ble_eq_true rfl
        | 1 => exact Nat.le_of_ble_eq_true rfl
        | _ + 2 => exact Nat.le_of_ble_eq_true rfl
    rw [e, List.length_append, List.length_cons]
    omega
theorem check_cells {ts : List Tr} {x : Str} (h : ∀ t ∈ ts, okTr t) (hl : ts.length ≤ 8) (hx : x.cps.toList = cells ts) : checkP x = some (balB (ts.map (·.2.1)) 0) ∧ checkP (dq ++ x) = some (balB (ts.map (·.2.2)) 0) ∧ (dq ++ x).length ≤ 1000 := by
  have hlen : x.length ≤ 72 := by
    have h1 := cells_len ts
    have h2 : x.length = x.cps.toList.length := by simp [PySem.Str.length]
    rw [h2, hx]; omega
  have hd : (dq ++ x).cps.toList = 34 :: cells ts := by
    show (dq.cps ++ x.cps).toList = _
    rw [dq_eq]
    simp [hx]
  have hlen2 : (dq ++ x).length ≤ 1000 := by
    have h2 : (dq ++ x).length = (dq ++ x).cps.toList.length := by simp [PySem.Str.length]
    rw [h2, hd, List.length_cons]
    have h1 := cells_len ts
    omega
  have s1 : stripL x.cps.toList false none [] [] = nms ts := by rw [hx, strip_none ts [] h]; rfl
  have s2 : stripL (dq ++ x).cps.toList false none [] [] = vls ts ++ [34] := by
    rw [hd]
    show stripL (cells ts) false (some []) ([] ++ [34]) [] = _
    rw [strip_some ts [] [] h]; simp
  refine ⟨?_, ?_, hlen2⟩
  · rw [checkP_eq (by omega) (by rw [hx]; exact end_cells ts h) (by rw [s1]; exact end_nms ts h)]
    unfold chkL
    rw [s1, par_nms ts 0 h]
  · rw [checkP_eq hlen2 (by rw [hd]; exact end_cells ts h) (by rw [s2]; exact end_vls ts h)]
    unfold chkL
    rw [s2, par_vls ts 0 h]
end Mine
end

section
open PySem PySem.W PyProof.Rows Builtin Builtin.Str
set_option maxRecDepth 100000
namespace Mine
def cellS (r a b : Nat) : Str := fmtP ((dressP r).1 ++ (⟨#[a]⟩ : Str)) ((dressP r).2 ++ (⟨#[b]⟩ : Str))
theorem cell_tbl : ∀ r : Nat, r < 3 → ∀ a ∈ [40, 41], ∀ b ∈ [40, 41], (cellS r a b).cps.toList = cellL r a b ∧ okF ((dressP r).1 ++ (⟨#[a]⟩ : Str)) ((dressP r).2 ++ (⟨#[b]⟩ : Str)) = true := by decide +kernel
theorem isB_mem {a : Nat} (h : isB a) : a ∈ [40, 41] := by rcases h with h | h <;> subst h <;> decide
theorem cellP_list {U W : Str} {p : Nat} (hu : isB (U.cps.getD p 0)) (hw : isB (W.cps.getD p 0)) : (cellP U W p).cps.toList = cellL (p % 3) (U.cps.getD p 0) (W.cps.getD p 0) ∧ cellOk U W p = true :=
  cell_tbl (p % 3) (Nat.mod_lt _ (by decide)) _ (isB_mem hu) _ (isB_mem hw)
/-- a row of brackets -/
structure Br (N : Nat) (ul : List Nat) : Prop where
  len : ul.length = N
  br : ∀ a ∈ ul, isB a
theorem Br.at {N : Nat} {ul : List Nat} (h : Br N ul) {p : Nat} (hp : p < N) : isB (ul.getD p 0) := by
  have hl := h.len
  rw [List.getD_eq_getElem?_getD, List.getElem?_eq_getElem (by omega)]
  exact h.br _ (List.getElem_mem _)
def trs (N : Nat) (ul wl : List Nat) : List Tr := (List.range N).map fun p => (p % 3, ul.getD p 0, wl.getD p 0)
theorem trs_ok {N : Nat} {ul wl : List Nat} (hu : Br N ul) (hw : Br N wl) : ∀ t ∈ trs N ul wl, okTr t := by
  intro t ht
  obtain ⟨p, hp, rfl⟩ := List.mem_map.mp ht
  rw [List.mem_range] at hp
  exact ⟨hu.at hp, hw.at hp⟩
theorem range_getD {N : Nat} {ul : List Nat} (h : ul.length = N) : (List.range N).map (fun p => ul.getD p 0) = ul := by
  apply List.ext_getElem
  · simp [h]
  · intro i h1 h2
    simp [h2]
theorem trs_u {N : Nat} {ul wl : List Nat} (hu : Br N ul) : (trs N ul wl).map (·.2.1) = ul := by
  unfold trs
  rw [List.map_map]
  exact range_getD hu.len
theorem trs_w {N : Nat} {ul wl : List Nat} (hw : Br N wl) : (trs N ul wl).map (·.2.2) = wl := by
  unfold trs
  rw [List.map_map]
  exact range_getD hw.len
abbrev strL (l : List Nat) : Str := ⟨l.toArray⟩
abbrev cellsOf (N : Nat) (ul wl : List Nat) : List Str := (List.range N).map (cellP (strL ul) (strL wl))
theorem getD_strL (l : List Nat) (p : Nat) : (strL l).cps.getD p 0 = l.getD p 0 := by simp [strL, Array.getD_eq_getD_getElem?, List.getD_eq_getElem?_getD]
theorem cells_flat {N : Nat} {ul wl : List Nat} (hu : Br N ul) (hw : Br N wl) (i k : Nat) : flat (((cellsOf N ul wl).drop i).take k) = cells (((trs N ul wl).drop i).take k) := by
  unfold flat cells
  congr 1
  rw [List.map_take, List.map_drop, List.map_take, List.map_drop]
  congr 2
  unfold cellsOf trs
  rw [List.map_map, List.map_map]
  apply List.map_congr_left
  intro p hp
  rw [List.mem_range] at hp
  have h := (cellP_list (U := strL ul) (W := strL wl) (p := p) (by rw [getD_strL]; exact hu.at hp) (by rw [getD_strL]; exact hw.at hp)).1
  rw [getD_strL, getD_strL] at h
  exact h
theorem tellP_eq {N i j : Nat} {ul wl rm : List Nat} (hN : N ≤ 8) (hu : Br N ul) (hw : Br N wl) :
    tellP (cellsOf N ul wl) i j rm = some (toldGo i j [balB ((ul.drop i).take (j - i)) 0, balB ((wl.drop i).take (j - i)) 0] rm) := by
  have hf := cells_flat hu hw i (j - i)
  have hx : (txtP (cellsOf N ul wl) i j).cps.toList = cells (((trs N ul wl).drop i).take (j - i)) := by
    unfold txtP
    rw [join_flat, hf]
  have hlen : (((trs N ul wl).drop i).take (j - i)).length ≤ 8 := by
    simp [trs]; omega
  obtain ⟨h1, h2, h3⟩ := check_cells (fun t ht => trs_ok hu hw t (List.mem_of_mem_drop (List.mem_of_mem_take ht))) hlen hx
  have h4 : (((trs N ul wl).drop i).take (j - i)).map (·.2.1) = (ul.drop i).take (j - i) := by rw [List.map_take, List.map_drop, trs_u hu]
  have h5 : (((trs N ul wl).drop i).take (j - i)).map (·.2.2) = (wl.drop i).take (j - i) := by rw [List.map_take, List.map_drop, trs_w hw]
  rw [h4] at h1
  rw [h5] at h2
  have h6 : JoinOk (Str.ofString "") (((cellsOf N ul wl).drop i).take (j - i)) = true := joinOk_flat (by
    rw [hf]
    have := cells_len (((trs N ul wl).drop i).take (j - i))
    omega)
  unfold tellP
  rw [h6, decide_eq_true h3, h1, h2]
  rfl
def rowsB (ul wl : List Nat) (i : Nat) : List Nat → List Nat → List Nat
  | [], rm => rm
  | j :: js, rm => rowsB ul wl i js (toldGo i j [balB ((ul.drop i).take (j - i)) 0, balB ((wl.drop i).take (j - i)) 0] rm)
def roomsB (ul wl : List Nat) (N : Nat) : List Nat → List Nat → List Nat
  | [], rm => rm
  | i :: is, rm => roomsB ul wl N is (rowsB ul wl i (jsOf N i) rm)
theorem rowsGo_eq {N i : Nat} {ul wl : List Nat} (hN : N ≤ 8) (hu : Br N ul) (hw : Br N wl) : ∀ (js rm : List Nat), rowsGo (cellsOf N ul wl) i js rm = some (rowsB ul wl i js rm)
  | [], rm => rfl
  | j :: js, rm => by
    unfold rowsGo rowsB
    rw [tellP_eq hN hu hw]
    exact rowsGo_eq hN hu hw js _
theorem roomsGo_eq {N : Nat} {ul wl : List Nat} (hN : N ≤ 8) (hu : Br N ul) (hw : Br N wl) : ∀ (is rm : List Nat), roomsGo (cellsOf N ul wl) N is rm = some (roomsB ul wl N is rm)
  | [], rm => rfl
  | i :: is, rm => by
    unfold roomsGo roomsB
    rw [rowsGo_eq hN hu hw]
    exact roomsGo_eq hN hu hw is _

theorem lows : ∀ p : Nat, p < 8 → Txt.lower (mix p) = sml p ∧ Txt.lower (big p) = sml p ∧ Txt.lower (sml p) = sml p := by decide +kernel
theorem sml_inj {p q : Nat} (h : sml p = sml q) : p = q := by
  unfold sml at h
  simp at h
  exact h
theorem pick : ∀ N : Nat, N ≤ 8 → ∀ p : Nat, p < N → (List.range N).filter (fun q => decide (q = p)) = [p] := by decide +kernel
theorem lk_tab {N p : Nat} {nm : Nat → Str} {f : Nat → Str} (hN : N ≤ 8) (hp : p < N) (hn : ∀ q, q < 8 → Txt.lower (nm q) = sml q) : lk ((List.range N).map fun q => (nm q, f q)) (sml p) = [f p] := by
  unfold lk
  rw [List.filter_map, List.map_map]
  have e : (List.range N).filter ((fun e : Str × Str => decide (Txt.lower e.1 = sml p)) ∘ fun q => (nm q, f q)) = [p] := by
    rw [← pick N hN p hp]
    apply List.filter_congr
    intro q hq
    rw [List.mem_range] at hq
    show decide (Txt.lower (nm q) = sml p) = decide (q = p)
    rw [hn q (by omega)]
    by_cases h : q = p
    · rw [h]; simp
    · rw [decide_eq_false (fun z => h (sml_inj z)), decide_eq_false h]
  rw [e]
  rfl
theorem lk_app (a b : List (Str × Str)) (nm : Str) : lk (a ++ b) nm = lk a nm ++ lk b nm := by simp [lk]
theorem lk_both {N p : Nat} {fu fw : List Nat} (hN : N ≤ 8) (hp : p < N) : lk (tA fu N ++ tB fw N) (Txt.lower (mix p)) = [sml (fu.getD p 0), sml (fw.getD p 0)] := by
  rw [(lows p (by omega)).1, lk_app]
  unfold tA tB
  rw [lk_tab (nm := big) (f := fun q => sml (fu.getD q 0)) hN hp fun q hq => (lows q hq).2.1, lk_tab (nm := sml) (f := fun q => sml (fw.getD q 0)) hN hp fun q hq => (lows q hq).2.2]
  rfl
theorem okT_both {N : Nat} {fu fw : List Nat} (hN : N ≤ 8) : okT (tA fu N ++ tB fw N) = true := by
  unfold okT
  rw [List.all_eq_true]
  intro e he
  refine decide_eq_true ?_
  have h1 : ∀ q, (sml q).length ≤ sizeLine := fun q => Nat.le_trans (show 1 ≤ 16777216 by decide) (by decide)
  rcases List.mem_append.mp he with h | h
  · obtain ⟨p, hp, rfl⟩ := List.mem_map.mp h
    rw [List.mem_range] at hp
    show (Txt.lower (big p)).length ≤ _
    rw [(lows p (by omega)).2.1]; exact h1 p
  · obtain ⟨p, hp, rfl⟩ := List.mem_map.mp h
    rw [List.mem_range] at hp
    show (Txt.lower (sml p)).length ≤ _
    rw [(lows p (by omega)).2.2]; exact h1 p
end Mine
end

section
open PySem PySem.W PyProof.Rows Builtin Builtin.Str
set_option maxRecDepth 100000
namespace Mine
def rowTbl : Nat → List (List Nat × List Nat)
  | 4 => [([40, 41, 40, 41], [1, 0, 3, 2]), ([40, 40, 41, 41], [3, 2, 1, 0])]
  | 6 => [([40, 41, 40, 41, 40, 41], [1, 0, 3, 2, 5, 4]), ([40, 41, 40, 40, 41, 41], [1, 0, 5, 4, 3, 2]), ([40, 40, 41, 41, 40, 41], [3, 2, 1, 0, 5, 4]), ([40, 40, 41, 40, 41, 41], [5, 2, 1, 4, 3, 0]), ([40, 40, 40, 41, 41, 41], [5, 4, 3, 2, 1, 0])]
  | 8 => [([40, 41, 40, 41, 40, 41, 40, 41], [1, 0, 3, 2, 5, 4, 7, 6]), ([40, 41, 40, 41, 40, 40, 41, 41], [1, 0, 3, 2, 7, 6, 5, 4]), ([40, 41, 40, 40, 41, 41, 40, 41], [1, 0, 5, 4, 3, 2, 7, 6]), ([40, 41, 40, 40, 41, 40, 41, 41], [1, 0, 7, 4, 3, 6, 5, 2]), ([40, 41, 40, 40, 40, 41, 41, 41], [1, 0, 7, 6, 5, 4, 3, 2]), ([40, 40, 41, 41, 40, 41, 40, 41], [3, 2, 1, 0, 5, 4, 7, 6]), ([40, 40, 41, 41, 40, 40, 41, 41], [3, 2, 1, 0, 7, 6, 5, 4]), ([40, 40, 41, 40, 41, 41, 40, 41], [5, 2, 1, 4, 3, 0, 7, 6]), ([40, 40, 41, 40, 41, 40, 41, 41], [7, 2, 1, 4, 3, 6, 5, 0]), ([40, 40, 41, 40, 40, 41, 41, 41], [7, 2, 1, 6, 5, 4, 3, 0]), ([40, 40, 40, 41, 41, 41, 40, 41], [5, 4, 3, 2, 1, 0, 7, 6]), ([40, 40, 40, 41, 41, 40, 41, 41], [7, 4, 3, 2, 1, 6, 5, 0]), ([40, 40, 40, 41, 40, 41, 41, 41], [7, 6, 3, 2, 5, 4, 1, 0]), ([40, 40, 40, 40, 41, 41, 41, 41], [7, 6, 5, 4, 3, 2, 1, 0])]
  | _ => []
def brOk (N : Nat) (e : List Nat × List Nat) : Bool := decide (e.1.length = N) && e.1.all (fun a => decide (a = 40) || decide (a = 41)) && decide (matP (strL e.1) = some e.2) && decide (e.2.length = N) && e.2.all fun v => decide (v < 8)
def allB : Nat → List (List Int)
  | 0 => [[]]
  | n + 1 => (allB n).flatMap fun l => [0 :: l, 1 :: l]
theorem allB_mem : ∀ (bits : List Int), (∀ b ∈ bits, b = 0 ∨ b = 1) → bits ∈ allB bits.length
  | [], _ => List.mem_singleton.mpr rfl
  | b :: r, h => by
    have ih := allB_mem r fun x hx => h x (List.mem_cons_of_mem _ hx)
    show b :: r ∈ (allB r.length).flatMap fun l => [0 :: l, 1 :: l]
    rw [List.mem_flatMap]
    refine ⟨r, ih, ?_⟩
    rcases h b List.mem_cons_self with e | e <;> subst e <;> simp
def rowIs (N : Nat) (bits : List Int) : Bool := (rowTbl N).any fun e => decide (rowP bits = strL e.1)
theorem rows4 : (allB 4).all (rowIs 4) = true := by decide +kernel
theorem rows6 : (allB 6).all (rowIs 6) = true := by decide +kernel
theorem rows8 : (allB 8).all (rowIs 8) = true := by decide +kernel
theorem brs : (rowTbl 4).all (brOk 4) = true ∧ (rowTbl 6).all (brOk 6) = true ∧ (rowTbl 8).all (brOk 8) = true := by decide +kernel
def pairOk (N : Nat) (e g : List Nat × List Nat) : Bool := match ringsGo e.2 g.2 (List.range N) [] with
  | some rF => decide (rF.length ≤ 1000) && rF.all (fun r => decide (r.length ≤ 1000)) && lastOk (roomsB e.1 g.1 N (List.range N) (List.range (N + 1))) rF N
  | none => false
theorem pairs4 : ((rowTbl 4).all fun e => (rowTbl 4).all (pairOk 4 e)) = true := by decide +kernel
theorem pairs6 : ((rowTbl 6).all fun e => (rowTbl 6).all (pairOk 6 e)) = true := by decide +kernel
theorem pairs8_0 : ((((rowTbl 8).drop 0).take 1).all fun e => (rowTbl 8).all (pairOk 8 e)) = true := by decide +kernel
theorem pairs8_1 : ((((rowTbl 8).drop 1).take 1).all fun e => (rowTbl 8).all (pairOk 8 e)) = true := by decide +kernel
theorem pairs8_2 : ((((rowTbl 8).drop 2).take 1).all fun e => (rowTbl 8).all (pairOk 8 e)) = true := by decide +kernel
theorem pairs8_3 : ((((rowTbl 8).drop 3).take 1).all fun e => (rowTbl 8).all (pairOk 8 e)) = true := by decide +kernel
theorem pairs8_4 : ((((rowTbl 8).drop 4).take 1).all fun e => (rowTbl 8).all (pairOk 8 e)) = true := by decide +kernel
theorem pairs8_5 : ((((rowTbl 8).drop 5).take 1).all fun e => (rowTbl 8).all (pairOk 8 e)) = true := by decide +kernel
theorem pairs8_6 : ((((rowTbl 8).drop 6).take 1).all fun e => (rowTbl 8).all (pairOk 8 e)) = true := by decide +kernel
theorem pairs8_7 : ((((rowTbl 8).drop 7).take 1).all fun e => (rowTbl 8).all (pairOk 8 e)) = true := by decide +kernel
theorem pairs8_8 : ((((rowTbl 8).drop 8).take 1).all fun e => (rowTbl 8).all (pairOk 8 e)) = true := by decide +kernel
theorem pairs8_9 : ((((rowTbl 8).drop 9).take 1).all fun e => (rowTbl 8).all (pairOk 8 e)) = true := by decide +kernel
theorem pairs8_10 : ((((rowTbl 8).drop 10).take 1).all fun e => (rowTbl 8).all (pairOk 8 e)) = true := by decide +kernel
theorem pairs8_11 : ((((rowTbl 8).drop 11).take 1).all fun e => (rowTbl 8).all (pairOk 8 e)) = true := by decide +kernel
theorem pairs8_12 : ((((rowTbl 8).drop 12).take 1).all fun e => (rowTbl 8).all (pairOk 8 e)) = true := by decide +kernel
theorem pairs8_13 : ((((rowTbl 8).drop 13).take 1).all fun e => (rowTbl 8).all (pairOk 8 e)) = true := by decide +kernel
theorem all_of_drop {α : Type} (P : α → Bool) : ∀ (l : List α), (∀ t, t < l.length → ((l.drop t).take 1).all P = true) → l.all P = true := by
  intro l h
  rw [List.all_eq_true]
  intro x hx
  obtain ⟨i, hi, rfl⟩ := List.mem_iff_getElem.mp hx
  have := h i hi
  rw [List.drop_eq_getElem_cons hi, List.take_succ_cons, List.take_zero, List.all_cons, List.all_nil, Bool.and_true] at this
  exact this
theorem pairs8 : ((rowTbl 8).all fun e => (rowTbl 8).all (pairOk 8 e)) = true := by
  refine all_of_drop _ _ fun t ht => ?_
  have ht' : t < 14 := ht
  have : t = 0 ∨ t = 1 ∨ t = 2 ∨ t = 3 ∨ t = 4 ∨ t = 5 ∨ t = 6 ∨ t = 7 ∨ t = 8 ∨ t = 9 ∨ t = 10 ∨ t = 11 ∨ t = 12 ∨ t = 13 := by omega
  rcases this with rfl | rfl | rfl | rfl | rfl | rfl | rfl | rfl | rfl | rfl | rfl | rfl | rfl | rfl
  · exact pairs8_0
  · exact pairs8_1
  · exact pairs8_2
  · exact pairs8_3
  · exact pairs8_4
  · exact pairs8_5
  · exact pairs8_6
  · exact pairs8_7
  · exact pairs8_8
  · exact pairs8_9
  · exact pairs8_10
  · exact pairs8_11
  · exact pairs8_12
  · exact pairs8_13

structure Good1 (N : Nat) (U W : Str) (ul wl fu fw : List Nat) (rF : List (List Nat)) : Prop where
  hU : U = strL ul
  hW : W = strL wl
  bu : Br N ul
  bw : Br N wl
  mu : matP U = some fu
  mw : matP W = some fw
  lu : fu.length = N
  lw : fw.length = N
  u8 : ∀ v ∈ fu, v < 8
  w8 : ∀ v ∈ fw, v < 8
  rg : ringsGo fu fw (List.range N) [] = some rF
  r1 : rF.length ≤ 1000
  r2 : ∀ r ∈ rF, r.length ≤ 1000
  last : lastOk (roomsB ul wl N (List.range N) (List.range (N + 1))) rF N = true

theorem good1 {N : Nat} (hr : (allB N).all (rowIs N) = true) (hb : (rowTbl N).all (brOk N) = true) (hp : ((rowTbl N).all fun e => (rowTbl N).all (pairOk N e)) = true) {bu bw : List Int} (lu : bu.length = N) (lw : bw.length = N)
    (ub : ∀ b ∈ bu, b = 0 ∨ b = 1) (wb : ∀ b ∈ bw, b = 0 ∨ b = 1) : ∃ ul wl fu fw rF, Good1 N (rowP bu) (rowP bw) ul wl fu fw rF := by
  rw [List.all_eq_true] at hr hb hp
  have h1 := hr bu (by rw [← lu]; exact allB_mem bu ub)
  have h2 := hr bw (by rw [← lw]; exact allB_mem bw wb)
  unfold rowIs at h1 h2
  rw [List.any_eq_true] at h1 h2
  obtain ⟨e, he, h1⟩ := h1
  obtain ⟨g, hg, h2⟩ := h2
  have h1 := of_decide_eq_true h1
  have h2 := of_decide_eq_true h2
  have h3 := hb e he
  have h4 := hb g hg
  have h5 := hp e he
  rw [List.all_eq_true] at h5
  have h5 := h5 g hg
  unfold brOk at h3 h4
  simp only [Bool.and_eq_true, Bool.or_eq_true, List.all_eq_true, decide_eq_true_eq] at h3 h4
  unfold pairOk at h5
  split at h5
  · rename_i rF hrF
    simp only [Bool.and_eq_true, List.all_eq_true, decide_eq_true_eq] at h5
    exact ⟨e.1, g.1, e.2, g.2, rF, h1, h2, ⟨h3.1.1.1.1, h3.1.1.1.2⟩, ⟨h4.1.1.1.1, h4.1.1.1.2⟩, by rw [h1]; exact h3.1.1.2, by rw [h2]; exact h4.1.1.2, h3.1.2, h4.1.2, h3.2, h4.2, hrF, h5.1.1, h5.1.2, h5.2⟩
  · cases h5
theorem sizeP_is (n : Nat) : sizeP n = 4 ∨ sizeP n = 6 ∨ sizeP n = 8 := by unfold sizeP; split <;> omega
theorem figP_is (ns : List Int) (k : Nat) : figP ns k = 0 ∨ figP ns k = 1 ∨ figP ns k = 2 ∨ figP ns k = 3 := by
  unfold figP
  split
  · generalize (ns.getD (k % ns.length) 0).fdiv (4 ^ (k / ns.length)) = x
    rw [Int.fmod_eq_emod_of_nonneg _ (by decide)]
    omega
  · exact .inl rfl
theorem fin1 (ns : List Int) : ∃ ul wl fu fw rF, Good1 (sizeP ns.length) (rowP ((figsP ns).map (·.fmod 2))) (rowP ((figsP ns).map (·.fdiv 2))) ul wl fu fw rF := by
  have l : (figsP ns).length = sizeP ns.length := by simp [figsP]
  have hf : ∀ x ∈ figsP ns, x = 0 ∨ x = 1 ∨ x = 2 ∨ x = 3 := fun x hx => by
    obtain ⟨k, _, rfl⟩ := List.mem_map.mp hx
    exact figP_is ns k
  have ub : ∀ b ∈ (figsP ns).map (·.fmod 2), b = 0 ∨ b = 1 := fun b hb => by
    obtain ⟨x, hx, rfl⟩ := List.mem_map.mp hb
    rcases hf x hx with e | e | e | e <;> subst e <;> decide
  have wb : ∀ b ∈ (figsP ns).map (·.fdiv 2), b = 0 ∨ b = 1 := fun b hb => by
    obtain ⟨x, hx, rfl⟩ := List.mem_map.mp hb
    rcases hf x hx with e | e | e | e <;> subst e <;> decide
  have l1 : ((figsP ns).map (·.fmod 2)).length = sizeP ns.length := by rw [List.length_map, l]
  have l2 : ((figsP ns).map (·.fdiv 2)).length = sizeP ns.length := by rw [List.length_map, l]
  rcases sizeP_is ns.length with e | e | e <;> rw [e] at l1 l2 ⊢
  · exact good1 rows4 brs.1 pairs4 l1 l2 ub wb
  · exact good1 rows6 brs.2.1 pairs6 l1 l2 ub wb
  · exact good1 rows8 brs.2.2 pairs8 l1 l2 ub wb
end Mine
end

section
open PySem PySem.W PyProof.Rows Builtin Builtin.Str
set_option maxRecDepth 100000
namespace Mine
def cellL8 (L : Nat) : List (Str × Addr) := [(Str.ofString "b", L + 8), (Str.ofString "a", L + 7), (Str.ofString "rooms", L + 6), (Str.ofString "dress", L + 5), (Str.ofString "p", L + 4), (Str.ofString "lower", L + 3), (Str.ofString "upper", L + 2), (Str.ofString "script", L + 1)]
theorem cell8_L (τ : AH) (L : Nat) (cm : Str → Option PV) : setCells τ (cellL8 L) cm L = τ L := by
  show ((((((((τ.set _ _).set _ _).set _ _).set _ _).set _ _).set _ _).set _ _).set _ _) L = _
  rw [AH.set_ne _ _ (neLj (by decide)).symm, AH.set_ne _ _ (neLj (by decide)).symm, AH.set_ne _ _ (neLj (by decide)).symm, AH.set_ne _ _ (neLj (by decide)).symm, AH.set_ne _ _ (neLj (by decide)).symm, AH.set_ne _ _ (neLj (by decide)).symm, AH.set_ne _ _ (neLj (by decide)).symm, AH.set_ne _ _ (neLj (by decide)).symm]
theorem cell8_1 (τ : AH) (L : Nat) (cm : Str → Option PV) : setCells τ (cellL8 L) cm (L + 1) = some (.cell (cm (Str.ofString "script"))) := by
  show ((((((((τ.set _ _).set _ _).set _ _).set _ _).set _ _).set _ _).set _ _).set _ _) (L + 1) = _
  rw [AH.set_ne _ _ (neLL (by decide)), AH.set_ne _ _ (neLL (by decide)), AH.set_ne _ _ (neLL (by decide)), AH.set_ne _ _ (neLL (by decide)), AH.set_ne _ _ (neLL (by decide)), AH.set_ne _ _ (neLL (by decide)), AH.set_ne _ _ (neLL (by decide)), AH.set_self]
theorem setCells_is {σ : AH} {b : Addr} {cm : Str → Option PV} : ∀ {cs : List (Str × Addr)}, (∃ n, (n, b) ∈ cs) → ∃ v, setCells σ cs cm b = some (.cell v)
  | [], ⟨n, h⟩ => nomatch h
  | (n, c) :: r, ⟨n', h⟩ => by
    unfold setCells
    by_cases hb : b = c
    · subst hb; exact ⟨_, AH.set_self ..⟩
    · rw [AH.set_ne _ _ hb]
      refine setCells_is ⟨n', ?_⟩
      rcases List.mem_cons.mp h with e | e
      · cases e; exact absurd rfl hb
      · exact e
theorem cell8_j (τ : AH) (L : Nat) (cm : Str → Option PV) (j : Nat) (h1 : 1 ≤ j) (h2 : j ≤ 8) : ∃ v, setCells τ (cellL8 L) cm (L + j) = some (.cell v) := by
  refine setCells_is ?_
  have : j = 1 ∨ j = 2 ∨ j = 3 ∨ j = 4 ∨ j = 5 ∨ j = 6 ∨ j = 7 ∨ j = 8 := by omega
  rcases this with rfl | rfl | rfl | rfl | rfl | rfl | rfl | rfl <;> exact ⟨_, by unfold cellL8; simp only [List.mem_cons, Prod.mk.injEq, Nat.add_left_cancel_iff]; simp; rfl⟩
section
variable {X : Cx} {A : Around} {σ : AH}
theorem CC.law {fa sl : Addr} {fm : FM} {ns : List Int} {items : Array Value} {n : Nat} (k : Kn1 X) (r : Rm A (n + 4)) (fn : Fn X fa lawSrc fm) (hl : X.base.IsList sl items) (hits : items.toList.map pv = ns.map PV.int) (hn : ns.length ≤ 63) :
    CC X A (.ref fa) ⟨[.ref sl], []⟩ σ (fun v _ => v = .bool true) := by
  obtain ⟨⟨o, ho, hd⟩, hc⟩ := fn
  obtain ⟨ul, wl, fu, fw, rF, g⟩ := fin1 ns
  have hN := sizeP_le ns.length
  refine CC.defC k.ok r ho hd hc rfl rfl (fun L p hp => ?_) (bind_eq (binds := [(Str.ofString "script", .ref sl)]) (by rfl) ⟨fun L y hy => ?_, fun L hL rL => ?_⟩)
  · have hp' : p ∈ cellL8 L := hp
    simp only [cellL8, List.mem_cons, List.not_mem_nil, or_false] at hp'
    rcases hp' with rfl | rfl | rfl | rfl | rfl | rfl | rfl | rfl <;> rfl
  · rw [List.mem_singleton.mp hy]
    exact .inr ⟨rfl, rfl⟩
  have r1 : Rm (A.deeper (lawEnv fm L fa)) (n + 3) := rL
  have r2 : Rm (A.deeper (lawEnv fm L fa)) (n + 2) := r1.up (by omega)
  have r3 : Rm (A.deeper (lawEnv fm L fa)) (n + 1) := r1.up (by omega)
  have hb : ∀ (S : AH) (m : Str → Option PV), S L = some (.ns m) → S (L + 1) = some (.cell (some (.ref sl))) → (∀ j : Nat, 1 ≤ j → j ≤ 8 → ∃ v, S (L + j) = some (.cell v)) →
      XS X (A.deeper (lawEnv fm L fa)) (lawEnv fm L fa) lawSrc.body S fun f σ₂ => rt f = .bool true := by
    intro S m hS h1 hj
    have hUl : (rowP ((figsP ns).map (·.fmod 2))).length = sizeP ns.length := by rw [g.hU]; exact g.bu.len
    have hWl : (rowP ((figsP ns).map (·.fdiv 2))).length = sizeP ns.length := by rw [g.hW]; exact g.bw.len
    have h1000 : sizeP ns.length ≤ 1000 := by omega
    refine law_a (F := fun _ => none) k r3 hl hits hn ⟨fun b p e => (nomatch e), rfl, fun _ _ _ => rfl, ⟨m, hS⟩, hj⟩ hS h1 fun σ1 m1 F1 D1 G1 f1 L1 c1 s1 g1 D1' => ?_
    have lf : (figsP ns).length = sizeP ns.length := by simp [figsP]
    refine law_b k r2 (by omega) G1 L1 g1 D1' rfl rfl (by omega) (by omega) g.mu g.mw fun σ2 m2 F2 MA MB G2 f2 L2 c22 c23 y2 a2 b2 A2 B2 => ?_
    have s2 : m2 (Str.ofString "size") = some (.int (sizeP ns.length : Nat)) := by rw [y2 _ (by decide +kernel) (by decide +kernel)]; exact s1
    refine law_c k r2 hN g.lu g.lw g.u8 g.w8 G2 L2 s2 a2 b2 A2 B2 c22 c23 fun σ3 m3 x l G3 L3 c32 c33 y3 t3 T3 => ?_
    have s3 : m3 (Str.ofString "size") = some (.int (sizeP ns.length : Nat)) := by rw [y3 _ (by decide +kernel)]; exact s2
    have a3 : m3 (Str.ofString "above") = some (.ref MA) := by rw [y3 _ (by decide +kernel)]; exact a2
    have b3 : m3 (Str.ofString "below") = some (.ref MB) := by rw [y3 _ (by decide +kernel)]; exact b2
    refine law_d k r2 hN g.lu g.lw g.u8 g.w8 (fun p hp => lk_both hN hp) (okT_both hN) G3 L3 s3 a3 b3 A2 B2 c32 c33 t3 T3 fun σ4 m4 F4 E es G4 f4 L4 c42 c43 y4 e4 E4 es4 => ?_
    have s4 : m4 (Str.ofString "size") = some (.int (sizeP ns.length : Nat)) := by rw [y4 _ (by decide +kernel) (by decide +kernel)]; exact s3
    refine law_e k r2 hN g.lu g.lw g.rg G4 L4 s4 c42 c43 e4 E4 es4 fun σ5 m5 F5 R rts G5 f5 L5 c52 c53 y5 e5 R5 rts5 => ?_
    have s5 : m5 (Str.ofString "size") = some (.int (sizeP ns.length : Nat)) := by rw [y5 _ (by decide +kernel) (by decide +kernel) (by decide +kernel)]; exact s4
    refine law_f1 r2 G5 L5 c52 c53 fun σ6 F6 D6 ts G6 f6 L6 c62 c63 c65 D6' ts6 => ?_
    have us : (rowP ((figsP ns).map (·.fmod 2))).cps.size = sizeP ns.length := hUl
    have ws : (rowP ((figsP ns).map (·.fdiv 2))).cps.size = sizeP ns.length := hWl
    refine law_f2 k r2 hN (by omega) (by omega) (fun p hp => ?_) G6 L6 s5 c62 c63 c65 D6' ts6 fun σ7 F7 C7 G7 f7 L7 C7' => ?_
    · rw [g.hU, g.hW]
      exact (cellP_list (U := strL ul) (W := strL wl) (p := p) (by rw [getD_strL]; exact g.bu.at hp) (by rw [getD_strL]; exact g.bw.at hp)).2
    rw [g.hU, g.hW] at C7'
    generalize hm7 : upd m5 (Str.ofString "cells") (.ref C7) = m7 at *
    have s7 : m7 (Str.ofString "size") = some (.int (sizeP ns.length : Nat)) := by rw [← hm7, upd_ne _ _ (by decide +kernel)]; exact s5
    have c7 : m7 (Str.ofString "cells") = some (.ref C7) := by rw [← hm7]; rfl
    have e7 : m7 (Str.ofString "rings") = some (.ref R) := by rw [← hm7, upd_ne _ _ (by decide +kernel)]; exact e5
    refine law_g0 k r2 hN G7 L7 s7 fun σ8 D8 G8 n8 L8 c86 D8' => ?_
    refine law_g k r1 hN (by simp) (roomsGo_eq hN g.bu g.bw _ _) G8 L8 s7 c7 C7' c86 D8' fun σ9 m9 R9 G9 L9 y9 c96 R9' l9 => ?_
    have s9 : m9 (Str.ofString "size") = some (.int (sizeP ns.length : Nat)) := by rw [y9 _ (by decide +kernel) (by decide +kernel)]; exact s7
    have e9 : m9 (Str.ofString "rings") = some (.ref R) := by rw [y9 _ (by decide +kernel) (by decide +kernel)]; exact e7
    exact law_h k r1 hN l9 g.last (by rw [rts5.len]; exact g.r1) g.r2 G9 L9 s9 e9 (f7 _ _ (f6 _ _ R5)) (rts5.imp fun t rg e => f7 _ _ (f6 _ _ e)) c96 R9' fun _ => rfl
  show XS X _ _ lawSrc.body (setCells (σ.set L (.ns _)) (cellL8 L) _) _
  refine hb _ _ ((cell8_L ..).trans (AH.set_self ..)) ((cell8_1 ..).trans ?_) (cell8_j _ _ _)
  rfl
end
end Mine
end

section
open PySem PySem.W PyProof.Rows Builtin Builtin.Str
set_option maxRecDepth 100000
namespace Mine
def fdAt (K : Frag) (a : Addr) : Option FuncData := match K.lookup a with
  | some ⟨_, _, .func fd, _⟩ => some fd
  | _ => none
def fmOfFd (fd : FuncData) : FM := ⟨fd.name, fd.qualname, fd.doc, fd.pyModule, fd.annotations, fd.code, fd.closureTuple⟩
def fmAt (K : Frag) (a : Addr) : FM := match fdAt K a with
  | some fd => fmOfFd fd
  | none => ⟨PySem.Str.empty, PySem.Str.empty, .none, .none, none, .none, .none⟩
def globAt (K : Frag) (x : Str) : Option Value := match K.lookup mainGlobals with
  | some ⟨_, _, .dict es _, _⟩ => nsFind es x
  | _ => some .none
def seqAt (K : Frag) (a : Addr) : Option (Array Value) := match K.lookup a with
  | some ⟨_, _, .seq vs _, _⟩ => some vs
  | _ => none
/-- a function's object, as the heap has it -/
structure FnK (K : Frag) (a : Addr) (src : Src) (dV kV : Value) : Prop where
  fd : fdAt K a = some (mkFnD src dV kV (fmAt K a))
  cd : codeIn K (fmAt K a).cdv (fmAt K a).qual = true
structure MeK (K : Frag) (C : Addr) (name : Str) (f : Addr) (src : Src) (dV : Value) : Prop where
  fn : FnK K f src dV .none
  find : findIn K (.ref C) name = some (some (.ref f))
  ty : typeIn K (.ref f) = some (.type "function")
def patK (K : Frag) (a : Addr) : Option (Value × Value × Addr × Array Value) := match K.lookup a with
  | some ⟨.type t, none, .fields ⟨[src, fl, .int i ti, .none, .none, .ref cd, .int j tj]⟩, ⟨[]⟩⟩ => if t = "re.Pattern" ∧ i = 0 ∧ ti = 0 ∧ j = 0 ∧ tj = 0 then (match K.lookup cd with
      | some ⟨.type u, none, .seq vals _, ⟨[]⟩⟩ => if u = "tuple" then some (src, fl, cd, vals) else none
      | _ => none) else none
  | _ => none
section
variable {X : Cx} {K : Frag}
theorem fdAt_some {a : Addr} {fd : FuncData} (h : fdAt K a = some fd) : ∃ o, K.lookup a = some o ∧ o.data = .func fd := by
  unfold fdAt at h
  split at h
  · rename_i e; cases h; exact ⟨_, e, rfl⟩
  · cases h
theorem FnK.go {a : Addr} {src : Src} {dV kV : Value} (kx : K.In X.base) (h : FnK K a src dV kV) : FnD X a src dV kV (fmAt K a) :=
  ⟨let ⟨o, e, d⟩ := fdAt_some h.fd; ⟨o, kx _ _ e, d⟩, codeRec_of kx h.cd⟩
def MeK.go {C f : Addr} {name : Str} {src : Src} {dV : Value} (kx : K.In X.base) (h : MeK K C name f src dV) : Me X K C name src dV :=
  ⟨f, fmAt K f, h.find, h.ty, h.fn.go kx⟩
theorem globAt_mg {mg : Str → Option Value} {x : Str} {r : Option Value} (kx : K.In X.base) (hn : X.base.Ns mainGlobals mg) (h : globAt K x = r) (hr : r ≠ some .none) : mg x = r := by
  obtain ⟨o, es, ep, ho, hd, _, hf⟩ := hn
  unfold globAt at h
  split at h
  · rename_i c d es' n sl e
    have := kx _ _ e
    rw [ho] at this
    cases this
    cases hd
    rw [← hf, h]
  · exact absurd h.symm hr
theorem seqAt_some {a : Addr} {vs : Array Value} (kx : K.In X.base) (h : seqAt K a = some vs) : ∃ o n, X.base.get? a = some o ∧ o.data = .seq vs n := by
  unfold seqAt at h
  split at h
  · rename_i e; cases h; exact ⟨_, _, kx _ _ e, rfl⟩
  · cases h
theorem patK_go {a : Addr} {code : Array Nat} (kx : K.In X.base) (h : (patK K a).map (fun z => ((z.2.2.2.map Builtin.Re.reRawOf).map (·.toNat))) = some code) : Pat X a code := by
  cases hp : patK K a with
  | none => rw [hp] at h; cases h
  | some z =>
    rw [hp] at h
    unfold patK at hp
    split at hp
    · rename_i t src fl i ti cd j tj e
      split at hp
      · rename_i hc
        obtain ⟨rfl, rfl, rfl, rfl, rfl⟩ := hc
        split at hp
        · rename_i u vals n e2
          split at hp
          · rename_i hu
            subst hu
            cases hp
            exact ⟨_, _, _, _, _, kx _ _ e, kx _ _ e2, by simpa using h⟩
          · cases hp
        · cases hp
      · cases hp
    · cases hp
end
def oneDef : Option (Array Value) → Bool
  | some ⟨[.none, .int i _]⟩ => i == 1
  | _ => false
theorem oneDef_some {o : Option (Array Value)} (h : oneDef o = true) : ∃ t, o = some #[.none, .int 1 t] := by
  unfold oneDef at h
  split at h
  · rename_i i t
    have : i = 1 := eq_of_beq h
    subst this
    exact ⟨t, rfl⟩
  · cases h
/-- what the heap of the top holds, both laws -/
structure FxF (K : Frag) (aE aS aC aF C dI dG dF pN pV i1 i2 i3 i4 i5 i6 i7 i8 : Addr) : Prop where
  gE : globAt K (Str.ofString "_iter_escaped_chars") = some (.ref aE)
  gS : globAt K (Str.ofString "_strip_quoted_realnames") = some (.ref aS)
  gC : globAt K (Str.ofString "_check_parenthesis") = some (.ref aC)
  gF : globAt K (Str.ofString "_formatparam") = some (.ref aF)
  gH : globAt K (Str.ofString "Headers") = some (.ref C)
  gN : globAt K (Str.ofString "_name_disallowed_re") = some (.ref pN)
  gV : globAt K (Str.ofString "_value_disallowed_re") = some (.ref pV)
  fE : FnK K aE escSrc .none .none
  fS : FnK K aS stripSrc .none .none
  fC : FnK K aC checkSrc .none .none
  fF : FnK K aF fmtSrc (.ref dF) .none
  nEnum : globAt K (Str.ofString "enumerate") = none
  nLen : globAt K (Str.ofString "len") = none
  nType : globAt K (Str.ofString "type") = none
  nStr : globAt K (Str.ofString "str") = none
  nList : globAt K (Str.ofString "list") = none
  keep : keepIn K (.ref C) = true
  makes : makesIn K C = true
  ga : findIn K (.ref C) "__getattribute__" = some (some (.builtin "object.__getattribute__"))
  gk : findIn K (.ref C) "__getattr__" = some none
  sa : findIn K (.ref C) "__setattr__" = some (some (.builtin "object.__setattr__"))
  po : plainOver K C = true
  tk : takerIn K C (Str.ofString "_headers") = some none
  hd : hasDictIn K C = true
  ah : findIn K (.ref C) (Str.ofString "_headers") = some none
  ns : noSeq K C = true
  oI : seqAt K dI = some #[.none]
  oG : seqAt K dG = some #[.none]
  oF : oneDef (seqAt K dF) = true
  mI : MeK K C (Str.ofString "__init__") i1 (srcAt hdrs 0) (.ref dI)
  mCv : MeK K C (Str.ofString "_convert_string_type") i2 (srcAt hdrs 1) .none
  mSet : MeK K C (Str.ofString "__setitem__") i3 (srcAt hdrs 3) .none
  mDel : MeK K C (Str.ofString "__delitem__") i4 (srcAt hdrs 4) .none
  mAll : MeK K C (Str.ofString "get_all") i5 (srcAt hdrs 7) .none
  mGet : MeK K C (Str.ofString "get") i6 (srcAt hdrs 8) (.ref dG)
  mKeys : MeK K C (Str.ofString "keys") i7 (srcAt hdrs 9) .none
  mAdd : MeK K C (Str.ofString "add_header") i8 (srcAt hdrs 16) .none
  patN : (patK K pN).map (fun z => ((z.2.2.2.map Builtin.Re.reRawOf).map (·.toNat))) = some codeN
  patV : (patK K pV).map (fun z => ((z.2.2.2.map Builtin.Re.reRawOf).map (·.toNat))) = some codeV
  smod : (K.lookup sysModules).isSome = true
def knF {X : Cx} {K : Frag} {aE aS aC aF C dI dG dF pN pV i1 i2 i3 i4 i5 i6 i7 i8 : Addr} (kx : K.In X.base) (O : X.Ok) (hb : ∀ x : Str, x ≠ "__name__" → X.mb x = bootBuiltins x) (f : FxF K aE aS aC aF C dI dG dF pN pV i1 i2 i3 i4 i5 i6 i7 i8) : KnF X where
  ok := O
  aE := aE
  mE := fmAt K aE
  fE := f.fE.go kx
  gE := globAt_mg kx O.g f.gE (by simp)
  aS := aS
  mS := fmAt K aS
  fS := f.fS.go kx
  gS := globAt_mg kx O.g f.gS (by simp)
  aC := aC
  mC := fmAt K aC
  fC := f.fC.go kx
  gC := globAt_mg kx O.g f.gC (by simp)
  nEnum := globAt_mg kx O.g f.nEnum (by simp)
  bEnum := (hb _ (by decide +kernel)).trans (by kernel_rfl)
  nLen := globAt_mg kx O.g f.nLen (by simp)
  bLen := (hb _ (by decide +kernel)).trans (by kernel_rfl)
  K := K
  kin := kx
  C := C
  cl := ⟨f.keep, f.makes, f.ga, f.gk, f.sa, f.po, f.tk, f.hd, f.ah, f.ns⟩
  gC' := globAt_mg kx O.g f.gH (by simp)
  dI := dI
  oI := seqAt_some kx f.oI
  mI := f.mI.go kx
  mCv := f.mCv.go kx
  mSet := f.mSet.go kx
  mDel := f.mDel.go kx
  mAll := f.mAll.go kx
  dG := dG
  oG := seqAt_some kx f.oG
  mGet := f.mGet.go kx
  mKeys := f.mKeys.go kx
  mAdd := f.mAdd.go kx
  pN := pN
  gN := globAt_mg kx O.g f.gN (by simp)
  patN := patK_go kx f.patN
  pV := pV
  gV := globAt_mg kx O.g f.gV (by simp)
  patV := patK_go kx f.patV
  nType := globAt_mg kx O.g f.nType (by simp)
  bType := (hb _ (by decide +kernel)).trans (by kernel_rfl)
  nStr := globAt_mg kx O.g f.nStr (by simp)
  bStr := (hb _ (by decide +kernel)).trans (by kernel_rfl)
  nList := globAt_mg kx O.g f.nList (by simp)
  bList := (hb _ (by decide +kernel)).trans (by kernel_rfl)
  smod := let ⟨o, e⟩ := Option.isSome_iff_exists.mp f.smod; ⟨o, kx _ _ e⟩
  aF := aF
  mF := fmAt K aF
  dF := dF
  fF := f.fF.go kx
  oF := let ⟨t, e⟩ := oneDef_some f.oF; let ⟨o, n, h1, h2⟩ := seqAt_some kx e; ⟨o, n, t, h1, h2⟩
  gF := globAt_mg kx O.g f.gF (by simp)
end Mine
end

section
open PySem PySem.W PyProof.Rows Builtin Builtin.Str
set_option maxRecDepth 100000
namespace Mine
structure Fx1 (K : Frag) (aR aM aL : Addr) : Prop where
  fR : FnK K aR rowSrc .none .none
  gR : globAt K (Str.ofString "_law_row") = some (.ref aR)
  fM : FnK K aM matesSrc .none .none
  gM : globAt K (Str.ofString "_law_mates") = some (.ref aM)
  fL : FnK K aL lawSrc .none .none
  gL : globAt K (Str.ofString "law") = some (.ref aL)
  nRange : globAt K (Str.ofString "range") = none
  nMin : globAt K (Str.ofString "min") = none
def kn1 {X : Cx} {K : Frag} {aR aM aL : Addr} (kx : K.In X.base) (O : X.Ok) (hb : ∀ x : Str, x ≠ "__name__" → X.mb x = bootBuiltins x) (k : KnF X) (f : Fx1 K aR aM aL) : Kn1 X where
  toKnF := k
  aR := aR
  mR := fmAt K aR
  fR := f.fR.go kx
  gR := globAt_mg kx O.g f.gR (by simp)
  aM := aM
  mM := fmAt K aM
  fM := f.fM.go kx
  gM := globAt_mg kx O.g f.gM (by simp)
  nRange := globAt_mg kx O.g f.nRange (by simp)
  bRange := (hb _ (by decide +kernel)).trans (by kernel_rfl)
  nMin := globAt_mg kx O.g f.nMin (by simp)
  bMin := (hb _ (by decide +kernel)).trans (by kernel_rfl)
theorem ints_pv {vs : List Value} {ns : List Int} (h : IntsAre vs ns) : vs.map pv = ns.map PV.int := by
  induction h with
  | nil => rfl
  | cons n t h ih => rw [List.map_cons, List.map_cons, ih]; rfl
/-- the way from the run to the statement's own end -/
theorem end_of {prog : Program} {w : World} {s₁ : Shared} {mg mb : Str → Option Value} {f sl : Addr} {c : ClaimW} {cl : Str → Option Addr} {mean : ExcName → Option Value} {args : List WData}
    (hg : s₁.gens = #[]) (htk : 615 ≤ s₁.toks) (h : CC ⟨prog, w, s₁.heap, s₁.os, mg, mb⟩ callerA (.ref f) ⟨[.ref sl], []⟩ (fun _ => none) (fun v _ => v = .bool true))
    (hr : ∀ cls, c.raises args cls = false) (hp : c.post args (.bool true) args = true) :
    wpAny (model prog w) callerA (call (.ref f) [.ref sl]) (fun v s' => GoodWG c cl mean args s₁ (.ok (.ret v)) s') (fun e s' => GoodWG c cl mean args s₁ (.error e) s') s₁ := by
  have R : Real ⟨prog, w, s₁.heap, s₁.os, mg, mb⟩ (fun _ => none) s₁ := ⟨fun _ _ e => (nomatch e), fun _ _ e => e, fun _ _ e => (nomatch e), .of_eq hg, rfl, by omega⟩
  refine wpAny_mono ((CC.wv h).run s₁ R) (fun v s' ⟨σ', R', _, e⟩ => ?_) fun _ _ x => x.elim
  rw [pv_bool e]
  exact ⟨.inl ⟨_, _, [], rfl, hr, ReadsW.bool true, hp, fun _ => ⟨List.nodup_nil, fun _ hm => (nomatch hm)⟩⟩, .of_keep R'.base, R'.os, R'.gens⟩
theorem rm_caller : Rm callerA (0 + 4) := ⟨rfl, by decide, by decide, ⟨_, rfl⟩⟩
theorem finish1 {prog q : Program} {w : World} {s₁ : Shared} {loose : List Str} {mean : ExcName → Option Value} {mg mb : Str → Option Value} {K : Frag} {fa sl : Addr} {ns : List Int} {items : List Value} {c : ClaimW} {cl : Str → Option Addr} {mean' : ExcName → Option Value} {args : List WData}
    {aE aS aC aF C dI dG dF pN pV i1 i2 i3 i4 i5 i6 i7 i8 aR aM aL : Addr}
    (T : Top q loose mean mg mb s₁.heap) (KX : K.In s₁.heap) (hg : s₁.gens = #[]) (htk : 615 ≤ s₁.toks) (hmg : mg (Str.ofString "law") = some (.ref fa)) (hL : s₁.heap.IsList sl items.toArray) (hI : IntsAre items ns) (hlen : ns.length ≤ 63)
    (f : FxF K aE aS aC aF C dI dG dF pN pV i1 i2 i3 i4 i5 i6 i7 i8) (g : Fx1 K aR aM aL) (hr : ∀ cls, c.raises args cls = false) (hp : c.post args (.bool true) args = true) :
    wpAny (model prog w) callerA (call (.ref fa) [.ref sl]) (fun v s' => GoodWG c cl mean' args s₁ (.ok (.ret v)) s') (fun e s' => GoodWG c cl mean' args s₁ (.error e) s') s₁ := by
  have O : Cx.Ok ⟨prog, w, s₁.heap, s₁.os, mg, mb⟩ := ⟨T.g, T.b, T.nolimit⟩
  have e : mg (Str.ofString "law") = some (.ref aL) := globAt_mg (X := ⟨prog, w, s₁.heap, s₁.os, mg, mb⟩) KX T.g g.gL (by simp)
  have : fa = aL := by rw [hmg] at e; cases e; rfl
  subst this
  have k1 := kn1 (X := ⟨prog, w, s₁.heap, s₁.os, mg, mb⟩) KX O T.builtins (knF (X := ⟨prog, w, s₁.heap, s₁.os, mg, mb⟩) KX O T.builtins f) g
  exact end_of hg htk (CC.law k1 rm_caller (FnK.go (X := ⟨prog, w, s₁.heap, s₁.os, mg, mb⟩) KX g.fL) hL (by simpa using ints_pv hI) hlen) hr hp
end Mine
end

open PySem PySem.W PySem.W.X PySem.W.ZRun PyProof.Rows
set_option maxRecDepth 100000 in
set_option maxHeartbeats 8000000 in
theorem PySem.Challenge.cw_pg0245_01_holds : PySem.Challenge.rw_pg0245_01.Holds := by
  w_on; o_law; z_head
  case hw => w_witness2
  k_fill
  intro w s₀ s₁ mg mb G y fa o pm cd doc dV kV ho hd hcd hD hmg hg args vals as L hpre hlay hrd hwl hlo
  z_open y L KX ZH ZN ZT
  refine Ground.open G ?_
  intro T B D TE TW
  wrow_args hpre hlay hrd hwl hlo
  obtain ⟨hat, hsz⟩ := script_at L
  have htk := script_toks L ZT
  rw [ZN] at hat hsz
  subst hat
  refine Mine.finish1 (aE := 45) (aS := 52) (aC := 59) (aF := 82) (C := 203) (dI := 90) (dG := 143) (dF := 75) (pN := 69) (pV := 74) (i1 := 97) (i2 := 104) (i3 := 118) (i4 := 123) (i5 := 142) (i6 := 150) (i7 := 155) (i8 := 200) (aR := 214) (aM := 221) (aL := 226) T KX hg htk hmg ‹Heap.IsList _ _ _› ‹IntsAre _ _› (by omega) ?f1 ?f2 (fun _ => rfl) ?f3
  case f1 => exact ⟨by kernel_rfl, by kernel_rfl, by kernel_rfl, by kernel_rfl, by kernel_rfl, by kernel_rfl, by kernel_rfl, ⟨by kernel_rfl, by kernel_rfl⟩, ⟨by kernel_rfl, by kernel_rfl⟩, ⟨by kernel_rfl, by kernel_rfl⟩, ⟨by kernel_rfl, by kernel_rfl⟩, by kernel_rfl, by kernel_rfl, by kernel_rfl, by kernel_rfl, by kernel_rfl, by kernel_rfl, by kernel_rfl, by kernel_rfl, by kernel_rfl, by kernel_rfl, by kernel_rfl, by kernel_rfl, by kernel_rfl, by kernel_rfl, by kernel_rfl, by kernel_rfl, by kernel_rfl, by kernel_rfl, ⟨⟨by kernel_rfl, by kernel_rfl⟩, by kernel_rfl, by kernel_rfl⟩, ⟨⟨by kernel_rfl, by kernel_rfl⟩, by kernel_rfl, by kernel_rfl⟩, ⟨⟨by kernel_rfl, by kernel_rfl⟩, by kernel_rfl, by kernel_rfl⟩, ⟨⟨by kernel_rfl, by kernel_rfl⟩, by kernel_rfl, by kernel_rfl⟩, ⟨⟨by kernel_rfl, by kernel_rfl⟩, by kernel_rfl, by kernel_rfl⟩, ⟨⟨by kernel_rfl, by kernel_rfl⟩, by kernel_rfl, by kernel_rfl⟩, ⟨⟨by kernel_rfl, by kernel_rfl⟩, by kernel_rfl, by kernel_rfl⟩, ⟨⟨by kernel_rfl, by kernel_rfl⟩, by kernel_rfl, by kernel_rfl⟩, by kernel_rfl, by kernel_rfl, by kernel_rfl⟩
  case f2 => exact ⟨⟨by kernel_rfl, by kernel_rfl⟩, by kernel_rfl, ⟨by kernel_rfl, by kernel_rfl⟩, by kernel_rfl, ⟨by kernel_rfl, by kernel_rfl⟩, by kernel_rfl, by kernel_rfl, by kernel_rfl⟩
  case f3 => first | rfl | wrow_post
