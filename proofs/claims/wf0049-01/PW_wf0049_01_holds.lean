import PyProof.Rows.All
import Wide.All
import OpenK.AllK
import Wide.FinOn
import Lean
import PySem.Challenge.RW_wf0049_01
set_option Elab.async false
section
open PySem PyProof.Rows
set_option linter.unusedVariables false
namespace Mine

abbrev Get := Addr → Option Obj

inductive PV where
  | none
  | bool (b : Bool)
  | int (i : Int)
  | str (s : Str)
  | typ (t : String)
  | tup (l : List PV)
  | lst (l : List PV)
  | dic (l : List (Str × PV))

section
variable (prog : Program) (w : World)

mutual
inductive Rp (σ : Get) : Value → PV → Prop
  | none : Rp σ .none .none
  | bool (b : Bool) : Rp σ (.bool b) (.bool b)
  | int (i : Int) (t : Tok) : Rp σ (.int i t) (.int i)
  | str (s : Str) (t : Tok) : Rp σ (.str s t) (.str s)
  | typ (t : String) : Rp σ (.type t) (.typ t)
  | tup {a : Addr} {o : Obj} {items : Array Value} {n : Nat} {l : List PV} : σ a = some o → o.cls = .type "tuple" → o.data = .seq items n → Rps σ items.toList l → Rp σ (.ref a) (.tup l)
  | lst {a : Addr} {o : Obj} {items : Array Value} {n : Nat} {l : List PV} : σ a = some o → o.cls = .type "list" → o.data = .seq items n → Rps σ items.toList l → Rp σ (.ref a) (.lst l)
  | dic {a : Addr} {o : Obj} {kvs : List (Str × Value)} {l : List (Str × PV)} : σ a = some o → o.IsDictOf (strKind prog w) kvs → (a == sysModules) = false → Rpk σ kvs l → Rp σ (.ref a) (.dic l)
inductive Rps (σ : Get) : List Value → List PV → Prop
  | nil : Rps σ [] []
  | cons {v : Value} {p : PV} {vs : List Value} {ps : List PV} : Rp σ v p → Rps σ vs ps → Rps σ (v :: vs) (p :: ps)
inductive Rpk (σ : Get) : List (Str × Value) → List (Str × PV) → Prop
  | nil : Rpk σ [] []
  | cons {k : Str} {v : Value} {p : PV} {vs : List (Str × Value)} {ps : List (Str × PV)} : Rp σ v p → Rpk σ vs ps → Rpk σ ((k, v) :: vs) ((k, p) :: ps)
end

def Sub (σ σ' : Get) : Prop := ∀ a o, σ a = some o → σ' a = some o
theorem Sub.refl (σ : Get) : Sub σ σ := fun _ _ e => e
theorem Sub.trans {σ σ' σ'' : Get} (x : Sub σ σ') (y : Sub σ' σ'') : Sub σ σ'' := fun a o e => y a o (x a o e)

variable {prog w}
mutual
theorem Rp.mono {σ σ' : Get} (h : Sub σ σ') {v : Value} {p : PV} : Rp prog w σ v p → Rp prog w σ' v p
  | .none => .none
  | .bool b => .bool b
  | .int i t => .int i t
  | .str s t => .str s t
  | .typ t => .typ t
  | .tup a b c d => .tup (h _ _ a) b c (Rps.mono h d)
  | .lst a b c d => .lst (h _ _ a) b c (Rps.mono h d)
  | .dic a b c d => .dic (h _ _ a) b c (Rpk.mono h d)
theorem Rps.mono {σ σ' : Get} (h : Sub σ σ') {v : List Value} {p : List PV} : Rps prog w σ v p → Rps prog w σ' v p
  | .nil => .nil
  | .cons a b => .cons (Rp.mono h a) (Rps.mono h b)
theorem Rpk.mono {σ σ' : Get} (h : Sub σ σ') {v : List (Str × Value)} {p : List (Str × PV)} : Rpk prog w σ v p → Rpk prog w σ' v p
  | .nil => .nil
  | .cons a b => .cons (Rp.mono h a) (Rpk.mono h b)
end
theorem Rps.length {σ : Get} {v : List Value} {p : List PV} (x : Rps prog w σ v p) : v.length = p.length := by
  induction v generalizing p with
  | nil => cases x; rfl
  | cons v vs ih => cases x with | cons a b => simp [ih b]
theorem Rpk.length {σ : Get} {v : List (Str × Value)} {p : List (Str × PV)} (x : Rpk prog w σ v p) : v.length = p.length := by
  induction v generalizing p with
  | nil => cases x; rfl
  | cons v vs ih => cases x with | cons a b => simp [ih b]
theorem Rps.at {σ : Get} {v : List Value} {p : List PV} (x : Rps prog w σ v p) {i : Nat} {q : PV} (h : p[i]? = some q) : ∃ u, v[i]? = some u ∧ Rp prog w σ u q := by
  induction v generalizing p i with
  | nil => cases x; simp at h
  | cons v vs ih => cases x with | cons a b =>
    cases i with
    | zero => simp at h; exact ⟨v, rfl, h ▸ a⟩
    | succ i => simp at h; simpa using ih b h
theorem Rps.at' {σ : Get} {v : List Value} {p : List PV} (x : Rps prog w σ v p) {i : Nat} {u : Value} (h : v[i]? = some u) : ∃ q, p[i]? = some q ∧ Rp prog w σ u q := by
  induction v generalizing p i with
  | nil => simp at h
  | cons v vs ih => cases x with | cons a b =>
    cases i with
    | zero => simp at h; exact ⟨_, rfl, h ▸ a⟩
    | succ i => simp at h; simpa using ih b h
theorem Rpk.keys {σ : Get} {v : List (Str × Value)} {p : List (Str × PV)} (x : Rpk prog w σ v p) : v.map (·.1) = p.map (·.1) := by
  induction v generalizing p with
  | nil => cases x; rfl
  | cons v vs ih => cases x with | cons a b => simp [ih b]
theorem Rpk.at' {σ : Get} {v : List (Str × Value)} {p : List (Str × PV)} (x : Rpk prog w σ v p) {i : Nat} {k : Str} {u : Value} (h : v[i]? = some (k, u)) : ∃ q, p[i]? = some (k, q) ∧ Rp prog w σ u q := by
  induction v generalizing p i with
  | nil => simp at h
  | cons v vs ih => cases x with | cons a b =>
    cases i with
    | zero => simp at h; obtain ⟨rfl, rfl⟩ := h; exact ⟨_, rfl, a⟩
    | succ i => simp at h; simpa using ih b h
theorem Rps.append {σ : Get} {v v' : List Value} {p p' : List PV} (x : Rps prog w σ v p) (y : Rps prog w σ v' p') : Rps prog w σ (v ++ v') (p ++ p') := by
  induction v generalizing p with
  | nil => cases x; exact y
  | cons v vs ih => cases x with | cons a b => exact .cons a (ih b)
theorem Rps.drop {σ : Get} {v : List Value} {p : List PV} (x : Rps prog w σ v p) (n : Nat) : Rps prog w σ (v.drop n) (p.drop n) := by
  induction n generalizing v p with
  | zero => exact x
  | succ n ih => cases x with
    | nil => exact .nil
    | cons a b => exact ih b
theorem Rps.take {σ : Get} {v : List Value} {p : List PV} (x : Rps prog w σ v p) (n : Nat) : Rps prog w σ (v.take n) (p.take n) := by
  induction n generalizing v p with
  | zero => exact .nil
  | succ n ih => cases x with
    | nil => exact .nil
    | cons a b => exact .cons a (ih b)

/-- lookups in an assoc list by the first hit -/
def valAt (l : List (Str × PV)) (k : Str) : Option PV := (l.find? fun kv => kv.1 = k).map (·.2)
def putAt (l : List (Str × PV)) (k : Str) (p : PV) : List (Str × PV) :=
  if l.any (fun kv => kv.1 = k) then l.map (fun kv => if kv.1 = k then (kv.1, p) else kv) else l ++ [(k, p)]
theorem Rpk.valueAt {σ : Get} {v : List (Str × Value)} {p : List (Str × PV)} (x : Rpk prog w σ v p) {k : Str} :
    (PySem.valueAt v k = none ∧ valAt p k = none) ∨ ∃ u q, PySem.valueAt v k = some u ∧ valAt p k = some q ∧ Rp prog w σ u q := by
  induction v generalizing p with
  | nil => cases x; exact .inl ⟨rfl, rfl⟩
  | cons v vs ih =>
    cases x with
    | @cons k' v' p' vs' ps a b =>
      by_cases h : k' = k
      · exact .inr ⟨v', p', by simp [PySem.valueAt, h], by simp [valAt, h], a⟩
      · have e1 : PySem.valueAt ((k', v') :: vs) k = PySem.valueAt vs k := by simp [PySem.valueAt, h]
        have e2 : valAt ((k', p') :: ps) k = valAt ps k := by simp [valAt, h]
        rw [e1, e2]; exact ih b
theorem Rpk.any {σ : Get} {v : List (Str × Value)} {p : List (Str × PV)} (x : Rpk prog w σ v p) (k : Str) : (v.any fun kv => decide (kv.1 = k)) = (p.any fun kv => decide (kv.1 = k)) := by
  induction v generalizing p with
  | nil => cases x; rfl
  | cons v vs ih => cases x with | cons a b => simp [ih b]
theorem Rpk.append {σ : Get} {v v' : List (Str × Value)} {p p' : List (Str × PV)} (x : Rpk prog w σ v p) (y : Rpk prog w σ v' p') : Rpk prog w σ (v ++ v') (p ++ p') := by
  induction v generalizing p with
  | nil => cases x; exact y
  | cons v vs ih => cases x with | cons a b => exact .cons a (ih b)
theorem Rpk.store {σ : Get} {v : List (Str × Value)} {p : List (Str × PV)} (x : Rpk prog w σ v p) (k : Str) {u : Value} {q : PV} (h : Rp prog w σ u q) : Rpk prog w σ (stored v k u) (putAt p k q) := by
  unfold stored putAt
  rw [x.any k]
  split
  · rename_i hx; clear hx
    induction v generalizing p with
    | nil => cases x; exact .nil
    | cons v vs ih =>
      cases x with
      | @cons k' v' p' vs' ps a b =>
        simp only [List.map_cons]
        by_cases e : k' = k
        · rw [if_pos e, if_pos e]; exact .cons h (ih b)
        · rw [if_neg e, if_neg e]; exact .cons a (ih b)
  · exact x.append (.cons h .nil)

/-- older generators stand, none is left open -/
structure GExt (a b : Array GenState) : Prop where
  kp : ∀ (i : Nat) (x : GenState), a[i]? = some x → b[i]? = some x
  bare : AllBare a → AllBare b
theorem GExt.refl (a : Array GenState) : GExt a a := ⟨fun _ _ e => e, id⟩
theorem GExt.trans {a b c : Array GenState} (x : GExt a b) (y : GExt b c) : GExt a c := ⟨fun i z e => y.kp i z (x.kp i z e), fun h => y.bare (x.bare h)⟩

structure Ext (σ : Get) (s : Shared) (σ' : Get) (s' : Shared) : Prop where
  sub : Sub σ σ'
  le : Sub σ' s'.heap.get?
  kp : Sub s.heap.get? s'.heap.get?
  frs : ∀ a o, σ' a = some o → σ a = some o ∨ s.heap.get? a = none
  os : s'.os = s.os
  dr : s'.drawn = s.drawn
  gens : GExt s.gens s'.gens

theorem Ext.refl {σ : Get} {s : Shared} (h : Sub σ s.heap.get?) : Ext σ s σ s := ⟨.refl _, h, .refl _, fun _ _ e => .inl e, rfl, rfl, .refl _⟩
theorem Ext.tok {σ : Get} {s : Shared} (h : Sub σ s.heap.get?) (t : Nat) : Ext σ s σ { s with toks := t } := ⟨.refl _, h, .refl _, fun _ _ e => .inl e, rfl, rfl, .refl _⟩
theorem none_of_sub {σ σ' : Get} (h : Sub σ σ') {a : Addr} (e : σ' a = none) : σ a = none := by
  cases q : σ a with
  | none => rfl
  | some o => rw [h a o q] at e; cases e
theorem Ext.trans {σ σ' σ'' : Get} {s s' s'' : Shared} (x : Ext σ s σ' s') (y : Ext σ' s' σ'' s'') : Ext σ s σ'' s'' :=
  ⟨x.sub.trans y.sub, y.le, x.kp.trans y.kp, fun a o e => (y.frs a o e).elim (x.frs a o) fun n => .inr (none_of_sub x.kp n), y.os.trans x.os, y.dr.trans x.dr, x.gens.trans y.gens⟩

def Get.add (σ : Get) (a : Addr) (o : Obj) : Get := fun b => if b = a then some o else σ b
theorem get?_size (h : Heap) : h.get? h.objs.size = none := by
  cases e : h.get? h.objs.size with
  | none => rfl
  | some o => exact absurd (Heap.lt_size e) (Nat.lt_irrefl _)
theorem Ext.heap {σ : Get} {s : Shared} (h : Sub σ s.heap.get?) {h' : Heap} (k : Sub s.heap.get? h'.get?) (t : Nat) : Ext σ s σ { s with heap := h', toks := t } :=
  ⟨.refl _, h.trans k, k, fun _ _ e => .inl e, rfl, rfl, .refl _⟩
theorem push_keep (h : Heap) (o : Obj) : Sub h.get? (h.push o).get? := fun _ _ e => Heap.get?_push_of_some _ e
/-- a new object that is taken into the store -/
theorem Ext.new {σ : Get} {s : Shared} (h : Sub σ s.heap.get?) {h' : Heap} {a : Addr} {o : Obj} (hn : s.heap.get? a = none) (ho : h'.get? a = some o) (k : Sub s.heap.get? h'.get?) (t : Nat) :
    Ext σ s (σ.add a o) { s with heap := h', toks := t } := by
  have na : σ a = none := none_of_sub h hn
  refine ⟨fun b x e => ?_, fun b x e => ?_, k, fun b x e => ?_, rfl, rfl, .refl _⟩
  · unfold Get.add; split
    · rename_i q; subst q; rw [na] at e; cases e
    · exact e
  · unfold Get.add at e; split at e
    · rename_i q; subst q; cases e; exact ho
    · exact k _ _ (h _ _ e)
  · unfold Get.add at e; split at e
    · rename_i q; subst q; exact .inr hn
    · exact .inl e
theorem Get.add_self (σ : Get) (a : Addr) (o : Obj) : σ.add a o a = some o := if_pos rfl
theorem Sub.add {σ : Get} {a : Addr} (o : Obj) (h : σ a = none) : Sub σ (σ.add a o) := fun b x e => by
  unfold Get.add; split
  · rename_i q; subst q; rw [h] at e; cases e
  · exact e

/-- «t computes»: from state s over store σ it ends in P, no exception -/
def W {α : Type} (prog : Program) (w : World) (A : Around) (t : Sem α) (σ : Get) (s : Shared) (P : α → Get → Shared → Prop) : Prop :=
  wpAny (model prog w) A t (fun a s' => ∃ σ', Ext σ s σ' s' ∧ P a σ' s') (fun _ _ => False) s

variable {α β : Type} {A : Around} {σ : Get} {s : Shared} {P : α → Get → Shared → Prop}
theorem W.mono {P' : α → Get → Shared → Prop} {t : Sem α} (h : W prog w A t σ s P) (k : ∀ a σ' s', Ext σ s σ' s' → P a σ' s' → P' a σ' s') : W prog w A t σ s P' :=
  wpAny_mono h (fun a s' ⟨σ', x, p⟩ => ⟨σ', x, k a σ' s' x p⟩) fun _ _ e => e
theorem W.then {t : Sem α} {Q : α → Shared → Prop} {E : Value → Shared → Prop} (h : W prog w A t σ s P) (k : ∀ a σ' s', Ext σ s σ' s' → P a σ' s' → Q a s') : wpAny (model prog w) A t Q E s :=
  wpAny_mono h (fun a s' ⟨σ', x, p⟩ => k a σ' s' x p) fun _ _ e => e.elim
theorem W.bind {m : Sem α} {f : α → Sem β} {R : β → Get → Shared → Prop} (h : W prog w A m σ s P) (k : ∀ a σ' s', Ext σ s σ' s' → P a σ' s' → W prog w A (f a) σ' s' R) : W prog w A (m >>= f) σ s R :=
  wpAny_bind (wpAny_mono h (fun a s' ⟨σ', x, p⟩ => wpAny_mono (k a σ' s' x p) (fun b s'' ⟨σ'', y, r⟩ => ⟨σ'', x.trans y, r⟩) fun _ _ e => e) fun _ _ e => e)
theorem W.pure {a : α} (h : Sub σ s.heap.get?) (p : P a σ s) : W prog w A (pure a) σ s P := wpAny_pure ⟨σ, .refl h, p⟩
/-- the rest of a computation behind an extension -/
theorem W.after {t : Sem α} {σ₁ : Get} {s₁ : Shared} (x : Ext σ s σ₁ s₁) (h : W prog w A t σ₁ s₁ P) : wpAny (model prog w) A t (fun a s' => ∃ σ', Ext σ s σ' s' ∧ P a σ' s') (fun _ _ => False) s₁ :=
  wpAny_mono h (fun _ _ ⟨σ'', y, r⟩ => ⟨σ'', x.trans y, r⟩) fun _ _ e => e
end
end Mine
end
section
open PySem PySem.Calls PyProof.Rows
set_option linter.unusedVariables false
namespace Mine

structure Wd where
  prog : Program
  w : World
  hb : Heap
  mg : Str → Option Value
  mb : Str → Option Value

structure Wd.Ok (Θ : Wd) : Prop where
  g : Θ.hb.Ns mainGlobals Θ.mg
  b : Θ.hb.Ns builtinsNs Θ.mb
  nolimit : Θ.hb.NoLimit

inductive Bd where
  | sh (p : PV)
  | od (l : List (Str × PV))
  | ol (l : List PV)
def Bd.own : Bd → Bool
  | .sh _ => false
  | _ => true
abbrev Rho := List (Str × Bd)

structure FS (env : Env) (h : Heap) (m : Str → Option Value) : Prop where
  fn : env.scope.kind = .function
  gl : env.globals = mainGlobals
  bu : env.builtins = builtinsNs
  ns : ∃ ml, h.Ns env.locals ml ∧ ∀ x, env.kindOf x = some .local → ml x = m x
  cell : ∀ x c, (x, c) ∈ env.cells → h.IsCell c (m x)
  apart : env.cells.Pairwise fun x y => x.2 ≠ y.2
  kc : ∀ y c, (y, c) ∈ env.cells → env.kindOf y = some .cell ∧ env.cells.lookup y = some c
theorem FS.keeps {env : Env} {h h' : Heap} {m : Str → Option Value} (F : FS env h m) (k : Sub h.get? h'.get?) : FS env h' m :=
  ⟨F.fn, F.gl, F.bu, let ⟨ml, a, b⟩ := F.ns; ⟨ml, a.keeps k, b⟩, fun x c e => (F.cell x c e).keeps k, F.apart, F.kc⟩

section
variable (Θ : Wd)

inductive RpB (σ : Get) (h : Heap) : Value → Bd → Prop
  | sh {v : Value} {p : PV} : Rp Θ.prog Θ.w σ v p → RpB σ h v (.sh p)
  | od {d : Addr} {kvs : List (Str × Value)} {l : List (Str × PV)} : σ d = none → h.DictOf (strKind Θ.prog Θ.w) d kvs → (d == sysModules) = false → Rpk Θ.prog Θ.w σ kvs l → RpB σ h (.ref d) (.od l)
  | ol {d : Addr} {vs : Array Value} {l : List PV} : σ d = none → h.PlainList d vs → Rps Θ.prog Θ.w σ vs.toList l → RpB σ h (.ref d) (.ol l)

structure Rd (env : Env) (ρ : Rho) (σ : Get) (s : Shared) : Prop where
  base : Sub Θ.hb.get? σ
  le : Sub σ s.heap.get?
  m : ∃ m, FS env s.heap m ∧ ∀ x b, ρ.lookup x = some b → ∃ v, m x = some v ∧ RpB Θ σ s.heap v b

variable {Θ}
theorem RpB.ext {σ σ' : Get} {s s' : Shared} (x : Ext σ s σ' s') {v : Value} {b : Bd} : RpB Θ σ s.heap v b → RpB Θ σ' s'.heap v b
  | .sh a => .sh (a.mono x.sub)
  | .od a b c d => .od (by
      cases q : σ' _ with
      | none => rfl
      | some o =>
        rcases x.frs _ _ q with e | e
        · rw [a] at e; cases e
        · obtain ⟨o', _, _, ho, _⟩ := b; rw [ho] at e; cases e) (b.keep x.kp) c (d.mono x.sub)
  | .ol a b c => .ol (by
      cases q : σ' _ with
      | none => rfl
      | some o =>
        rcases x.frs _ _ q with e | e
        · rw [a] at e; cases e
        · obtain ⟨n, ho⟩ := b; rw [ho] at e; cases e) (b.at fun o e => x.kp _ o e) (c.mono x.sub)
theorem Rd.ext {env : Env} {ρ : Rho} {σ σ' : Get} {s s' : Shared} (R : Rd Θ env ρ σ s) (x : Ext σ s σ' s') : Rd Θ env ρ σ' s' :=
  ⟨R.base.trans x.sub, x.le, let ⟨m, F, h⟩ := R.m; ⟨m, F.keeps x.kp, fun y b e => let ⟨v, a, c⟩ := h y b e; ⟨v, a, c.ext x⟩⟩⟩

/-- «ρ₂ says less than ρ₁» -/
def Le (ρ₂ ρ₁ : Rho) : Prop := ∀ x b, ρ₂.lookup x = some b → ρ₁.lookup x = some b
theorem Le.refl (ρ : Rho) : Le ρ ρ := fun _ _ e => e
theorem Le.trans {a b c : Rho} (x : Le a b) (y : Le b c) : Le a c := fun z d e => y z d (x z d e)
theorem Rd.less {env : Env} {ρ ρ₂ : Rho} {σ : Get} {s : Shared} (R : Rd Θ env ρ σ s) (h : Le ρ₂ ρ) : Rd Θ env ρ₂ σ s :=
  ⟨R.base, R.le, let ⟨m, F, k⟩ := R.m; ⟨m, F, fun x b e => k x b (h x b e)⟩⟩

variable (Θ) in
/-- room for calls: k levels -/
structure Room (A : Around) (k : Nat) : Prop where
  handled : A.handled = none
  depth : A.depth + k < recursionLimit
  units : A.units + 6 * k + 100 < cLine
theorem Room.less {A : Around} {k j : Nat} (R : Room A k) (h : j ≤ k) : Room A j := ⟨R.handled, by have := R.depth; omega, by have := R.units; omega⟩

variable (Θ) in
def Ev (A : Around) (env : Env) (ρ : Rho) (e : PySem.Expr) (p : PV) : Prop :=
  ∀ σ s, Rd Θ env ρ σ s → W Θ.prog Θ.w A (eval e env) σ s fun v σ' s' => Rp Θ.prog Θ.w σ' v p
variable (Θ) in
def Tv (A : Around) (env : Env) (ρ : Rho) (e : PySem.Expr) (b : Bool) : Prop :=
  ∀ σ s, Rd Θ env ρ σ s → W Θ.prog Θ.w A (isTrue e env (eval e env)) σ s fun v σ' s' => v = b

variable {A : Around} {env : Env} {ρ : Rho}
theorem Ev.less {ρ₂ : Rho} {e : PySem.Expr} {p : PV} (h : Ev Θ A env ρ₂ e p) (k : Le ρ₂ ρ) : Ev Θ A env ρ e p := fun σ s R => h σ s (R.less k)

/-- raw rule: a value that needs no new object -/
theorem W.val {t : Sem Value} {σ : Get} {s : Shared} {v : Value} {p : PV} (le : Sub σ s.heap.get?) (hv : Rp Θ.prog Θ.w σ v p)
    (h : ∀ (Q : Value → Shared → Prop), (∀ tk, Q v { s with toks := tk }) → wpAny (model Θ.prog Θ.w) A t Q (fun _ _ => False) s) :
    W Θ.prog Θ.w A t σ s fun v σ' s' => Rp Θ.prog Θ.w σ' v p := h _ fun tk => ⟨σ, .tok le tk, hv⟩

theorem name_local {env : Env} {s : Shared} {m : Str → Option Value} {x : Str} {v : Value} {A : Around} {Q : Value → Shared → Prop} {E : Value → Shared → Prop} (F : FS env s.heap m)
    (hk : env.kindOf x = some .local ∨ (env.kindOf x = some .cell ∧ (env.cells.lookup x).isSome = true)) (hv : m x = some v) (h : Q v s) : wpAny (model Θ.prog Θ.w) A (loadName env x) Q E s := by
  rcases hk with hk | ⟨hk, hc⟩
  · obtain ⟨ml, hn, he⟩ := F.ns
    exact wpAny_loadName_local F.fn hk hn ((he x hk).trans hv) h
  · obtain ⟨c, hc⟩ := Option.isSome_iff_exists.mp hc
    exact wpAny_loadName_cell F.fn hk hc (hv ▸ F.cell x c (mem_of_lookup hc)) h

def Kd (env : Env) (x : Str) : Prop := env.kindOf x = some .local ∨ (env.kindOf x = some .cell ∧ (env.cells.lookup x).isSome = true)
/-- a name that may be stored -/
def KdS (env : Env) (x : Str) : Prop := env.kindOf x = some .local ∨ (env.kindOf x = some .cell ∧ (env.cells.lookup x).isSome = true ∧ env.func.isSome = true)
theorem KdS.kd {env : Env} {x : Str} (h : KdS env x) : Kd env x := h.imp id fun h => ⟨h.1, h.2.1⟩

theorem Ev_name {x : Str} {pos : Pos} {p : PV} (hr : ρ.lookup x = some (.sh p)) (hk : Kd env x) (hd : (x == ("__debug__" : Str)) = false := by decide) :
    Ev Θ A env ρ (.Name x pos) p := fun σ s R => by
  obtain ⟨m, F, hb⟩ := R.m
  obtain ⟨v, hv, hp⟩ := hb x _ hr
  cases hp with
  | sh hp => exact wpAny_Name (name_local F hk hv ⟨σ, .refl R.le, hp⟩) hd

/-- the value of a global name -/
def Wd.gv (Θ : Wd) (x : Str) : Option Value := match Θ.mg x with
  | some v => some v
  | none => Θ.mb x
theorem name_global (O : Θ.Ok) {x : Str} {pos : Pos} {σ : Get} {s : Shared} {v : Value} {Q : Value → Shared → Prop} {E : Value → Shared → Prop} (R : Rd Θ env ρ σ s) (hk : env.kindOf x = some .globalImplicit)
    (hv : Θ.gv x = some v) (h : Q v s) (hd : (x == ("__debug__" : Str)) = false := by decide) : wpAny (model Θ.prog Θ.w) A (eval (.Name x pos) env) Q E s := by
  obtain ⟨m, F, _⟩ := R.m
  have k : Sub Θ.hb.get? s.heap.get? := R.base.trans R.le
  refine Name_function_global F.fn hk ?_ hd
  unfold Wd.gv at hv
  split at hv
  · rename_i u hu
    cases hv
    exact loadGlobal_global (F.gl ▸ O.g.keeps k) hu h
  · rename_i hu
    exact loadGlobal_builtin (F.gl ▸ O.g.keeps k) hu (F.bu ▸ O.b.keeps k) hv h
theorem Ev_global (O : Θ.Ok) {x : Str} {pos : Pos} {v : Value} {p : PV} (hv : Θ.gv x = some v) (hp : Rp Θ.prog Θ.w Θ.hb.get? v p) (hk : env.kindOf x = some .globalImplicit) (hd : (x == ("__debug__" : Str)) = false := by decide) :
    Ev Θ A env ρ (.Name x pos) p := fun σ s R => name_global O R hk hv ⟨σ, .refl R.le, hp.mono R.base⟩ hd

theorem Ev_int {i : Int} {k : Nat} {pos : Pos} : Ev Θ A env ρ (.Constant (.int i) k pos) (.int i) := fun σ s R => wpAny_Constant_int ⟨σ, .tok R.le _, .int i _⟩
theorem Ev_str {x : Str} {k : Nat} {pos : Pos} : Ev Θ A env ρ (.Constant (.str x) k pos) (.str x) := fun σ s R => by
  show wpAny _ A (mkText x) _ _ s
  exact fun _ _ _ => ⟨σ, .tok R.le _, .str x _⟩
theorem Ev_none {k : Nat} {pos : Pos} : Ev Θ A env ρ (.Constant .none k pos) .none := fun σ s R => by
  show wpAny _ A (Pure.pure Value.none) _ _ s
  exact wpAny_pure ⟨σ, .refl R.le, .none⟩

end
end Mine
end
section
open PySem PySem.Calls PyProof.Rows
set_option linter.unusedVariables false
namespace Mine

section
variable {Θ : Wd} {A : Around} {env : Env} {ρ : Rho} {α β : Type}

theorem W.hold {vs : List Value} {m : Sem α} {σ : Get} {s : Shared} {P : α → Get → Shared → Prop} (h : W Θ.prog Θ.w A m σ s P) : W Θ.prog Θ.w A (holding vs m) σ s P := wpAny_holding h
theorem W.stand {pos : Pos} {k : Unit → Sem β} {σ : Get} {s : Shared} {P : β → Get → Shared → Prop} (h : W Θ.prog Θ.w A (k ()) σ s P) : W Θ.prog Θ.w A (standAt pos >>= k) σ s P := wpAny_bind (wpAny_standAt h)
theorem W.oper {vs : List Value} {m : Sem Value} {σ : Get} {s : Shared} {P : Value → Get → Shared → Prop} (h : W Θ.prog Θ.w A m σ s P) : W Θ.prog Θ.w A (operate vs m) σ s P := wpAny_operating h

/-- where an operation is asked: what is known of the store -/
structure At (Θ : Wd) (A : Around) (σ : Get) (s : Shared) : Prop where
  base : Sub Θ.hb.get? σ
  le : Sub σ s.heap.get?
theorem Rd.at {σ : Get} {s : Shared} (R : Rd Θ env ρ σ s) : At Θ A σ s := ⟨R.base, R.le⟩

variable (Θ A) in
def BinOk (op : Operator) (pa pb p : PV) : Prop := ∀ σ s va vb, At Θ A σ s → Rp Θ.prog Θ.w σ va pa → Rp Θ.prog Θ.w σ vb pb →
  W Θ.prog Θ.w A (binaryOp op va vb) σ s fun v σ' s' => Rp Θ.prog Θ.w σ' v p
variable (Θ A) in
def CmpOk (op : CmpOp) (pa pb : PV) (b : Bool) : Prop := ∀ σ s va vb, At Θ A σ s → Rp Θ.prog Θ.w σ va pa → Rp Θ.prog Θ.w σ vb pb →
  W Θ.prog Θ.w A (compareOp op va vb) σ s fun v σ' s' => v = .bool b

theorem Ev_bin {op : Operator} {l r : PySem.Expr} {pos : Pos} {pa pb p : PV} (ha : Ev Θ A env ρ l pa) (hb : Ev Θ A env ρ r pb) (h : BinOk Θ A op pa pb p) : Ev Θ A env ρ (.BinOp l op r pos) p := fun σ s R => by
  rw [arm_eval_BinOp]
  refine W.bind (ha σ s R) fun va σ₁ s₁ x₁ h₁ => ?_
  refine W.bind (W.hold (hb σ₁ s₁ (R.ext x₁))) fun vb σ₂ s₂ x₂ h₂ => ?_
  exact W.stand (W.oper (h σ₂ s₂ va vb ((R.ext x₁).ext x₂).at (h₁.mono x₂.sub) h₂))

theorem Ev_cmp {op : CmpOp} {l r : PySem.Expr} {pos : Pos} {pa pb : PV} {b : Bool} (ha : Ev Θ A env ρ l pa) (hb : Ev Θ A env ρ r pb) (h : CmpOk Θ A op pa pb b)
    (hm : behindInMarks op r = false := by with_unfolding_all rfl) : Ev Θ A env ρ (.Compare l [op] [r] pos) (.bool b) := fun σ s R => by
  refine wpAny_Compare1 ?_ hm
  refine (ha σ s R).then fun va σ₁ s₁ x₁ h₁ => (hb σ₁ s₁ (R.ext x₁)).then fun vb σ₂ s₂ x₂ h₂ => ?_
  refine W.after (x₁.trans x₂) (W.mono (h σ₂ s₂ va vb ((R.ext x₁).ext x₂).at (h₁.mono x₂.sub) h₂) fun v σ' s' x e => ?_)
  subst e; exact .bool b
theorem Tv_cmp {op : CmpOp} {l r : PySem.Expr} {pos : Pos} {pa pb : PV} {b : Bool} (ha : Ev Θ A env ρ l pa) (hb : Ev Θ A env ρ r pb) (h : CmpOk Θ A op pa pb b)
    (hm : behindInMarks op r = false := by with_unfolding_all rfl) : Tv Θ A env ρ (.Compare l [op] [r] pos) b := fun σ s R => by
  refine wpAny_isTrue_Compare1 ?_ hm
  refine (ha σ s R).then fun va σ₁ s₁ x₁ h₁ => (hb σ₁ s₁ (R.ext x₁)).then fun vb σ₂ s₂ x₂ h₂ => ?_
  refine (h σ₂ s₂ va vb ((R.ext x₁).ext x₂).at (h₁.mono x₂.sub) h₂).then fun v σ' s' x e => ?_
  subst e
  exact wpAny_truthy_bool ⟨σ', (x₁.trans x₂).trans x, rfl⟩

variable (Θ A) in
/-- truth of a value -/
def TrOk (p : PV) (b : Bool) : Prop := ∀ σ s v, At Θ A σ s → Rp Θ.prog Θ.w σ v p → W Θ.prog Θ.w A (truthy v) σ s fun c σ' s' => c = b
theorem TrOk.bool (b : Bool) : TrOk Θ A (.bool b) b := fun σ s v a h => by
  cases h; exact wpAny_truthy_bool ⟨σ, .refl a.le, rfl⟩

/-- an expression whose truth is asked by its value -/
theorem Tv_ev {e : PySem.Expr} {p : PV} {b : Bool} (he : Ev Θ A env ρ e p) (ht : TrOk Θ A p b)
    (hs : isTrue e env (eval e env) = (do let v ← eval e env; standAt e.pos; holding [v] (truthy v)) := by rfl) : Tv Θ A env ρ e b := fun σ s R => by
  rw [hs]
  refine W.bind (he σ s R) fun v σ₁ s₁ x₁ h₁ => ?_
  exact W.stand (W.hold (ht σ₁ s₁ v (R.ext x₁).at h₁))

theorem allTrue_nil {op : BoolOp} : allTrue op [] env = pure (op == .And) := by first | rfl | simp [allTrue]
theorem Tv_and2 {e f : PySem.Expr} {pos : Pos} {a b : Bool} (he : Tv Θ A env ρ e a) (hf : a = true → Tv Θ A env ρ f b) : Tv Θ A env ρ (.BoolOp .And [e, f] pos) (a && b) := fun σ s R => by
  rw [arm_isTrue_BoolOp]
  show W _ _ A (do match BoolOp.And, ← isTrue e env (eval e env) with | .And, false => pure false | .Or, true => pure true | _, _ => allTrue .And [f] env) σ s _
  refine W.bind (he σ s R) fun v σ₁ s₁ x₁ h₁ => ?_
  subst h₁
  cases v with
  | false => exact W.pure x₁.le (by simp)
  | true =>
    show W _ _ A (do match BoolOp.And, ← isTrue f env (eval f env) with | .And, false => pure false | .Or, true => pure true | _, _ => allTrue .And [] env) σ₁ s₁ _
    refine W.bind (hf rfl σ₁ s₁ (R.ext x₁)) fun u σ₂ s₂ x₂ h₂ => ?_
    subst h₂
    cases u with
    | false => exact W.pure x₂.le (by simp)
    | true => exact W.pure x₂.le (by simp)
theorem Tv_or2 {e f : PySem.Expr} {pos : Pos} {a b : Bool} (he : Tv Θ A env ρ e a) (hf : a = false → Tv Θ A env ρ f b) : Tv Θ A env ρ (.BoolOp .Or [e, f] pos) (a || b) := fun σ s R => by
  rw [arm_isTrue_BoolOp]
  show W _ _ A (do match BoolOp.Or, ← isTrue e env (eval e env) with | .And, false => pure false | .Or, true => pure true | _, _ => allTrue .Or [f] env) σ s _
  refine W.bind (he σ s R) fun v σ₁ s₁ x₁ h₁ => ?_
  subst h₁
  cases v with
  | true => exact W.pure x₁.le (by simp)
  | false =>
    show W _ _ A (do match BoolOp.Or, ← isTrue f env (eval f env) with | .And, false => pure false | .Or, true => pure true | _, _ => allTrue .Or [] env) σ₁ s₁ _
    refine W.bind (hf rfl σ₁ s₁ (R.ext x₁)) fun u σ₂ s₂ x₂ h₂ => ?_
    subst h₂
    cases u with
    | false => exact W.pure x₂.le (by simp)
    | true => exact W.pure x₂.le (by simp)

/-- the value of «e and f», «e or f» -/
theorem Ev_bool2 {op : BoolOp} {e f : PySem.Expr} {pos : Pos} {p q r : PV} {a : Bool} (he : Ev Θ A env ρ e p) (ht : TrOk Θ A p a) (hf : (op = .And ∧ a = true) ∨ (op = .Or ∧ a = false) → Ev Θ A env ρ f q)
    (hr : r = if (op = .And ∧ a = true) ∨ (op = .Or ∧ a = false) then q else p) : Ev Θ A env ρ (.BoolOp op [e, f] pos) r := fun σ s R => by
  subst hr
  rw [arm_eval_BoolOp]
  show W _ _ A (do
    let v ← eval e env
    standAt pos
    let t ← holding [v] (truthy v)
    match op, t with
    | .And, false | .Or, true => pure v
    | _, _ => boolOp pos op [eval f env]) σ s _
  refine W.bind (he σ s R) fun v σ₁ s₁ x₁ h₁ => W.stand (W.bind (W.hold (ht σ₁ s₁ v (R.ext x₁).at h₁)) fun t σ₂ s₂ x₂ h₂ => ?_)
  subst h₂
  cases op <;> cases t
  · exact W.pure x₂.le (by simpa using h₁.mono x₂.sub)
  · exact W.mono (hf (.inl ⟨rfl, rfl⟩) σ₂ s₂ ((R.ext x₁).ext x₂)) fun v σ' s' x h => by simpa using h
  · exact W.mono (hf (.inr ⟨rfl, rfl⟩) σ₂ s₂ ((R.ext x₁).ext x₂)) fun v σ' s' x h => by simpa using h
  · exact W.pure x₂.le (by simpa using h₁.mono x₂.sub)

/-- several expressions, left to right -/
inductive Evs (Θ : Wd) (A : Around) (env : Env) (ρ : Rho) : List PySem.Expr → List PV → Prop
  | nil : Evs Θ A env ρ [] []
  | cons {e : PySem.Expr} {p : PV} {es : List PySem.Expr} {ps : List PV} : Ev Θ A env ρ e p → (∀ a b, e ≠ .Starred a b) → Evs Θ A env ρ es ps → Evs Θ A env ρ (e :: es) (p :: ps)
theorem starEach_cons {e : PySem.Expr} {es : List PySem.Expr} (h : ∀ a b, e ≠ .Starred a b) : starEach (e :: es) env = (false, eval e env) :: starEach es env := by
  cases e <;> first | rfl | exact absurd rfl (h _ _)
theorem spliced_evs {pos : Pos} {es : List PySem.Expr} {ps : List PV} (h : Evs Θ A env ρ es ps) : ∀ σ s, Rd Θ env ρ σ s →
    W Θ.prog Θ.w A (spliced (backTo pos (starEach es env))) σ s fun vs σ' s' => Rps Θ.prog Θ.w σ' vs ps := by
  induction h with
  | nil => exact fun σ s R => W.pure R.le .nil
  | @cons e p es ps he hs _ ih =>
    intro σ s R
    rw [starEach_cons hs]
    show W _ _ A (do
      let v ← eval e env
      let here ← (pure [v] : Sem (List Value))
      return here ++ (← holding here (spliced (backTo pos (starEach es env))))) σ s _
    refine W.bind (he σ s R) fun v σ₁ s₁ x₁ h₁ => ?_
    refine W.bind (W.pure (P := fun l σ' s' => l = [v] ∧ σ' = σ₁ ∧ s' = s₁) x₁.le ⟨rfl, rfl, rfl⟩) fun l σ₁' s₁' _ hl => ?_
    obtain ⟨rfl, rfl, rfl⟩ := hl
    refine W.bind (W.hold (ih σ₁' s₁' (R.ext x₁))) fun vs σ₂ s₂ x₂ h₂ => ?_
    exact W.pure x₂.le (.cons (h₁.mono x₂.sub) h₂)

theorem new_obj {σ : Get} {s : Shared} {T : String} {items : List Value} (le : Sub σ s.heap.get?) :
    Ext σ s (σ.add s.heap.objs.size { cls := .type T, data := .seq items.toArray }) { s with heap := s.heap.push { cls := .type T, data := .seq items.toArray } } :=
  Ext.new le (get?_size _) (Heap.get?_push_size _ rfl) (push_keep _ _) s.toks
theorem Ev_tuple {es : List PySem.Expr} {ps : List PV} {k : Nat} {pos : Pos} (h : Evs Θ A env ρ es ps) (hsz : ps.length ≤ 1000 := by decide) : Ev Θ A env ρ (.Tuple es k pos) (.tup ps) := fun σ s R => by
  rw [arm_eval_Tuple]
  refine W.stand (W.bind (spliced_evs h σ s R) fun vs σ₁ s₁ x₁ h₁ => ?_)
  refine wpAny_newTuple ⟨_, new_obj x₁.le, .tup (Get.add_self ..) rfl rfl (h₁.mono (new_obj (T := "tuple") x₁.le).sub)⟩ (by rw [h₁.length, sizeLine_eq]; omega)
theorem Ev_list {es : List PySem.Expr} {ps : List PV} {pos : Pos} (h : Evs Θ A env ρ es ps) (hsz : ps.length ≤ 1000 := by decide) : Ev Θ A env ρ (.List es pos) (.lst ps) := fun σ s R => by
  rw [arm_eval_List]
  refine W.stand (W.bind (spliced_evs h σ s R) fun vs σ₁ s₁ x₁ h₁ => ?_)
  refine wpAny_newList ⟨_, new_obj x₁.le, .lst (Get.add_self ..) rfl rfl (h₁.mono (new_obj (T := "list") x₁.le).sub)⟩ (by rw [h₁.length, sizeLine_eq]; omega)

theorem At.big {σ : Get} {s : Shared} (a : At Θ A σ s) (O : Θ.Ok) : (s.heap.objs.size == sysModules) = false := by
  have h := (O.nolimit.keeps (a.base.trans a.le))
  have := modules_low h
  exact beq_eq_false_iff_ne.mpr (Nat.ne_of_gt this)

theorem newDict_ev (O : Θ.Ok) {σ : Get} {s : Shared} (a : At Θ A σ s) : W Θ.prog Θ.w A newDict σ s fun v σ' s' => Rp Θ.prog Θ.w σ' v (.dic []) := by
  refine wpAny_newObj_type ⟨σ.add s.heap.objs.size { cls := .type "dict", data := .dict #[] }, Ext.new a.le (get?_size _) (Heap.get?_push_size _ rfl) (push_keep _ _) s.toks, ?_⟩
  refine .dic (Get.add_self ..) (kvs := []) ?_ (a.big O) .nil
  exact ⟨#[], 0, ⟨rfl, rfl, rfl⟩, rfl, fun _ he => by simp at he, .nil, List.nodup_nil⟩
theorem Ev_dict0 (O : Θ.Ok) {pos : Pos} : Ev Θ A env ρ (.Dict [] [] pos) (.dic []) := fun σ s R => by
  rw [eval_Dict_empty]
  exact W.stand (newDict_ev O R.at)
theorem Ev_dict1 (O : Θ.Ok) {e f : PySem.Expr} {pos : Pos} {k : Str} {p : PV} (he : Ev Θ A env ρ e (.str k)) (hf : Ev Θ A env ρ f p) : Ev Θ A env ρ (.Dict [some e] [f] pos) (.dic [(k, p)]) := fun σ s R => by
  refine wpAny_Dict_pairs (knd := strKind Θ.prog Θ.w) (pairs := [(eval e env, do let x ← eval f env; standAt pos; pure x)]) rfl (by simp) (by simp) ?_
  have xn : Ext σ s σ { s with heap := s.heap.push { cls := .type "dict", data := .dict #[] } } := Ext.heap R.le (push_keep _ _) s.toks
  refine evalPairs_cons ((he σ _ (R.ext xn)).then fun va σ₁ s₁ x₁ h₁ => ?_)
  refine wpAny_bind ((hf σ₁ s₁ ((R.ext xn).ext x₁)).then fun vb σ₂ s₂ x₂ h₂ => wpAny_bind (wpAny_standAt (wpAny_pure (evalPairs_nil ?_))))
  cases h₁ with
  | str k t =>
    have hd : s₂.heap.DictOf (strKind Θ.prog Θ.w) s.heap.objs.size [] := (Heap.DictOf.new s.heap).keep ((x₁.trans x₂).kp)
    refine ⟨[(k, vb)], ⟨strKind_is _ _ _ _, rfl, trivial⟩, hd, fun h' hd' hs' => ?_⟩
    have x := (xn.trans x₁).trans x₂
    have hne : ∀ b o, s.heap.get? b = some o → b ≠ s.heap.objs.size := fun b o e => Nat.ne_of_lt (Heap.lt_size e)
    obtain ⟨o, ho, hdo⟩ := Heap.dictOf_iff.mp hd'
    have nσ : σ₂ s.heap.objs.size = none := by
      cases q : σ₂ s.heap.objs.size with
      | none => rfl
      | some o' =>
        rcases (x₁.trans x₂).frs _ _ q with e | e
        · exact absurd (Heap.lt_size (R.le _ _ e)) (Nat.lt_irrefl _)
        · rw [Heap.get?_push_size _ rfl] at e; cases e
    have le' : Sub σ₂ h'.get? := fun b o e => by
      have hb : b ≠ s.heap.objs.size := by rintro rfl; rw [nσ] at e; cases e
      exact (hs'.2 b hb).trans (x.le _ _ e)
    refine ⟨σ₂.add s.heap.objs.size o, ⟨x.sub.trans (Sub.add o nσ), fun b o' e => ?_, fun b o' e => ?_, fun b o' e => ?_, x.os, x.dr, x.gens⟩, ?_⟩
    · unfold Get.add at e; split at e
      · rename_i q; subst q; cases e; exact ho
      · exact le' _ _ e
    · exact (hs'.2 b (hne b o' e)).trans (x.kp _ _ e)
    · unfold Get.add at e; split at e
      · rename_i q; subst q; exact .inr (get?_size _)
      · exact x.frs _ _ e
    · have hm : merged ([] : List (Str × Value)) [(k, vb)] = [(k, vb)] := by simp [merged, stored]
      rw [hm] at hdo
      exact .dic (Get.add_self ..) hdo (R.at (A := A)|>.big O) (.cons (h₂.mono (Sub.add o nσ)) .nil)

end
end Mine
end
section
open PySem PySem.Calls PyProof.Rows
set_option linter.unusedVariables false
set_option exponentiation.threshold 2000
namespace Mine

theorem bits_of_lt {a : Int} {k : Nat} (h : a.natAbs < 2 ^ k) (hk : k ≤ 2 ^ 20) : Builtin.Int.intBits a ≤ 2 ^ 20 := by
  unfold Builtin.Int.intBits
  split
  · exact Nat.zero_le _
  · rename_i h0
    have hne : a.natAbs ≠ 0 := by
      intro e
      have : a = 0 := Int.natAbs_eq_zero.mp e
      subst this; exact h0 rfl
    have := (Nat.log2_lt hne).mpr h
    omega
/-- small enough to be multiplied -/
def Sm (a : Int) : Prop := a.natAbs < 2 ^ 1000
theorem Sm.bits {a : Int} (h : Sm a) : Builtin.Int.intBits a ≤ 2 ^ 20 := bits_of_lt h (by decide)
theorem Sm.of {a : Int} (h0 : -(2 ^ 200) < a) (h1 : a < 2 ^ 200) : Sm a := by
  have e : (2 : Nat) ^ 200 ≤ 2 ^ 1000 := Nat.pow_le_pow_right (by decide) (by decide)
  have e2 : ((2 : Int) ^ 200) = ((2 ^ 200 : Nat) : Int) := by norm_cast
  rw [e2] at h0 h1
  generalize (2 : Nat) ^ 200 = n at *
  have : a.natAbs < n := by omega
  exact Nat.lt_of_lt_of_le this e

section
variable {Θ : Wd} {A : Around} {env : Env} {ρ : Rho} {σ : Get} {s : Shared}

theorem Rps.strs {vs : List Value} {ss : List Str} (h : Rps Θ.prog Θ.w σ vs (ss.map PV.str)) : StrsAre vs ss := by
  induction ss generalizing vs with
  | nil => cases h; exact .nil
  | cons x r ih => cases h with | cons a b => cases a with | str x t => exact .cons x t (ih b)
theorem Rps.ints {vs : List Value} {ss : List Int} (h : Rps Θ.prog Θ.w σ vs (ss.map PV.int)) : IntsAre vs ss := by
  induction ss generalizing vs with
  | nil => cases h; exact .nil
  | cons x r ih => cases h with | cons a b => cases a with | int x t => exact .cons x t (ih b)
theorem Rps.of_ints {vs : List Value} {ss : List Int} (h : IntsAre vs ss) : Rps Θ.prog Θ.w σ vs (ss.map PV.int) := by
  induction ss generalizing vs with
  | nil => cases h; exact .nil
  | cons x r ih => cases h with | cons n t b => exact .cons (.int _ _) (ih b)
theorem Rps.of_strs {vs : List Value} {ss : List Str} (h : StrsAre vs ss) : Rps Θ.prog Θ.w σ vs (ss.map PV.str) := by
  induction ss generalizing vs with
  | nil => cases h; exact .nil
  | cons x r ih => cases h with | cons n t b => exact .cons (.str _ _) (ih b)

theorem Rp.isList {v : Value} {l : List PV} (le : Sub σ s.heap.get?) (h : Rp Θ.prog Θ.w σ v (.lst l)) : ∃ a items, v = .ref a ∧ s.heap.IsList a items ∧ Rps Θ.prog Θ.w σ items.toList l := by
  cases h with | lst a b c d => exact ⟨_, _, rfl, ⟨_, le _ _ a, b, _, c⟩, d⟩
theorem Rp.isTuple {v : Value} {l : List PV} (le : Sub σ s.heap.get?) (h : Rp Θ.prog Θ.w σ v (.tup l)) : ∃ a items, v = .ref a ∧ s.heap.IsTuple a items ∧ Rps Θ.prog Θ.w σ items.toList l := by
  cases h with | tup a b c d => exact ⟨_, _, rfl, ⟨_, le _ _ a, b, _, c⟩, d⟩
theorem Rp.isDict {v : Value} {l : List (Str × PV)} (le : Sub σ s.heap.get?) (h : Rp Θ.prog Θ.w σ v (.dic l)) :
    ∃ a kvs, v = .ref a ∧ s.heap.DictOf (PySem.strKind Θ.prog Θ.w) a kvs ∧ (a == sysModules) = false ∧ Rpk Θ.prog Θ.w σ kvs l := by
  cases h with | dic a b c d => exact ⟨_, _, rfl, Heap.dictOf_iff.mpr ⟨_, le _ _ a, b⟩, c, d⟩

theorem val_tok (le : Sub σ s.heap.get?) {v : Value} {p : PV} (h : Rp Θ.prog Θ.w σ v p) : ∃ σ', Ext σ s σ' { s with toks := s.toks + 1 } ∧ Rp Θ.prog Θ.w σ' v p := ⟨σ, .tok le _, h⟩

theorem bin_add (a b : Int) : BinOk Θ A .Add (.int a) (.int b) (.int (a + b)) := fun σ s va vb h ha hb => by
  cases ha; cases hb; exact add_int (val_tok h.le (.int _ _))
theorem bin_sub (a b : Int) : BinOk Θ A .Sub (.int a) (.int b) (.int (a - b)) := fun σ s va vb h ha hb => by
  cases ha; cases hb; exact sub_int (val_tok h.le (.int _ _))
theorem bin_mul {a b : Int} (ha : Sm a) (hb : Sm b) : BinOk Θ A .Mult (.int a) (.int b) (.int (a * b)) := fun σ s va vb h h1 h2 => by
  cases h1; cases h2; exact mul_int (val_tok h.le (.int _ _)) (IntMulOk.of_bits ha.bits hb.bits)
theorem bin_mod {a b : Int} (hb : b ≠ 0) : BinOk Θ A .Mod (.int a) (.int b) (.int (a.fmod b)) := fun σ s va vb h h1 h2 => by
  cases h1; cases h2; exact mod_int' hb (val_tok h.le (.int _ _))
theorem bin_div {a b : Int} (hb : b ≠ 0) (hs : b.natAbs < 2 ^ 1000) : BinOk Θ A .FloorDiv (.int a) (.int b) (.int (a.fdiv b)) := fun σ s va vb h h1 h2 => by
  cases h1; cases h2
  refine floordiv_int hb (val_tok h.le (.int _ _)) (.inl (PyProof.noPylong_of_log2 ?_))
  have hne : b.natAbs ≠ 0 := fun e => hb (Int.natAbs_eq_zero.mp e)
  have := (Nat.log2_lt hne).mpr hs
  omega
theorem bin_pow {a n : Int} (hn : 0 ≤ n) (hsz : (Builtin.Int.intBits a : Int) * n ≤ 2 ^ 27) : BinOk Θ A .Pow (.int a) (.int n) (.int (a ^ n.toNat)) := fun σ s va vb h h1 h2 => by
  cases h1; cases h2; exact pow_int hn hsz (val_tok h.le (.int _ _))

theorem bin_cat {x y : Str} (hsz : x.length + y.length ≤ 1000000) : BinOk Θ A .Add (.str x) (.str y) (.str (x ++ y)) := fun σ s va vb h h1 h2 => by
  cases h1; cases h2
  exact add_str (fun t' tk => ⟨σ, .tok h.le _, .str _ _⟩) (by rw [sizeLine_eq]; omega)

theorem bin_lst {l m : List PV} (hsz : l.length + m.length ≤ 1000000) : BinOk Θ A .Add (.lst l) (.lst m) (.lst (l ++ m)) := fun σ s va vb h h1 h2 => by
  obtain ⟨a, xs, rfl, ⟨⟨cls, dd, data, sl⟩, ho, hc, n, hd⟩, hxs⟩ := h1.isList h.le
  obtain ⟨b, ys, rfl, ⟨⟨cls2, dd2, data2, sl2⟩, ho2, hc2, n2, hd2⟩, hys⟩ := h2.isList h.le
  simp only at hc hd hc2 hd2
  subst hc hd hc2 hd2
  have e1 := hxs.length
  have e2 := hys.length
  rw [Array.length_toList] at e1 e2
  refine concat_meets ⟨_, ho, rfl⟩ ⟨_, ho2, rfl⟩ noFill_list_add seq_list_add PySem.F.slot_list_add PySem.F.entry_list_add (PySem.F.args_list_add_2 _ _) (list_addW a b xs ys n n2 dd dd2 sl sl2 (by rw [sizeLine_eq]; omega)) ⟨ho, ho2, ?_⟩
  have x := new_obj (T := "list") (items := xs.toList ++ ys.toList) h.le
  have e : (xs.toList ++ ys.toList).toArray = xs ++ ys := by simp
  rw [e] at x
  exact ⟨_, x, .lst (Get.add_self ..) rfl rfl (by rw [Array.toList_append]; exact ((hxs.append hys).mono x.sub))⟩

theorem cmp_eq_int (a b : Int) : CmpOk Θ A .Eq (.int a) (.int b) (a == b) := fun σ s va vb h h1 h2 => by
  cases h1; cases h2; exact eq_int ⟨σ, .refl h.le, rfl⟩
theorem cmp_ne_int (a b : Int) : CmpOk Θ A .NotEq (.int a) (.int b) (a != b) := fun σ s va vb h h1 h2 => by
  cases h1; cases h2; exact ne_int ⟨σ, .refl h.le, rfl⟩
theorem cmp_lt_int (a b : Int) : CmpOk Θ A .Lt (.int a) (.int b) (decide (a < b)) := fun σ s va vb h h1 h2 => by
  cases h1; cases h2; exact lt_int ⟨σ, .refl h.le, rfl⟩
theorem cmp_le_int (a b : Int) : CmpOk Θ A .LtE (.int a) (.int b) (decide (a ≤ b)) := fun σ s va vb h h1 h2 => by
  cases h1; cases h2; exact le_int ⟨σ, .refl h.le, rfl⟩
theorem str_eq_cps (x y : Str) : (x.cps.toList == y.cps.toList) = decide (x = y) := by
  by_cases hne : x = y
  · subst hne; simp
  · rw [decide_eq_false hne]
    refine beq_eq_false_iff_ne.mpr fun hl => hne ?_
    cases x; cases y
    simp only [Str.mk.injEq]
    exact Array.toList_inj.mp hl
theorem cmp_eq_str (a b : Str) : CmpOk Θ A .Eq (.str a) (.str b) (decide (a = b)) := fun σ s va vb h h1 h2 => by
  cases h1; cases h2; exact eq_str ⟨σ, .refl h.le, by simp [Bool.beq_eq_decide_eq]⟩
theorem cmp_ne_str (a b : Str) : CmpOk Θ A .NotEq (.str a) (.str b) (!decide (a = b)) := fun σ s va vb h h1 h2 => by
  cases h1; cases h2; exact ne_str ⟨σ, .refl h.le, by simp [bne, Bool.beq_eq_decide_eq]⟩
theorem cmp_lt_str (a b : Str) : CmpOk Θ A .Lt (.str a) (.str b) (decide (a.cps.toList < b.cps.toList)) := fun σ s va vb h h1 h2 => by
  cases h1; cases h2; exact lt_str ⟨σ, .refl h.le, rfl⟩

theorem tr_int (a : Int) : TrOk Θ A (.int a) (a != 0) := fun σ s v h h1 => by
  cases h1
  exact truthy_int ⟨σ, .tok h.le _, rfl⟩
theorem tr_str (a : Str) (hfit : ¬ (a.length : Int) ≥ 2 ^ 63) : TrOk Θ A (.str a) (a.length != 0) := fun σ s v h h1 => by
  cases h1
  exact PySem.P.truthy_str hfit ⟨σ, .tok h.le _, by rcases a.length with _ | n <;> first | rfl | (simp; omega)⟩
end
end Mine
end
section
open PySem PySem.Calls PyProof.Rows
set_option linter.unusedVariables false
namespace Mine
section
variable {Θ : Wd} {A : Around} {env : Env} {ρ : Rho}

/-- a dict at hand, read only -/
structure DictH (Θ : Wd) (σ : Get) (s : Shared) (d : Addr) (l : List (Str × PV)) : Prop where
  ex : ∃ kvs, s.heap.DictOf (PySem.strKind Θ.prog Θ.w) d kvs ∧ Rpk Θ.prog Θ.w σ kvs l
  lo : (d == sysModules) = false
theorem DictH.ext {σ σ' : Get} {s s' : Shared} {d : Addr} {l : List (Str × PV)} (D : DictH Θ σ s d l) (x : Ext σ s σ' s') : DictH Θ σ' s' d l :=
  ⟨let ⟨k, a, b⟩ := D.ex; ⟨k, a.keep x.kp, b.mono x.sub⟩, D.lo⟩
theorem Rp.dictH {σ : Get} {s : Shared} {v : Value} {l : List (Str × PV)} (le : Sub σ s.heap.get?) (h : Rp Θ.prog Θ.w σ v (.dic l)) : ∃ d, v = .ref d ∧ DictH Θ σ s d l := by
  obtain ⟨a, kvs, e, hd, lo, hk⟩ := h.isDict le
  exact ⟨a, e, ⟨kvs, hd, hk⟩, lo⟩
variable (Θ) in
def Hd (A : Around) (env : Env) (ρ : Rho) (e : PySem.Expr) (l : List (Str × PV)) : Prop :=
  ∀ σ s, Rd Θ env ρ σ s → W Θ.prog Θ.w A (eval e env) σ s fun v σ' s' => ∃ d, v = .ref d ∧ DictH Θ σ' s' d l
theorem Hd_ev {e : PySem.Expr} {l : List (Str × PV)} (h : Ev Θ A env ρ e (.dic l)) : Hd Θ A env ρ e l := fun σ s R => (h σ s R).mono fun v σ' s' x h => h.dictH x.le
theorem Hd_own {x : Str} {pos : Pos} {l : List (Str × PV)} (hr : ρ.lookup x = some (.od l)) (hk : Kd env x) (hd : (x == ("__debug__" : Str)) = false := by decide) : Hd Θ A env ρ (.Name x pos) l := fun σ s R => by
  obtain ⟨m, F, hb⟩ := R.m
  obtain ⟨v, hv, hp⟩ := hb x _ hr
  cases hp with
  | od a b c d => exact wpAny_Name (name_local F hk hv ⟨σ, .refl R.le, _, rfl, ⟨_, b, d⟩, c⟩) hd

/-- a list at hand, read only -/
def ListH (Θ : Wd) (σ : Get) (s : Shared) (a : Addr) (l : List PV) : Prop := ∃ items, s.heap.IsList a items ∧ Rps Θ.prog Θ.w σ items.toList l
theorem ListH.ext {σ σ' : Get} {s s' : Shared} {d : Addr} {l : List PV} (D : ListH Θ σ s d l) (x : Ext σ s σ' s') : ListH Θ σ' s' d l :=
  let ⟨k, a, b⟩ := D; ⟨k, a.at fun o e => x.kp _ o e, b.mono x.sub⟩
variable (Θ) in
def Hl (A : Around) (env : Env) (ρ : Rho) (e : PySem.Expr) (l : List PV) : Prop :=
  ∀ σ s, Rd Θ env ρ σ s → W Θ.prog Θ.w A (eval e env) σ s fun v σ' s' => ∃ d, v = .ref d ∧ ListH Θ σ' s' d l
theorem Hl_ev {e : PySem.Expr} {l : List PV} (h : Ev Θ A env ρ e (.lst l)) : Hl Θ A env ρ e l := fun σ s R => (h σ s R).mono fun v σ' s' x h => by
  obtain ⟨a, items, e, hl, hs⟩ := h.isList x.le; exact ⟨a, e, items, hl, hs⟩
theorem Hl_own {x : Str} {pos : Pos} {l : List PV} (hr : ρ.lookup x = some (.ol l)) (hk : Kd env x) (hd : (x == ("__debug__" : Str)) = false := by decide) : Hl Θ A env ρ (.Name x pos) l := fun σ s R => by
  obtain ⟨m, F, hb⟩ := R.m
  obtain ⟨v, hv, hp⟩ := hb x _ hr
  cases hp with
  | ol a b c => exact wpAny_Name (name_local F hk hv ⟨σ, .refl R.le, _, rfl, _, b.isList, c⟩) hd

/-- how a subscript is read -/
def ItemW (Θ : Wd) (A : Around) (vo vi : Value) (σ : Get) (s : Shared) (P : Value → Get → Shared → Prop) : Prop :=
  (∃ T id, typeLookup (.type T) "__getitem__" = pure (some (.builtin id)) ∧ s.TypeIs vo T) ∧ W Θ.prog Θ.w A (getItem vo vi) σ s P

theorem sub_gen {value slice : PySem.Expr} {pos : Pos} {σ : Get} {s : Shared} {P : Value → Get → Shared → Prop}
    (h : W Θ.prog Θ.w A (eval value env) σ s fun vo σ₁ s₁ => W Θ.prog Θ.w A (eval slice env) σ₁ s₁ fun vi σ₂ s₂ => ItemW Θ A vo vi σ₂ s₂ P)
    (hs : ∀ o i, ∃ vs, subscripted slice false o i = operate vs (getItem o i) := by intro o i; exact ⟨_, by rfl⟩) : W Θ.prog Θ.w A (eval (.Subscript value slice pos) env) σ s P := by
  rw [eval_Subscript]
  refine W.bind h fun vo σ₁ s₁ x₁ h₁ => W.bind (W.hold h₁) fun vi σ₂ s₂ x₂ h₂ => W.stand ?_
  obtain ⟨⟨T, id, hl, hT⟩, hg⟩ := h₂
  obtain ⟨vs, e⟩ := hs vo vi
  rw [getItemInPython_go hT]
  refine wpAny_bind (wpAny_bind (wpAny_specialOf hT hl (wpAny_pure ?_)))
  rw [e]
  refine wpAny_bind (wpAny_operating (hg.then fun r σ₃ s₃ x₃ h₃ => wpAny_bind (wpAny_letTemporaryGo (wpAny_pure ⟨σ₃, x₃, h₃⟩))))
where
  getItemInPython_go {s : Shared} {o : Value} {T : String} (hT : s.TypeIs o T) : getitemInPython o = (do
    match ← specialOf o "__getitem__" with
    | some (.ref f) => do pure (match (← load f).data with | .func _ => true | _ => false)
    | _ => pure false) := getitemInPython_of_ne hT.not_modules

theorem item_list {σ : Get} {s : Shared} {a : Addr} {l : List PV} {k : Int} {t : Tok} {p : PV} (le : Sub σ s.heap.get?) (D : ListH Θ σ s a l) (h0 : 0 ≤ k) (hk : k < 2 ^ 63) (hp : l[k.toNat]? = some p) :
    ItemW Θ A (.ref a) (.int k t) σ s fun v σ' s' => Rp Θ.prog Θ.w σ' v p := by
  obtain ⟨items, hl, hs⟩ := D
  obtain ⟨u, hu, hr⟩ := hs.at hp
  exact ⟨⟨"list", _, slot_list_getitem.lookup, hl.typeIs⟩, wpAny_getItem_list hl h0 hk (by simpa using hu) ⟨σ, .refl le, hr⟩⟩
theorem item_dict {σ : Get} {s : Shared} {d : Addr} {l : List (Str × PV)} {k : Str} {t : Tok} {p : PV} (le : Sub σ s.heap.get?) (D : DictH Θ σ s d l) (hp : valAt l k = some p) :
    ItemW Θ A (.ref d) (.str k t) σ s fun v σ' s' => Rp Θ.prog Θ.w σ' v p := by
  obtain ⟨kvs, hd, hk⟩ := D.ex
  rcases hk.valueAt (k := k) with ⟨_, e⟩ | ⟨u, q, e1, e2, hr⟩
  · rw [hp] at e; cases e
  · rw [hp] at e2; cases e2
    exact ⟨⟨"dict", _, slot_dict_getitem.lookup, hd.typeIs⟩, wpAny_getItem_of (strKind_is _ _ k t) hd.mapOf e1 ⟨σ, .tok le _, hr⟩⟩
theorem item_tup {σ : Get} {s : Shared} {v : Value} {l : List PV} {k : Nat} {t : Tok} {p : PV} (le : Sub σ s.heap.get?) (h : Rp Θ.prog Θ.w σ v (.tup l)) (hk : k < 2 ^ 62) (hp : l[k]? = some p) :
    ItemW Θ A v (.int (k : Int) t) σ s fun v σ' s' => Rp Θ.prog Θ.w σ' v p := by
  obtain ⟨a, items, rfl, ht, hs⟩ := h.isTuple le
  obtain ⟨u, hu, hr⟩ := hs.at hp
  have hlt : k < items.size := by
    rcases Nat.lt_or_ge k items.size with h | h
    · exact h
    · rw [Array.getElem?_toList, Array.getElem?_eq_none h] at hu; cases hu
  refine ⟨⟨"tuple", _, PySem.F.slot_tuple_getitem.lookup, ht.typeIs⟩, PyProof.Rows.getItem_tuple ht ?_ ?_ (j := k) ?_ (by simpa using hu) ⟨σ, .refl le, hr⟩⟩
  all_goals first | omega | skip
  rw [seqIndex_of (by omega) (by omega)]; simp

theorem Ev_item_list {e f : PySem.Expr} {pos : Pos} {l : List PV} {k : Int} {p : PV} (he : Hl Θ A env ρ e l) (hf : Ev Θ A env ρ f (.int k)) (h0 : 0 ≤ k) (hk : k < 2 ^ 63) (hp : l[k.toNat]? = some p)
    (hs : ∀ o i, ∃ vs, subscripted f false o i = operate vs (getItem o i) := by intro o i; exact ⟨_, by rfl⟩) : Ev Θ A env ρ (.Subscript e f pos) p := fun σ s R =>
  sub_gen ((he σ s R).mono fun vo σ₁ s₁ x₁ ⟨d, e, D⟩ => (hf σ₁ s₁ (R.ext x₁)).mono fun vi σ₂ s₂ x₂ h₂ => by
    subst e; cases h₂; exact item_list x₂.le (D.ext x₂) h0 hk hp) hs
theorem Ev_item_dict {e f : PySem.Expr} {pos : Pos} {l : List (Str × PV)} {k : Str} {p : PV} (he : Hd Θ A env ρ e l) (hf : Ev Θ A env ρ f (.str k)) (hp : valAt l k = some p)
    (hs : ∀ o i, ∃ vs, subscripted f false o i = operate vs (getItem o i) := by intro o i; exact ⟨_, by rfl⟩) : Ev Θ A env ρ (.Subscript e f pos) p := fun σ s R =>
  sub_gen ((he σ s R).mono fun vo σ₁ s₁ x₁ ⟨d, e, D⟩ => (hf σ₁ s₁ (R.ext x₁)).mono fun vi σ₂ s₂ x₂ h₂ => by
    subst e; cases h₂; exact item_dict x₂.le (D.ext x₂) hp) hs
theorem Ev_item_tup {e f : PySem.Expr} {pos : Pos} {l : List PV} {k : Nat} {p : PV} (he : Ev Θ A env ρ e (.tup l)) (hf : Ev Θ A env ρ f (.int (k : Int))) (hk : k < 2 ^ 62) (hp : l[k]? = some p)
    (hs : ∀ o i, ∃ vs, subscripted f false o i = operate vs (getItem o i) := by intro o i; exact ⟨_, by rfl⟩) : Ev Θ A env ρ (.Subscript e f pos) p := fun σ s R =>
  sub_gen ((he σ s R).mono fun vo σ₁ s₁ x₁ h => (hf σ₁ s₁ (R.ext x₁)).mono fun vi σ₂ s₂ x₂ h₂ => by
    cases h₂; exact item_tup x₂.le (h.mono x₂.sub) hk hp) hs
theorem item_str {σ : Get} {s : Shared} {x : Str} {k : Nat} {t u : Tok} {c : Nat} (le : Sub σ s.heap.get?) (hk : k < 2 ^ 62) (hp : x.cps[k]? = some c) :
    ItemW Θ A (.str x t) (.int (k : Int) u) σ s fun v σ' s' => Rp Θ.prog Θ.w σ' v (.str ⟨#[c]⟩) := by
  have hlt : k < x.length := by
    rcases Nat.lt_or_ge k x.cps.size with h | h
    · exact h
    · rw [Array.getElem?_eq_none h] at hp; cases hp
  refine ⟨⟨"str", _, PySem.F.slot_str_getitem.lookup, rfl⟩, PyProof.Rows.getItem_str ?_ ?_ (val_tok le (.str _ _))⟩
  · simp only [Bool.or_eq_false_iff, decide_eq_false_iff_not]; omega
  · rw [seqIndex_of (by omega) (by omega)]; simpa using hp
theorem Ev_item_str {e f : PySem.Expr} {pos : Pos} {x : Str} {k : Nat} {c : Nat} (he : Ev Θ A env ρ e (.str x)) (hf : Ev Θ A env ρ f (.int (k : Int))) (hk : k < 2 ^ 62) (hp : x.cps[k]? = some c)
    (hs : ∀ o i, ∃ vs, subscripted f false o i = operate vs (getItem o i) := by intro o i; exact ⟨_, by rfl⟩) : Ev Θ A env ρ (.Subscript e f pos) (.str ⟨#[c]⟩) := fun σ s R =>
  sub_gen ((he σ s R).mono fun vo σ₁ s₁ x₁ h => (hf σ₁ s₁ (R.ext x₁)).mono fun vi σ₂ s₂ x₂ h₂ => by
    cases h₂; cases h; exact item_str x₂.le hk hp) hs

/-- «in» a dict -/
theorem cmp_in_dict {σ : Get} {s : Shared} {d : Addr} {l : List (Str × PV)} {k : Str} {t : Tok} (le : Sub σ s.heap.get?) (D : DictH Θ σ s d l) :
    W Θ.prog Θ.w A (compareOp .In (.str k t) (.ref d)) σ s fun v σ' s' => v = .bool (valAt l k).isSome := by
  obtain ⟨kvs, hd, hk⟩ := D.ex
  refine wpAny_in_of (strKind_is _ _ k t) D.lo hd.mapOf ⟨σ, .tok le _, ?_⟩
  rcases hk.valueAt (k := k) with ⟨e1, e2⟩ | ⟨u, q, e1, e2, hr⟩ <;> rw [e1, e2] <;> rfl
theorem Tv_in_dict {l r : PySem.Expr} {pos : Pos} {k : Str} {d : List (Str × PV)} (ha : Ev Θ A env ρ l (.str k)) (hb : Hd Θ A env ρ r d)
    (hm : behindInMarks .In r = false := by with_unfolding_all rfl) : Tv Θ A env ρ (.Compare l [.In] [r] pos) (valAt d k).isSome := fun σ s R => by
  refine wpAny_isTrue_Compare1 ?_ hm
  refine (ha σ s R).then fun va σ₁ s₁ x₁ h₁ => (hb σ₁ s₁ (R.ext x₁)).then fun vb σ₂ s₂ x₂ ⟨b, e, D⟩ => ?_
  subst e; cases h₁
  refine (cmp_in_dict x₂.le D).then fun v σ' s' x e => ?_
  subst e
  exact wpAny_truthy_bool ⟨σ', (x₁.trans x₂).trans x, rfl⟩
/-- «in» a tuple of strs -/
theorem cmp_in_strs {k : Str} {ks : List Str} : CmpOk Θ A .In (.str k) (.tup (ks.map PV.str)) (ks.any (· == k)) := fun σ s va vb h h1 h2 => by
  obtain ⟨a, items, rfl, ht, hs⟩ := h2.isTuple h.le
  cases h1
  exact PyProof.Rows.in_tuple_strs ht hs.strs ⟨σ, .refl h.le, rfl⟩
/-- «not in» a str -/
theorem cmp_notin_str {x y : Str} : CmpOk Θ A .NotIn (.str y) (.str x) (Builtin.Str.occurrences x y 0 x.length 1).isEmpty := fun σ s va vb h h1 h2 => by
  cases h1; cases h2
  exact PyProof.Rows.notIn_str ⟨σ, .refl h.le, by simp⟩
/-- «is None» -/
theorem cmp_is_none {p : PV} {b : Bool} (hb : b = match p with | .none => true | _ => false) : CmpOk Θ A .Is p .none b := fun σ s va vb h h1 h2 => by
  cases h2
  refine is_none_gen ⟨σ, .refl h.le, ?_⟩
  subst hb
  cases h1 <;> rfl

end
end Mine
end
section
open PySem PySem.Calls PyProof.Rows PySem.Builtin.Str
set_option linter.unusedVariables false
namespace Mine
section
variable {Θ : Wd} {A : Around} {env : Env} {ρ : Rho}

variable (Θ) in
inductive EvP (A : Around) (env : Env) (ρ : Rho) : Option PySem.Expr → Option Int → Prop
  | none : EvP A env ρ none none
  | some {e : PySem.Expr} {i : Int} : Ev Θ A env ρ e (.int i) → EvP A env ρ (some e) (some i)
theorem part_ev {e : Option PySem.Expr} {i : Option Int} (h : EvP Θ A env ρ e i) {σ : Get} {s : Shared} (R : Rd Θ env ρ σ s) :
    W Θ.prog Θ.w A (evalPart e env) σ s fun v σ' s' => IsPart v i := by
  cases h with
  | none => rw [evalPart_none]; exact W.pure R.le .none
  | some h => rw [evalPart_some]; exact (h σ s R).mono fun v σ' s' x h => by cases h; exact .int _ _

theorem slice_made {lo hi : Option PySem.Expr} {p : Pos} {a b : Option Int} (ha : EvP Θ A env ρ lo a) (hb : EvP Θ A env ρ hi b) {σ : Get} {s : Shared} (R : Rd Θ env ρ σ s) :
    W Θ.prog Θ.w A (eval (.Slice lo hi none p) env) σ s fun v σ' s' => ∃ sl vl vu, v = .ref sl ∧ s'.heap.IsSliceOf sl vl vu .none ∧ IsPart vl a ∧ IsPart vu b := by
  refine wpAny_Slice ((part_ev ha R).then fun vl σ₁ s₁ x₁ h₁ => (part_ev hb (R.ext x₁)).then fun vu σ₂ s₂ x₂ h₂ => ?_)
  rw [evalPart_none]
  refine wpAny_pure ?_
  have x₃ : Ext σ₂ s₂ σ₂ { s₂ with heap := s₂.heap.push { cls := .type "slice", data := .fields #[vl, vu, .none] } } := Ext.heap x₂.le (push_keep _ _) s₂.toks
  exact ⟨σ₂, (x₁.trans x₂).trans x₃, _, vl, vu, rfl, Heap.IsSliceOf.new .., h₁, h₂⟩

theorem Ev_slice {e : PySem.Expr} {lo hi : Option PySem.Expr} {p pos : Pos} {a b : Option Int} {pv q : PV} (he : Ev Θ A env ρ e pv) (ha : EvP Θ A env ρ lo a) (hb : EvP Θ A env ρ hi b)
    (h : ∀ σ s vo sl vl vu, At Θ A σ s → Rp Θ.prog Θ.w σ vo pv → s.heap.IsSliceOf sl vl vu .none → IsPart vl a → IsPart vu b → ItemW Θ A vo (.ref sl) σ s fun v σ' s' => Rp Θ.prog Θ.w σ' v q) :
    Ev Θ A env ρ (.Subscript e (.Slice lo hi none p) pos) q := fun σ s R =>
  sub_gen ((he σ s R).mono fun vo σ₁ s₁ x₁ h₁ => (slice_made ha hb (R.ext x₁)).mono fun vi σ₂ s₂ x₂ ⟨sl, vl, vu, e, hs, h2, h3⟩ => by
    subst e; exact h σ₂ s₂ vo sl vl vu ((R.ext x₁).ext x₂).at (h₁.mono x₂.sub) hs h2 h3) (fun o i => ⟨_, rfl⟩)

theorem item_slice_list {l : List PV} (hsz : l.length ≤ 1000000) (lo hi : Option Int) {q : List PV}
    (hq : ∀ (vs : Array Value), vs.size = l.length → ∀ σ, Rps Θ.prog Θ.w σ vs.toList l → Rps Θ.prog Θ.w σ (slicePick vs lo hi none).toList q) :
    ∀ σ s vo sl vl vu, At Θ A σ s → Rp Θ.prog Θ.w σ vo (.lst l) → s.heap.IsSliceOf sl vl vu .none → IsPart vl lo → IsPart vu hi → ItemW Θ A vo (.ref sl) σ s fun v σ' s' => Rp Θ.prog Θ.w σ' v (.lst q) := by
  intro σ s vo sl vl vu h h1 hs h2 h3
  obtain ⟨a, items, rfl, hl, hr⟩ := h1.isList h.le
  have e := hr.length
  rw [Array.length_toList] at e
  have hq' := hq items e σ hr
  refine ⟨⟨"list", _, slot_list_getitem.lookup, hl.typeIs⟩, wpAny_getItem_list_slice hl hs h2 h3 .none (by simp) ?_ (by rw [sizeLine_eq]; omega)⟩
  have x := new_obj (T := "list") (items := (slicePick items lo hi none).toList) h.le
  simp only [Array.toArray_toList] at x
  exact ⟨_, x, .lst (Get.add_self ..) rfl rfl (hq'.mono x.sub)⟩

theorem Ev_list_upto {e f : PySem.Expr} {p pos : Pos} {l : List PV} {n : Nat} (he : Ev Θ A env ρ e (.lst l)) (hf : Ev Θ A env ρ f (.int (n : Int))) (hsz : l.length ≤ 1000000) :
    Ev Θ A env ρ (.Subscript e (.Slice none (some f) none p) pos) (.lst (l.take n)) :=
  Ev_slice he .none (.some hf) (item_slice_list hsz none (some n) fun vs _ σ h => by rw [slicePick_upto' vs n]; simpa using h.take n)
theorem Ev_list_from {e f : PySem.Expr} {p pos : Pos} {l : List PV} {n : Nat} (he : Ev Θ A env ρ e (.lst l)) (hf : Ev Θ A env ρ f (.int (n : Int))) (hsz : l.length ≤ 1000000) :
    Ev Θ A env ρ (.Subscript e (.Slice (some f) none none p) pos) (.lst (l.drop n)) :=
  Ev_slice he (.some hf) .none (item_slice_list hsz (some n) none fun vs _ σ h => by rw [slicePick_from' vs n]; simpa using h.drop n)

theorem Ev_str_from {e f : PySem.Expr} {p pos : Pos} {x : Str} {n : Int} (he : Ev Θ A env ρ e (.str x)) (hf : Ev Θ A env ρ f (.int n)) (hsz : x.length ≤ 1000000) :
    Ev Θ A env ρ (.Subscript e (.Slice (some f) none none p) pos) (.str (Txt.slice x (some n) none)) :=
  Ev_slice he (.some hf) .none fun σ s vo sl vl vu h h1 hs h2 h3 => by
    cases h1; cases h3; cases h2
    rename_i t u
    refine ⟨⟨"str", _, PySem.F.slot_str_getitem.lookup, rfl⟩, wpAny_getItem_str_slice (l := some (n, u)) (u := none) (st := none) hs (by rfl) ?_⟩
    unfold sliceMade
    split
    · rename_i hc
      refine ⟨σ, .refl h.le, ?_⟩
      have : Txt.slice x (some n) none = x := if_pos hc
      rw [this]; exact .str _ _
    · rename_i hc
      have hn : Txt.slice x (some n) none = ⟨((strSliceIndices (some n) none 1 x.length).filterMap (x.cps[·]?)).toArray⟩ := if_neg hc
      rw [hn]
      refine ⟨?_, σ, .tok h.le _, .str _ _⟩
      have h1 := sliceIndices_le (some n) none x.length
      have h2 := List.length_filterMap_le (x.cps[·]?) (strSliceIndices (some n) none 1 x.length)
      have e : (Str.mk ((strSliceIndices (some n) none 1 x.length).filterMap (x.cps[·]?)).toArray).length ≤ sizeLine := by
        show (((strSliceIndices (some n) none 1 x.length).filterMap (x.cps[·]?)).toArray).size ≤ _
        rw [List.size_toArray, sizeLine_eq]; omega
      exact e

end
end Mine
end
section
open PySem PySem.Calls PyProof.Rows PySem.Builtin.Str
set_option linter.unusedVariables false
namespace Mine
section
variable {Θ : Wd} {A : Around} {env : Env} {ρ : Rho}

theorem adjust_upto (b n : Nat) (hb : b ≤ n) : Builtin.Slice.sliceAdjust none (some (b : Int)) 1 (n : Int) = (0, (b : Int)) := by
  unfold Builtin.Slice.sliceAdjust
  have h1 : ¬ ((1 : Int) < 0) := by omega
  have h2 : ¬ ((b : Int) < 0) := by omega
  simp only [h1, h2, if_false]
  congr 1
  omega
theorem places_upto (b : Nat) : Builtin.Slice.slicePlaces 0 (b : Int) 1 = b := by
  unfold Builtin.Slice.slicePlaces
  have h1 : (1 : Int) > 0 := by omega
  simp only [h1, if_true, Int.ediv_one]
  split <;> omega
section
variable {prog : Program} {w : World} {A : Around} {E : Value → Shared → Prop} {s : Shared}
theorem sliceApplied_upto {sl : Addr} {b n : Nat} {u : Tok} {Q : Int × Int × Nat → Shared → Prop} (hs : s.heap.IsSliceOf sl .none (.int b u) .none) (hb : b ≤ n) (h : Q (0, 1, b) s) :
    wpAny (model prog w) A (Builtin.Slice.sliceApplied (.ref sl) (pure (n : Int))) Q E s := by
  obtain ⟨os, hos, hcs, hds⟩ := id hs
  unfold Builtin.Slice.sliceApplied Builtin.Slice.sliceFields
  refine wpAny_bind (wpAny_bind (wpAny_field hos hds (x := .none) rfl (wpAny_bind (wpAny_field hos hds (x := .int b u) rfl (wpAny_bind (wpAny_field hos hds (x := .none) rfl (wpAny_pure ?_)))))))
  refine wpAny_bind (slicePart_none ?_)
  show wpAny _ _ (if ((1 : Int) == 0) = true then _ else _) _ _ s
  rw [if_neg (by decide)]
  refine wpAny_bind (slicePart_none (wpAny_bind (slicePart_int (wpAny_bind (wpAny_pure ?_)))))
  show wpAny _ _ (match Builtin.Slice.sliceAdjust none (some (b : Int)) 1 (n : Int) with | (lo, hi) => pure (lo, (1 : Int), Builtin.Slice.slicePlaces lo hi 1)) _ _ s
  rw [adjust_upto b n hb]
  show wpAny _ _ (pure ((0 : Int), (1 : Int), Builtin.Slice.slicePlaces 0 (b : Int) 1)) _ _ s
  rw [places_upto b]
  exact wpAny_pure h
theorem pick_upto (xs : Array Value) (b : Nat) : ((List.range b).filterMap fun (k : Nat) => xs[((0 : Int) + (k : Int) * 1).toNat]?).toArray = (xs.toList.take b).toArray := by
  have e : (fun (k : Nat) => xs[((0 : Int) + (k : Int) * 1).toNat]?) = fun k => xs[0 + k]? := by
    funext k
    have : ((0 : Int) + (k : Int) * 1).toNat = 0 + k := by omega
    rw [this]
  rw [e]
  have := pick_run xs 0 b
  rw [List.filterMap_map] at this
  have e2 : ((fun x => xs[x]?) ∘ fun x => 0 + x) = fun k => xs[0 + k]? := rfl
  rw [e2] at this
  rw [this]; simp
theorem getItem_tuple_upto {t sl : Addr} {items : Array Value} {b : Nat} {u : Tok} {Q : Value → Shared → Prop} (ht : IsTup s.heap t items) (hs : s.heap.IsSliceOf sl .none (.int b u) .none) (hb : b < items.size)
    (h : Q (.ref s.heap.objs.size) { s with heap := s.heap.push { cls := .type "tuple", data := .seq (items.toList.take b).toArray } })
    (hsz : items.size ≤ sizeLine := by size_fits) : wpAny (model prog w) A (getItem (.ref t) (.ref sl)) Q E s := by
  have hdrop : sizeOk (.seq (items.toList.take b).toArray) := by
    show (items.toList.take b).toArray.size ≤ sizeLine
    rw [List.size_toArray, List.length_take, Array.length_toList]
    omega
  obtain ⟨os, hos, hcs, hds⟩ := id hs
  have hTs : s.TypeIs (.ref sl) "slice" := ⟨os, hos, hcs⟩
  unfold getItem
  try with_reducible refine wpAny_holding ?_
  first | refine wpAny_bind (wpAny_pure ?_) | skip
  refine wpAny_bind (wpAny_sequenceKey ht.typeIs (by decide) ?_)
  refine wpAny_bind (wpAny_callSpecial?_slot (name := Str.ofString "__getitem__") ht.typeIs PySem.F.slot_tuple_getitem
    (wpAny_call_entry PySem.F.slot_tuple_getitem ht.typeIs PySem.F.entry_tuple_getitem ?_ (PySem.F.args_tuple_getitem_2 _ _)))
  show wpAny _ _ (Builtin.Tuple.tupleItemsOf (.ref t) >>= _) _ _ s
  refine wpAny_bind (tupleItemsOf_ ht ?_)
  refine wpAny_bind (wpAny_typeOf hTs ?_)
  rw [if_pos (by decide)]
  refine wpAny_bind (sliceApplied_upto hs (Nat.le_of_lt hb) ?_)
  have hno : ¬ (((0 : Int) == 0 && (1 : Int) == 1 && b == items.size) = true) := by
    have : (b == items.size) = false := by rw [beq_eq_false_iff_ne]; omega
    rw [this]; simp
  show wpAny _ _ (if ((0 : Int) == 0 && (1 : Int) == 1 && b == items.size) = true then _ else _) _ _ s
  rw [if_neg hno, pick_upto items b]
  first
    | exact wpAny_bind (m := Builtin.Tuple.tupleExact _) (wpAny_newObj_type (wpAny_pure ⟨_, rfl, wpAny_pure h⟩) hdrop)
    | exact wpAny_bind (m := Builtin.Tuple.tupleExact _) (wpAny_newObj_type (wpAny_bind (wpAny_pure (wpAny_pure ⟨_, rfl, wpAny_pure h⟩))) hdrop)
    | exact wpAny_bind (wpAny_bind (m := Builtin.Tuple.tupleExact _) (wpAny_newObj_type (wpAny_pure (wpAny_pure ⟨_, rfl, wpAny_pure h⟩)) hdrop))
    | exact wpAny_bind (wpAny_bind (m := Builtin.Tuple.tupleExact _) (wpAny_newObj_type (wpAny_pure ⟨_, rfl, wpAny_pure h⟩) hdrop))
end

theorem Ev_tup_upto {e f : PySem.Expr} {p pos : Pos} {l : List PV} {n : Nat} (he : Ev Θ A env ρ e (.tup l)) (hf : Ev Θ A env ρ f (.int (n : Int))) (hn : n < l.length) (hsz : l.length ≤ 1000) :
    Ev Θ A env ρ (.Subscript e (.Slice none (some f) none p) pos) (.tup (l.take n)) :=
  Ev_slice he .none (.some hf) fun σ s vo sl vl vu h h1 hs h2 h3 => by
    cases h3; cases h2
    obtain ⟨a, items, rfl, hl, hr⟩ := h1.isTuple h.le
    have e := hr.length
    rw [Array.length_toList] at e
    refine ⟨⟨"tuple", _, PySem.F.slot_tuple_getitem.lookup, hl.typeIs⟩, getItem_tuple_upto hl hs (by omega) ?_ (by rw [sizeLine_eq]; omega)⟩
    have x := new_obj (T := "tuple") (items := items.toList.take n) h.le
    exact ⟨_, x, .tup (Get.add_self ..) rfl rfl (by simpa using (hr.take n).mono x.sub)⟩

theorem reads_ints {h : Heap} {vs : List Value} {ns : List Int} (x : IntsAre vs ns) : ReadsAll h vs (ns.map PyData.int) [] := PySem.W.readsAll_of_ints x
theorem shaped_tup_ints (ns : List Int) : SeqAt.shaped (.tuple (ns.map PyData.int)) = true := by
  have h1 := PySem.W.depthAll_ints ns
  have h2 : PyData.depth (.tuple (ns.map PyData.int)) ≤ 64 := by simp only [PyData.depth]; omega
  show (PyData.canLay0 (.tuple (ns.map PyData.int)) && decide (PyData.depth (.tuple (ns.map PyData.int)) ≤ 64)) = true
  rw [Bool.and_eq_true]
  exact ⟨by simp only [PyData.canLay0]; exact PySem.W.canLayAll0_ints ns, decide_eq_true h2⟩
theorem cmp_ne_ints (R : Room A 0) (ns ms : List Int) : CmpOk Θ A .NotEq (.tup (ns.map PV.int)) (.tup (ms.map PV.int)) (!decide (ns = ms)) := fun σ s va vb h h1 h2 => by
  obtain ⟨a, xs, rfl, ⟨o, ho, hc, n, hd⟩, hxs⟩ := h1.isTuple h.le
  obtain ⟨b, ys, rfl, ⟨o', ho', hc', n', hd'⟩, hys⟩ := h2.isTuple h.le
  have hu : A.units + 64 < cLine := by have := R.units; omega
  refine ne_dataH_same (Reads.tuple ho hc hd (reads_ints hxs.ints)) (Reads.tuple ho' hc' hd' (reads_ints hys.ints)) (shaped_tup_ints ns) (shaped_tup_ints ms) hu
    (by (first | simp only [SeqAt.noMix] | simp only [PySem.Spec.noMix]); exact PySem.W.noMix_ints ns ms) ⟨σ, .refl h.le, ?_⟩
  simp only [PySem.Spec.same]; rw [PySem.W.same_ints]
theorem cmp_ne_none (R : Room A 0) : CmpOk Θ A .NotEq .none .none false := fun σ s va vb h h1 h2 => by
  cases h1; cases h2
  have hu : A.units + 64 < cLine := by have := R.units; omega
  exact ne_dataH_same (da := .none) (db := .none) .none .none (by decide) (by decide) hu (by decide) ⟨σ, .refl h.le, rfl⟩

end
end Mine
end
section
open PySem PySem.Calls PyProof.Rows PySem.Builtin.Str
set_option linter.unusedVariables false
namespace Mine
section
variable {Θ : Wd} {A : Around} {env : Env} {ρ : Rho}

def Kept (M : Model) (h : Heap) (f : Value) : Prop := ∃ k, (k = Keeper.frame ∨ k = Keeper.machine ∨ k = Keeper.boundFrame) ∧ PySem.W.Looks M h (keeperOf f) k
theorem kept_builtin {M : Model} {h : Heap} {id : String} : Kept M h (.builtin id) := ⟨_, .inr (.inl rfl), PySem.W.Looks.of_pure rfl⟩
theorem kept_type {M : Model} {h : Heap} {id : String} : Kept M h (.type id) := ⟨_, .inr (.inl rfl), PySem.W.Looks.of_pure rfl⟩
theorem kept_fn {M : Model} {h : Heap} {a : Addr} {o : Obj} {fd : FuncData} (ho : h.get? a = some o) (hd : o.data = .func fd) : Kept M h (.ref a) := by
  refine ⟨.frame, .inl rfl, fun A Q E s k q => ?_⟩
  unfold keeperOf
  refine wpAny_bind (wpAny_load (k _ _ ho) ?_)
  rw [hd]
  exact wpAny_pure q

theorem evs_trees {es : List PySem.Expr} {ps : List PV} (h : Evs Θ A env ρ es ps) (pos : Pos) : ∀ x ∈ backTo pos (starEach es env), x.1 = false := by
  induction h with
  | nil => intro x hx; cases hx
  | @cons e p es ps he hs _ ih =>
    rw [starEach_cons hs]
    intro x hx
    have hx' : x ∈ (false, eval e env) :: backTo pos (starEach es env) := hx
    rcases List.mem_cons.mp hx' with rfl | hx'
    · rfl
    · exact ih x hx'

theorem evalArgs_evs {pos : Pos} {f : Value} {es : List PySem.Expr} {ps : List PV} (h : Evs Θ A env ρ es ps) {σ : Get} {s : Shared} (R : Rd Θ env ρ σ s) :
    W Θ.prog Θ.w A (evalArgs f true (backTo pos (starEach es env)) []) σ s fun a σ' s' => ∃ vs, a = ⟨vs, []⟩ ∧ Rps Θ.prog Θ.w σ' vs ps := by
  have sp := spliced_evs (pos := pos) h σ s R
  cases h with
  | nil => exact evalArgs_nil3 ⟨σ, .refl R.le, [], rfl, .nil⟩
  | cons he hs hr =>
    rw [starEach_cons hs] at sp ⊢
    exact evalArgs_plain (wpAny_mono sp (fun vs s' ⟨σ', x, h⟩ => ⟨σ', x, vs, rfl, h⟩) fun _ _ e => e)

theorem callW {pos : Pos} {f : Value} {first : List Value} {es : List PySem.Expr} {ps : List PV} {σ : Get} {s : Shared} {P : Value → Get → Shared → Prop} (R : Rd Θ env ρ σ s) (hs : Evs Θ A env ρ es ps)
    (hk : Kept (model Θ.prog Θ.w) s.heap f) (hc : ∀ σ' s' vs, Ext σ s σ' s' → Rps Θ.prog Θ.w σ' vs ps → W Θ.prog Θ.w A (call f (first ++ vs)) σ' s' P) :
    W Θ.prog Θ.w A (callWith pos f first (backTo pos (starEach es env)) []) σ s P := by
  refine PySem.W.callWith_of (P := fun h => Sub s.heap.get? h.get?) ?_ (fun h k => ?_) ?_
  · have : (backTo pos (starEach es env)).any (·.1) = false := by
      rw [List.any_eq_false]; intro x hx; rw [evs_trees hs pos x hx]; exact Bool.false_ne_true
    rw [this]; rfl
  · obtain ⟨k', a, b⟩ := hk; exact ⟨k', a, b.keeps k⟩
  · refine (evalArgs_evs hs R).then fun a σ' s' x ⟨vs, e, hv⟩ => ?_
    subst e
    exact ⟨x.kp, W.after x (hc σ' s' vs x hv)⟩

theorem Ev_callee (O : Θ.Ok) {x : Str} {p pos : Pos} {es : List PySem.Expr} {ps : List PV} {fv : Value} {q : PV} (hf : Θ.gv x = some fv) (hk : env.kindOf x = some .globalImplicit) (hs : Evs Θ A env ρ es ps)
    (hkeep : Kept (model Θ.prog Θ.w) Θ.hb fv) (hc : ∀ σ s vs, At Θ A σ s → Rps Θ.prog Θ.w σ vs ps → W Θ.prog Θ.w A (call fv vs) σ s fun v σ' s' => Rp Θ.prog Θ.w σ' v q)
    (hd : (x == ("__debug__" : Str)) = false := by decide) : Ev Θ A env ρ (.Call (.Name x p) es [] pos) q := fun σ s R => by
  rw [arm_eval_Call_Name']
  refine wpAny_bind (name_global O R hk hf ?_ hd)
  refine callW R hs ?_ fun σ' s' vs x hv => ?_
  · obtain ⟨k', a, b⟩ := hkeep; exact ⟨k', a, b.keeps (R.base.trans R.le)⟩
  · exact hc σ' s' vs (R.ext x).at hv

theorem meth_gen {o : PySem.Expr} {name : Str} {apos pos : Pos} {args : List PySem.Expr} {σ : Get} {s : Shared} {P : Value → Get → Shared → Prop} {ps : List PV}
    (hs : Evs Θ A env ρ args ps)
    (h : W Θ.prog Θ.w A (eval o env) σ s fun ov σ₁ s₁ => ∃ T id, PlainAttrs T ∧ Slot T name id ∧ typeOf (.builtin id) = pure (.type "method_descriptor") ∧ s₁.TypeIs ov T ∧ (∀ a, ov = .ref a → ∃ ob, s₁.heap.get? a = some ob ∧ ob.dict = none) ∧
      W Θ.prog Θ.w A (callWith pos (.builtin id) [ov] (backTo pos (starEach args env)) []) σ₁ s₁ P)
    (hlen : args.length < 30 := by decide)
    (hbase : attributeBase o name env (eval o env) = eval o env := by rfl) (hline : (apos.endLine == pos.line) = true := by rfl) :
    W Θ.prog Θ.w A (eval (.Call (.Attribute o name apos) args [] pos) env) σ s P := by
  refine wpAny_Call_method_late hbase ?_ hline rfl (h.then fun ov σ₁ s₁ x ⟨T, id, h1, h2, h3, h4, h5, h6⟩ => ⟨T, id, h1, h2, h3, h4, h5, W.after x h6⟩)
  have : (backTo pos (starEach args env)).all (fun x => !x.1) = true := by
    rw [List.all_eq_true]; intro x hx; rw [evs_trees hs pos x hx]; rfl
  rw [this]
  show (true && true && decide (args.length + 0 + 0 < 30)) = true
  rw [Bool.and_true, Bool.true_and]
  exact decide_eq_true hlen

theorem Ev_meth {o : PySem.Expr} {name : Str} {apos pos : Pos} {args : List PySem.Expr} {ps : List PV} {q po : PV} {T id : String} (ho : Ev Θ A env ρ o po) (hs : Evs Θ A env ρ args ps)
    (pa : PlainAttrs T) (slot : Slot T name id) (hty : typeOf (.builtin id) = pure (.type "method_descriptor"))
    (hT : ∀ σ s v, At Θ A σ s → Rp Θ.prog Θ.w σ v po → s.TypeIs v T ∧ ∀ a, v = .ref a → ∃ ob, s.heap.get? a = some ob ∧ ob.dict = none)
    (hc : ∀ σ s v vs, At Θ A σ s → Rp Θ.prog Θ.w σ v po → Rps Θ.prog Θ.w σ vs ps → W Θ.prog Θ.w A (call (.builtin id) (v :: vs)) σ s fun v σ' s' => Rp Θ.prog Θ.w σ' v q)
    (hlen : args.length < 30 := by decide)
    (hbase : attributeBase o name env (eval o env) = eval o env := by rfl) (hline : (apos.endLine == pos.line) = true := by rfl) :
    Ev Θ A env ρ (.Call (.Attribute o name apos) args [] pos) q := fun σ s R =>
  meth_gen hs ((ho σ s R).mono fun v σ₁ s₁ x₁ h₁ => by
    have R₁ := R.ext x₁
    obtain ⟨t, d⟩ := hT σ₁ s₁ v R₁.at h₁
    exact ⟨T, id, pa, slot, hty, t, d, callW R₁ hs kept_builtin fun σ' s' vs x hv => hc σ' s' v vs (R₁.ext x).at (h₁.mono x.sub) hv⟩) hlen hbase hline

end
end Mine
end
section
open PySem PySem.Calls PyProof.Rows PySem.Builtin.Str
set_option linter.unusedVariables false
namespace Mine

/-- the address stands apart from the frame's own -/
structure Off (env : Env) (π : Get) (a : Addr) : Prop where
  p : π a = none
  l : a ≠ env.locals
  c : ∀ y c, (y, c) ∈ env.cells → c ≠ a

structure StM (Θ : Wd) (s₀ : Shared) (σ₀ : Get) (env : Env) (π σ : Get) (ρ : Rho) (m : Str → Option Value) (s : Shared) : Prop where
  base : Sub Θ.hb.get? σ₀
  sub : Sub σ₀ σ
  le : Sub σ s.heap.get?
  πle : Sub π s.heap.get?
  hπ : Sub s₀.heap.get? π
  frs : ∀ a o, σ a = some o → σ₀ a = some o ∨ π a = none
  os : s.os = s₀.os
  dr : s.drawn = s₀.drawn
  gens : GExt s₀.gens s.gens
  fs : FS env s.heap m
  lo : π env.locals = none ∧ σ env.locals = none
  ce : ∀ x c, (x, c) ∈ env.cells → (env.func.isSome = true → π c = none) ∧ σ c = none ∧ c ≠ env.locals
  b : ∀ x b, ρ.lookup x = some b → ∃ v, m x = some v ∧ RpB Θ σ s.heap v b ∧ (b.own = true → ∀ a, v = .ref a → Off env π a)
  inj : ∀ x y b c a, ρ.lookup x = some b → ρ.lookup y = some c → b.own = true → c.own = true → m x = some (.ref a) → m y = some (.ref a) → x = y

def St (Θ : Wd) (s₀ : Shared) (σ₀ : Get) (env : Env) (π σ : Get) (ρ : Rho) (s : Shared) : Prop := ∃ m, StM Θ s₀ σ₀ env π σ ρ m s

section
variable {Θ : Wd} {A : Around} {env : Env} {ρ : Rho} {s₀ : Shared} {σ₀ π σ : Get} {s : Shared} {m : Str → Option Value}

theorem StM.rd (S : StM Θ s₀ σ₀ env π σ ρ m s) : Rd Θ env ρ σ s := ⟨S.base.trans S.sub, S.le, m, S.fs, fun x b e => let ⟨v, h1, h2, _⟩ := S.b x b e; ⟨v, h1, h2⟩⟩
theorem St.rd (S : St Θ s₀ σ₀ env π σ ρ s) : Rd Θ env ρ σ s := let ⟨_, h⟩ := S; h.rd
theorem StM.ext {σ' : Get} {s' : Shared} (S : StM Θ s₀ σ₀ env π σ ρ m s) (x : Ext σ s σ' s') : StM Θ s₀ σ₀ env π σ' ρ m s' where
  base := S.base
  sub := S.sub.trans x.sub
  le := x.le
  πle := S.πle.trans x.kp
  hπ := S.hπ
  frs := fun a o e => (x.frs a o e).elim (S.frs a o) fun n => .inr (none_of_sub S.πle n)
  os := x.os.trans S.os
  dr := x.dr.trans S.dr
  gens := S.gens.trans x.gens
  fs := S.fs.keeps x.kp
  lo := ⟨S.lo.1, by
    cases q : σ' env.locals with
    | none => rfl
    | some o =>
      rcases x.frs _ _ q with e | e
      · rw [S.lo.2] at e; cases e
      · obtain ⟨_, ⟨o', _, _, ho, _⟩, _⟩ := S.fs.ns; rw [ho] at e; cases e⟩
  ce := fun y c hc => by
    refine ⟨(S.ce y c hc).1, ?_, (S.ce y c hc).2.2⟩
    cases q : σ' c with
    | none => rfl
    | some o =>
      rcases x.frs _ _ q with e | e
      · rw [(S.ce y c hc).2.1] at e; cases e
      · obtain ⟨o', ho, _⟩ := S.fs.cell y c hc
        rw [ho] at e; cases e
  b := fun y b e => let ⟨v, h1, h2, h3⟩ := S.b y b e; ⟨v, h1, h2.ext x, h3⟩
  inj := S.inj
theorem St.ext {σ' : Get} {s' : Shared} (S : St Θ s₀ σ₀ env π σ ρ s) (x : Ext σ s σ' s') : St Θ s₀ σ₀ env π σ' ρ s' := let ⟨m, h⟩ := S; ⟨m, h.ext x⟩
theorem StM.less {ρ₂ : Rho} (S : StM Θ s₀ σ₀ env π σ ρ m s) (k : Le ρ₂ ρ) : StM Θ s₀ σ₀ env π σ ρ₂ m s :=
  { S with b := fun x b e => S.b x b (k x b e), inj := fun x y b c a e1 e2 => S.inj x y b c a (k x b e1) (k y c e2) }
theorem St.less {ρ₂ : Rho} (S : St Θ s₀ σ₀ env π σ ρ s) (k : Le ρ₂ ρ) : St Θ s₀ σ₀ env π σ ρ₂ s := let ⟨m, h⟩ := S; ⟨m, h.less k⟩

/-- a bound object stands as long as its own address is not touched -/
theorem RpB.same {h h' : Heap} {v : Value} {b : Bd} {a : Addr} (x : RpB Θ σ h v b) (hs : Heap.SameBut a h h') (hne : b.own = true → v ≠ .ref a) : RpB Θ σ h' v b := by
  cases x with
  | sh p => exact .sh p
  | od n d lo k => exact .od n (d.sameBut hs fun e => hne rfl (by rw [e])) lo k
  | ol n d k => exact .ol n (d.extBut hs.extBut fun e => hne rfl (by rw [e])) k

/-- a name is bound -/
theorem StM.put {x : Str} {v : Value} {b : Bd} (S : StM Θ s₀ σ₀ env π σ ρ m s) (hk : KdS env x) (hb : RpB Θ σ s.heap v b)
    (hown : b.own = true → ∀ a, v = .ref a → Off env π a ∧ ∀ y c, ρ.lookup y = some c → c.own = true → y ≠ x → m y ≠ some (.ref a)) {Q : Unit → Shared → Prop} {E : Value → Shared → Prop}
    (hQ : ∀ s', StM Θ s₀ σ₀ env π σ ((x, b) :: ρ) (fun y => if y = x then some v else m y) s' → Q () s') : wpAny (model Θ.prog Θ.w) A (storeName env x v) Q E s := by
  have key : ∀ (a : Addr) (h' : Heap) (tk : Nat), (a = env.locals ∨ (env.func.isSome = true ∧ ∃ y, (y, a) ∈ env.cells)) → Heap.SameBut a s.heap h' → FS env h' (fun y => if y = x then some v else m y) →
      StM Θ s₀ σ₀ env π σ ((x, b) :: ρ) (fun y => if y = x then some v else m y) { s with heap := h', toks := tk } := by
    intro a h' tk ha hs hf
    have hπ : π a = none ∧ σ a = none := by
      rcases ha with rfl | ⟨hf', y, hy⟩
      · exact S.lo
      · exact ⟨(S.ce y a hy).1 hf', (S.ce y a hy).2.1⟩
    have off : ∀ c, Off env π c → c ≠ a := fun c o => by
      rcases ha with rfl | ⟨_, y, hy⟩
      · exact o.l
      · exact Ne.symm (o.c y a hy)
    have kp : ∀ τ : Get, Sub τ s.heap.get? → τ a = none → Sub τ h'.get? := fun τ h n b o e => by
      have : b ≠ a := by rintro rfl; rw [n] at e; cases e
      exact (hs.2 b this).trans (h b o e)
    refine ⟨S.base, S.sub, kp σ S.le hπ.2, kp π S.πle hπ.1, S.hπ, S.frs, S.os, S.dr, S.gens, hf, S.lo, S.ce, fun y c e => ?_, fun y z c d a' e1 e2 o1 o2 m1 m2 => ?_⟩
    · rw [List.lookup_cons] at e
      by_cases hy : y = x
      · subst hy
        simp only [beq_self_eq_true] at e
        cases e
        refine ⟨v, if_pos rfl, hb.same hs fun o q => ?_, fun o a' q => (hown o a' q).1⟩
        exact absurd rfl (off _ (hown o a q).1)
      · have hy' : (y == x) = false := by simpa using hy
        simp only [hy'] at e
        obtain ⟨u, h1, h2, h3⟩ := S.b y c e
        exact ⟨u, by simpa [hy] using h1, h2.same hs fun o q => absurd rfl (off _ (h3 o a q)), h3⟩
    · rw [List.lookup_cons] at e1 e2
      by_cases hy : y = x <;> by_cases hz : z = x
      · rw [hy, hz]
      · subst hy
        have hz' : (z == y) = false := by simpa using hz
        simp only [hz', beq_self_eq_true] at e1 e2
        cases e1
        simp only [if_true, if_neg hz] at m1 m2
        cases m1
        exact absurd m2 ((hown o1 a' rfl).2 z d e2 o2 hz)
      · subst hz
        have hy' : (y == z) = false := by simpa using hy
        simp only [hy', beq_self_eq_true] at e1 e2
        cases e2
        simp only [if_true, if_neg hy] at m1 m2
        cases m2
        exact absurd m1 ((hown o2 a' rfl).2 y c e1 o1 hy)
      · have hy' : (y == x) = false := by simpa using hy
        have hz' : (z == x) = false := by simpa using hz
        simp only [hy', hz'] at e1 e2
        simp only [if_neg hy, if_neg hz] at m1 m2
        exact S.inj y z c d a' e1 e2 o1 o2 m1 m2
  rcases hk with hk | ⟨hk, hc, hfn⟩
  · obtain ⟨ml, hn, he⟩ := S.fs.ns
    refine wpAny_storeName_local hk hn (fun h' hn' hs => hQ _ (key env.locals h' _ (.inl rfl) hs ⟨S.fs.fn, S.fs.gl, S.fs.bu, ⟨_, hn', fun y hy => ?_⟩, fun y c hy => ?_, S.fs.apart, S.fs.kc⟩)) (by rw [S.fs.fn]; rfl)
    · by_cases e : y = x
      · simp [e]
      · simp only [if_neg e]; exact he y hy
    · have hyx : y ≠ x := by rintro rfl; rw [(S.fs.kc y c hy).1] at hk; cases hk
      simp only [if_neg hyx]
      exact (S.fs.cell y c hy).sameBut hs (S.ce y c hy).2.2
  · obtain ⟨c, hc⟩ := Option.isSome_iff_exists.mp hc
    have hcm := mem_of_lookup hc
    refine wpAny_storeName_cell S.fs.fn hk hc (S.fs.cell x c hcm) fun h' hc' hs => hQ _ (key c h' _ (.inr ⟨hfn, x, hcm⟩) hs ⟨S.fs.fn, S.fs.gl, S.fs.bu, ?_, fun y d hy => ?_, S.fs.apart, S.fs.kc⟩)
    · obtain ⟨ml, hn, he⟩ := S.fs.ns
      refine ⟨ml, hn.sameBut hs (Ne.symm (S.ce x c hcm).2.2), fun y hy => ?_⟩
      have : y ≠ x := by rintro rfl; rw [hk] at hy; cases hy
      simp only [if_neg this]; exact he y hy
    · by_cases e : y = x
      · subst e
        have : d = c := by have q := (S.fs.kc y d hy).2; rw [hc] at q; exact (Option.some.inj q).symm
        subst this
        simpa using hc'
      · simp only [if_neg e]
        exact (S.fs.cell y d hy).sameBut hs fun q => e (name_of_addr S.fs.apart hy (q ▸ hcm))
end
end Mine
end
section
open PySem PySem.Calls PyProof.Rows PySem.Builtin.Str
set_option linter.unusedVariables false
namespace Mine
section
variable {Θ : Wd} {A : Around} {env : Env} {ρ : Rho} {s₀ : Shared} {σ₀ π σ : Get} {s : Shared} {m : Str → Option Value}

/-- an owned object is changed -/
theorem StM.mut {x : Str} {d : Addr} {b b' : Bd} {h' : Heap} {tk : Nat} (S : StM Θ s₀ σ₀ env π σ ρ m s) (hr : ρ.lookup x = some b) (ho : b.own = true) (hm : m x = some (.ref d)) (ho' : b'.own = true)
    (hs : Heap.SameBut d s.heap h') (hb : RpB Θ σ h' (.ref d) b') : StM Θ s₀ σ₀ env π σ ((x, b') :: ρ) m { s with heap := h', toks := tk } := by
  obtain ⟨v, hv, hp, hoff⟩ := S.b x b hr
  rw [hm] at hv; cases hv
  have off := hoff ho d rfl
  have nσ : σ d = none := by cases hb <;> first | assumption | cases ho'
  have kp : ∀ τ : Get, Sub τ s.heap.get? → τ d = none → Sub τ h'.get? := fun τ h n b o e => by
    have : b ≠ d := by rintro rfl; rw [n] at e; cases e
    exact (hs.2 b this).trans (h b o e)
  refine ⟨S.base, S.sub, kp σ S.le nσ, kp π S.πle off.p, S.hπ, S.frs, S.os, S.dr, S.gens, ⟨S.fs.fn, S.fs.gl, S.fs.bu, ?_, fun y c hy => ?_, S.fs.apart, S.fs.kc⟩, S.lo, S.ce, fun y c e => ?_, fun y z c e a' e1 e2 o1 o2 m1 m2 => ?_⟩
  · obtain ⟨ml, hn, he⟩ := S.fs.ns
    exact ⟨ml, hn.sameBut hs (Ne.symm off.l), he⟩
  · exact (S.fs.cell y c hy).sameBut hs (off.c y c hy)
  · rw [List.lookup_cons] at e
    by_cases hy : y = x
    · subst hy
      simp only [beq_self_eq_true] at e
      cases e
      exact ⟨.ref d, hm, hb, fun _ a q => by cases q; exact off⟩
    · have hy' : (y == x) = false := by simpa using hy
      simp only [hy'] at e
      obtain ⟨u, h1, h2, h3⟩ := S.b y c e
      exact ⟨u, h1, h2.same hs fun o q => hy (S.inj y x c b d e hr o ho (q ▸ h1) hm), h3⟩
  · rw [List.lookup_cons] at e1 e2
    by_cases hy : y = x <;> by_cases hz : z = x
    · rw [hy, hz]
    · subst hy
      have hz' : (z == y) = false := by simpa using hz
      simp only [hz', beq_self_eq_true] at e1 e2
      exact S.inj y z b e a' hr e2 ho o2 m1 m2
    · subst hz
      have hy' : (y == z) = false := by simpa using hy
      simp only [hy', beq_self_eq_true] at e1 e2
      exact S.inj y z c b a' e1 hr o1 ho m1 m2
    · have hy' : (y == x) = false := by simpa using hy
      have hz' : (z == x) = false := by simpa using hz
      simp only [hy', hz'] at e1 e2
      exact S.inj y z c e a' e1 e2 o1 o2 m1 m2

/-- an owned object is given up: it is a value from here on -/
theorem StM.freeze {x : Str} {b : Bd} {p : PV} (S : StM Θ s₀ σ₀ env π σ ρ m s) (hr : ρ.lookup x = some b) (hp : (∃ l, b = .od l ∧ p = .dic l) ∨ ∃ l, b = .ol l ∧ p = .lst l) :
    ∃ σ', Sub σ σ' ∧ StM Θ s₀ σ₀ env π σ' ((x, .sh p) :: ρ) m s := by
  obtain ⟨v, hv, hb, hoff⟩ := S.b x b hr
  have ho : b.own = true := by rcases hp with ⟨l, rfl, _⟩ | ⟨l, rfl, _⟩ <;> rfl
  obtain ⟨d, o, rfl, nσ, hd, hval⟩ : ∃ d o, v = .ref d ∧ σ d = none ∧ s.heap.get? d = some o ∧ Rp Θ.prog Θ.w (σ.add d o) (.ref d) p := by
    rcases hp with ⟨l, rfl, rfl⟩ | ⟨l, rfl, rfl⟩
    · cases hb with
      | od n hd lo hk =>
        obtain ⟨o, ho, hdo⟩ := Heap.dictOf_iff.mp hd
        exact ⟨_, o, rfl, n, ho, .dic (Get.add_self ..) hdo lo (hk.mono (Sub.add o n))⟩
    · cases hb with
      | ol n hd hk =>
        obtain ⟨e, ho⟩ := hd
        exact ⟨_, _, rfl, n, ho, .lst (Get.add_self ..) rfl rfl (hk.mono (Sub.add _ n))⟩
  have off := hoff ho d rfl
  refine ⟨σ.add d o, Sub.add o nσ, ⟨S.base, S.sub.trans (Sub.add o nσ), fun a q e => ?_, S.πle, S.hπ, fun a q e => ?_, S.os, S.dr, S.gens, S.fs, ⟨S.lo.1, ?_⟩, fun y c hc => ⟨(S.ce y c hc).1, ?_, (S.ce y c hc).2.2⟩, fun y c e => ?_, fun y z c e a' e1 e2 o1 o2 m1 m2 => ?_⟩⟩
  · unfold Get.add at e; split at e
    · rename_i r; subst r; cases e; exact hd
    · exact S.le _ _ e
  · unfold Get.add at e; split at e
    · rename_i r; subst r; exact .inr off.p
    · exact S.frs _ _ e
  · unfold Get.add; rw [if_neg (Ne.symm off.l)]; exact S.lo.2
  · unfold Get.add; rw [if_neg (off.c y c hc)]; exact (S.ce y c hc).2.1
  · rw [List.lookup_cons] at e
    by_cases hy : y = x
    · subst hy
      simp only [beq_self_eq_true] at e
      cases e
      exact ⟨.ref d, hv, .sh hval, fun o => by cases o⟩
    · have hy' : (y == x) = false := by simpa using hy
      simp only [hy'] at e
      obtain ⟨u, h1, h2, h3⟩ := S.b y c e
      refine ⟨u, h1, ?_, h3⟩
      cases h2 with
      | sh h => exact .sh (h.mono (Sub.add o nσ))
      | @od d' kvs l n hd' lo hk =>
        have : d' ≠ d := fun q => hy (S.inj y x _ b d e hr rfl ho (q ▸ h1) hv)
        exact .od (by unfold Get.add; rw [if_neg this]; exact n) hd' lo (hk.mono (Sub.add o nσ))
      | @ol d' vs l n hd' hk =>
        have : d' ≠ d := fun q => hy (S.inj y x _ b d e hr rfl ho (q ▸ h1) hv)
        exact .ol (by unfold Get.add; rw [if_neg this]; exact n) hd' (hk.mono (Sub.add o nσ))
  · rw [List.lookup_cons] at e1 e2
    by_cases hy : y = x
    · subst hy
      simp only [beq_self_eq_true] at e1
      cases e1; cases o1
    · by_cases hz : z = x
      · subst hz
        simp only [beq_self_eq_true] at e2
        cases e2; cases o2
      · have hy' : (y == x) = false := by simpa using hy
        have hz' : (z == x) = false := by simpa using hz
        simp only [hy', hz'] at e1 e2
        exact S.inj y z c e a' e1 e2 o1 o2 m1 m2

inductive Out where
  | next (ρ : Rho)
  | ret (p : PV)

def Done (Θ : Wd) (s₀ : Shared) (σ₀ : Get) (env : Env) (π σ : Get) (P : Out → Prop) (f : Flow) (s' : Shared) : Prop := match f with
  | .next => ∃ ρ' σ', P (.next ρ') ∧ Sub σ σ' ∧ St Θ s₀ σ₀ env π σ' ρ' s'
  | .ret v => ∃ p σ', P (.ret p) ∧ Ext σ₀ s₀ σ' s' ∧ Rp Θ.prog Θ.w σ' v p
  | _ => False
theorem Done.mono {P P' : Out → Prop} {σ₁ : Get} {f : Flow} {s' : Shared} (h : Done Θ s₀ σ₀ env π σ₁ P f s') (k : ∀ o, P o → P' o) (hs : Sub σ σ₁) : Done Θ s₀ σ₀ env π σ P' f s' := by
  cases f with
  | next => obtain ⟨ρ', σ', a, b, c⟩ := h; exact ⟨ρ', σ', k _ a, hs.trans b, c⟩
  | ret v => obtain ⟨p, σ', a, b⟩ := h; exact ⟨p, σ', k _ a, b⟩
  | brk => exact h
  | cont => exact h

/-- a statement's (or a block's) meaning over the bindings -/
def X (Θ : Wd) (A : Around) (env : Env) (t : Sem Flow) (ρ : Rho) (P : Out → Prop) : Prop :=
  ∀ s₀ σ₀ π σ s, St Θ s₀ σ₀ env π σ ρ s → wpAny (model Θ.prog Θ.w) A t (Done Θ s₀ σ₀ env π σ P) (fun _ _ => False) s

variable {P P' : Out → Prop} {t : Sem Flow}
theorem X.mono (h : X Θ A env t ρ P) (k : ∀ o, P o → P' o) : X Θ A env t ρ P' := fun s₀ σ₀ π σ s S => wpAny_mono (h s₀ σ₀ π σ s S) (fun f s' d => d.mono k (.refl _)) fun _ _ e => e
theorem X.less {ρ₂ : Rho} (h : X Θ A env t ρ₂ P) (k : Le ρ₂ ρ) : X Θ A env t ρ P := fun s₀ σ₀ π σ s S => h s₀ σ₀ π σ s (S.less k)
theorem X.freeze {x : Str} {b : Bd} {p : PV} (hr : ρ.lookup x = some b) (hp : (∃ l, b = .od l ∧ p = .dic l) ∨ ∃ l, b = .ol l ∧ p = .lst l) (h : X Θ A env t ((x, .sh p) :: ρ) P) : X Θ A env t ρ P := fun s₀ σ₀ π σ s S => by
  obtain ⟨m, S⟩ := S
  obtain ⟨σ', hs, S'⟩ := S.freeze hr hp
  exact wpAny_mono (h s₀ σ₀ π σ' s ⟨m, S'⟩) (fun f s' d => d.mono (fun _ q => q) hs) fun _ _ e => e
theorem X_freeze_d {x : Str} {l : List (Str × PV)} (hr : ρ.lookup x = some (.od l)) (h : X Θ A env t ((x, .sh (.dic l)) :: ρ) P) : X Θ A env t ρ P := X.freeze hr (.inl ⟨l, rfl, rfl⟩) h
theorem X_freeze_l {x : Str} {l : List PV} (hr : ρ.lookup x = some (.ol l)) (h : X Θ A env t ((x, .sh (.lst l)) :: ρ) P) : X Θ A env t ρ P := X.freeze hr (.inr ⟨l, rfl, rfl⟩) h

theorem X_nil (h : P (.next ρ)) : X Θ A env (execs [] env) ρ P := fun s₀ σ₀ π σ s S => wpAny_execs_nil ⟨ρ, σ, h, .refl _, S⟩
def Then (Θ : Wd) (A : Around) (env : Env) (rest : List Stmt) (P : Out → Prop) : Out → Prop
  | .next ρ' => X Θ A env (execs rest env) ρ' P
  | .ret p => P (.ret p)
theorem X_cons {st : Stmt} {rest : List Stmt} (h : X Θ A env (exec st env) ρ (Then Θ A env rest P)) : X Θ A env (execs (st :: rest) env) ρ P := fun s₀ σ₀ π σ s S => by
  refine wpAny_execs_cons (wpAny_mono (h s₀ σ₀ π σ s S) (fun f s' d => ?_) fun _ _ e => e)
  cases f with
  | next =>
    obtain ⟨ρ', σ', a, b, c⟩ := d
    exact wpAny_mono (a s₀ σ₀ π σ' s' c) (fun f s'' d => d.mono (fun _ q => q) b) fun _ _ e => e
  | ret v => exact d
  | brk => exact d
  | cont => exact d

/-- the end of a call -/
theorem StM.fin {σ' : Get} {s' : Shared} {v : Value} {p : PV} (S : StM Θ s₀ σ₀ env π σ ρ m s) (x : Ext σ s σ' s') (hp : P (.ret p)) (hv : Rp Θ.prog Θ.w σ' v p) : Done Θ s₀ σ₀ env π σ P (.ret v) s' :=
  have S' := S.ext x
  ⟨p, σ', hp, ⟨S'.sub, S'.le, S'.hπ.trans S'.πle, fun a o e => (S'.frs a o e).imp id fun n => none_of_sub S'.hπ n, S'.os, S'.dr, S'.gens⟩, hv⟩
theorem X_ret {e : PySem.Expr} {pos : Pos} {p : PV} (he : Ev Θ A env ρ e p) (h : P (.ret p)) : X Θ A env (exec (.Return (some e) pos) env) ρ P := fun s₀ σ₀ π σ s ⟨m, S⟩ =>
  wpAny_Return_some ((he σ s S.rd).then fun v σ' s' x hv => S.fin x h hv)

theorem X_assign {x : Str} {pos' pos : Pos} {e : PySem.Expr} {p : PV} (he : Ev Θ A env ρ e p) (hk : KdS env x) (h : P (.next ((x, .sh p) :: ρ)))
    (hs : swapsWith e (some (.Name x pos')) pos.line env = pure false := by rfl) : X Θ A env (exec (.Assign [.Name x pos'] e pos) env) ρ P := fun s₀ σ₀ π σ s ⟨m, S⟩ => by
  refine wpAny_Assign_Name ((he σ s S.rd).then fun v σ' s' x hv => ?_) hs
  exact (S.ext x).put hk (.sh hv) (fun o => by cases o) fun s'' S'' => ⟨_, σ', h, x.sub, _, S''⟩

theorem X_aug {x : Str} {pos' pos : Pos} {op : Operator} {e : PySem.Expr} {p q r : PV} (hr : ρ.lookup x = some (.sh p)) (he : Ev Θ A env ρ e q) (hk : KdS env x)
    (hop : ∀ σ s va vb, At Θ A σ s → Rp Θ.prog Θ.w σ va p → Rp Θ.prog Θ.w σ vb q → W Θ.prog Θ.w A (inplaceOp op va vb) σ s fun v σ' s' => Rp Θ.prog Θ.w σ' v r)
    (h : P (.next ((x, .sh r) :: ρ))) : X Θ A env (exec (.AugAssign (.Name x pos') op e pos) env) ρ P := fun s₀ σ₀ π σ s ⟨m, S⟩ => by
  obtain ⟨v, hv, hb, _⟩ := S.b x _ hr
  cases hb with
  | sh hv' =>
    refine wpAny_AugAssign_Name (name_local S.fs hk.kd hv ?_)
    refine (he σ s S.rd).then fun u σ₁ s₁ x₁ h₁ => ?_
    refine (hop σ₁ s₁ v u (S.ext x₁).rd.at (hv'.mono x₁.sub) h₁).then fun r' σ₂ s₂ x₂ h₂ => ?_
    exact ((S.ext x₁).ext x₂).put hk (.sh h₂) (fun o => by cases o) fun s'' S'' => ⟨_, σ₂, h, x₁.sub.trans x₂.sub, _, S''⟩

theorem X_if {e : PySem.Expr} {body orelse : List Stmt} {pos : Pos} {b : Bool} (he : Tv Θ A env ρ e b) (h1 : b = true → X Θ A env (execs body env) ρ P) (h0 : b = false → X Θ A env (execs orelse env) ρ P) :
    X Θ A env (exec (.If e body orelse pos) env) ρ P := fun s₀ σ₀ π σ s ⟨m, S⟩ => by
  refine wpAny_If ((he σ s S.rd).then fun c σ' s' x e => ?_)
  subst e
  have S' := S.ext x
  cases c with
  | true => exact wpAny_mono (h1 rfl s₀ σ₀ π σ' s' ⟨m, S'⟩) (fun f s'' d => d.mono (fun _ q => q) x.sub) fun _ _ e => e
  | false => exact wpAny_mono (h0 rfl s₀ σ₀ π σ' s' ⟨m, S'⟩) (fun f s'' d => d.mono (fun _ q => q) x.sub) fun _ _ e => e

/-- a fresh empty dict | list under a name -/
theorem fresh_off (S : StM Θ s₀ σ₀ env π σ ρ m s) : Off env π s.heap.objs.size ∧ σ s.heap.objs.size = none ∧ ∀ y c, ρ.lookup y = some c → c.own = true → m y ≠ some (.ref s.heap.objs.size) := by
  refine ⟨⟨none_of_sub S.πle (get?_size _), ?_, fun y c hc => ?_⟩, none_of_sub S.le (get?_size _), fun y c e o q => ?_⟩
  · obtain ⟨_, hn, _⟩ := S.fs.ns
    exact Nat.ne_of_gt hn.lt
  · exact Nat.ne_of_lt (S.fs.cell y c hc).lt
  · obtain ⟨v, h1, h2, _⟩ := S.b y c e
    rw [q] at h1; cases h1
    cases h2 with
    | sh => cases o
    | od n hd lo hk => obtain ⟨o', _, _, ho, _⟩ := hd; exact absurd (Heap.lt_size ho) (Nat.lt_irrefl _)
    | ol n hd hk => obtain ⟨_, ho⟩ := hd; exact absurd (Heap.lt_size ho) (Nat.lt_irrefl _)
theorem X_new_dict (O : Θ.Ok) {x : Str} {pos' pos'' pos : Pos} (hk : KdS env x) (h : P (.next ((x, .od []) :: ρ))) : X Θ A env (exec (.Assign [.Name x pos'] (.Dict [] [] pos'') pos) env) ρ P := fun s₀ σ₀ π σ s ⟨m, S⟩ => by
  refine wpAny_Assign_Name ?_ rfl
  rw [eval_Dict_empty]
  refine wpAny_bind (wpAny_standAt (wpAny_newObj_type ?_))
  obtain ⟨off, nσ, hne⟩ := fresh_off S
  have x₁ : Ext σ s σ { s with heap := s.heap.push { cls := .type "dict", data := .dict #[] } } := Ext.heap S.le (push_keep _ _) s.toks
  exact (S.ext x₁).put hk (.od nσ (Heap.DictOf.new s.heap) (S.rd.at (A := A)|>.big O) .nil) (fun _ a e => by cases e; exact ⟨off, fun y c e o _ => hne y c e o⟩) fun s'' S'' => ⟨_, σ, h, .refl _, _, S''⟩
theorem X_new_list {x : Str} {pos' pos'' pos : Pos} (hk : KdS env x) (h : P (.next ((x, .ol []) :: ρ))) : X Θ A env (exec (.Assign [.Name x pos'] (.List [] pos'') pos) env) ρ P := fun s₀ σ₀ π σ s ⟨m, S⟩ => by
  refine wpAny_Assign_Name ?_ rfl
  rw [arm_eval_List]
  refine wpAny_bind (wpAny_standAt (wpAny_bind (wpAny_pure ?_)))
  refine wpAny_newList ?_ (Nat.zero_le _)
  obtain ⟨off, nσ, hne⟩ := fresh_off S
  have x₁ : Ext σ s σ { s with heap := s.heap.push { cls := .type "list", data := .seq #[] } } := Ext.heap S.le (push_keep _ _) s.toks
  exact (S.ext x₁).put hk (.ol nσ ⟨0, Heap.get?_push_size _ rfl⟩ .nil) (fun _ a e => by cases e; exact ⟨off, fun y c e o _ => hne y c e o⟩) fun s'' S'' => ⟨_, σ, h, .refl _, _, S''⟩

/-- own[k] = e -/
theorem X_store {x : Str} {i e : PySem.Expr} {px pos' pos : Pos} {l : List (Str × PV)} {k : Str} {p : PV} (hr : ρ.lookup x = some (.od l)) (hk : Kd env x) (he : Ev Θ A env ρ e p) (hi : Ev Θ A env ρ i (.str k)) (hsz : l.length ≤ 1000000)
    (h : P (.next ((x, .od (putAt l k p)) :: ρ)))
    (hs : swapsWith e (some (.Subscript (.Name x px) i pos')) pos.line env = pure false := by rfl) (hd : (x == ("__debug__" : Str)) = false := by decide) :
    X Θ A env (exec (.Assign [.Subscript (.Name x px) i pos'] e pos) env) ρ P := fun s₀ σ₀ π σ s ⟨m, S⟩ => by
  refine wpAny_Assign_Subscript ((he σ s S.rd).then fun v σ₁ s₁ x₁ h₁ => ?_) hs
  have S₁ := S.ext x₁
  obtain ⟨u, hu, hb, _⟩ := S₁.b x _ hr
  cases hb with
  | @od d kvs l' n hdo lo hkv =>
    refine wpAny_Name (name_local S₁.fs hk hu ?_) hd
    refine (hi σ₁ s₁ S₁.rd).then fun kv σ₂ s₂ x₂ h₂ => ?_
    cases h₂ with
    | str k t =>
      have S₂ := S₁.ext x₂
      obtain ⟨u', hu', hb', _⟩ := S₂.b x _ hr
      rw [hu] at hu'; cases hu'
      cases hb' with
      | @od _ kvs' _ n' hdo' lo' hkv' =>
        have e1 := hkv'.length
        refine wpAny_setItem_pairs (strKind_is _ _ k t) hdo' (fun h' hd' hs' => ?_) (by rw [sizeLine_eq]; omega)
        exact ⟨_, σ₂, h, x₁.sub.trans x₂.sub, m, S₂.mut hr rfl hu rfl hs' (.od n' hd' lo' (hkv'.store k (h₁.mono x₂.sub)))⟩

/-- own[k] op= e -/
theorem X_aug_store {x : Str} {i e : PySem.Expr} {px pos' pos : Pos} {op : Operator} {l : List (Str × PV)} {k : Str} {p q r : PV} (hr : ρ.lookup x = some (.od l)) (hk : Kd env x) (he : Ev Θ A env ρ e q) (hi : Ev Θ A env ρ i (.str k)) (hsz : l.length ≤ 1000000)
    (hold : valAt l k = some p)
    (hop : ∀ σ s va vb, At Θ A σ s → Rp Θ.prog Θ.w σ va p → Rp Θ.prog Θ.w σ vb q → W Θ.prog Θ.w A (inplaceOp op va vb) σ s fun v σ' s' => Rp Θ.prog Θ.w σ' v r)
    (h : P (.next ((x, .od (putAt l k r)) :: ρ)))
    (ha : ∀ ov iv new, augStore i ov iv new = (do holding [new, ov, iv] (setItem ov iv new); release [new, ov, iv] []; pure .next) := by intro _ _ _; rfl) (hd : (x == ("__debug__" : Str)) = false := by decide) :
    X Θ A env (exec (.AugAssign (.Subscript (.Name x px) i pos') op e pos) env) ρ P := fun s₀ σ₀ π σ s ⟨m, S⟩ => by
  refine wpAny_AugAssign_Subscript_any ?_ ha
  obtain ⟨u, hu, hb, _⟩ := S.b x _ hr
  cases hb with
  | @od d kvs l' n hdo lo hkv =>
    refine wpAny_Name (name_local S.fs hk hu ?_) hd
    refine (hi σ s S.rd).then fun kv σ₁ s₁ x₁ h₁ => ?_
    cases h₁ with
    | str k t =>
      have S₁ := S.ext x₁
      have D : DictH Θ σ₁ s₁ d l := (⟨⟨kvs, hdo, hkv⟩, lo⟩ : DictH Θ σ s d l).ext x₁
      refine (item_dict (A := A) S₁.le D hold).2.then fun old σ₂ s₂ x₂ h₂ => ?_
      have S₂ := S₁.ext x₂
      refine (he σ₂ s₂ S₂.rd).then fun v σ₃ s₃ x₃ h₃ => ?_
      have S₃ := S₂.ext x₃
      refine (hop σ₃ s₃ old v S₃.rd.at (h₂.mono x₃.sub) h₃).then fun new σ₄ s₄ x₄ h₄ => ?_
      have S₄ := S₃.ext x₄
      obtain ⟨u', hu', hb', _⟩ := S₄.b x _ hr
      rw [hu] at hu'; cases hu'
      cases hb' with
      | @od _ kvs' _ n' hdo' lo' hkv' =>
        have e1 := hkv'.length
        refine wpAny_setItem_pairs (strKind_is _ _ k t) hdo' (fun h' hd' hs' => ?_) (by rw [sizeLine_eq]; omega)
        exact ⟨_, σ₄, h, (x₁.sub.trans x₂.sub).trans (x₃.sub.trans x₄.sub), m, S₄.mut hr rfl hu rfl hs' (.od n' hd' lo' (hkv'.store k h₄))⟩

/-- own.append(e) -/
theorem X_append {x : Str} {e : PySem.Expr} {px apos cpos pos : Pos} {l : List PV} {p : PV} (hr : ρ.lookup x = some (.ol l)) (hk : Kd env x) (he : Ev Θ A env ρ e p) (hns : ∀ a b, e ≠ .Starred a b) (hsz : l.length ≤ 1000000)
    (h : P (.next ((x, .ol (l ++ [p])) :: ρ)))
    (hi : interactive env = false := by rfl) (hline : (apos.endLine == cpos.line) = true := by rfl) (hd : (x == ("__debug__" : Str)) = false := by decide) :
    X Θ A env (exec (.Expr (.Call (.Attribute (.Name x px) "append" apos) [e] [] cpos) pos) env) ρ P := fun s₀ σ₀ π σ s ⟨m, S⟩ => by
  refine wpAny_Expr ?_ hi rfl
  obtain ⟨u, hu, hb, _⟩ := S.b x _ hr
  cases hb with
  | @ol d vs l' n hpl hkv =>
    refine wpAny_Call_method_late rfl ?_ hline rfl (wpAny_Name (name_local S.fs hk hu ?_) hd)
    · rw [starEach_cons hns]; rfl
    · refine ⟨"list", _, PySem.F.plainAttrs_list, PySem.F.slot_list_append, PySem.F.type_list_append, hpl.isList.typeIs, fun a ea => by cases ea; obtain ⟨_, ho⟩ := hpl; exact ⟨_, ho, rfl⟩, ?_⟩
      have hs : Evs Θ A env ρ [e] [p] := .cons he hns .nil
      refine PySem.W.callWith_of (P := fun _ => True) (by rw [starEach_cons hns]; rfl) (fun _ _ => kept_builtin) ((evalArgs_evs hs S.rd).then fun a σ₁ s₁ x₁ ⟨ws, ea, hw⟩ => ⟨trivial, ?_⟩)
      subst ea
      cases hw with
      | cons hw hn =>
        cases hn
        have S₁ := S.ext x₁
        obtain ⟨u', hu', hb', _⟩ := S₁.b x _ hr
        rw [hu] at hu'; cases hu'
        cases hb' with
        | @ol _ vs' _ n' hpl' hkv' =>
          have e1 := hkv'.length
          rw [Array.length_toList] at e1
          refine wpAny_list_append_plain hpl' (fun h' hp' hs' => ?_) (by rw [sizeLine_eq]; omega)
          exact ⟨_, σ₁, h, x₁.sub, m, S₁.mut hr rfl hu rfl hs' (.ol n' hp' (by rw [Array.toList_push]; exact hkv'.append (.cons hw .nil)))⟩
end
end Mine
end
section
open PySem PySem.Calls PyProof.Rows PySem.Builtin.Str
set_option linter.unusedVariables false
namespace Mine

def over (π : Get) (fp : List Addr) (h : Heap) : Get := fun a => if a ∈ fp then h.get? a else π a

/-- the frame's own addresses and the owned ones lie off fp -/
structure Ap (env : Env) (ρ : Rho) (m : Str → Option Value) (fp : List Addr) : Prop where
  l : env.locals ∉ fp
  c : ∀ y c, (y, c) ∈ env.cells → c ∉ fp
  o : ∀ x b a, ρ.lookup x = some b → b.own = true → m x = some (.ref a) → a ∉ fp

section
variable {Θ : Wd} {A : Around} {env : Env} {ρ : Rho} {s₀ : Shared} {σ₀ π σ : Get} {s : Shared} {m : Str → Option Value}

theorem StM.guard {fp : List Addr} (S : StM Θ s₀ σ₀ env π σ ρ m s) (ap : Ap env ρ m fp) : StM Θ { s₀ with gens := s.gens } σ env (over π fp s.heap) σ ρ m s where
  base := S.base.trans S.sub
  sub := .refl _
  le := S.le
  πle := fun a o e => by
    unfold over at e; split at e
    · exact e
    · exact S.πle a o e
  hπ := fun a o e => by
    unfold over; split
    · exact S.πle a o (S.hπ a o e)
    · exact S.hπ a o e
  frs := fun a o e => .inl e
  os := S.os
  dr := S.dr
  gens := .refl _
  fs := S.fs
  lo := ⟨by unfold over; rw [if_neg ap.l]; exact S.lo.1, S.lo.2⟩
  ce := fun y c hc => ⟨fun hf => by unfold over; rw [if_neg (ap.c y c hc)]; exact (S.ce y c hc).1 hf, (S.ce y c hc).2⟩
  b := fun x b e => by
    obtain ⟨v, h1, h2, h3⟩ := S.b x b e
    refine ⟨v, h1, h2, fun o a q => ?_⟩
    have h := h3 o a q
    exact ⟨by unfold over; rw [if_neg (ap.o x b a e o (q ▸ h1))]; exact h.p, h.l, h.c⟩
  inj := S.inj

theorem StM.unguard {fp : List Addr} {h : Heap} {σ' : Get} {ρ' : Rho} {m' : Str → Option Value} {s' : Shared} (S : StM Θ s₀ σ₀ env π σ ρ m s) (S' : StM Θ { s₀ with gens := s.gens } σ env (over π fp h) σ' ρ' m' s')
    (hcf : ∀ y c, (y, c) ∈ env.cells → c ∉ fp) (hex : ∀ a ∈ fp, ∃ o, h.get? a = some o) (hsub : ∀ a ∈ fp, ∀ o, π a = some o → h.get? a = some o) :
    StM Θ s₀ σ₀ env π σ' ρ' m' s' ∧ Ap env ρ' m' fp ∧ (∀ a ∈ fp, ∀ o, h.get? a = some o → s'.heap.get? a = some o) ∧ ∀ a ∈ fp, σ a = none → σ' a = none := by
  have nofp : ∀ a, over π fp h a = none → a ∉ fp := fun a e hm => by
    obtain ⟨o, ho⟩ := hex a hm
    unfold over at e; rw [if_pos hm, ho] at e; cases e
  have isπ : ∀ a, over π fp h a = none → π a = none := fun a e => by
    have := nofp a e
    unfold over at e; rwa [if_neg this] at e
  refine ⟨⟨S.base, S.sub.trans S'.sub, S'.le, fun a o e => ?_, S.hπ, fun a o e => ?_, S'.os, S'.dr, S.gens.trans S'.gens, S'.fs, ⟨isπ _ S'.lo.1, S'.lo.2⟩, fun y c hc => ⟨fun hf => isπ _ ((S'.ce y c hc).1 hf), (S'.ce y c hc).2⟩, fun x b e => ?_, S'.inj⟩, ⟨nofp _ S'.lo.1, hcf, fun x b a e o q => ?_⟩, fun a hm o e => ?_, fun a hm e => ?_⟩
  · refine S'.πle a o ?_
    unfold over; split
    · rename_i hm; exact hsub a hm o e
    · exact e
  · rcases S'.frs a o e with q | q
    · exact S.frs a o q
    · exact .inr (isπ a q)
  · obtain ⟨v, h1, h2, h3⟩ := S'.b x b e
    exact ⟨v, h1, h2, fun o a q => let h := h3 o a q; ⟨isπ _ h.p, h.l, h.c⟩⟩
  · obtain ⟨v, h1, h2, h3⟩ := S'.b x b e
    rw [q] at h1; cases h1
    exact nofp _ (h3 o a rfl).p
  · exact S'.πle a o (by unfold over; rw [if_pos hm]; exact e)
  · cases q : σ' a with
    | none => rfl
    | some o =>
      rcases S'.frs a o q with r | r
      · rw [e] at r; cases r
      · exact absurd hm (nofp a r)

/-- the heap moves at the iterator's own objects alone -/
theorem StM.move {wr : List Addr} {s' : Shared} (S : StM Θ s₀ σ₀ env π σ ρ m s) (ap : Ap env ρ m wr) (hw : ∀ a ∈ wr, σ a = none ∧ π a = none)
    (k : ∀ b o, b ∉ wr → s.heap.get? b = some o → s'.heap.get? b = some o) (os : s'.os = s.os) (dr : s'.drawn = s.drawn) (gens : GExt s₀.gens s'.gens) : StM Θ s₀ σ₀ env π σ ρ m s' := by
  have kp : ∀ τ : Get, Sub τ s.heap.get? → (∀ a ∈ wr, τ a = none) → Sub τ s'.heap.get? := fun τ h n b o e => k b o (fun hm => by rw [n b hm] at e; cases e) (h b o e)
  refine ⟨S.base, S.sub, kp σ S.le fun a hm => (hw a hm).1, kp π S.πle fun a hm => (hw a hm).2, S.hπ, S.frs, os.trans S.os, dr.trans S.dr, gens, ⟨S.fs.fn, S.fs.gl, S.fs.bu, ?_, fun y c hy => ?_, S.fs.apart, S.fs.kc⟩, S.lo, S.ce, fun x b e => ?_, S.inj⟩
  · obtain ⟨ml, hn, he⟩ := S.fs.ns
    exact ⟨ml, hn.at' fun o e => k _ o ap.l e, he⟩
  · obtain ⟨o, ho, hd⟩ := S.fs.cell y c hy
    exact ⟨o, k c o (ap.c y c hy) ho, hd⟩
  · obtain ⟨v, h1, h2, h3⟩ := S.b x b e
    refine ⟨v, h1, ?_, h3⟩
    cases h2 with
    | sh h => exact .sh h
    | od n d lo hk => obtain ⟨o, es, ep, ho, r⟩ := d; exact .od n ⟨o, es, ep, k _ o (ap.o x _ _ e rfl h1) ho, r⟩ lo hk
    | ol n d hk => obtain ⟨e', ho⟩ := d; exact .ol n ⟨e', k _ _ (ap.o x _ _ e rfl h1) ho⟩ hk
theorem StM.turn {wr : List Addr} {h' : Heap} {tk : Nat} (S : StM Θ s₀ σ₀ env π σ ρ m s) (ap : Ap env ρ m wr) (hw : ∀ a ∈ wr, σ a = none ∧ π a = none)
    (k : ∀ b o, b ∉ wr → s.heap.get? b = some o → h'.get? b = some o) : StM Θ s₀ σ₀ env π σ ρ m { s with heap := h', toks := tk } := S.move ap hw k rfl rfl S.gens

/-- what a for draws from -/
def Src (Θ : Wd) (A : Around) (env : Env) (ρ : Rho) (target iter : PySem.Expr) (n : Nat) (Pv : Nat → Value → Get → Shared → Prop) : Prop :=
  ∀ σ s, Rd Θ env ρ σ s → wpAny (model Θ.prog Θ.w) A (eval iter env) (fun xv s₁ => wpAny (model Θ.prog Θ.w) A (pyIter xv) (fun it s₂ =>
    ∃ σ₂ I fp wr P Md Stt, it = .ref I ∧ Ext σ s σ₂ s₂ ∧ PySem.W.KTurns Θ.prog Θ.w A target I fp wr n P Md Stt ∧ Stt 0 s₂.heap ∧ (∀ (s' : Shared) (Q E : Value → Shared → Prop), Stt 0 s'.heap → Q (.ref I) s' → wpAny (model Θ.prog Θ.w) A (pyIter (.ref I)) Q E s') ∧ (∀ a ∈ wr, s.heap.get? a = none ∧ σ₂ a = none) ∧ (∀ a ∈ fp, a ∈ wr ∨ ∃ o, σ₂ a = some o) ∧
      (∀ i h, Stt i h → ∀ a ∈ fp, ∃ o, h.get? a = some o) ∧
      (∀ i v σ' s', Sub σ₂ σ' → Sub σ' s'.heap.get? → P i v s'.heap → Pv i v σ' s')) (fun _ _ => False) s₁) (fun _ _ => False) s

variable {P : Out → Prop}
/-- the target is bound, the body runs -/
def Turn (Θ : Wd) (A : Around) (env : Env) (target : PySem.Expr) (body : List Stmt) (v : Value) (ρ : Rho) (σ : Get) (P : Out → Prop) : Prop :=
  ∀ s₀ σ₀ π s, St Θ s₀ σ₀ env π σ ρ s → wpAny (model Θ.prog Θ.w) A (assign target env v) (fun _ s' => ∃ ρ' σ', Sub σ σ' ∧ St Θ s₀ σ₀ env π σ' ρ' s' ∧ X Θ A env (execs body env) ρ' P) (fun _ _ => False) s

theorem X_for {target iter : PySem.Expr} {body : List Stmt} {pos : Pos} {n : Nat} {Pv : Nat → Value → Get → Shared → Prop} (src : Src Θ A env ρ target iter n Pv) (Inv : Nat → Rho → Prop) (h0 : Inv 0 ρ)
    (step : ∀ i ρ', i < n → Inv i ρ' → ∀ v σ s₀ σ₀ π s, Pv i v σ s → St Θ s₀ σ₀ env π σ ρ' s →
      wpAny (model Θ.prog Θ.w) A (assign target env v) (fun _ s' => ∃ ρ'' σ'', Sub σ σ'' ∧ St Θ s₀ σ₀ env π σ'' ρ'' s' ∧ X Θ A env (execs body env) ρ'' fun o => match o with | .next r => Inv (i + 1) r | .ret p => P (.ret p)) (fun _ _ => False) s)
    (fin : ∀ ρ', Inv n ρ' → P (.next ρ'))
    (hs : ∀ x, foldedSetIterable iter env x = pure x := by intro _; rfl) : X Θ A env (exec (.For target iter body [] pos) env) ρ P := fun s₀ σ₀ π σ s ⟨m, S⟩ => by
  refine wpAny_For (wpAny_mono (src σ s S.rd) (fun xv s₁ h₁ => wpAny_mono h₁ (fun it s₂ h₂ => ?_) fun _ _ e => e.elim) fun _ _ e => e.elim) hs
  obtain ⟨σ₂, I, fp, wr, Pk, Md, Stt, rfl, x, Wk, st0, _, hwr, hfp, hex, hPv⟩ := h₂
  have S₂ := S.ext x
  have nwπ : ∀ a ∈ wr, π a = none := fun a hm => none_of_sub S.πle (hwr a hm).1
  have ap₂ : Ap env ρ m fp := by
    have nol : ∀ a, σ₂ a = none → s.heap.get? a ≠ none → a ∉ fp := fun a n e hm => by
      rcases hfp a hm with h | ⟨o, h⟩
      · exact e (hwr a h).1
      · rw [n] at h; cases h
    refine ⟨nol _ S₂.lo.2 (by obtain ⟨_, ⟨o, _, _, ho, _⟩, _⟩ := S.fs.ns; rw [ho]; simp), fun y c hc => nol _ (S₂.ce y c hc).2.1 (by obtain ⟨o, ho, _⟩ := S.fs.cell y c hc; rw [ho]; simp), fun z b a e o q => ?_⟩
    obtain ⟨v, h1, h2, h3⟩ := S.b z b e
    rw [q] at h1; cases h1
    have h2' := h2.ext x
    cases h2 with
    | sh => cases o
    | od n d lo hk => cases h2' with | od n' => exact nol _ n' (by obtain ⟨o', _, _, ho, _⟩ := d; rw [ho]; simp)
    | ol n d hk => cases h2' with | ol n' => exact nol _ n' (by obtain ⟨_, ho⟩ := d; rw [ho]; simp)
  have apw : ∀ {ρ' : Rho} {m' : Str → Option Value}, Ap env ρ' m' fp → Ap env ρ' m' wr := fun ap => ⟨fun h => ap.l (Wk.sub _ h), fun y c hc h => ap.c y c hc (Wk.sub _ h), fun z b a e o q h => ap.o z b a e o q (Wk.sub _ h)⟩
  refine codeAny_forLoop_any
    (fun k s' => ∃ i ρ' σ' m', i ≤ n ∧ k = n + 1 - i ∧ Inv i ρ' ∧ Sub σ₂ σ' ∧ StM Θ s₀ σ₀ env π σ' ρ' m' s' ∧ Ap env ρ' m' fp ∧ Stt i s'.heap ∧ ∀ a ∈ wr, σ' a = none) ?_ (n + 1)
    ⟨0, ρ, σ₂, m, Nat.zero_le _, rfl, h0, .refl _, S₂, ap₂, st0, fun a hm => (hwr a hm).2⟩
  rintro k s' ⟨i, ρ', σ', m', hi, rfl, hI, hsub, S', ap', st', hwn⟩
  by_cases hlt : i < n
  · refine Wk.item i s' _ _ hlt st' fun v h₁ tk₁ hMd hk₁ => ?_
    refine Wk.go i v _ _ _ hMd fun h₂ hP st₂ hk₂ => ?_
    have T := S'.turn (tk := tk₁) (apw ap') (fun a hm => ⟨hwn a hm, nwπ a hm⟩) fun b o hb e => hk₂ b o hb (hk₁ b o hb e)
    have G := T.guard ap'
    refine wpAny_mono (step i ρ' hlt hI v σ' _ _ _ _ (hPv i v σ' _ hsub T.le hP) ⟨m', G⟩) (fun _ s₃ h₃ => ?_) fun _ _ e => e.elim
    obtain ⟨ρ₃, σ₃, hs₃, S₃, hX⟩ := h₃
    refine wpAny_mono (hX _ _ _ _ _ S₃) (fun f s₄ d => ?_) fun _ _ e => e.elim
    cases f with
    | next =>
      obtain ⟨ρ₄, σ₄, hI', hs₄, m₄, S₄⟩ := d
      obtain ⟨U, ap₄, hfx, hnn⟩ := T.unguard S₄ ap'.c (hex _ _ st₂) fun a hm o e => T.πle a o e
      refine ⟨n + 1 - (i + 1), by omega, i + 1, ρ₄, σ₄, m₄, hlt, rfl, hI', (hsub.trans hs₃).trans hs₄, U, ap₄, Wk.frame _ _ _ st₂ fun b hb o e => hfx b hb o e, fun a hm => hnn a (Wk.sub _ hm) (hwn a hm)⟩
    | ret v =>
      obtain ⟨p, σ₄, hp, y, hr⟩ := d
      refine ⟨p, σ₄, hp, ⟨(S'.sub).trans y.sub, y.le, y.kp, fun a o e => ?_, y.os, y.dr, T.gens.trans y.gens⟩, hr⟩
      rcases y.frs a o e with q | q
      · rcases S'.frs a o q with r | r
        · exact .inl r
        · exact .inr (none_of_sub S'.hπ r)
      · exact .inr q
    | brk => exact d.elim
    | cont => exact d.elim
  · have hin : i = n := by omega
    subst hin
    refine Wk.done s' _ _ st' fun h₁ tk₁ hk₁ => wpAny_execs_nil ?_
    exact ⟨ρ', σ', fin ρ' hI, x.sub.trans hsub, m', S'.turn (tk := tk₁) (apw ap') (fun a hm => ⟨hwn a hm, nwπ a hm⟩) hk₁⟩

end
end Mine
end
section
open PySem PySem.Calls PyProof.Rows PySem.Builtin.Str
set_option linter.unusedVariables false
namespace Mine
section
variable {prog : Program} {w : World} {A : Around} {E : Value → Shared → Prop} {s : Shared}
theorem draw_list {it t : Addr} {items : Array Value} (hne : t ≠ it) : ∀ (n i : Nat) (s : Shared) (Q : List Value → Shared → Prop), s.heap.IsListIter it t i → s.heap.IsList t items → i + n ≤ items.size →
    (∀ h', h'.IsListIter it t (i + n) → Heap.SameBut it s.heap h' → Q ((items.toList.drop i).take n) { s with heap := h' }) → wpAny (model prog w) A (draw (.ref it) n) Q E s
  | 0, i, s, Q, hit, _, _, hQ => by
    show wpAny _ _ (pure []) Q E s
    exact wpAny_pure (by simpa using hQ s.heap hit (Heap.SameBut.refl ..))
  | n + 1, i, s, Q, hit, ht, hle, hQ => by
    have hlt : i < items.size := by omega
    show wpAny _ _ (pyNext (.ref it) >>= _) Q E s
    refine wpAny_bind (wpAny_pyNext_list_item hit ht (x := items[i]) (by simp [hlt]) fun h₁ hit₁ hs₁ => ?_)
    refine wpAny_bind (wpAny_holding (draw_list hne n (i + 1) _ _ hit₁ (ht.extBut hs₁.extBut hne) (by omega) fun h₂ hit₂ hs₂ => wpAny_pure ?_))
    have hd : items.toList.drop i = items[i] :: items.toList.drop (i + 1) := by simp [List.drop_eq_getElem_cons, hlt]
    have := hQ h₂ (by rw [show i + (n + 1) = i + 1 + n by omega]; exact hit₂) (hs₁.trans hs₂)
    rw [hd, List.take_succ_cons] at this
    exact this
theorem unpackItems_list {t : Addr} {items : Array Value} {Q : List Value → Shared → Prop} (hh : A.handled = none) (ht : s.heap.IsList t items)
    (hQ : ∀ h', Heap.ExtBut s.heap.objs.size s.heap h' → Q items.toList { s with heap := h' }) : wpAny (model prog w) A (unpackItems (.ref t) items.size none) Q E s := by
  have hlt : t ≠ s.heap.objs.size := by obtain ⟨o, ho, _⟩ := ht; exact Nat.ne_of_lt (Heap.lt_size ho)
  unfold unpackItems
  refine wpAny_bind ?_
  · unfold notIterableAtAll
    refine wpAny_bind (wpAny_specialOf ht.typeIs slot_list_iter.lookup ?_)
    refine wpAny_pure ?_
    simp only [Bool.false_eq_true, if_false]
    refine wpAny_bind (wpAny_holding (wpAny_pyIter_list ht ?_))
    refine wpAny_bind (wpAny_holding (draw_list hlt items.size 0 _ _ ⟨_, Heap.get?_push_size _ rfl, rfl, rfl⟩ (ht.push _) (by omega) fun h₁ hit₁ hs₁ => ?_))
    have hall : List.take items.size (List.drop 0 items.toList) = items.toList := by
      rw [List.drop_zero]; exact List.take_of_length_le (by simp)
    rw [hall]
    rw [if_neg (by simp)]
    have ht₁ : h₁.IsList t items := (ht.push _).extBut hs₁.extBut hlt
    refine wpAny_bind (wpAny_holding (wpAny_pyNext_list_end hh hit₁ ht₁ (by simp) fun h₂ he₂ => ?_))
    simp only [Option.isSome_none, Bool.false_eq_true, if_false]
    refine wpAny_pure (hQ h₂ fun b o hb e => he₂ b o hb (hs₁.extBut b o hb (Heap.get?_push_of_some _ e)))
theorem assign_list {env : Env} {elts : List PySem.Expr} {x1} {pos : Pos} {t : Addr} {items : Array Value} {Q : Unit → Shared → Prop} (hh : A.handled = none) (ht : s.heap.IsList t items)
    (hn : (assignEach elts env).length = items.size) (hstar : (assignEach elts env).findIdx? (·.1) = none)
    (h : ∀ h', Heap.ExtBut s.heap.objs.size s.heap h' → wpAny (model prog w) A (assignInOrder ((assignEach elts env).map (·.2)) items.toList) Q E { s with heap := h' }) :
    wpAny (model prog w) A (assign (.Tuple elts x1 pos) env (.ref t)) Q E s := by
  rw [arm_assign_Tuple]
  refine wpAny_bind (wpAny_standAt ?_)
  unfold unpack
  rw [hn, hstar]
  exact wpAny_bind (wpAny_holding (unpackItems_list hh ht h))
end

section
variable {Θ : Wd} {A : Around} {env : Env} {ρ ρ' : Rho} {s₀ : Shared} {σ₀ π σ : Get} {s : Shared}

theorem sub_extBut {h h' : Heap} (x : Heap.ExtBut h.objs.size h h') : Sub h.get? h'.get? := fun a o e => x a o (Nat.ne_of_lt (Heap.lt_size e)) e

/-- a target takes a value: ρ becomes ρ' -/
def As (Θ : Wd) (A : Around) (env : Env) (target : PySem.Expr) (p : PV) (ρ ρ' : Rho) : Prop :=
  ∀ s₀ σ₀ π σ s v, St Θ s₀ σ₀ env π σ ρ s → Rp Θ.prog Θ.w σ v p → wpAny (model Θ.prog Θ.w) A (assign target env v) (fun _ s' => St Θ s₀ σ₀ env π σ ρ' s') (fun _ _ => False) s
inductive Ass (Θ : Wd) (A : Around) (env : Env) : List PySem.Expr → List PV → Rho → Rho → Prop
  | nil {ρ : Rho} : Ass Θ A env [] [] ρ ρ
  | cons {e : PySem.Expr} {p : PV} {es : List PySem.Expr} {ps : List PV} {ρ ρ₁ ρ₂ : Rho} : As Θ A env e p ρ ρ₁ → (∀ a b, e ≠ .Starred a b) → Ass Θ A env es ps ρ₁ ρ₂ → Ass Θ A env (e :: es) (p :: ps) ρ ρ₂

theorem As_name {x : Str} {pos : Pos} {p : PV} (hk : KdS env x) : As Θ A env (.Name x pos) p ρ ((x, .sh p) :: ρ) := fun s₀ σ₀ π σ s v ⟨m, S⟩ hv =>
  wpAny_assign_Name (S.put hk (.sh hv) (fun o => by cases o) fun s' S' => ⟨_, S'⟩)
theorem assignEach_cons {e : PySem.Expr} {es : List PySem.Expr} (h : ∀ a b, e ≠ .Starred a b) : assignEach (e :: es) env = (false, assign e env) :: assignEach es env := by
  cases e <;> first | rfl | exact absurd rfl (h _ _)
theorem Ass.length {es : List PySem.Expr} {ps : List PV} (h : Ass Θ A env es ps ρ ρ') : (assignEach es env).length = ps.length := by
  induction h with
  | nil => rfl
  | cons a b c ih => rw [assignEach_cons b]; simp [ih]
theorem Ass.star {es : List PySem.Expr} {ps : List PV} (h : Ass Θ A env es ps ρ ρ') : (assignEach es env).findIdx? (·.1) = none := by
  induction h with
  | nil => rfl
  | cons a b c ih => rw [assignEach_cons b, List.findIdx?_cons]; simp [ih]
theorem Ass.run {es : List PySem.Expr} {ps : List PV} (h : Ass Θ A env es ps ρ ρ') : ∀ {s : Shared} {vs : List Value}, St Θ s₀ σ₀ env π σ ρ s → Rps Θ.prog Θ.w σ vs ps →
    wpAny (model Θ.prog Θ.w) A (assignInOrder ((assignEach es env).map (·.2)) vs) (fun _ s' => St Θ s₀ σ₀ env π σ ρ' s') (fun _ _ => False) s := by
  induction h with
  | nil => intro s vs S hv; cases hv; exact assignInOrder_nil S
  | cons a b c ih =>
    intro s vs S hv
    cases hv with
    | cons hv hr =>
      rw [assignEach_cons b]
      exact assignInOrder_cons (wpAny_mono (a _ _ _ _ _ _ S hv) (fun _ s₁ S₁ => ih S₁ hr) fun _ _ e => e)

theorem As_heapTup (R : Room A 0) {elts : List PySem.Expr} {k : Nat} {pos : Pos} {ps : List PV} {t : Addr} {items : Array Value} (h : Ass Θ A env elts ps ρ ρ') (S : St Θ s₀ σ₀ env π σ ρ s) (ht : s.heap.IsTuple t items) (hr : Rps Θ.prog Θ.w σ items.toList ps) :
    wpAny (model Θ.prog Θ.w) A (assign (.Tuple elts k pos) env (.ref t)) (fun _ s' => St Θ s₀ σ₀ env π σ ρ' s') (fun _ _ => False) s := by
  have e := hr.length
  rw [Array.length_toList] at e
  refine wpAny_assign_Tuple R.handled ht (h.length.trans e.symm) h.star fun h' hx => h.run (S.ext (Ext.heap S.rd.le (sub_extBut hx) s.toks)) hr
theorem As_tup (R : Room A 0) {elts : List PySem.Expr} {k : Nat} {pos : Pos} {ps : List PV} (h : Ass Θ A env elts ps ρ ρ') : As Θ A env (.Tuple elts k pos) (.tup ps) ρ ρ' := fun s₀ σ₀ π σ s v S hv => by
  obtain ⟨t, items, rfl, ht, hr⟩ := hv.isTuple S.rd.le
  exact As_heapTup R h S ht hr
theorem As_lst (R : Room A 0) {elts : List PySem.Expr} {k : Nat} {pos : Pos} {ps : List PV} (h : Ass Θ A env elts ps ρ ρ') : As Θ A env (.Tuple elts k pos) (.lst ps) ρ ρ' := fun s₀ σ₀ π σ s v S hv => by
  obtain ⟨t, items, rfl, ht, hr⟩ := hv.isList S.rd.le
  have e := hr.length
  rw [Array.length_toList] at e
  exact assign_list R.handled ht (h.length.trans e.symm) h.star fun h' hx => h.run (S.ext (Ext.heap S.rd.le (sub_extBut hx) s.toks)) hr

/-- targets = e, one target that is no name -/
theorem X_unpack {target e : PySem.Expr} {pos : Pos} {p : PV} {P : Out → Prop} (he : Ev Θ A env ρ e p) (ha : As Θ A env target p ρ ρ') (h : P (.next ρ'))
    (hns : ∀ a b, target ≠ .Starred a b)
    (hs : swapsWith e (some target) pos.line env = pure false := by rfl) (hw : swappedStores [target] e env = pure none := by rfl) : X Θ A env (exec (.Assign [target] e pos) env) ρ P := fun s₀ σ₀ π σ s S => by
  rw [exec_Assign_arm]
  have hs' : swapsWithSole [target] e pos.line env = pure false := hs
  rw [hs', hw]
  refine wpAny_bind (wpAny_standAt (wpAny_bind (wpAny_pure ?_)))
  simp only [Bool.false_eq_true, if_false]
  refine wpAny_bind ((he σ s S.rd).then fun v σ' s' x hv => wpAny_bind (wpAny_pure ?_))
  rw [assignEach_cons hns]
  show wpAny _ A (do assign target env v; (pure Flow.next : Sem Flow)) _ _ s'
  exact wpAny_bind (wpAny_mono (ha _ _ _ _ _ _ (S.ext x) hv) (fun _ s'' S'' => wpAny_pure ⟨ρ', σ', h, x.sub, S''⟩) fun _ _ e => e)

/-- a, b = e, f  (stored the other way round) -/
theorem X_swap {a b : Str} {pa pb pt : Pos} {kt kv : Nat} {e f : PySem.Expr} {pv pos : Pos} {p q : PV} {P : Out → Prop} (R : Room A 0) (he : Evs Θ A env ρ [e, f] [p, q]) (ha : KdS env a) (hb : KdS env b)
    (h : P (.next ((a, .sh p) :: (b, .sh q) :: ρ)))
    (hs : swapsWith (.Tuple [e, f] kv pv) (some (.Tuple [.Name a pa, .Name b pb] kt pt)) pos.line env = pure false := by rfl)
    (hw : swappedStores [.Tuple [.Name a pa, .Name b pb] kt pt] (.Tuple [e, f] kv pv) env = pure (some [a, b]) := by rfl) :
    X Θ A env (exec (.Assign [.Tuple [.Name a pa, .Name b pb] kt pt] (.Tuple [e, f] kv pv) pos) env) ρ P := fun s₀ σ₀ π σ s S => by
  rw [exec_Assign_arm]
  have hs' : swapsWithSole [.Tuple [.Name a pa, .Name b pb] kt pt] (.Tuple [e, f] kv pv) pos.line env = pure false := hs
  rw [hs', hw]
  refine wpAny_bind (wpAny_standAt (wpAny_bind (wpAny_pure ?_)))
  simp only [Bool.false_eq_true, if_false]
  refine wpAny_bind ((Ev_tuple he (by simp) σ s S.rd).then fun v σ' s' x hv => wpAny_bind (wpAny_pure ?_))
  have S' := S.ext x
  obtain ⟨t, items, rfl, ht, hr⟩ := hv.isTuple S'.rd.le
  have en := hr.length
  rw [Array.length_toList] at en
  show wpAny _ A (do
    rule "assign.swapped-stores"
    let items ← unpackItems (.ref t) 2 none
    assignInOrder ([bindName env b, bindName env a]) items.reverse
    (pure Flow.next : Sem Flow)) _ _ s'
  refine wpAny_bind (wpAny_rule (wpAny_bind ?_))
  have en' : items.size = 2 := en
  rw [← en']
  refine wpAny_unpackItems_tuple R.handled ht fun h' hx => ?_
  have S'' := S'.ext (Ext.heap S'.rd.le (sub_extBut hx) s'.toks)
  generalize items.toList = l at hr
  cases hr with
  | cons h1 hr => cases hr with
    | cons h2 hr => cases hr with
      | nil =>
        obtain ⟨m, M⟩ := S''
        refine wpAny_bind (assignInOrder_cons (wpAny_bindName (M.put hb (.sh h2) (fun o => by cases o) fun s₃ M₃ => ?_)))
        refine assignInOrder_cons (wpAny_bindName (M₃.put ha (.sh h1) (fun o => by cases o) fun s₄ M₄ => assignInOrder_nil (wpAny_pure ?_)))
        exact ⟨_, σ', h, x.sub, _, M₄⟩

/-- the loop over the items of a dict -/
theorem Src_items {o : PySem.Expr} {elts : List PySem.Expr} {k : Nat} {tpos apos cpos : Pos} {l : List (Str × PV)} (R : Room A 0) (he : Ev Θ A env ρ o (.dic l))
    (hbase : attributeBase o "items" env (eval o env) = eval o env := by rfl) (hline : (apos.endLine == cpos.line) = true := by rfl) :
    Src Θ A env ρ (.Tuple elts k tpos) (.Call (.Attribute o "items" apos) [] [] cpos) l.length
      fun i v σ s => ∃ T items kk p, v = .ref T ∧ s.heap.IsTuple T items ∧ l[i]? = some (kk, p) ∧ Rps Θ.prog Θ.w σ items.toList [.str kk, p] := fun σ s Rd0 => by
  refine wpAny_Call_method_late hbase (by rfl) hline rfl ((he σ s Rd0).then fun v σ₁ s₁ x₁ h₁ => ?_)
  obtain ⟨d, kvs, rfl, hd, lo, hk⟩ := h₁.isDict x₁.le
  refine ⟨"dict", _, PySem.F.plainAttrs_dict, PySem.F.slot_dict_items, PySem.F.type_dict_items, hd.typeIs, hd.mapOf.noDict, ?_⟩
  refine PySem.W.callWith_of (P := fun _ => True) (by rfl) (fun _ _ => kept_builtin) (evalArgs_nil3 ⟨trivial, ?_⟩)
  refine call_meetsIn PySem.F.slot_dict_items hd.typeIs PySem.F.entry_dict_items (PySem.F.args_dict_items_1 _) (meets_dict_items _ d lo) ⟨⟨kvs, hd⟩, ?_⟩
  obtain ⟨ep, hat⟩ := hd.dictAt
  refine wpAny_pyIter_items (v := s₁.heap.objs.size) (d := d) ⟨_, Heap.get?_push_size _ rfl, rfl, rfl⟩ (hat.push _) ?_
  have xv := push_keep s₁.heap { cls := .type "dict_items", data := .fields #[.ref d] }
  have hat₂ := hat.push { cls := .type "dict_items", data := .fields #[.ref d] }
  have sz := Heap.size_push s₁.heap { cls := .type "dict_items", data := .fields #[.ref d] }
  show ∃ σ₂ I fp wr P Md Stt, _
  generalize s₁.heap.push { cls := .type "dict_items", data := .fields #[.ref d] } = h₂ at xv hat₂ sz ⊢
  have hne : d ≠ h₂.objs.size := Nat.ne_of_lt hat₂.lt_size
  have xE : Ext σ₁ s₁ σ₁ { s₁ with heap := h₂.push { cls := .type "dict_itemiterator", data := .fields #[.none, .bool false, .ref d, .int 0 0, .int kvs.length 0, .int ep 0, .none, .none] } } :=
    Ext.heap x₁.le (xv.trans (push_keep _ _)) s₁.toks
  have fresh : s₁.heap.get? h₂.objs.size = none := by
    cases e : s₁.heap.get? h₂.objs.size with
    | none => rfl
    | some o => have h := Heap.lt_size e; rw [sz] at h; exact absurd h (Nat.not_lt.mpr (Nat.le_succ _))
  have KT := PySem.W.kti_itemsTurns (prog := Θ.prog) (w := Θ.w) (knd := PySem.strKind Θ.prog Θ.w) (elts := elts) (kk := k) (pos := tpos) R.handled h₂.objs.size d hne kvs ep
  have el := hk.length
  rw [← el]
  refine ⟨σ₁, h₂.objs.size, _, _, _, _, _, rfl, x₁.trans xE, KT, ⟨⟨.none, .none, Heap.get?_push_size _ rfl⟩, hat₂.push _⟩, (fun s' Q E st q => let ⟨⟨_, _, h⟩, _⟩ := st; PySem.W.kcp_self h q), ?_, ?_, ?_, ?_⟩
  · intro a ha
    have : a = h₂.objs.size := by simpa using ha
    subst this
    exact ⟨none_of_sub x₁.kp fresh, none_of_sub x₁.le fresh⟩
  · intro a ha
    have : a = h₂.objs.size ∨ a = d := by simpa using ha
    rcases this with rfl | rfl
    · exact .inl (by simp)
    · cases h₁ with | dic q _ _ _ => exact .inr ⟨_, q⟩
  · rintro i h ⟨⟨ok, ov, hi⟩, hda⟩ a ha
    have : a = h₂.objs.size ∨ a = d := by simpa using ha
    rcases this with rfl | rfl
    · exact ⟨_, hi⟩
    · obtain ⟨o', _, ho, _⟩ := hda; exact ⟨o', ho⟩
  · rintro i v σ' s' hσ hle ⟨T, key, kk, x, rfl, hx, hkey, hT⟩
    obtain ⟨p, hp, hr⟩ := hk.at' hx
    obtain ⟨t, rfl⟩ := Value.isStrOf_shape hkey
    exact ⟨T, _, kk, p, rfl, hT, hp, .cons (.str kk t) (.cons (hr.mono hσ) .nil)⟩
end
end Mine
end
section
open PySem PySem.Calls PyProof.Rows PySem.Builtin.Str
set_option linter.unusedVariables false
namespace Mine
section
variable {Θ : Wd} {A : Around} {env : Env} {ρ ρ' : Rho} {s₀ : Shared} {σ₀ π σ : Get} {s : Shared}

theorem push_fresh {h : Heap} {o : Obj} : h.get? (h.push o).objs.size = none := by
  cases e : h.get? (h.push o).objs.size with
  | none => rfl
  | some o' => have h1 := Heap.lt_size e; rw [Heap.size_push] at h1; exact absurd h1 (Nat.not_lt.mpr (Nat.le_succ _))

theorem Src_list {e : PySem.Expr} {target : PySem.Expr} {l : List PV} (R : Room A 0) (he : Ev Θ A env ρ e (.lst l)) :
    Src Θ A env ρ target e l.length fun i v σ s => ∃ p, l[i]? = some p ∧ Rp Θ.prog Θ.w σ v p := fun σ s Rd0 => by
  refine (he σ s Rd0).then fun v σ₁ s₁ x₁ h₁ => ?_
  obtain ⟨a, items, rfl, hl, hr⟩ := h₁.isList x₁.le
  have el := hr.length
  rw [Array.length_toList] at el
  obtain ⟨o, ho, _⟩ := id hl
  have hne : a ≠ s₁.heap.objs.size := Nat.ne_of_lt (Heap.lt_size ho)
  refine wpAny_pyIter_list hl ?_
  have xE : Ext σ₁ s₁ σ₁ { s₁ with heap := s₁.heap.push { cls := .type "list_iterator", data := .fields #[.ref a, .int 0 0] } } := Ext.heap x₁.le (push_keep _ _) s₁.toks
  rw [← el]
  refine ⟨σ₁, s₁.heap.objs.size, _, _, _, _, _, rfl, x₁.trans xE, PySem.W.KTurns.ofWalks (Walks.list R.handled s₁.heap.objs.size a hne items) fun i v s Q E st q => letGo_listiter st.1 q, ⟨⟨_, Heap.get?_push_size _ rfl, rfl, rfl⟩, hl.push _⟩, (fun s' Q E st q => (Walks.list R.handled s₁.heap.objs.size a hne items).self 0 s' Q E st q), ?_, ?_, ?_, ?_⟩
  · intro b hb
    have : b = s₁.heap.objs.size := by simpa using hb
    subst this
    exact ⟨none_of_sub x₁.kp (get?_size _), none_of_sub x₁.le (get?_size _)⟩
  · intro b hb
    have : b = s₁.heap.objs.size ∨ b = a := by simpa using hb
    rcases this with rfl | rfl
    · exact .inl (by simp)
    · cases h₁ with | lst q _ _ _ => exact .inr ⟨_, q⟩
  · rintro i h ⟨⟨oi, hi, _⟩, ⟨ol, hol, _⟩⟩ b hb
    have : b = s₁.heap.objs.size ∨ b = a := by simpa using hb
    rcases this with rfl | rfl
    · exact ⟨_, hi⟩
    · exact ⟨_, hol⟩
  · intro i v σ' s' hσ hle hx
    obtain ⟨p, hp, hr'⟩ := hr.at' (i := i) (u := v) (by simpa using hx)
    exact ⟨p, hp, hr'.mono hσ⟩

theorem Src_tup {e : PySem.Expr} {target : PySem.Expr} {l : List PV} (R : Room A 0) (he : Ev Θ A env ρ e (.tup l)) :
    Src Θ A env ρ target e l.length fun i v σ s => ∃ p, l[i]? = some p ∧ Rp Θ.prog Θ.w σ v p := fun σ s Rd0 => by
  refine (he σ s Rd0).then fun v σ₁ s₁ x₁ h₁ => ?_
  obtain ⟨a, items, rfl, hl, hr⟩ := h₁.isTuple x₁.le
  have el := hr.length
  rw [Array.length_toList] at el
  obtain ⟨o, ho, _⟩ := id hl
  have hne : a ≠ s₁.heap.objs.size := Nat.ne_of_lt (Heap.lt_size ho)
  refine wpAny_pyIter_tuple hl ?_
  have xE : Ext σ₁ s₁ σ₁ { s₁ with heap := s₁.heap.push { cls := .type "tuple_iterator", data := .fields #[.ref a, .int 0 0] } } := Ext.heap x₁.le (push_keep _ _) s₁.toks
  rw [← el]
  refine ⟨σ₁, s₁.heap.objs.size, _, _, _, _, _, rfl, x₁.trans xE, PySem.W.KTurns.ofWalks (Walks.tuple R.handled s₁.heap.objs.size a hne items) fun i v s Q E st q => letGo_tupleiter st.1 q, ⟨⟨_, Heap.get?_push_size _ rfl, rfl, rfl⟩, hl.push _⟩, (fun s' Q E st q => (Walks.tuple R.handled s₁.heap.objs.size a hne items).self 0 s' Q E st q), ?_, ?_, ?_, ?_⟩
  · intro b hb
    have : b = s₁.heap.objs.size := by simpa using hb
    subst this
    exact ⟨none_of_sub x₁.kp (get?_size _), none_of_sub x₁.le (get?_size _)⟩
  · intro b hb
    have : b = s₁.heap.objs.size ∨ b = a := by simpa using hb
    rcases this with rfl | rfl
    · exact .inl (by simp)
    · cases h₁ with | tup q _ _ _ => exact .inr ⟨_, q⟩
  · rintro i h ⟨⟨oi, hi, _⟩, ⟨ol, hol, _⟩⟩ b hb
    have : b = s₁.heap.objs.size ∨ b = a := by simpa using hb
    rcases this with rfl | rfl
    · exact ⟨_, hi⟩
    · exact ⟨_, hol⟩
  · intro i v σ' s' hσ hle hx
    obtain ⟨p, hp, hr'⟩ := hr.at' (i := i) (u := v) (by simpa using hx)
    exact ⟨p, hp, hr'.mono hσ⟩

theorem Src_str {e : PySem.Expr} {target : PySem.Expr} {x : Str} (R : Room A 0) (he : Ev Θ A env ρ e (.str x)) (ha : x.cps.all (· < 128) = true) :
    Src Θ A env ρ target e x.cps.size fun i v σ s => ∃ c, x.cps[i]? = some c ∧ Rp Θ.prog Θ.w σ v (.str ⟨#[c]⟩) := fun σ s Rd0 => by
  refine (he σ s Rd0).then fun v σ₁ s₁ x₁ h₁ => ?_
  cases h₁ with
  | str x t =>
  refine wpAny_pyIter_ascii ha ?_
  have xE : Ext σ₁ s₁ σ₁ { s₁ with heap := s₁.heap.push { cls := .type "str_ascii_iterator", data := .fields #[.str x t, .int 0 0] } } := Ext.heap x₁.le (push_keep _ _) s₁.toks
  refine ⟨σ₁, s₁.heap.objs.size, _, _, _, _, _, rfl, x₁.trans xE, KTurns_str R.handled s₁.heap.objs.size x t, ⟨_, Heap.get?_push_size _ rfl, rfl, rfl⟩, (fun s' Q E st q => (Walks.strAscii R.handled s₁.heap.objs.size x t).self 0 s' Q E st q), ?_, ?_, ?_, ?_⟩
  · intro b hb
    have : b = s₁.heap.objs.size := by simpa using hb
    subst this
    exact ⟨none_of_sub x₁.kp (get?_size _), none_of_sub x₁.le (get?_size _)⟩
  · intro b hb
    exact .inl hb
  · rintro i h ⟨oi, hi, _⟩ b hb
    have : b = s₁.heap.objs.size := by simpa using hb
    subst this
    exact ⟨_, hi⟩
  · rintro i v σ' s' hσ hle ⟨c, u, hc, rfl⟩
    exact ⟨c, hc, .str _ _⟩
where
  KTurns_str {A : Around} {target : PySem.Expr} (hh : A.handled = none) (I : Addr) (x : Str) (t : Tok) :
      PySem.W.KTurns Θ.prog Θ.w A target I [I] [I] x.cps.size (fun i v h => SignAt x i v) (fun i v h => SignAt x i v ∧ h.IsStrIter I "str_ascii_iterator" x t (i + 1)) (fun i h => h.IsStrIter I "str_ascii_iterator" x t i) :=
    { sub := (Walks.strAscii (prog := Θ.prog) (w := Θ.w) hh I x t).sub
      frame := (Walks.strAscii (prog := Θ.prog) (w := Θ.w) hh I x t).frame
      item := fun i s Q E hi st hQ => (Walks.strAscii (prog := Θ.prog) (w := Θ.w) hh I x t).item i s Q E hi st fun v h' tk hP st' hk => hQ v h' tk ⟨hP, st'⟩ hk
      go := fun i v s Q E hm hQ => by
        obtain ⟨⟨c, u, hc, rfl⟩, st⟩ := hm
        have q := hQ s.heap ⟨c, u, hc, rfl⟩ st fun _ _ _ e => e
        unfold letOwnedTupleGo
        split <;> exact wpAny_pure q
      done := (Walks.strAscii (prog := Θ.prog) (w := Θ.w) hh I x t).done }

theorem Src_values {o : PySem.Expr} {target : PySem.Expr} {apos cpos : Pos} {l : List (Str × PV)} (R : Room A 0) (he : Ev Θ A env ρ o (.dic l))
    (hbase : attributeBase o "values" env (eval o env) = eval o env := by rfl) (hline : (apos.endLine == cpos.line) = true := by rfl) :
    Src Θ A env ρ target (.Call (.Attribute o "values" apos) [] [] cpos) l.length
      fun i v σ s => ∃ kk p, l[i]? = some (kk, p) ∧ Rp Θ.prog Θ.w σ v p := fun σ s Rd0 => by
  refine wpAny_Call_method_late hbase (by rfl) hline rfl ((he σ s Rd0).then fun v σ₁ s₁ x₁ h₁ => ?_)
  obtain ⟨d, kvs, rfl, hd, lo, hk⟩ := h₁.isDict x₁.le
  refine ⟨"dict", _, PySem.F.plainAttrs_dict, PySem.F.slot_dict_values, PySem.F.type_dict_values, hd.typeIs, hd.mapOf.noDict, ?_⟩
  refine PySem.W.callWith_of (P := fun _ => True) (by rfl) (fun _ _ => kept_builtin) (evalArgs_nil3 ⟨trivial, ?_⟩)
  refine call_meetsIn PySem.F.slot_dict_values hd.typeIs PySem.F.entry_dict_values (PySem.F.args_dict_values_1 _) (meets_dict_values _ d lo) ⟨⟨kvs, hd⟩, ?_⟩
  obtain ⟨ep, hat⟩ := hd.dictAt
  refine wpAny_pyIter_values (v := s₁.heap.objs.size) (d := d) ⟨_, Heap.get?_push_size _ rfl, rfl, rfl⟩ (hat.push _) ?_
  have xv := push_keep s₁.heap { cls := .type "dict_values", data := .fields #[.ref d] }
  have hat₂ := hat.push { cls := .type "dict_values", data := .fields #[.ref d] }
  have fr := push_fresh (h := s₁.heap) (o := { cls := .type "dict_values", data := .fields #[.ref d] })
  show ∃ σ₂ I fp wr P Md Stt, _
  generalize s₁.heap.push { cls := .type "dict_values", data := .fields #[.ref d] } = h₂ at xv hat₂ fr ⊢
  have hne : d ≠ h₂.objs.size := Nat.ne_of_lt hat₂.lt_size
  have el := hk.length
  rw [← el]
  refine ⟨σ₁, h₂.objs.size, _, _, _, _, _, rfl, x₁.trans (Ext.heap x₁.le (xv.trans (push_keep _ _)) s₁.toks), PySem.W.KTurns.ofWalks (Walks.dictValues (knd := PySem.strKind Θ.prog Θ.w) R.handled h₂.objs.size d hne kvs ep) fun i v s Q E st q => letGo_valiter st.1 q, ⟨⟨_, Heap.get?_push_size _ rfl, rfl, rfl⟩, hat₂.push _⟩, (fun s' Q E st q => (Walks.dictValues (knd := PySem.strKind Θ.prog Θ.w) R.handled h₂.objs.size d hne kvs ep).self 0 s' Q E st q), ?_, ?_, ?_, ?_⟩
  · intro a ha
    have : a = h₂.objs.size := by simpa using ha
    subst this
    exact ⟨none_of_sub x₁.kp fr, none_of_sub x₁.le fr⟩
  · intro a ha
    have : a = h₂.objs.size ∨ a = d := by simpa using ha
    rcases this with rfl | rfl
    · exact .inl (by simp)
    · cases h₁ with | dic q _ _ _ => exact .inr ⟨_, q⟩
  · rintro i h ⟨⟨oi, hi, _⟩, hda⟩ a ha
    have : a = h₂.objs.size ∨ a = d := by simpa using ha
    rcases this with rfl | rfl
    · exact ⟨_, hi⟩
    · obtain ⟨o', _, ho, _⟩ := hda; exact ⟨o', ho⟩
  · rintro i v σ' s' hσ hle ⟨kk, hx⟩
    obtain ⟨p, hp, hr⟩ := hk.at' hx
    exact ⟨kk, p, hp, hr.mono hσ⟩

theorem Src_enum (O : Θ.Ok) {e : PySem.Expr} {elts : List PySem.Expr} {k : Nat} {tpos fpos cpos : Pos} {l : List PV} (R : Room A 0) (hf : Θ.gv "enumerate" = some (.type "enumerate")) (hkd : env.kindOf "enumerate" = some .globalImplicit)
    (he : Ev Θ A env ρ e (.lst l)) (hns : ∀ a b, e ≠ .Starred a b) :
    Src Θ A env ρ (.Tuple elts k tpos) (.Call (.Name "enumerate" fpos) [e] [] cpos) l.length
      fun i v σ s => ∃ T items p, v = .ref T ∧ s.heap.IsTuple T items ∧ l[i]? = some p ∧ Rps Θ.prog Θ.w σ items.toList [.int i, p] := fun σ s Rd0 => by
  rw [arm_eval_Call_Name']
  refine wpAny_bind (name_global O Rd0 hkd hf ?_)
  refine PySem.W.callWith_of (P := fun _ => True) (by rw [starEach_cons hns]; rfl) (fun _ _ => kept_type) ((evalArgs_evs (Evs.cons he hns .nil) Rd0).then fun a σ₁ s₁ x₁ ⟨vs, ea, hv⟩ => ⟨trivial, ?_⟩)
  subst ea
  cases hv with
  | cons h₁ hn =>
  cases hn
  obtain ⟨a, items, rfl, hl, hr⟩ := h₁.isList x₁.le
  have el := hr.length
  rw [Array.length_toList] at el
  refine call_enumerate_list hl fun h' hE hI hsz hk => ?_
  refine wpAny_pyIter_enum hE ?_
  obtain ⟨o, ho, _⟩ := id hl
  have hlt : a < s₁.heap.objs.size := Heap.lt_size ho
  have hl' : h'.IsList a items := hl.at fun o e => hk a o e
  have fr1 : s₁.heap.get? (s₁.heap.objs.size + 1) = none := by
    cases e : s₁.heap.get? (s₁.heap.objs.size + 1) with
    | none => rfl
    | some o' => have h1 := Heap.lt_size e; exact absurd h1 (Nat.not_lt.mpr (Nat.le_succ _))
  rw [← el]
  refine ⟨σ₁, s₁.heap.objs.size + 1, _, _, _, _, _, rfl, x₁.trans (Ext.heap x₁.le hk s₁.toks), PySem.W.KTurns.ofWalksU (WalksT.enumerate R.handled (s₁.heap.objs.size + 1) s₁.heap.objs.size a (Nat.succ_ne_self _) (Nat.ne_of_lt (Nat.lt_succ_of_lt hlt)) (Nat.ne_of_lt hlt) items).toU, ⟨⟨_, hE⟩, hI, hl'⟩, (fun s' Q E st q => (WalksT.enumerate R.handled (s₁.heap.objs.size + 1) s₁.heap.objs.size a (Nat.succ_ne_self _) (Nat.ne_of_lt (Nat.lt_succ_of_lt hlt)) (Nat.ne_of_lt hlt) items).self 0 s' Q E st q), ?_, ?_, ?_, ?_⟩
  · intro b hb
    have : b = s₁.heap.objs.size + 1 ∨ b = s₁.heap.objs.size := by simpa using hb
    rcases this with rfl | rfl
    · exact ⟨none_of_sub x₁.kp fr1, none_of_sub x₁.le fr1⟩
    · exact ⟨none_of_sub x₁.kp (get?_size _), none_of_sub x₁.le (get?_size _)⟩
  · intro b hb
    have : b = s₁.heap.objs.size + 1 ∨ b = s₁.heap.objs.size ∨ b = a := by simpa using hb
    rcases this with rfl | rfl | rfl
    · exact .inl (by simp)
    · exact .inl (by simp)
    · cases h₁ with | lst q _ _ _ => exact .inr ⟨_, q⟩
  · rintro i h ⟨⟨old, h1⟩, ⟨oi, hi, _⟩, ⟨ol, hol, _⟩⟩ b hb
    have : b = s₁.heap.objs.size + 1 ∨ b = s₁.heap.objs.size ∨ b = a := by simpa using hb
    rcases this with rfl | rfl | rfl
    · exact ⟨_, h1⟩
    · exact ⟨_, hi⟩
    · exact ⟨_, hol⟩
  · rintro i v σ' s' hσ hle ⟨T, vals, rfl, ⟨t, x, hx, rfl⟩, hT⟩
    obtain ⟨p, hp, hr'⟩ := hr.at' (i := i) (u := x) (by simpa using hx)
    exact ⟨T, _, p, rfl, hT, hp, .cons (.int _ t) (.cons (hr'.mono hσ) .nil)⟩
end
end Mine
end
section
open PySem PySem.Calls PyProof.Rows PySem.Builtin.Str
set_option linter.unusedVariables false
namespace Mine
theorem Le.nil {ρ : Rho} : Le [] ρ := fun _ _ e => by cases e
theorem Le.cons {ρ r : Rho} {x : Str} {b : Bd} (h : ρ.lookup x = some b) (k : Le r ρ) : Le ((x, b) :: r) ρ := fun y c e => by
  rw [List.lookup_cons] at e
  by_cases hy : y = x
  · subst hy; simp only [beq_self_eq_true] at e; cases e; exact h
  · have hy' : (y == x) = false := by simpa using hy
    simp only [hy'] at e; exact k y c e

section
variable {Θ : Wd} {A : Around} {env : Env} {ρ ρ' : Rho} {s₀ : Shared} {σ₀ π σ : Get} {s : Shared} {P : Out → Prop}

theorem take_snoc {α : Type} {l : List α} {i : Nat} {p : α} (h : l[i]? = some p) : l.take (i + 1) = l.take i ++ [p] ∧ l = l.take i ++ p :: l.drop (i + 1) := by
  have hi : i < l.length := by
    rcases Nat.lt_or_ge i l.length with h' | h'
    · exact h'
    · rw [List.getElem?_eq_none h'] at h; cases h
  have e : l[i] = p := by rw [List.getElem?_eq_getElem hi] at h; exact Option.some.inj h
  refine ⟨by rw [List.take_add_one, h]; rfl, ?_⟩
  rw [← e, List.getElem_cons_drop, List.take_append_drop]

/-- what the body leaves: the bindings of the next prefix, or a value that the def gives back -/
def Left (ρn : Rho) (P : Out → Prop) : Out → Prop
  | .next r => Le ρn r
  | .ret p => P (.ret p)

theorem X_each {x : Str} {tp pos : Pos} {iter : PySem.Expr} {body : List Stmt} {l : List PV} (src : Src Θ A env ρ (.Name x tp) iter l.length fun i v σ s => ∃ p, l[i]? = some p ∧ Rp Θ.prog Θ.w σ v p)
    (hk : KdS env x) (Rf : List PV → Rho) (h0 : Le (Rf []) ρ)
    (step : ∀ pre p post, l = pre ++ p :: post → X Θ A env (execs body env) ((x, .sh p) :: Rf pre) (Left (Rf (pre ++ [p])) P))
    (fin : ∀ r, Le (Rf l) r → P (.next r)) (hs : ∀ x, foldedSetIterable iter env x = pure x := by intro _; rfl) :
    X Θ A env (exec (.For (.Name x tp) iter body [] pos) env) ρ P := by
  refine X_for src (fun i r => Le (Rf (l.take i)) r) h0 (fun i r hi hI v σ s₀ σ₀ π s hv S => ?_) (fun r h => fin r (by rwa [List.take_length] at h)) hs
  obtain ⟨p, hp, hr⟩ := hv
  obtain ⟨e1, e2⟩ := take_snoc hp
  refine wpAny_mono (As_name hk _ _ _ _ _ _ (S.less hI) hr) (fun _ s' S' => ⟨_, σ, .refl _, S', (step _ _ _ e2).mono fun o h => ?_⟩) fun _ _ e => e
  cases o with
  | next r => rw [e1]; exact h
  | ret q => exact h

theorem X_signs {x : Str} {tp pos : Pos} {iter : PySem.Expr} {body : List Stmt} {t : Str} (src : Src Θ A env ρ (.Name x tp) iter t.cps.size fun i v σ s => ∃ c, t.cps[i]? = some c ∧ Rp Θ.prog Θ.w σ v (.str ⟨#[c]⟩))
    (hk : KdS env x) (Rf : List Nat → Rho) (h0 : Le (Rf []) ρ)
    (step : ∀ pre c post, t.cps.toList = pre ++ c :: post → X Θ A env (execs body env) ((x, .sh (.str ⟨#[c]⟩)) :: Rf pre) (Left (Rf (pre ++ [c])) P))
    (fin : ∀ r, Le (Rf t.cps.toList) r → P (.next r)) (hs : ∀ x, foldedSetIterable iter env x = pure x := by intro _; rfl) :
    X Θ A env (exec (.For (.Name x tp) iter body [] pos) env) ρ P := by
  refine X_for src (fun i r => Le (Rf (t.cps.toList.take i)) r) h0 (fun i r hi hI v σ s₀ σ₀ π s hv S => ?_) (fun r h => fin r (by rw [List.take_of_length_le (by simp)] at h; exact h)) hs
  obtain ⟨c, hp, hr⟩ := hv
  obtain ⟨e1, e2⟩ := take_snoc (l := t.cps.toList) (i := i) (p := c) (by simpa using hp)
  refine wpAny_mono (As_name hk _ _ _ _ _ _ (S.less hI) hr) (fun _ s' S' => ⟨_, σ, .refl _, S', (step _ _ _ e2).mono fun o h => ?_⟩) fun _ _ e => e
  cases o with
  | next r => rw [e1]; exact h
  | ret q => exact h

theorem X_vals {x : Str} {tp pos : Pos} {iter : PySem.Expr} {body : List Stmt} {l : List (Str × PV)} (src : Src Θ A env ρ (.Name x tp) iter l.length fun i v σ s => ∃ kk p, l[i]? = some (kk, p) ∧ Rp Θ.prog Θ.w σ v p)
    (hk : KdS env x) (Rf : List (Str × PV) → Rho) (h0 : Le (Rf []) ρ)
    (step : ∀ pre k p post, l = pre ++ (k, p) :: post → X Θ A env (execs body env) ((x, .sh p) :: Rf pre) (Left (Rf (pre ++ [(k, p)])) P))
    (fin : ∀ r, Le (Rf l) r → P (.next r)) (hs : ∀ x, foldedSetIterable iter env x = pure x := by intro _; rfl) :
    X Θ A env (exec (.For (.Name x tp) iter body [] pos) env) ρ P := by
  refine X_for src (fun i r => Le (Rf (l.take i)) r) h0 (fun i r hi hI v σ s₀ σ₀ π s hv S => ?_) (fun r h => fin r (by rwa [List.take_length] at h)) hs
  obtain ⟨k, p, hp, hr⟩ := hv
  obtain ⟨e1, e2⟩ := take_snoc hp
  refine wpAny_mono (As_name hk _ _ _ _ _ _ (S.less hI) hr) (fun _ s' S' => ⟨_, σ, .refl _, S', (step _ _ _ _ e2).mono fun o h => ?_⟩) fun _ _ e => e
  cases o with
  | next r => rw [e1]; exact h
  | ret q => exact h

theorem X_items {a b : Str} {ta tb tt pos : Pos} {kt : Nat} {iter : PySem.Expr} {body : List Stmt} {l : List (Str × PV)} (R : Room A 0)
    (src : Src Θ A env ρ (.Tuple [.Name a ta, .Name b tb] kt tt) iter l.length fun i v σ s => ∃ T items kk p, v = .ref T ∧ s.heap.IsTuple T items ∧ l[i]? = some (kk, p) ∧ Rps Θ.prog Θ.w σ items.toList [.str kk, p])
    (ha : KdS env a) (hb : KdS env b) (Rf : List (Str × PV) → Rho) (h0 : Le (Rf []) ρ)
    (step : ∀ pre k p post, l = pre ++ (k, p) :: post → X Θ A env (execs body env) ((b, .sh p) :: (a, .sh (.str k)) :: Rf pre) (Left (Rf (pre ++ [(k, p)])) P))
    (fin : ∀ r, Le (Rf l) r → P (.next r)) (hs : ∀ x, foldedSetIterable iter env x = pure x := by intro _; rfl) :
    X Θ A env (exec (.For (.Tuple [.Name a ta, .Name b tb] kt tt) iter body [] pos) env) ρ P := by
  refine X_for src (fun i r => Le (Rf (l.take i)) r) h0 (fun i r hi hI v σ s₀ σ₀ π s hv S => ?_) (fun r h => fin r (by rwa [List.take_length] at h)) hs
  obtain ⟨T, items, k, p, rfl, ht, hp, hr⟩ := hv
  obtain ⟨e1, e2⟩ := take_snoc hp
  refine wpAny_mono (As_heapTup R (.cons (As_name ha) (fun _ _ e => by cases e) (.cons (As_name hb) (fun _ _ e => by cases e) .nil)) (S.less hI) ht hr) (fun _ s' S' => ⟨_, σ, .refl _, S', (step _ _ _ _ e2).mono fun o h => ?_⟩) fun _ _ e => e
  cases o with
  | next r => rw [e1]; exact h
  | ret q => exact h

theorem X_enum {a b : Str} {ta tb tt pos : Pos} {kt : Nat} {iter : PySem.Expr} {body : List Stmt} {l : List PV} (R : Room A 0)
    (src : Src Θ A env ρ (.Tuple [.Name a ta, .Name b tb] kt tt) iter l.length fun i v σ s => ∃ T items p, v = .ref T ∧ s.heap.IsTuple T items ∧ l[i]? = some p ∧ Rps Θ.prog Θ.w σ items.toList [.int i, p])
    (ha : KdS env a) (hb : KdS env b) (Rf : List PV → Rho) (h0 : Le (Rf []) ρ)
    (step : ∀ pre p post, l = pre ++ p :: post → X Θ A env (execs body env) ((b, .sh p) :: (a, .sh (.int (pre.length : Int))) :: Rf pre) (Left (Rf (pre ++ [p])) P))
    (fin : ∀ r, Le (Rf l) r → P (.next r)) (hs : ∀ x, foldedSetIterable iter env x = pure x := by intro _; rfl) :
    X Θ A env (exec (.For (.Tuple [.Name a ta, .Name b tb] kt tt) iter body [] pos) env) ρ P := by
  refine X_for src (fun i r => Le (Rf (l.take i)) r) h0 (fun i r hi hI v σ s₀ σ₀ π s hv S => ?_) (fun r h => fin r (by rwa [List.take_length] at h)) hs
  obtain ⟨T, items, p, rfl, ht, hp, hr⟩ := hv
  obtain ⟨e1, e2⟩ := take_snoc hp
  refine wpAny_mono (As_heapTup R (.cons (As_name ha) (fun _ _ e => by cases e) (.cons (As_name hb) (fun _ _ e => by cases e) .nil)) (S.less hI) ht hr) (fun _ s' S' => ⟨_, σ, .refl _, S', ?_⟩) fun _ _ e => e
  have hlen : (l.take i).length = i := by rw [List.length_take]; omega
  have h := step _ _ _ e2
  rw [hlen] at h
  refine h.mono fun o h => ?_
  cases o with
  | next r => rw [e1]; exact h
  | ret q => exact h

/-- the text's defs -/
structure IsDef (Θ : Wd) (name : Str) (params : Arguments) (body : List Stmt) (scope : Scope) (a : Addr) : Prop where
  ex : ∃ o pm code doc, Θ.hb.get? a = some o ∧ o.data = .func (docDef name params body scope pm code doc) ∧ Θ.hb.CodeRec code name
  gv : Θ.gv name = some (.ref a)

/-- what a call of a def gives back -/
def Fn (Θ : Wd) (A : Around) (a : Addr) (ps : List PV) (q : PV) : Prop :=
  ∀ σ s vs, At Θ A σ s → Rps Θ.prog Θ.w σ vs ps → W Θ.prog Θ.w A (call (.ref a) vs) σ s fun v σ' s' => Rp Θ.prog Θ.w σ' v q

/-- the value of the flow -/
theorem Room.deeper {A : Around} {k : Nat} {env : Env} (R : Room A (k + 1)) : Room (A.deeper env) k :=
  ⟨R.handled, by have := R.depth; show A.depth + 1 + k < _; omega, by have := R.units; show A.units + 3 + 6 * k + 100 < _; omega⟩

theorem FS.plain {name : Str} {scope : Scope} {L a : Addr} {cd : Value} {h : Heap} {m : Str → Option Value} (hk : scope.kind = .function) (hn : h.Ns L m) : FS (envOf name scope L a cd) h m :=
  ⟨hk, rfl, rfl, ⟨m, hn, fun _ _ => rfl⟩, fun _ _ h => (by cases h), .nil, fun _ _ h => (by cases h)⟩

/-- a call runs the def's body: names all local -/
theorem Fn_plain (O : Θ.Ok) {name : Str} {params : Arguments} {body : List Stmt} {scope : Scope} {a : Addr} {ps : List PV} {q : PV} {k : Nat} {xs : List Str}
    (D : IsDef Θ name params body scope a) (R : Room A (k + 1)) (hlen : xs.length = ps.length)
    (hbind : ∀ pm cd doc (vs : List Value), vs.length = xs.length → bindArgs (docDef name params body scope pm cd doc) ⟨vs, []⟩ = pure (xs.zip vs))
    (hloc : ∀ x ∈ xs, scope.names.lookup x = some .local) (hnd : xs.Nodup)
    (h : ∀ L cd, X Θ (A.deeper (envOf name scope L a cd)) (envOf name scope L a cd) (execs body (envOf name scope L a cd)) (xs.zip (ps.map Bd.sh)) (fun o => o = .ret q))
    (hco : scope.isCoroutine = false := by rfl) (hgen : scope.isGenerator = false := by rfl) (hk : scope.kind = .function := by rfl) (hcell : ∀ x ∈ scope.names, x.2 ≠ .cell := by decide) : Fn Θ A a ps q := fun σ s vs at0 hv => by
  obtain ⟨o, pm, cd, doc, ho, hdata, hcd⟩ := D.ex
  have kb : Sub Θ.hb.get? s.heap.get? := at0.base.trans at0.le
  have hvl : vs.length = xs.length := hv.length.trans hlen.symm
  refine wpAny_call (call_plain_ret (by have := R.depth; omega) (kb _ _ ho) hdata (O.nolimit.keeps kb) (hcd.keeps kb) (hbind pm cd doc vs hvl) (fun y hy => ?_) (fun h₁ F => ?_) hco hgen hk hcell)
  · exact hloc y.1 (List.of_mem_zip hy).1
  · have S : StM Θ s σ (envOf name scope s.heap.objs.size a cd) s.heap.get? σ (xs.zip (ps.map Bd.sh)) (fun x => (xs.zip vs).reverse.lookup x) { s with heap := h₁, toks := s.toks + (xs.zip vs).length } := by
      refine ⟨at0.base, .refl _, fun b o' e => F.keep b o' (at0.le _ _ e), F.keep, .refl _, fun b o' e => .inl e, rfl, rfl, .refl _, FS.plain hk F.ns, ⟨get?_size _, none_of_sub at0.le (get?_size _)⟩, fun _ _ h => (by cases h), fun x b e => ?_, fun x y b c a' e1 e2 o1 => ?_⟩
      · obtain ⟨v, p, h1, rfl, hp⟩ := binds_of hnd hv hvl e
        exact ⟨v, h1, .sh hp, fun o => by cases o⟩
      · obtain ⟨v, p, _, rfl, _⟩ := binds_of hnd hv hvl e1
        cases o1
    refine wpAny_mono (h s.heap.objs.size cd s σ s.heap.get? σ _ ⟨_, S⟩) (fun f s' d => ?_) fun _ _ e => e
    cases f with
    | next => obtain ⟨ρ', σ', e, _⟩ := d; cases e
    | ret v => obtain ⟨p, σ', e, x, hr⟩ := d; cases e; exact ⟨σ', x, hr⟩
    | brk => exact d.elim
    | cont => exact d.elim
where
  binds_of {σ : Get} {xs : List Str} {vs : List Value} {ps : List PV} {x : Str} {b : Bd} (hnd : xs.Nodup) (hv : Rps Θ.prog Θ.w σ vs ps) (hl : vs.length = xs.length) (e : (xs.zip (ps.map Bd.sh)).lookup x = some b) :
      ∃ v p, (xs.zip vs).reverse.lookup x = some v ∧ b = .sh p ∧ Rp Θ.prog Θ.w σ v p := by
    have rv : ∀ (l : List (Str × Value)), (l.map (·.1)).Nodup → l.reverse.lookup x = l.lookup x := fun l hn => lookup_reverse_nodup l hn x
    rw [rv _ (by rw [List.map_fst_zip (by omega)]; exact hnd)]
    clear rv
    induction xs generalizing vs ps with
    | nil => cases e
    | cons y ys ih =>
      cases hv with
      | nil => simp at hl
      | @cons v p vs ps hp hr =>
        simp only [List.map_cons, List.zip_cons_cons, List.lookup_cons] at e ⊢
        by_cases hy : x = y
        · subst hy
          simp only [beq_self_eq_true] at e ⊢
          cases e
          exact ⟨v, p, rfl, rfl, hp⟩
        · have hy' : (x == y) = false := by simpa using hy
          simp only [hy'] at e ⊢
          exact ih (List.nodup_cons.mp hnd).2 hr (by simpa using hl) e
  lookup_reverse_nodup : ∀ (l : List (Str × Value)), (l.map (·.1)).Nodup → ∀ x, l.reverse.lookup x = l.lookup x
    | [], _, _ => rfl
    | (y, v) :: r, hn, x => by
      have hn' : y ∉ r.map (·.1) ∧ (r.map (·.1)).Nodup := by simpa using hn
      rw [List.reverse_cons, List.lookup_append, lookup_reverse_nodup r hn'.2 x, List.lookup_cons]
      by_cases hy : x = y
      · subst hy
        have : r.lookup x = none := by
          rw [List.lookup_eq_none_iff]
          intro p hp
          have : x ≠ p.1 := fun e => hn'.1 (e ▸ List.mem_map_of_mem hp)
          simpa using this
        simp [this]
      · have hy' : (x == y) = false := by simpa using hy
        simp only [hy', List.lookup_cons, List.lookup_nil]
        cases r.lookup x <;> rfl

/-- a call of a def by its name -/
theorem Ev_fn (O : Θ.Ok) {x : Str} {p pos : Pos} {es : List PySem.Expr} {ps : List PV} {a : Addr} {q : PV} {params : Arguments} {body : List Stmt} {scope : Scope} (D : IsDef Θ x params body scope a) (hk : env.kindOf x = some .globalImplicit) (hs : Evs Θ A env ρ es ps)
    (hf : Fn Θ A a ps q) (hd : (x == ("__debug__" : Str)) = false := by decide) : Ev Θ A env ρ (.Call (.Name x p) es [] pos) q := by
  obtain ⟨o, pm, cd, doc, ho, hdata, hcd⟩ := D.ex
  exact Ev_callee O D.gv hk hs (kept_fn ho hdata) hf hd
end
end Mine
end
section
open PySem PySem.Calls PyProof.Rows PySem.Builtin.Str
set_option linter.unusedVariables false
namespace Mine
section
variable {Θ : Wd} {A : Around} {env : Env} {ρ ρ' : Rho} {σ : Get} {s : Shared}

theorem strs_rp (l : List (Str × Tok)) {ys : List Str} (e : l.map (·.1) = ys) : Rps Θ.prog Θ.w σ (strValues l) (ys.map PV.str) := by
  subst e; exact Rps.of_strs (strsAre_of_values l)
theorem new_strs {l : List (Str × Tok)} {ys : List Str} (le : Sub σ s.heap.get?) (e : l.map (·.1) = ys) (tk : Nat) :
    ∃ σ', Ext σ s σ' { s with heap := s.heap.push { cls := .type "list", data := .seq (strValues l).toArray }, toks := tk } ∧ Rp Θ.prog Θ.w σ' (.ref s.heap.objs.size) (.lst (ys.map PV.str)) :=
  have x : Ext σ s (σ.add s.heap.objs.size { cls := .type "list", data := .seq (strValues l).toArray }) { s with heap := s.heap.push { cls := .type "list", data := .seq (strValues l).toArray }, toks := tk } :=
    Ext.new le (get?_size _) (Heap.get?_push_size _ rfl) (push_keep _ _) tk
  ⟨_, x, .lst (Get.add_self ..) rfl rfl (strs_rp l e)⟩

theorem split_call {x y : Str} {t u : Tok} (le : Sub σ s.heap.get?) (hy : (y.length == 0) = false) (hsz : x.length ≤ 1000000) :
    W Θ.prog Θ.w A (call (.builtin "str.split") [.str x t, .str y u]) σ s fun v σ' s' => Rp Θ.prog Θ.w σ' v (.lst ((Txt.split x y).map PV.str)) := by
  have hz : x.length ≤ sizeLine := by rw [sizeLine_eq]; omega
  have hn : (partsBetween x (occurrences x y 0 x.length (x.length + 1)) y.length).length ≤ sizeLine := by
    have e1 := StrLaws.occ_length_le_len x y 0 x.length (x.length + 1)
    rw [length_partsBetween, sizeLine_eq]; omega
  cases h1 : (decide (x.length < y.length) || decide (Builtin.Str.strKind x < Builtin.Str.strKind y))
  · cases hf : (occurrences x y 0 x.length (x.length + 1)).isEmpty
    · refine call_meets F.slot_str_split (typeIs_str _ _ _) F.entry_str_split (F.args_str_split_2 _ _) (meets_str_split_sep x y t u h1 hy hf hz hn) ?_
      show wants _ _ _ { s with toks := _, heap := s.heap.push { cls := .type "list", data := .seq (strsFrom s.toks (partsBetween x (occurrences x y 0 x.length (x.length + 1)) y.length)).toArray } }
      rw [strsFrom_eq]
      exact new_strs (l := numbered s.toks _) le ((numbered_texts _ _).trans ((if_neg (ne_true_of_eq_false h1)).trans (if_neg (ne_true_of_eq_false hf))).symm) _
    · exact call_meets F.slot_str_split (typeIs_str _ _ _) F.entry_str_split (F.args_str_split_2 _ _) (meets_str_split_not_found x y t u h1 hy hf)
        (new_strs (l := [(x, t)]) le ((if_neg (ne_true_of_eq_false h1)).trans (if_pos hf)).symm s.toks)
  · exact call_meets F.slot_str_split (typeIs_str _ _ _) F.entry_str_split (F.args_str_split_2 _ _) (meets_str_split_cannot_occur x y t u h1)
      (new_strs (l := [(x, t)]) le (if_pos h1).symm s.toks)

theorem split_max_call {x y : Str} {t u v : Tok} {k : Int} (le : Sub σ s.heap.get?) (hy : (y.length == 0) = false) (hk : (decide (k < -(2 ^ 63 : Int)) || decide (k ≥ 2 ^ 63)) = false) (hsz : x.length ≤ 1000000) :
    W Θ.prog Θ.w A (call (.builtin "str.split") [.str x t, .str y u, .int k v]) σ s fun v σ' s' => Rp Θ.prog Θ.w σ' v (.lst ((Txt.splitMax x y k).map PV.str)) := by
  have hz : x.length ≤ sizeLine := by rw [sizeLine_eq]; omega
  have hn : (partsBetween x (occurrences x y 0 x.length (limitOf x k)) y.length).length ≤ sizeLine := by
    have e1 := StrLaws.occ_length_le_len x y 0 x.length (limitOf x k)
    rw [length_partsBetween, sizeLine_eq]; omega
  cases h1 : (decide (x.length < y.length) || decide (Builtin.Str.strKind x < Builtin.Str.strKind y))
  · cases hf : (occurrences x y 0 x.length (limitOf x k)).isEmpty
    · refine call_meets F.slot_str_split (typeIs_str _ _ _) F.entry_str_split (F.args_str_split_3 _ _ _) (meets_str_split_sep_max x y k t u v hk h1 hy hf hz hn) ?_
      show wants _ _ _ { s with toks := _, heap := s.heap.push { cls := .type "list", data := .seq (strsFrom s.toks (partsBetween x (occurrences x y 0 x.length (limitOf x k)) y.length)).toArray } }
      rw [strsFrom_eq]
      exact new_strs (l := numbered s.toks _) le ((numbered_texts _ _).trans ((if_neg (ne_true_of_eq_false h1)).trans (if_neg (ne_true_of_eq_false hf))).symm) _
    · exact call_meets F.slot_str_split (typeIs_str _ _ _) F.entry_str_split (F.args_str_split_3 _ _ _) (meets_str_split_max_not_found x y k t u v hk h1 hy hf)
        (new_strs (l := [(x, t)]) le ((if_neg (ne_true_of_eq_false h1)).trans (if_pos hf)).symm s.toks)
  · exact call_meets F.slot_str_split (typeIs_str _ _ _) F.entry_str_split (F.args_str_split_3 _ _ _) (meets_str_split_max_cannot_occur x y k t u v hk h1)
      (new_strs (l := [(x, t)]) le (if_pos h1).symm s.toks)

theorem str_typeIs {σ : Get} {s : Shared} {v : Value} {x : Str} (h : Rp Θ.prog Θ.w σ v (.str x)) : s.TypeIs v "str" ∧ ∀ a, v = .ref a → ∃ ob, s.heap.get? a = some ob ∧ ob.dict = none := by
  cases h; exact ⟨typeIs_str _ _ _, fun _ e => by cases e⟩

theorem Ev_split {o e : PySem.Expr} {apos pos : Pos} {x y : Str} (ho : Ev Θ A env ρ o (.str x)) (he : Ev Θ A env ρ e (.str y)) (hns : ∀ a b, e ≠ .Starred a b) (hy : (y.length == 0) = false) (hsz : x.length ≤ 1000000)
    (hbase : attributeBase o "split" env (eval o env) = eval o env := by rfl) (hline : (apos.endLine == pos.line) = true := by rfl) :
    Ev Θ A env ρ (.Call (.Attribute o "split" apos) [e] [] pos) (.lst ((Txt.split x y).map PV.str)) :=
  Ev_meth ho (.cons he hns .nil) F.plainAttrs_str F.slot_str_split F.type_str_split (fun σ s v _ h => str_typeIs h) (fun σ s v vs h h1 h2 => by
    cases h1; cases h2 with | cons a b => cases a; cases b; exact split_call h.le hy hsz) (hlen := by simp) (hbase := hbase) (hline := hline)
theorem Ev_split_max {o e f : PySem.Expr} {apos pos : Pos} {x y : Str} {k : Int} (ho : Ev Θ A env ρ o (.str x)) (he : Ev Θ A env ρ e (.str y)) (hf : Ev Θ A env ρ f (.int k)) (hns : ∀ a b, e ≠ .Starred a b) (hns' : ∀ a b, f ≠ .Starred a b) (hy : (y.length == 0) = false)
    (hk : (decide (k < -(2 ^ 63 : Int)) || decide (k ≥ 2 ^ 63)) = false) (hsz : x.length ≤ 1000000)
    (hbase : attributeBase o "split" env (eval o env) = eval o env := by rfl) (hline : (apos.endLine == pos.line) = true := by rfl) :
    Ev Θ A env ρ (.Call (.Attribute o "split" apos) [e, f] [] pos) (.lst ((Txt.splitMax x y k).map PV.str)) :=
  Ev_meth ho (.cons he hns (.cons hf hns' .nil)) F.plainAttrs_str F.slot_str_split F.type_str_split (fun σ s v _ h => str_typeIs h) (fun σ s v vs h h1 h2 => by
    cases h1; cases h2 with | cons a b => cases a; cases b with | cons a b => cases a; cases b; exact split_max_call h.le hy hk hsz) (hlen := by simp) (hbase := hbase) (hline := hline)
theorem Ev_join {o e : PySem.Expr} {apos pos : Pos} {x : Str} {ys : List Str} (ho : Ev Θ A env ρ o (.str x)) (he : Ev Θ A env ρ e (.lst (ys.map PV.str))) (hns : ∀ a b, e ≠ .Starred a b)
    (hok : (ys.map (·.length)).sum + ys.length * x.length ≤ 16777216)
    (hbase : attributeBase o "join" env (eval o env) = eval o env := by rfl) (hline : (apos.endLine == pos.line) = true := by rfl) :
    Ev Θ A env ρ (.Call (.Attribute o "join" apos) [e] [] pos) (.str (Txt.join x ys)) :=
  Ev_meth ho (.cons he hns .nil) F.plainAttrs_str F.slot_str_join F.type_str_join (fun σ s v _ h => str_typeIs h) (fun σ s v vs h h1 h2 => by
    cases h1; cases h2 with | cons a b =>
      cases b
      obtain ⟨d, items, rfl, hl, hr⟩ := a.isList h.le
      exact PyProof.Rows.join_list hl hr.strs hok fun t' k => ⟨σ, .tok h.le _, .str _ _⟩) (hlen := by simp) (hbase := hbase) (hline := hline)

theorem Ev_len_list (O : Θ.Ok) {e : PySem.Expr} {p pos : Pos} {l : List PV} (hf : Θ.gv "len" = some (.builtin "len")) (hk : env.kindOf "len" = some .globalImplicit) (he : Ev Θ A env ρ e (.lst l)) (hns : ∀ a b, e ≠ .Starred a b) (hsz : l.length ≤ 1000000) :
    Ev Θ A env ρ (.Call (.Name "len" p) [e] [] pos) (.int (l.length : Int)) :=
  Ev_callee O hf hk (.cons he hns .nil) kept_builtin fun σ s vs h hv => by
    cases hv with | cons a b =>
      cases b
      obtain ⟨d, items, rfl, hl, hr⟩ := a.isList h.le
      have el := hr.length
      rw [Array.length_toList] at el
      refine PyProof.Rows.len_list hl (by rw [el]; omega) ?_
      rw [el]
      exact ⟨σ, .tok h.le _, .int _ _⟩
theorem Ev_len_str (O : Θ.Ok) {e : PySem.Expr} {p pos : Pos} {x : Str} (hf : Θ.gv "len" = some (.builtin "len")) (hk : env.kindOf "len" = some .globalImplicit) (he : Ev Θ A env ρ e (.str x)) (hns : ∀ a b, e ≠ .Starred a b) (hsz : x.length ≤ 1000000) :
    Ev Θ A env ρ (.Call (.Name "len" p) [e] [] pos) (.int (x.length : Int)) :=
  Ev_callee O hf hk (.cons he hns .nil) kept_builtin fun σ s vs h hv => by
    cases hv with | cons a b =>
      cases b; cases a
      exact PyProof.Rows.len_str (by omega) ⟨σ, .tok h.le _, .int _ _⟩
theorem Ev_sum (O : Θ.Ok) {e : PySem.Expr} {p pos : Pos} {l : List Int} (R : Room A 0) (hf : Θ.gv "sum" = some (.builtin "sum")) (hk : env.kindOf "sum" = some .globalImplicit) (he : Ev Θ A env ρ e (.lst (l.map PV.int))) (hns : ∀ a b, e ≠ .Starred a b) :
    Ev Θ A env ρ (.Call (.Name "sum" p) [e] [] pos) (.int l.sum) :=
  Ev_callee O hf hk (.cons he hns .nil) kept_builtin fun σ s vs h hv => by
    cases hv with | cons a b =>
      cases b
      obtain ⟨d, items, rfl, hl, hr⟩ := a.isList h.le
      have hi := hr.ints
      obtain ⟨xs, hx⟩ := hi.allInts.items
      have hn : numsOf items.toList = l := hi.numsOf
      have e1 : items.toList.toArray = items := by simp
      rw [e1] at hx
      subst hx
      rw [nums_intItems] at hn
      refine sum_intListG R.handled hl fun h' tk t' hk => ?_
      rw [preSum_eq, List.take_of_length_le (by simp), hn]
      exact ⟨σ, Ext.heap h.le (fun b o e => hk b o e) _, .int _ _⟩
theorem Ev_int_of (O : Θ.Ok) {e : PySem.Expr} {p pos : Pos} {n : Int} (hf : Θ.gv "int" = some (.type "int")) (hk : env.kindOf "int" = some .globalImplicit) (he : Ev Θ A env ρ e (.int n)) (hns : ∀ a b, e ≠ .Starred a b) :
    Ev Θ A env ρ (.Call (.Name "int" p) [e] [] pos) (.int n) :=
  Ev_callee O hf hk (.cons he hns .nil) kept_type fun σ s vs h hv => by
    cases hv with | cons a b =>
      cases b; cases a
      exact PySem.call_int_int ⟨σ, .refl h.le, .int _ _⟩

theorem Ev_get {o e f : PySem.Expr} {apos pos : Pos} {l : List (Str × PV)} {k : Str} {p : PV} (ho : Hd Θ A env ρ o l) (he : Ev Θ A env ρ e (.str k)) (hf : Ev Θ A env ρ f p) (hns : ∀ a b, e ≠ .Starred a b) (hns' : ∀ a b, f ≠ .Starred a b)
    (hbase : attributeBase o "get" env (eval o env) = eval o env := by rfl) (hline : (apos.endLine == pos.line) = true := by rfl) :
    Ev Θ A env ρ (.Call (.Attribute o "get" apos) [e, f] [] pos) ((valAt l k).getD p) := fun σ s R => by
  have hs : Evs Θ A env ρ [e, f] [.str k, p] := .cons he hns (.cons hf hns' .nil)
  refine meth_gen hs ((ho σ s R).mono fun v σ₁ s₁ x₁ ⟨d, ev, D⟩ => ?_) (hlen := by simp) (hbase := hbase) (hline := hline)
  subst ev
  obtain ⟨kvs, hd, hkv⟩ := D.ex
  refine ⟨"dict", _, F.plainAttrs_dict, F.slot_dict_get, F.type_dict_get, hd.typeIs, hd.mapOf.noDict, callW (R.ext x₁) hs kept_builtin fun σ' s' vs x hv => ?_⟩
  cases hv with | cons a b => cases b with | cons b c =>
    cases c; cases a
    have D' := D.ext x
    obtain ⟨kvs', hd', hkv'⟩ := D'.ex
    refine call_meetsIn F.slot_dict_get hd'.typeIs F.entry_dict_get (F.args_dict_get_3 _ _ _) (meets_dict_get_default _ d (strKind_is _ _ k _) D'.lo _) ⟨_, hd'.mapOf, ?_⟩
    rcases hkv'.valueAt (k := k) with ⟨e1, e2⟩ | ⟨u, q, e1, e2, hr⟩
    · rw [e1, e2]; exact ⟨σ', .tok x.le _, b⟩
    · rw [e1, e2]; exact ⟨σ', .tok x.le _, hr⟩

theorem count_ints (n : Int) {us : List Value} {l : List Int} (h : IntsAre us l) : us.countP (fun y => match y with | .int i _ => i == n | _ => false) = l.countP (· == n) := by
  induction h with
  | nil => rfl
  | cons a t r ih => rw [List.countP_cons, List.countP_cons, ih]
theorem Ev_count {x : Str} {px : Pos} {e : PySem.Expr} {apos pos : Pos} {l : List Int} {n : Int} (hr : ρ.lookup x = some (.ol (l.map PV.int))) (hk : Kd env x) (he : Ev Θ A env ρ e (.int n)) (hns : ∀ a b, e ≠ .Starred a b)
    (hd : (x == ("__debug__" : Str)) = false := by decide) (hline : (apos.endLine == pos.line) = true := by rfl) :
    Ev Θ A env ρ (.Call (.Attribute (.Name x px) "count" apos) [e] [] pos) (.int ((l.countP (· == n) : Nat) : Int)) := fun σ s R => by
  have hs : Evs Θ A env ρ [e] [.int n] := .cons he hns .nil
  have step : W Θ.prog Θ.w A (eval (.Name x px) env) σ s fun v σ' s' => ∃ d vs, v = .ref d ∧ s'.heap.PlainList d vs ∧ Rps Θ.prog Θ.w σ' vs.toList (l.map PV.int) := by
    obtain ⟨m, F, hb⟩ := R.m
    obtain ⟨v, hv, hp⟩ := hb x _ hr
    cases hp with
    | ol a b c => exact wpAny_Name (name_local F hk hv ⟨σ, .refl R.le, _, _, rfl, b, c⟩) hd
  refine meth_gen hs (step.mono fun v σ₁ s₁ x₁ ⟨d, vs, ev, hpl, hrs⟩ => ?_) (hlen := by simp) (hbase := rfl) (hline := hline)
  subst ev
  refine ⟨"list", _, F.plainAttrs_list, F.slot_list_count, F.type_list_count, hpl.isList.typeIs, fun a ea => by cases ea; obtain ⟨_, ho⟩ := hpl; exact ⟨_, ho, rfl⟩, callW (R.ext x₁) hs kept_builtin fun σ' s' ws x hv => ?_⟩
  cases hv with | cons a b =>
    cases b; cases a
    have hpl' := hpl.at fun o e => x.kp _ o e
    have hty := hpl'.isList.typeIs (s := s')
    obtain ⟨k, ho⟩ := hpl'
    have hrs' := (hrs.mono x.sub).ints
    refine call_meets F.slot_list_count hty F.entry_list_count (F.args_list_count_2 _ _) (MeetsSeq.list_count d vs k (.int n _) (fun y => match y with | .int i _ => i == n | _ => false) (fun y hy => ?_)) ⟨ho, ?_⟩
    · obtain ⟨a, u, rfl⟩ := hrs'.allInts y (by simpa using hy)
      exact MeetsSeq.EqGives.int a n u _
    · refine ⟨σ', .tok x.le _, ?_⟩
      have e := count_ints n hrs'
      rw [e]
      exact .int _ _
end
end Mine
end
section
open PySem PySem.Calls PyProof.Rows PySem.Builtin.Str
set_option linter.unusedVariables false
namespace Mine
abbrev NoE : Value → Shared → Prop := fun _ _ => False
def testsOf (ifs : List PySem.Expr) (env : Env) : Sem Bool := forIn ifs true fun c r => if r = true then do let ok ← isTrue c env (eval c env); pure (ForInStep.yield ok) else pure (ForInStep.yield r)

section
variable {prog : Program} {w : World} {A : Around} {R : Result → Shared → Prop} {s : Shared}
theorem loop_list {elt target iter : PySem.Expr} {ifs : List PySem.Expr} {scope : Scope} {pos : Pos} {it acc : Value} {env : Env} (I : Nat → Shared → Prop)
    (turn : ∀ n s, I n s → wpAny (model prog w) A (pyNext it) (fun r s₁ => match r with
      | none => R (.ok .next) s₁
      | some v => wpAny (model prog w) A (letOwnedTupleGo target it v) (fun _ s₂ => wpAny (model prog w) A (assign target env v) (fun _ s₃ => wpAny (model prog w) A (testsOf ifs env) (fun ok s₄ =>
          if ok = true then wpAny (model prog w) A (eval elt env) (fun x s₅ => wpAny (model prog w) A (call (.builtin "list.append") [acc, x]) (fun _ s₆ => ∃ m, m < n ∧ I m s₆) NoE s₅) NoE s₄
          else ∃ m, m < n ∧ I m s₄) NoE s₃) NoE s₂) NoE s₁) NoE s)
    (n : Nat) (h : I n s) : codeAny (model prog w) A (.compLoop (.ListComp elt [⟨target, iter, ifs, 0⟩] scope pos) 0 it acc env) R s := by
  refine codeAny_loop rfl I (fun n s hI => ?_) n h
  show wpAny _ A ((compTurn (.ListComp elt [⟨target, iter, ifs, 0⟩] scope pos) 0 it acc env).onRaise (fun x => do noteFrame x env; theTreesLotGoes x)) _ _ s
  refine wpAny_noted ?_
  rw [compTurn_list]
  refine wpAny_bind (wpAny_standAt (wpAny_bind (wpAny_mono (turn n s hI) (fun r s₁ h₁ => ?_) fun _ _ e => e.elim)))
  cases r with
  | none => exact wpAny_pure h₁
  | some v =>
    refine wpAny_bind (wpAny_mono h₁ (fun _ s₂ h₂ => ?_) fun _ _ e => e.elim)
    refine wpAny_bind (wpAny_mono h₂ (fun _ s₃ h₃ => wpAny_bind (wpAny_mono h₃ (fun ok s₄ h₄ => ?_) fun _ _ e => e.elim)) fun _ _ e => e.elim)
    cases ok with
    | false => exact wpAny_pure ⟨rfl, h₄⟩
    | true => exact wpAny_bind (wpAny_bind (wpAny_mono h₄ (fun x s₅ h₅ => wpAny_bind (wpAny_mono h₅ (fun _ s₆ h₆ => wpAny_pure (wpAny_pure ⟨rfl, h₆⟩)) fun _ _ e => e.elim)) fun _ _ e => e.elim))
theorem loop_dict {kx vx target iter : PySem.Expr} {ifs : List PySem.Expr} {scope : Scope} {pos : Pos} {it : Value} {D : Addr} {env : Env} (I : Nat → Shared → Prop)
    (turn : ∀ n s, I n s → wpAny (model prog w) A (pyNext it) (fun r s₁ => match r with
      | none => R (.ok .next) s₁
      | some v => wpAny (model prog w) A (letOwnedTupleGo target it v) (fun _ s₂ => wpAny (model prog w) A (assign target env v) (fun _ s₃ => wpAny (model prog w) A (testsOf ifs env) (fun ok s₄ =>
          if ok = true then wpAny (model prog w) A (eval kx env) (fun kv s₅ => wpAny (model prog w) A (eval vx env) (fun vv s₆ => wpAny (model prog w) A (dictSet D kv vv) (fun _ s₇ => ∃ m, m < n ∧ I m s₇) NoE s₆) NoE s₅) NoE s₄
          else ∃ m, m < n ∧ I m s₄) NoE s₃) NoE s₂) NoE s₁) NoE s)
    (n : Nat) (h : I n s) : codeAny (model prog w) A (.compLoop (.DictComp kx vx [⟨target, iter, ifs, 0⟩] scope pos) 0 it (.ref D) env) R s := by
  refine codeAny_loop rfl I (fun n s hI => ?_) n h
  show wpAny _ A ((compTurn (.DictComp kx vx [⟨target, iter, ifs, 0⟩] scope pos) 0 it (.ref D) env).onRaise (fun x => do noteFrame x env; theTreesLotGoes x)) _ _ s
  refine wpAny_noted ?_
  rw [compTurn_dict]
  refine wpAny_bind (wpAny_standAt (wpAny_bind (wpAny_mono (turn n s hI) (fun r s₁ h₁ => ?_) fun _ _ e => e.elim)))
  cases r with
  | none => exact wpAny_pure h₁
  | some v =>
    refine wpAny_bind (wpAny_mono h₁ (fun _ s₂ h₂ => ?_) fun _ _ e => e.elim)
    refine wpAny_bind (wpAny_mono h₂ (fun _ s₃ h₃ => wpAny_bind (wpAny_mono h₃ (fun ok s₄ h₄ => ?_) fun _ _ e => e.elim)) fun _ _ e => e.elim)
    cases ok with
    | false => exact wpAny_pure ⟨rfl, h₄⟩
    | true =>
      exact wpAny_bind (wpAny_bind (wpAny_mono h₄ (fun kv s₅ h₅ => wpAny_bind (wpAny_holding (wpAny_mono h₅ (fun vv s₆ h₆ => wpAny_bind (wpAny_standAt (wpAny_holding (wpAny_mono h₆ (fun _ s₇ h₇ => wpAny_pure ⟨rfl, h₇⟩) fun _ _ e => e.elim)))) fun _ _ e => e.elim))) fun _ _ e => e.elim))
end

def accN : Str := ".acc"
section
variable {Θ : Wd} {A : Around} {env : Env} {ρ ρ' ρf : Rho} {s₀ : Shared} {σ₀ π σ : Get} {s : Shared} {m : Str → Option Value} {P : Out → Prop}

/-- a target takes a value; the phantom stands -/
def AsM (Θ : Wd) (A : Around) (env : Env) (target : PySem.Expr) (v : Value) (σ : Get) (s : Shared) (ρ ρ' : Rho) : Prop :=
  ∀ s₀ σ₀ π m, StM Θ s₀ σ₀ env π σ ρ m s → wpAny (model Θ.prog Θ.w) A (assign target env v) (fun _ s' => ∃ m', StM Θ s₀ σ₀ env π σ ρ' m' s' ∧ m' accN = m accN) NoE s
theorem AsM_name {x : Str} {pos : Pos} {p : PV} {v : Value} (hk : KdS env x) (hx : x ≠ accN) (hv : Rp Θ.prog Θ.w σ v p) : AsM Θ A env (.Name x pos) v σ s ρ ((x, .sh p) :: ρ) := fun s₀ σ₀ π m S =>
  wpAny_assign_Name (S.put hk (.sh hv) (fun o => by cases o) fun s' S' => ⟨_, S', by simp [Ne.symm hx]⟩)

/-- names, each with what it takes -/
inductive Nms (env : Env) : List PySem.Expr → List PV → Rho → Rho → Prop
  | nil {ρ : Rho} : Nms env [] [] ρ ρ
  | cons {x : Str} {pos : Pos} {p : PV} {es : List PySem.Expr} {ps : List PV} {ρ ρ' : Rho} : KdS env x → x ≠ accN → Nms env es ps ((x, .sh p) :: ρ) ρ' → Nms env (.Name x pos :: es) (p :: ps) ρ ρ'
theorem Nms.length {es : List PySem.Expr} {ps : List PV} (h : Nms env es ps ρ ρ') : (assignEach es env).length = ps.length := by
  induction h with
  | nil => rfl
  | cons a b c ih => rw [assignEach_cons (fun _ _ e => by cases e)]; simp [ih]
theorem Nms.star {es : List PySem.Expr} {ps : List PV} (h : Nms env es ps ρ ρ') : (assignEach es env).findIdx? (·.1) = none := by
  induction h with
  | nil => rfl
  | cons a b c ih => rw [assignEach_cons (fun _ _ e => by cases e), List.findIdx?_cons]; simp [ih]
theorem Nms.run {es : List PySem.Expr} {ps : List PV} (h : Nms env es ps ρ ρ') : ∀ {s : Shared} {vs : List Value} {m : Str → Option Value}, StM Θ s₀ σ₀ env π σ ρ m s → Rps Θ.prog Θ.w σ vs ps →
    wpAny (model Θ.prog Θ.w) A (assignInOrder ((assignEach es env).map (·.2)) vs) (fun _ s' => ∃ m', StM Θ s₀ σ₀ env π σ ρ' m' s' ∧ m' accN = m accN) NoE s := by
  induction h with
  | nil => intro s vs m S hv; cases hv; exact assignInOrder_nil ⟨m, S, rfl⟩
  | cons a b c ih =>
    intro s vs m S hv
    cases hv with
    | cons hv hr =>
      rw [assignEach_cons (fun _ _ e => by cases e)]
      exact assignInOrder_cons (wpAny_mono (AsM_name a b hv _ _ _ _ S) (fun _ s₁ ⟨m₁, S₁, e₁⟩ => wpAny_mono (ih S₁ hr) (fun _ s₂ ⟨m₂, S₂, e₂⟩ => ⟨m₂, S₂, e₂.trans e₁⟩) fun _ _ e => e) fun _ _ e => e)
theorem AsM_tup (R : Room A 0) {elts : List PySem.Expr} {k : Nat} {pos : Pos} {ps : List PV} {t : Addr} {items : Array Value} (h : Nms env elts ps ρ ρ') (ht : s.heap.IsTuple t items) (hr : Rps Θ.prog Θ.w σ items.toList ps) :
    AsM Θ A env (.Tuple elts k pos) (.ref t) σ s ρ ρ' := fun s₀ σ₀ π m S => by
  have e := hr.length
  rw [Array.length_toList] at e
  exact wpAny_assign_Tuple R.handled ht (h.length.trans e.symm) h.star fun h' hx => h.run (S.ext (Ext.heap S.rd.le (sub_extBut hx) s.toks)) hr

def Tests (Θ : Wd) (A : Around) (env : Env) (ρ : Rho) (ifs : List PySem.Expr) (b : Bool) : Prop := ∀ σ s, Rd Θ env ρ σ s → W Θ.prog Θ.w A (testsOf ifs env) σ s fun v σ' s' => v = b
theorem Tests_nil : Tests Θ A env ρ [] true := fun σ s R => W.pure R.le rfl
theorem Tests_one {c : PySem.Expr} {b : Bool} (h : Tv Θ A env ρ c b) : Tests Θ A env ρ [c] b := fun σ s R => wpAny_tests_one (h σ s R)

/-- the closure of a comprehension -/
structure Clo (scope : Scope) (env : Env) (cl : List (Str × Addr)) : Prop where
  clos : closureFor scope env = pure cl
  cell : ∀ z ∈ scope.names, z.2 ≠ .cell
  kind : scope.kind = .function
  names : ∀ z ∈ scope.names, z.2 = .local → scope.names.lookup z.1 = some .local
  mem : ∀ x c, (x, c) ∈ cl → (x, c) ∈ env.cells ∧ (relabel scope env).names.lookup x = some .cell ∧ cl.lookup x = some c
  apart : cl.Pairwise fun x y => x.2 ≠ y.2
  acc : (relabel scope env).names.lookup accN = none

def Free (cl : List (Str × Addr)) (ρ ρf : Rho) : Prop := ∀ x b, ρf.lookup x = some b → ρ.lookup x = some b ∧ b.own = false ∧ (cl.lookup x).isSome = true

theorem comp_enter {scope : Scope} {cl : List (Str × Addr)} {b : Bd} {s₂ : Shared} {σ₂ : Get} {h₁ : Heap} {tk : Nat} {D C : Addr} (K : Clo scope env cl) (S : StM Θ s₀ σ₀ env π σ ρ m s) (x : Ext σ s σ₂ s₂) (hf : Free cl ρ ρf)
    (ho : b.own = true) (hD : s₂.heap.get? D = none) (hC : s₂.heap.get? C = none) (hDC : D ≠ C) (k : Sub s₂.heap.get? h₁.get?) (hn : h₁.Ns C fun _ => none) (hb : RpB Θ σ₂ h₁ (.ref D) b) :
    StM Θ s σ (compEnvC scope cl C env) s.heap.get? σ₂ ((accN, b) :: ρf) (fun z => if z = accN then some (.ref D) else if (cl.lookup z).isSome = true then m z else none) { s₂ with heap := h₁, toks := tk } := by
  have S₂ := S.ext x
  have naccl : ∀ z, (cl.lookup z).isSome = true → z ≠ accN := fun z hz e => by
    obtain ⟨c, hc⟩ := Option.isSome_iff_exists.mp hz
    have := (K.mem z c (mem_of_lookup hc)).2.1
    rw [e, K.acc] at this; cases this
  refine ⟨S.rd.base, x.sub, x.le.trans k, x.kp.trans k, .refl _, x.frs, x.os, x.dr, x.gens, ⟨K.kind, S.fs.gl, S.fs.bu, ⟨_, hn, fun z hz => ?_⟩, fun z c hc => ?_, K.apart, fun z c hc => ⟨(K.mem z c hc).2.1, (K.mem z c hc).2.2⟩⟩,
    ⟨none_of_sub x.kp hC, none_of_sub x.le hC⟩, fun z c hc => ⟨fun h => (by cases h), (S₂.ce z c (K.mem z c hc).1).2.1, ?_⟩, fun z b' e => ?_, fun y z c d a' e1 e2 o1 o2 m1 m2 => ?_⟩
  · have hz' : (relabel scope env).names.lookup z = some .local := hz
    have h1 : z ≠ accN := fun e => by rw [e, K.acc] at hz'; cases hz'
    have h2 : ¬ (cl.lookup z).isSome = true := fun h => by
      obtain ⟨c, hc⟩ := Option.isSome_iff_exists.mp h
      have := (K.mem z c (mem_of_lookup hc)).2.1
      rw [hz'] at this; cases this
    simp only [if_neg h1, if_neg h2]
  · have hl : (cl.lookup z).isSome = true := by rw [(K.mem z c hc).2.2]; rfl
    simp only [if_neg (naccl z hl), if_pos hl]
    exact (S₂.fs.cell z c (K.mem z c hc).1).keeps k
  · intro eC
    obtain ⟨o, ho', _⟩ := S₂.fs.cell z _ (K.mem z _ hc).1
    have ho'' : s₂.heap.get? C = some o := by rw [← show c = C from eC]; exact ho'
    rw [hC] at ho''; cases ho''
  · rw [List.lookup_cons] at e
    by_cases hz : z = accN
    · subst hz
      simp only [beq_self_eq_true] at e
      cases e
      refine ⟨.ref D, if_pos rfl, hb, fun _ a ea => ?_⟩
      cases ea
      refine ⟨none_of_sub x.kp hD, hDC, fun y c hc => ?_⟩
      rintro rfl
      obtain ⟨o, ho', _⟩ := S₂.fs.cell y _ (K.mem y _ hc).1
      rw [hD] at ho'; cases ho'
    · have hz' : (z == accN) = false := by simpa using hz
      simp only [hz'] at e
      obtain ⟨h1, h2, h3⟩ := hf z b' e
      obtain ⟨v, q1, q2, q3⟩ := S₂.b z b' h1
      refine ⟨v, by simp only [if_neg hz, if_pos h3]; exact q1, ?_, fun h => by rw [h2] at h; cases h⟩
      cases q2 with
      | sh h => exact .sh h
      | od => cases h2
      | ol => cases h2
  · have own : ∀ y c, ((accN, b) :: ρf).lookup y = some c → c.own = true → y = accN := fun y c e o => by
      rw [List.lookup_cons] at e
      by_cases hy : y = accN
      · exact hy
      · have hy' : (y == accN) = false := by simpa using hy
        simp only [hy'] at e
        rw [(hf y c e).2.1] at o; cases o
    rw [own y c e1 o1, own z d e2 o2]

/-- the end of a comprehension: its value is bound, its names go -/
theorem comp_end {y : Str} {py : Pos} {C D : Addr} {scope : Scope} {cl : List (Str × Addr)} {σ' : Get} {m' : Str → Option Value} {s' : Shared} {b : Bd} {p : PV}
    (S : StM Θ s₀ σ₀ env π σ ρ m s) (hC : s.heap.get? C = none) (T : StM Θ s σ (compEnvC scope cl C env) s.heap.get? σ' ((accN, b) :: ρf) m' s') (hm : m' accN = some (.ref D))
    (hp : (∃ l, b = .od l ∧ p = .dic l) ∨ ∃ l, b = .ol l ∧ p = .lst l) (hk : KdS env y) (hP : P (.next ((y, .sh p) :: ρ))) :
    wpAny (model Θ.prog Θ.w) A (assign (.Name y py) env (.ref D)) (fun _ s'' => ∃ mc, s''.heap.Ns C mc ∧ ∀ h', Heap.SameBut C s''.heap h' → Done Θ s₀ σ₀ env π σ P .next { s'' with heap := h' }) NoE s' := by
  obtain ⟨σ'', hs, T'⟩ := T.freeze (x := accN) (b := b) (p := p) (by simp) hp
  obtain ⟨v, hv, hr, _⟩ := T'.b accN (.sh p) (by simp)
  rw [hm] at hv; cases hv
  cases hr with
  | sh hr =>
  have x : Ext σ s σ'' s' := ⟨T'.sub, T'.le, T'.hπ.trans T'.πle, fun a o e => (T'.frs a o e).imp id fun n => n, T'.os, T'.dr, T'.gens⟩
  have So := S.ext x
  obtain ⟨mc, hnc, _⟩ := T'.fs.ns
  have hnc' : s'.heap.Ns C mc := hnc
  have nC : ∀ a, s.heap.get? a ≠ none → a ∉ [C] := fun a h hm => by rw [List.mem_singleton.mp hm] at h; exact h hC
  have ap : Ap env ρ m [C] := by
    refine ⟨nC _ (by obtain ⟨_, ⟨o, _, _, ho, _⟩, _⟩ := S.fs.ns; rw [ho]; simp), fun z c hc => nC _ (by obtain ⟨o, ho, _⟩ := S.fs.cell z c hc; rw [ho]; simp), fun z b a e o q => nC _ ?_⟩
    obtain ⟨v, h1, h2, h3⟩ := S.b z b e
    rw [q] at h1; cases h1
    cases h2 with
    | sh => cases o
    | od n d lo hk => obtain ⟨o', _, _, ho, _⟩ := d; rw [ho]; simp
    | ol n d hk => obtain ⟨_, ho⟩ := d; rw [ho]; simp
  have G := So.guard ap
  refine wpAny_assign_Name (G.put hk (.sh hr) (fun o => by cases o) fun s'' P'' => ?_)
  obtain ⟨U, ap₂, hfx, hnn⟩ := So.unguard P'' ap.c (fun a ha => by rw [List.mem_singleton.mp ha]; obtain ⟨o, _, _, ho, _⟩ := hnc'; exact ⟨o, ho⟩) (fun a ha o e => So.πle a o e)
  refine ⟨mc, hnc'.at' fun o e => hfx C (by simp) o e, fun h' hs' => ?_⟩
  have σC : σ'' C = none := T'.lo.2
  have V := U.turn (h' := h') (tk := s''.toks) ap₂ (fun a ha => by rw [List.mem_singleton.mp ha]; exact ⟨σC, none_of_sub S.πle hC⟩) fun b o hb e => (hs'.2 b (by simpa using hb)).trans e
  exact ⟨_, σ'', hP, x.sub, _, V⟩
end
end Mine
end
section
open PySem PySem.Calls PyProof.Rows PySem.Builtin.Str
set_option linter.unusedVariables false
namespace Mine
section
variable {Θ : Wd} {A : Around} {env : Env} {ρ ρ' ρf : Rho} {s₀ : Shared} {σ₀ π σ : Get} {s : Shared} {m : Str → Option Value} {P : Out → Prop}

theorem cond_false {α : Type} {x y : α} : (if (false : Bool) = true then x else y) = y := if_neg (by decide)

theorem Le.acc {ρf ρ₁ : Rho} {b : Bd} (hf : ρf.lookup accN = none) (h : Le ρf ρ₁) : Le ((accN, b) :: ρf) ((accN, b) :: ρ₁) := fun y c e => by
  rw [List.lookup_cons] at e ⊢
  by_cases hy : y = accN
  · subst hy; simpa using e
  · have hy' : (y == accN) = false := by simpa using hy
    simp only [hy'] at e ⊢; exact h y c e

/-- one turn of a list comprehension -/
def StepL (Θ : Wd) (A : Around) (env : Env) (ρf : Rho) (target : PySem.Expr) (ifs : List PySem.Expr) (elt : PySem.Expr) (v : Value) (σ : Get) (s : Shared) (r r' : List PV) : Prop :=
  ∃ ρ₁ b p, AsM Θ A env target v σ s ((accN, .ol r) :: ρf) ρ₁ ∧ ρ₁.lookup accN = some (.ol r) ∧ Le ρf ρ₁ ∧ Tests Θ A env ρ₁ ifs b ∧ (b = true → Ev Θ A env ρ₁ elt p) ∧ r' = if b = true then r ++ [p] else r
def StepD (Θ : Wd) (A : Around) (env : Env) (ρf : Rho) (target : PySem.Expr) (ifs : List PySem.Expr) (kx vx : PySem.Expr) (v : Value) (σ : Get) (s : Shared) (r r' : List (Str × PV)) : Prop :=
  ∃ ρ₁ b k p, AsM Θ A env target v σ s ((accN, .od r) :: ρf) ρ₁ ∧ ρ₁.lookup accN = some (.od r) ∧ Le ρf ρ₁ ∧ Tests Θ A env ρ₁ ifs b ∧ (b = true → Ev Θ A env ρ₁ kx (.str k) ∧ Ev Θ A env ρ₁ vx p) ∧ r' = if b = true then putAt r k p else r

theorem put_len (l : List (Str × PV)) (k : Str) (p : PV) : (putAt l k p).length ≤ l.length + 1 := by
  unfold putAt; split <;> simp

theorem X_assign_lc {y : Str} {py pos spos : Pos} {elt target iter : PySem.Expr} {ifs : List PySem.Expr} {scope : Scope} {cl : List (Str × Addr)} {n : Nat} {Pv : Nat → Value → Get → Shared → Prop} (src : Src Θ A env ρ target iter n Pv) (hsz : n ≤ 100000)
    (K : Clo scope env cl) (hf : Free cl ρ ρf) (hfa : ρf.lookup accN = none) (res : Nat → List PV) (h0 : res 0 = [])
    (step : ∀ C i, i < n → ∀ v σ s, Pv i v σ s → StepL Θ A (compEnvC scope cl C env) ρf target ifs elt v σ s (res i) (res (i + 1)))
    (hk : KdS env y) (hP : P (.next ((y, .sh (.lst (res n))) :: ρ)))
    (hsw : swapsWith (.ListComp elt [⟨target, iter, ifs, 0⟩] scope pos) (some (.Name y py)) spos.line env = pure true := by rfl)
    (hs : ∀ x, foldedSetIterable iter env x = pure x := by intro _; rfl) :
    X Θ A env (exec (.Assign [.Name y py] (.ListComp elt [⟨target, iter, ifs, 0⟩] scope pos) spos) env) ρ P := fun s₀ σ₀ π σ s ⟨m, S⟩ => by
  rw [exec_Assign_Name_used _ _ _ _ hsw]
  refine wpAny_bind (wpAny_standAt (wpAny_bind ?_))
  show wpAny _ A (do let _ ← comprehension (.ListComp elt [⟨target, iter, ifs, 0⟩] scope pos) scope env _ (newList []) false (eval iter env) (some (assign (.Name y py) env))) _ _ s
  refine wpAny_bind (wpAny_mono (wpAny_comprehension_free (use := some (assign (.Name y py) env)) (Q := fun _ s' => Done Θ s₀ σ₀ env π σ P .next s') rfl hs K.clos K.kind K.names
    (wpAny_mono (src σ s S.rd) (fun xv s₁ h₁ => wpAny_mono h₁ (fun it s₂ h₂ => ?_) fun _ _ e => e.elim) fun _ _ e => e.elim)) (fun _ s' hq => wpAny_pure (wpAny_pure hq)) fun _ _ e => e)
  obtain ⟨σ₂, I, fp, wr, Pk, Md, Stt, rfl, x, Wk, st0, hself, hwr, hfp, hex, hPv⟩ := h₂
  refine wpAny_newObj_type (wpAny_newFunctionEnv K.cell (by intro y hy; simp at hy) (fun h₁ hns₁ hsb₁ => ?_) K.kind)
  dsimp only at hns₁ hsb₁ ⊢
  generalize hH2 : s₂.heap.push { cls := .type "list", dict := none, data := .seq ([] : List Value).toArray } = H2 at hns₁ hsb₁ ⊢
  have hCs : H2.objs.size = s₂.heap.objs.size + 1 := by rw [← hH2, Heap.size_push]
  have hDC : s₂.heap.objs.size ≠ H2.objs.size := by rw [hCs]; exact Nat.ne_of_lt (Nat.lt_succ_self _)
  have old : Sub s₂.heap.get? h₁.get? := fun b o e => hsb₁.extBut b o (by rw [hCs]; exact Nat.ne_of_lt (Nat.lt_succ_of_lt (Heap.lt_size e))) (Heap.get?_push_of_some _ (hH2 ▸ Heap.get?_push_of_some _ e))
  have hD : s₂.heap.get? s₂.heap.objs.size = none := get?_size _
  have hC : s₂.heap.get? H2.objs.size = none := by rw [← hH2]; exact push_fresh
  have hacc : h₁.PlainList s₂.heap.objs.size #[] := ⟨_, hsb₁.extBut _ _ hDC (Heap.get?_push_of_some _ (hH2 ▸ Heap.get?_push_size _ rfl))⟩
  have hexf : ∀ a, s₂.heap.get? a = none → a ∉ fp := fun a e hm => by obtain ⟨o, ho⟩ := hex 0 _ st0 a hm; rw [e] at ho; cases ho
  have hst₁ : Stt 0 h₁ := Wk.frame _ _ _ st0 fun b _ o e => old b o e
  generalize hCC : H2.objs.size = C at hns₁ hsb₁ hDC hC ⊢
  generalize hDD : s₂.heap.objs.size = D at hD hDC hacc ⊢
  have S1 := comp_enter (tk := s₂.toks + ([] : List (Str × Value)).length) K S x hf (b := .ol []) rfl hD hC hDC old hns₁ (.ol (none_of_sub x.le hD) hacc .nil)
  have hCs0 : s.heap.get? C = none := none_of_sub x.kp hC
  have cells : ∀ y c, (y, c) ∈ cl → c ∉ fp := fun y c hc hm => by
    have S₂ := S.ext x
    have h1 := (S₂.ce y c (K.mem y c hc).1).2.1
    rcases hfp c hm with h | ⟨o, h⟩
    · obtain ⟨o, ho, _⟩ := S.fs.cell y c (K.mem y c hc).1
      rw [(hwr c h).1] at ho; cases ho
    · rw [h1] at h; cases h
  have own : ∀ r y c, ((accN, Bd.ol r) :: ρf).lookup y = some c → c.own = true → y = accN := fun r y c e o => by
    rw [List.lookup_cons] at e
    by_cases hy : y = accN
    · exact hy
    · have hy' : (y == accN) = false := by simpa using hy
      simp only [hy'] at e
      rw [(hf y c e).2.1] at o; cases o
  have loop : ∀ s₃ : Shared, s₃ = { s₂ with heap := h₁, toks := s₂.toks + ([] : List (Str × Value)).length } →
      codeAny (model Θ.prog Θ.w) A (.compLoop (.ListComp elt [⟨target, iter, ifs, 0⟩] scope pos) 0 (.ref I) (.ref D) (compEnvC scope cl C env))
        (compPost (model Θ.prog Θ.w) A NoE (some (assign (.Name y py) env)) (fun _ s' => Done Θ s₀ σ₀ env π σ P .next s') (.ref D) C) s₃ := by
    rintro s₃ rfl
    refine loop_list (fun k s' => ∃ i σ' m', i ≤ n ∧ k = n + 1 - i ∧ (res i).length ≤ i ∧ Sub σ₂ σ' ∧ StM Θ s σ (compEnvC scope cl C env) s.heap.get? σ' ((accN, .ol (res i)) :: ρf) m' s' ∧ m' accN = some (.ref D) ∧
      Stt i s'.heap ∧ ∀ a ∈ wr, σ' a = none) ?_ (n + 1) ⟨0, σ₂, _, Nat.zero_le _, rfl, by rw [h0]; exact Nat.le_refl _, .refl _, by rw [h0]; exact S1, if_pos rfl, hst₁, fun a hm => (hwr a hm).2⟩
    rintro k s' ⟨i, σ', m', hi, rfl, hlen, hsub, T, hm, st', hwn⟩
    have ap : Ap (compEnvC scope cl C env) ((accN, .ol (res i)) :: ρf) m' fp := by
      refine ⟨hexf _ hC, cells, fun z b a e o q => ?_⟩
      obtain rfl := own _ z b e o
      rw [hm] at q; cases q
      exact hexf _ hD
    have apw : Ap (compEnvC scope cl C env) ((accN, .ol (res i)) :: ρf) m' wr := ⟨fun h => ap.l (Wk.sub _ h), fun y c hc h => ap.c y c hc (Wk.sub _ h), fun z b a e o q h => ap.o z b a e o q (Wk.sub _ h)⟩
    have nwπ : ∀ a ∈ wr, s.heap.get? a = none := fun a hm => (hwr a hm).1
    by_cases hlt : i < n
    · refine Wk.item i s' _ _ hlt st' fun v h₂ tk₂ hMd hk₂ => ?_
      refine Wk.go i v _ _ _ hMd fun h₃ hPk st₃ hk₃ => ?_
      have T1 := T.turn (h' := h₃) (tk := tk₂) apw (fun a hm => ⟨hwn a hm, nwπ a hm⟩) fun b o hb e => hk₃ b o hb (hk₂ b o hb e)
      have G := T1.guard ap
      obtain ⟨ρ₁, b, p, hA, hl1, hle, hT, hE, hres⟩ := step C i hlt v σ' { s' with heap := h₃, toks := tk₂ } (hPv i v σ' _ hsub T1.le hPk)
      refine wpAny_mono (hA _ _ _ _ G) (fun _ s₄ ⟨m₄, S₄, e₄⟩ => ?_) fun _ _ e => e
      refine (hT σ' s₄ S₄.rd).then fun ok σ₅ s₅ x₅ e₅ => ?_
      subst e₅
      have S₅ := S₄.ext x₅
      cases ok with
      | false =>
        rw [cond_false] at hres
        simp only [Bool.false_eq_true, if_false]
        have S₆ := S₅.less (ρ₂ := (accN, .ol (res i)) :: ρf) (Le.cons hl1 hle)
        obtain ⟨U, ap₄, hfx, hnn⟩ := T1.unguard S₆ ap.c (hex _ _ st₃) fun a hm o e => T1.πle a o e
        refine ⟨n + 1 - (i + 1), by omega, i + 1, σ₅, m₄, hlt, rfl, by rw [hres]; omega, hsub.trans x₅.sub, by rw [hres]; exact U, e₄.trans hm, Wk.frame _ _ _ st₃ fun b hb o e => hfx b hb o e, fun a hm => hnn a (Wk.sub _ hm) (hwn a hm)⟩
      | true =>
        rw [if_pos rfl] at hres
        simp only [if_true]
        refine (hE rfl σ₅ s₅ S₅.rd).then fun u σ₆ s₆ x₆ h₆ => ?_
        have S₆ := S₅.ext x₆
        have hm₄ : m₄ accN = some (.ref D) := e₄.trans hm
        obtain ⟨u', hu', hb', _⟩ := S₆.b accN _ hl1
        rw [hm₄] at hu'; cases hu'
        cases hb' with
        | @ol _ vs' _ n' hpl' hkv' =>
          have e1 := hkv'.length
          rw [Array.length_toList] at e1
          refine wpAny_list_append_plain hpl' (fun h' hp' hs' => ?_) (by rw [sizeLine_eq]; omega)
          have V := S₆.mut (h' := h') (tk := s₆.toks) hl1 rfl hm₄ rfl hs' (b' := .ol (res i ++ [p])) (.ol n' hp' (by rw [Array.toList_push]; exact hkv'.append (.cons h₆ .nil)))
          have S₇ := V.less (ρ₂ := (accN, .ol (res i ++ [p])) :: ρf) (Le.acc hfa hle)
          obtain ⟨U, ap₄, hfx, hnn⟩ := T1.unguard S₇ ap.c (hex _ _ st₃) fun a hm o e => T1.πle a o e
          refine ⟨n + 1 - (i + 1), by omega, i + 1, σ₆, m₄, hlt, rfl, by rw [hres, List.length_append, List.length_singleton]; omega, hsub.trans (x₅.sub.trans x₆.sub), by rw [hres]; exact U, hm₄, Wk.frame _ _ _ st₃ fun b hb o e => hfx b hb o e, fun a hm => hnn a (Wk.sub _ hm) (hwn a hm)⟩
    · have hin : i = n := by omega
      subst hin
      refine Wk.done s' _ _ st' fun h₂ tk₂ hk₂ => ?_
      have T1 := T.turn (h' := h₂) (tk := tk₂) apw (fun a hm => ⟨hwn a hm, nwπ a hm⟩) hk₂
      exact comp_end S hCs0 T1 hm (.inr ⟨_, rfl, rfl⟩) hk hP
  subst hCC hDD
  exact codeAny_compStart_list (loop _ rfl) (wpAny_mono (hself _ _ NoE hst₁ (loop _ rfl)) (fun _ _ e => e) fun _ _ e => e.elim)

theorem X_assign_dc (O : Θ.Ok) {y : Str} {py pos spos : Pos} {kx vx target iter : PySem.Expr} {ifs : List PySem.Expr} {scope : Scope} {cl : List (Str × Addr)} {n : Nat} {Pv : Nat → Value → Get → Shared → Prop} (src : Src Θ A env ρ target iter n Pv) (hsz : n ≤ 100000)
    (K : Clo scope env cl) (hf : Free cl ρ ρf) (hfa : ρf.lookup accN = none) (res : Nat → List (Str × PV)) (h0 : res 0 = [])
    (step : ∀ C i, i < n → ∀ v σ s, Pv i v σ s → StepD Θ A (compEnvC scope cl C env) ρf target ifs kx vx v σ s (res i) (res (i + 1)))
    (hk : KdS env y) (hP : P (.next ((y, .sh (.dic (res n))) :: ρ)))
    (hsw : swapsWith (.DictComp kx vx [⟨target, iter, ifs, 0⟩] scope pos) (some (.Name y py)) spos.line env = pure true := by rfl)
    (hs : ∀ x, foldedSetIterable iter env x = pure x := by intro _; rfl) :
    X Θ A env (exec (.Assign [.Name y py] (.DictComp kx vx [⟨target, iter, ifs, 0⟩] scope pos) spos) env) ρ P := fun s₀ σ₀ π σ s ⟨m, S⟩ => by
  rw [exec_Assign_Name_used _ _ _ _ hsw]
  refine wpAny_bind (wpAny_standAt (wpAny_bind ?_))
  show wpAny _ A (do let _ ← comprehension (.DictComp kx vx [⟨target, iter, ifs, 0⟩] scope pos) scope env _ newDict false (eval iter env) (some (assign (.Name y py) env))) _ _ s
  refine wpAny_bind (wpAny_mono (wpAny_comprehension_free (use := some (assign (.Name y py) env)) (Q := fun _ s' => Done Θ s₀ σ₀ env π σ P .next s') rfl hs K.clos K.kind K.names
    (wpAny_mono (src σ s S.rd) (fun xv s₁ h₁ => wpAny_mono h₁ (fun it s₂ h₂ => ?_) fun _ _ e => e.elim) fun _ _ e => e.elim)) (fun _ s' hq => wpAny_pure (wpAny_pure hq)) fun _ _ e => e)
  obtain ⟨σ₂, I, fp, wr, Pk, Md, Stt, rfl, x, Wk, st0, hself, hwr, hfp, hex, hPv⟩ := h₂
  refine wpAny_newObj_type (wpAny_newFunctionEnv K.cell (by intro y hy; simp at hy) (fun h₁ hns₁ hsb₁ => ?_) K.kind)
  dsimp only at hns₁ hsb₁ ⊢
  have hnew : (s₂.heap.push { cls := .type "dict", dict := none, data := .dict #[] }).DictOf (PySem.strKind Θ.prog Θ.w) s₂.heap.objs.size [] := Heap.DictOf.new s₂.heap
  generalize hH2 : s₂.heap.push { cls := .type "dict", dict := none, data := .dict #[] } = H2 at hns₁ hsb₁ hnew ⊢
  have hCs : H2.objs.size = s₂.heap.objs.size + 1 := by rw [← hH2, Heap.size_push]
  have hDC : s₂.heap.objs.size ≠ H2.objs.size := by rw [hCs]; exact Nat.ne_of_lt (Nat.lt_succ_self _)
  have old : Sub s₂.heap.get? h₁.get? := fun b o e => hsb₁.extBut b o (by rw [hCs]; exact Nat.ne_of_lt (Nat.lt_succ_of_lt (Heap.lt_size e))) (Heap.get?_push_of_some _ (hH2 ▸ Heap.get?_push_of_some _ e))
  have hD : s₂.heap.get? s₂.heap.objs.size = none := get?_size _
  have hC : s₂.heap.get? H2.objs.size = none := by rw [← hH2]; exact push_fresh
  have hacc : h₁.DictOf (PySem.strKind Θ.prog Θ.w) s₂.heap.objs.size [] := hnew.at fun o e => hsb₁.extBut _ _ hDC (Heap.get?_push_of_some _ e)
  have hlo : (s₂.heap.objs.size == sysModules) = false := ((S.ext x).rd.at (A := A)).big O
  have hexf : ∀ a, s₂.heap.get? a = none → a ∉ fp := fun a e hm => by obtain ⟨o, ho⟩ := hex 0 _ st0 a hm; rw [e] at ho; cases ho
  have hst₁ : Stt 0 h₁ := Wk.frame _ _ _ st0 fun b _ o e => old b o e
  generalize hCC : H2.objs.size = C at hns₁ hsb₁ hDC hC ⊢
  generalize hDD : s₂.heap.objs.size = D at hD hDC hacc hlo ⊢
  have S1 := comp_enter (tk := s₂.toks + ([] : List (Str × Value)).length) K S x hf (b := .od []) rfl hD hC hDC old hns₁ (.od (none_of_sub x.le hD) hacc hlo .nil)
  have hCs0 : s.heap.get? C = none := none_of_sub x.kp hC
  have cells : ∀ y c, (y, c) ∈ cl → c ∉ fp := fun y c hc hm => by
    have S₂ := S.ext x
    have h1 := (S₂.ce y c (K.mem y c hc).1).2.1
    rcases hfp c hm with h | ⟨o, h⟩
    · obtain ⟨o, ho, _⟩ := S.fs.cell y c (K.mem y c hc).1
      rw [(hwr c h).1] at ho; cases ho
    · rw [h1] at h; cases h
  have own : ∀ r y c, ((accN, Bd.od r) :: ρf).lookup y = some c → c.own = true → y = accN := fun r y c e o => by
    rw [List.lookup_cons] at e
    by_cases hy : y = accN
    · exact hy
    · have hy' : (y == accN) = false := by simpa using hy
      simp only [hy'] at e
      rw [(hf y c e).2.1] at o; cases o
  have loop : ∀ s₃ : Shared, s₃ = { s₂ with heap := h₁, toks := s₂.toks + ([] : List (Str × Value)).length } →
      codeAny (model Θ.prog Θ.w) A (.compLoop (.DictComp kx vx [⟨target, iter, ifs, 0⟩] scope pos) 0 (.ref I) (.ref D) (compEnvC scope cl C env))
        (compPost (model Θ.prog Θ.w) A NoE (some (assign (.Name y py) env)) (fun _ s' => Done Θ s₀ σ₀ env π σ P .next s') (.ref D) C) s₃ := by
    rintro s₃ rfl
    refine loop_dict (fun k s' => ∃ i σ' m', i ≤ n ∧ k = n + 1 - i ∧ (res i).length ≤ i ∧ Sub σ₂ σ' ∧ StM Θ s σ (compEnvC scope cl C env) s.heap.get? σ' ((accN, .od (res i)) :: ρf) m' s' ∧ m' accN = some (.ref D) ∧
      Stt i s'.heap ∧ ∀ a ∈ wr, σ' a = none) ?_ (n + 1) ⟨0, σ₂, _, Nat.zero_le _, rfl, by rw [h0]; exact Nat.le_refl _, .refl _, by rw [h0]; exact S1, if_pos rfl, hst₁, fun a hm => (hwr a hm).2⟩
    rintro k s' ⟨i, σ', m', hi, rfl, hlen, hsub, T, hm, st', hwn⟩
    have ap : Ap (compEnvC scope cl C env) ((accN, .od (res i)) :: ρf) m' fp := by
      refine ⟨hexf _ hC, cells, fun z b a e o q => ?_⟩
      obtain rfl := own _ z b e o
      rw [hm] at q; cases q
      exact hexf _ hD
    have apw : Ap (compEnvC scope cl C env) ((accN, .od (res i)) :: ρf) m' wr := ⟨fun h => ap.l (Wk.sub _ h), fun y c hc h => ap.c y c hc (Wk.sub _ h), fun z b a e o q h => ap.o z b a e o q (Wk.sub _ h)⟩
    have nwπ : ∀ a ∈ wr, s.heap.get? a = none := fun a hm => (hwr a hm).1
    by_cases hlt : i < n
    · refine Wk.item i s' _ _ hlt st' fun v h₂ tk₂ hMd hk₂ => ?_
      refine Wk.go i v _ _ _ hMd fun h₃ hPk st₃ hk₃ => ?_
      have T1 := T.turn (h' := h₃) (tk := tk₂) apw (fun a hm => ⟨hwn a hm, nwπ a hm⟩) fun b o hb e => hk₃ b o hb (hk₂ b o hb e)
      have G := T1.guard ap
      obtain ⟨ρ₁, b, k, p, hA, hl1, hle, hT, hE, hres⟩ := step C i hlt v σ' { s' with heap := h₃, toks := tk₂ } (hPv i v σ' _ hsub T1.le hPk)
      refine wpAny_mono (hA _ _ _ _ G) (fun _ s₄ ⟨m₄, S₄, e₄⟩ => ?_) fun _ _ e => e
      refine (hT σ' s₄ S₄.rd).then fun ok σ₅ s₅ x₅ e₅ => ?_
      subst e₅
      have S₅ := S₄.ext x₅
      cases ok with
      | false =>
        rw [cond_false] at hres
        simp only [Bool.false_eq_true, if_false]
        have S₆ := S₅.less (ρ₂ := (accN, .od (res i)) :: ρf) (Le.cons hl1 hle)
        obtain ⟨U, ap₄, hfx, hnn⟩ := T1.unguard S₆ ap.c (hex _ _ st₃) fun a hm o e => T1.πle a o e
        refine ⟨n + 1 - (i + 1), by omega, i + 1, σ₅, m₄, hlt, rfl, by rw [hres]; omega, hsub.trans x₅.sub, by rw [hres]; exact U, e₄.trans hm, Wk.frame _ _ _ st₃ fun b hb o e => hfx b hb o e, fun a hm => hnn a (Wk.sub _ hm) (hwn a hm)⟩
      | true =>
        rw [if_pos rfl] at hres
        simp only [if_true]
        refine ((hE rfl).1 σ₅ s₅ S₅.rd).then fun kv σ₆ s₆ x₆ h₆ => ?_
        have S₆ := S₅.ext x₆
        refine ((hE rfl).2 σ₆ s₆ S₆.rd).then fun u σ₇ s₇ x₇ h₇ => ?_
        have S₇ := S₆.ext x₇
        have hm₄ : m₄ accN = some (.ref D) := e₄.trans hm
        obtain ⟨u', hu', hb', _⟩ := S₇.b accN _ hl1
        rw [hm₄] at hu'; cases hu'
        cases h₆ with
        | str k t =>
        cases hb' with
        | @od _ kvs' _ n' hdo' lo' hkv' =>
          have e1 := hkv'.length
          refine wpAny_dictSet_pairs (strKind_is _ _ k t) hdo' (fun h' hd' hs' => ?_) (by rw [sizeLine_eq]; omega)
          have V := S₇.mut (h' := h') (tk := s₇.toks + 1) hl1 rfl hm₄ rfl hs' (b' := .od (putAt (res i) k p)) (.od n' hd' lo' (hkv'.store k h₇))
          have S₈ := V.less (ρ₂ := (accN, .od (putAt (res i) k p)) :: ρf) (Le.acc hfa hle)
          obtain ⟨U, ap₄, hfx, hnn⟩ := T1.unguard S₈ ap.c (hex _ _ st₃) fun a hm o e => T1.πle a o e
          have pl := put_len (res i) k p
          refine ⟨n + 1 - (i + 1), by omega, i + 1, σ₇, m₄, hlt, rfl, by rw [hres]; omega, hsub.trans (x₅.sub.trans (x₆.sub.trans x₇.sub)), by rw [hres]; exact U, hm₄, Wk.frame _ _ _ st₃ fun b hb o e => hfx b hb o e, fun a hm => hnn a (Wk.sub _ hm) (hwn a hm)⟩
    · have hin : i = n := by omega
      subst hin
      refine Wk.done s' _ _ st' fun h₂ tk₂ hk₂ => ?_
      have T1 := T.turn (h' := h₂) (tk := tk₂) apw (fun a hm => ⟨hwn a hm, nwπ a hm⟩) hk₂
      exact comp_end S hCs0 T1 hm (.inl ⟨_, rfl, rfl⟩) hk hP
  subst hCC hDD
  exact codeAny_compStart_dict (loop _ rfl) (wpAny_mono (hself _ _ NoE hst₁ (loop _ rfl)) (fun _ _ e => e) fun _ _ e => e.elim)
end
end Mine
end
section
open PySem PySem.Calls PyProof.Rows PySem.Builtin.Str
set_option linter.unusedVariables false
namespace Mine
theorem bind_of (kindOf : Str → Option NameKind) (x : Str) : ∀ (binds : List (Str × Value)) (ml mc : Str → Option Value), (binds.map (·.1)).Nodup →
    (if kindOf x = some .local then bindL kindOf binds ml x else bindC kindOf binds mc x) = match binds.lookup x with
      | some v => some v
      | none => if kindOf x = some .local then ml x else mc x
  | [], ml, mc, _ => rfl
  | (n, v) :: r, ml, mc, hn => by
    have hn' : n ∉ r.map (·.1) ∧ (r.map (·.1)).Nodup := by simpa using hn
    have ih := bind_of kindOf x r (if kindOf n = some .local then fun y => if y = n then some v else ml y else ml) (if kindOf n = some .local then mc else fun y => if y = n then some v else mc y) hn'.2
    unfold bindL bindC
    rw [ih, List.lookup_cons]
    by_cases hx : x = n
    · subst hx
      have : r.lookup x = none := by
        rw [List.lookup_eq_none_iff]
        intro p hp
        have : x ≠ p.1 := fun e => hn'.1 (e ▸ List.mem_map_of_mem hp)
        simpa using this
      rw [this]
      simp only [beq_self_eq_true]
      by_cases hk : kindOf x = some .local
      · simp [hk]
      · simp [hk]
    · have hx' : (x == n) = false := by simpa using hx
      simp only [hx']
      cases r.lookup x with
      | some u => rfl
      | none =>
        by_cases hk : kindOf n = some .local <;> simp [hk, hx]

section
variable {Θ : Wd} {A : Around}
/-- what a call of a def gives back, as code -/
def FnC (Θ : Wd) (A : Around) (a : Addr) (ps : List PV) (q : PV) : Prop :=
  ∀ σ s vs, At Θ A σ s → Rps Θ.prog Θ.w σ vs ps → codeAny (model Θ.prog Θ.w) A (.call (.ref a) ⟨vs, []⟩) (fun r s' => ∃ v, r = .ok (.ret v) ∧ ∃ σ', Ext σ s σ' s' ∧ Rp Θ.prog Θ.w σ' v q) s
theorem FnC.fn {a : Addr} {ps : List PV} {q : PV} (h : FnC Θ A a ps q) : Fn Θ A a ps q := fun σ s vs at0 hv =>
  wpAny_call (codeAny_mono (h σ s vs at0 hv) fun r s' ⟨v, e, h'⟩ => by subst e; exact h')
/-- a call of a def with cells -/
theorem FnC_cells (O : Θ.Ok) {name : Str} {params : Arguments} {body : List Stmt} {scope : Scope} {a : Addr} {ps : List PV} {q : PV} {k : Nat} {xs : List Str}
    (D : IsDef Θ name params body scope a) (R : Room A (k + 1)) (hlen : xs.length = ps.length)
    (hbind : ∀ pm cd doc (vs : List Value), vs.length = xs.length → bindArgs (docDef name params body scope pm cd doc) ⟨vs, []⟩ = pure (xs.zip vs))
    (hkinds : ∀ L : Addr, ∀ x ∈ xs, scope.names.lookup x = some .local ∨ (scope.names.lookup x = some .cell ∧ ((cellsFrom (L + 1) scope.names []).lookup x).isSome = true)) (hnd : xs.Nodup)
    (hkc : ∀ (L : Addr) y c, (y, c) ∈ cellsFrom (L + 1) scope.names [] → scope.names.lookup y = some .cell ∧ (cellsFrom (L + 1) scope.names []).lookup y = some c)
    (h : ∀ L cd, X Θ (A.deeper (envOfC name scope L a cd)) (envOfC name scope L a cd) (execs body (envOfC name scope L a cd)) (xs.zip (ps.map Bd.sh)) (fun o => o = .ret q))
    (hco : scope.isCoroutine = false := by rfl) (hgen : scope.isGenerator = false := by rfl) (hk : scope.kind = .function := by rfl) : FnC Θ A a ps q := fun σ s vs at0 hv => by
  obtain ⟨o, pm, cd, doc, ho, hdata, hcd⟩ := D.ex
  have kb : Sub Θ.hb.get? s.heap.get? := at0.base.trans at0.le
  have hvl : vs.length = xs.length := hv.length.trans hlen.symm
  have hnd' : ((xs.zip vs).map (·.1)).Nodup := by rw [List.map_fst_zip (by omega)]; exact hnd
  refine (call_cells_ret (by have := R.depth; omega) (kb _ _ ho) hdata (O.nolimit.keeps kb) (hcd.keeps kb) (hbind pm cd doc vs hvl) (fun y hy => ?_) (fun h₁ tk F C => ?_) hco hgen hk)
  · exact hkinds _ y.1 (List.of_mem_zip hy).1
  · have fresh : ∀ c, s.heap.objs.size ≤ c → s.heap.get? c = none := fun c hc => by
      cases e : s.heap.get? c with
      | none => rfl
      | some o' => exact absurd (Heap.lt_size e) (Nat.not_lt.mpr hc)
    have mv : ∀ x, (fun x => if scope.names.lookup x = some .local then bindL (envOfC name scope s.heap.objs.size a cd).kindOf (xs.zip vs) (fun _ => none) x else bindC (envOfC name scope s.heap.objs.size a cd).kindOf (xs.zip vs) (fun _ => none) x) x = (xs.zip vs).lookup x := fun x => by
      have := bind_of (envOfC name scope s.heap.objs.size a cd).kindOf x (xs.zip vs) (fun _ => none) (fun _ => none) hnd'
      refine this.trans ?_
      cases (xs.zip vs).lookup x with
      | some v => rfl
      | none => simp
    have S : StM Θ s σ (envOfC name scope s.heap.objs.size a cd) s.heap.get? σ (xs.zip (ps.map Bd.sh)) (fun x => (xs.zip vs).lookup x) { s with heap := h₁, toks := tk } := by
      refine ⟨at0.base, .refl _, fun b o' e => F.keep b o' (at0.le _ _ e), F.keep, .refl _, fun b o' e => .inl e, rfl, rfl, .refl _, ⟨hk, rfl, rfl, ⟨_, F.ns, fun x hx => ?_⟩, fun x c hx => ?_, C.apart, fun x c hx => hkc _ x c hx⟩,
        ⟨get?_size _, none_of_sub at0.le (get?_size _)⟩, fun x c hx => ?_, fun x b e => ?_, fun x y b c a' e1 e2 o1 => ?_⟩
      · have hx' : scope.names.lookup x = some .local := hx
        have := mv x
        simp only [hx', if_true] at this
        exact this
      · have hx' := (hkc _ x c hx)
        have h1 := mv x
        simp only [hx'.1] at h1
        have h2 := C.cell x c hx'.2
        rw [← h1]
        simpa using h2
      · have h1 := C.above x c hx
        have h2 := fresh c (Nat.le_of_lt h1)
        exact ⟨fun _ => h2, none_of_sub at0.le h2, Nat.ne_of_gt h1⟩
      · obtain ⟨v, p, h1, rfl, hp⟩ := @Fn_plain.binds_of Θ ps xs σ xs vs ps x b hnd hv hvl e
        rw [Fn_plain.lookup_reverse_nodup _ hnd'] at h1
        exact ⟨v, h1, .sh hp, fun o => by cases o⟩
      · obtain ⟨v, p, _, rfl, _⟩ := @Fn_plain.binds_of Θ ps xs σ xs vs ps x b hnd hv hvl e1
        cases o1
    refine wpAny_mono (h s.heap.objs.size cd s σ s.heap.get? σ _ ⟨_, S⟩) (fun f s' d => ?_) fun _ _ e => e
    cases f with
    | next => obtain ⟨ρ', σ', e, _⟩ := d; cases e
    | ret v => obtain ⟨p, σ', e, x, hr⟩ := d; cases e; exact ⟨v, rfl, σ', x, hr⟩
    | brk => exact d.elim
    | cont => exact d.elim
end
end Mine
end
section
open PySem PySem.Calls PyProof.Rows PySem.Builtin.Str
set_option linter.unusedVariables false
namespace Mine

structure GMove (wr : List Addr) (g : Nat) (s s' : Shared) : Prop where
  heap : ∀ b o, b ∉ wr → s.heap.get? b = some o → s'.heap.get? b = some o
  gens : ∀ (i : Nat) (z : GenState), i ≠ g → s.gens[i]? = some z → s'.gens[i]? = some z
  bare : AllBare s.gens → AllBare s'.gens
  os : s'.os = s.os
  dr : s'.drawn = s.drawn

structure GTurns (Θ : Wd) (A : Around) (target : PySem.Expr) (I : Addr) (g : Nat) (wr : List Addr) (n : Nat) (St : Nat → Shared → Prop) (Pk : Nat → Value → Shared → Prop) : Prop where
  frame : ∀ i s s', St (i + 1) s → (∀ b ∈ I :: wr, ∀ o, s.heap.get? b = some o → s'.heap.get? b = some o) → Sub Θ.hb.get? s'.heap.get? → s'.gens[g]? = s.gens[g]? → St (i + 1) s'
  ex : ∀ i s, St (i + 1) s → (∀ a ∈ I :: wr, ∃ o, s.heap.get? a = some o) ∧ ∃ x, s.gens[g]? = some x
  item : ∀ i s (Q : Option Value → Shared → Prop), i < n → St i s → (∀ v s', Pk i v s' → St (i + 1) s' → GMove wr g s s' → Q (some v) s') → wpAny (model Θ.prog Θ.w) A (pyNext (.ref I)) Q NoE s
  go : ∀ i v s (Q : Unit → Shared → Prop), St (i + 1) s → Pk i v s → Q () s → wpAny (model Θ.prog Θ.w) A (letOwnedTupleGo target (.ref I) v) Q NoE s
  done : ∀ s (Q : Option Value → Shared → Prop), St n s → (∀ s', GMove wr g s s' → Q none s') → wpAny (model Θ.prog Θ.w) A (pyNext (.ref I)) Q NoE s

section
variable {Θ : Wd} {A : Around} {env : Env} {ρ : Rho} {P : Out → Prop}

def SrcG (Θ : Wd) (A : Around) (env : Env) (ρ : Rho) (target iter : PySem.Expr) (n : Nat) (Pv : Nat → Value → Get → Shared → Prop) : Prop :=
  ∀ σ s, Rd Θ env ρ σ s → wpAny (model Θ.prog Θ.w) A (eval iter env) (fun xv s₁ => wpAny (model Θ.prog Θ.w) A (pyIter xv) (fun it s₂ =>
    ∃ σ₂ I g wr St Pk, it = .ref I ∧ Ext σ s σ₂ s₂ ∧ GTurns Θ A target I g wr n St Pk ∧ St 0 s₂ ∧ (∀ a ∈ I :: wr, s.heap.get? a = none ∧ σ₂ a = none) ∧ I ∉ wr ∧ s.gens[g]? = none ∧
      (∀ i v σ' s', Sub σ₂ σ' → Sub σ' s'.heap.get? → Pk i v s' → Pv i v σ' s')) NoE s₁) NoE s

theorem GMove.gext {wr : List Addr} {g : Nat} {s s' : Shared} {a : Array GenState} (M : GMove wr g s s') (x : GExt a s.gens) (h : a[g]? = none) : GExt a s'.gens :=
  ⟨fun i z e => by
    have : i ≠ g := by rintro rfl; rw [h] at e; cases e
    exact M.gens i z this (x.kp i z e), fun b => M.bare (x.bare b)⟩

theorem X_forG {target iter : PySem.Expr} {body : List Stmt} {pos : Pos} {n : Nat} {Pv : Nat → Value → Get → Shared → Prop} (src : SrcG Θ A env ρ target iter n Pv) (Inv : Nat → Rho → Prop) (h0 : Inv 0 ρ)
    (step : ∀ i ρ', i < n → Inv i ρ' → ∀ v σ s₀ σ₀ π s, Pv i v σ s → St Θ s₀ σ₀ env π σ ρ' s →
      wpAny (model Θ.prog Θ.w) A (assign target env v) (fun _ s' => ∃ ρ'' σ'', Sub σ σ'' ∧ St Θ s₀ σ₀ env π σ'' ρ'' s' ∧ X Θ A env (execs body env) ρ'' fun o => match o with | .next r => Inv (i + 1) r | .ret p => P (.ret p)) (fun _ _ => False) s)
    (fin : ∀ ρ', Inv n ρ' → P (.next ρ'))
    (hs : ∀ x, foldedSetIterable iter env x = pure x := by intro _; rfl) : X Θ A env (exec (.For target iter body [] pos) env) ρ P := fun s₀ σ₀ π σ s ⟨m, S⟩ => by
  refine wpAny_For (wpAny_mono (src σ s S.rd) (fun xv s₁ h₁ => wpAny_mono h₁ (fun it s₂ h₂ => ?_) fun _ _ e => e.elim) fun _ _ e => e.elim) hs
  obtain ⟨σ₂, I, g, wr, Stt, Pk, rfl, x, Wk, st0, hwr, hI, hg, hPv⟩ := h₂
  have S₂ := S.ext x
  have hg0 : s₀.gens[g]? = none := by
    cases e : s₀.gens[g]? with
    | none => rfl
    | some z => have := S.gens.kp g z e; rw [hg] at this; cases this
  have nwπ : ∀ a ∈ I :: wr, π a = none := fun a hm => none_of_sub S.πle (hwr a hm).1
  have ap₂ : Ap env ρ m (I :: wr) := by
    have nol : ∀ a, s.heap.get? a ≠ none → a ∉ I :: wr := fun a e hm => e (hwr a hm).1
    refine ⟨nol _ (by obtain ⟨_, ⟨o, _, _, ho, _⟩, _⟩ := S.fs.ns; rw [ho]; simp), fun y c hc => nol _ (by obtain ⟨o, ho, _⟩ := S.fs.cell y c hc; rw [ho]; simp), fun z b a e o q => ?_⟩
    obtain ⟨v, h1, h2, h3⟩ := S.b z b e
    rw [q] at h1; cases h1
    cases h2 with
    | sh => cases o
    | od n d lo hk => exact nol _ (by obtain ⟨o', _, _, ho, _⟩ := d; rw [ho]; simp)
    | ol n d hk => exact nol _ (by obtain ⟨_, ho⟩ := d; rw [ho]; simp)
  have apw : ∀ {ρ' : Rho} {m' : Str → Option Value}, Ap env ρ' m' (I :: wr) → Ap env ρ' m' wr := fun ap => ⟨fun h => ap.l (List.mem_cons_of_mem _ h), fun y c hc h => ap.c y c hc (List.mem_cons_of_mem _ h), fun z b a e o q h => ap.o z b a e o q (List.mem_cons_of_mem _ h)⟩
  refine codeAny_forLoop_any
    (fun k s' => ∃ i ρ' σ' m', i ≤ n ∧ k = n + 1 - i ∧ Inv i ρ' ∧ Sub σ₂ σ' ∧ StM Θ s₀ σ₀ env π σ' ρ' m' s' ∧ Ap env ρ' m' (I :: wr) ∧ Stt i s' ∧ ∀ a ∈ I :: wr, σ' a = none) ?_ (n + 1)
    ⟨0, ρ, σ₂, m, Nat.zero_le _, rfl, h0, .refl _, S₂, ap₂, st0, fun a hm => (hwr a hm).2⟩
  rintro k s' ⟨i, ρ', σ', m', hi, rfl, hI', hsub, S', ap', st', hwn⟩
  by_cases hlt : i < n
  · refine wpAny_mono (Wk.item i s' (fun r s₁ => match r with
      | none => _
      | some v => _) hlt st' fun v s₁ hPk st₁ M => ?_) (fun _ _ q => q) fun _ _ e => e.elim
    refine wpAny_mono (Wk.go i v s₁ _ st₁ hPk ?_) (fun _ _ q => q) fun _ _ e => e.elim
    have T := S'.move (s' := s₁) (apw ap') (fun a hm => ⟨hwn a (List.mem_cons_of_mem _ hm), nwπ a (List.mem_cons_of_mem _ hm)⟩) M.heap M.os M.dr (M.gext S'.gens hg0)
    have G := T.guard ap'
    refine wpAny_mono (step i ρ' hlt hI' v σ' _ _ _ _ (hPv i v σ' _ hsub T.le hPk) ⟨m', G⟩) (fun _ s₃ h₃ => ?_) fun _ _ e => e.elim
    obtain ⟨ρ₃, σ₃, hs₃, S₃, hX⟩ := h₃
    refine wpAny_mono (hX _ _ _ _ _ S₃) (fun f s₄ d => ?_) fun _ _ e => e.elim
    obtain ⟨hex, z, hz⟩ := Wk.ex i s₁ st₁
    cases f with
    | next =>
      obtain ⟨ρ₄, σ₄, hI₄, hs₄, m₄, S₄⟩ := d
      obtain ⟨U, ap₄, hfx, hnn⟩ := T.unguard S₄ ap'.c hex fun a hm o e => T.πle a o e
      refine ⟨n + 1 - (i + 1), by omega, i + 1, ρ₄, σ₄, m₄, hlt, rfl, hI₄, (hsub.trans hs₃).trans hs₄, U, ap₄, Wk.frame i s₁ s₄ st₁ (fun b hb o e => hfx b hb o e) (U.rd.base.trans U.le) ?_, fun a hm => hnn a hm (hwn a hm)⟩
      rw [hz]; exact S₄.gens.kp g z hz
    | ret v =>
      obtain ⟨p, σ₄, hp, y, hr⟩ := d
      refine ⟨p, σ₄, hp, ⟨(S'.sub).trans y.sub, y.le, y.kp, fun a o e => ?_, y.os, y.dr, T.gens.trans y.gens⟩, hr⟩
      rcases y.frs a o e with q | q
      · rcases S'.frs a o q with r | r
        · exact .inl r
        · exact .inr (none_of_sub S'.hπ r)
      · exact .inr q
    | brk => exact d.elim
    | cont => exact d.elim
  · have hin : i = n := by omega
    subst hin
    refine wpAny_mono (Wk.done s' _ st' fun s₁ M => wpAny_execs_nil ?_) (fun _ _ q => q) fun _ _ e => e.elim
    exact ⟨ρ', σ', fin ρ' hI', x.sub.trans hsub, m', S'.move (s' := s₁) (apw ap') (fun a hm => ⟨hwn a (List.mem_cons_of_mem _ hm), nwπ a (List.mem_cons_of_mem _ hm)⟩) M.heap M.os M.dr (M.gext S'.gens hg0)⟩
end
end Mine
end
section
open PySem PySem.Calls PyProof.Rows PySem.Builtin.Str
set_option linter.unusedVariables false
namespace Mine
section
variable {M : Model} {A : Around} {R : GenEnd} {Y : Protocol} {n : Nat} {s₀ : Shared} {c : Code} {fs : List Frame} {s : Shared} {env : Env}
  {K : Flow → Sem Fin} {H : Value → Sem Fin} {gd : Bool → Bool} {lv : List Value → List Value}

theorem seg_If {test : PySem.Expr} {body orelse : List Stmt} {pos : Pos}
    (h : wpAny M (A.over c fs) (isTrue test env (eval test env)) (fun b s' => Seg M A R Y n s₀ c ((if b = true then execs body env else execs orelse env).wrap K H gd lv) fs s') (fun x s' => Seg M A R Y n s₀ c (H x) fs s') s) :
    Seg M A R Y n s₀ c ((exec (.If test body orelse pos) env).wrap K H gd lv) fs s := by
  show Seg M A R Y n s₀ c (.at pos fun _ => (isTrue test env (eval test env) >>= fun b => if b = true then execs body env else execs orelse env).wrap K H gd lv) fs s
  refine seg_at ?_
  rw [Sem.bind_eq_wrap', Sem.wrap_wrap]
  exact seg_wrap h

/-- what waits below a loop -/
def loopFrame (env : Env) (K : Flow → Sem Fin) (H : Value → Sem Fin) (gd : Bool → Bool) (lv : List Value → List Value) (c : Code) (p : Pos) : Frame :=
  .ret (fun r => ((match r with | .ok f => (.pure f : Sem Flow) | .error e => .raise e).onRaise fun (x : Value) => do
        if (← field x 1) == Value.none then unsupported "frame.own-activation:exception-without-traceback"
        setFlight x env.frame).wrap K H gd lv) none (gd false) (lv []) c p []

theorem seg_For {target iter : PySem.Expr} {body orelse : List Stmt} {pos : Pos}
    (h : wpAny M (A.over c fs) (eval iter env) (fun x s₁ => wpAny M (A.over c fs) (pyIter x) (fun it s₂ => ∀ p, Seg M A R Y n s₀ (.forLoop target it body orelse env) (M.den (.forLoop target it body orelse env)) (loopFrame env K H gd lv c p :: fs) s₂)
      NoE s₁) NoE s) (hs : ∀ x, foldedSetIterable iter env x = pure x := by intro _; rfl) :
    Seg M A R Y n s₀ c ((exec (.For target iter body orelse pos) env).wrap K H gd lv) fs s := by
  rw [exec_For]
  show Seg M A R Y n s₀ c (.at pos fun _ => (eval iter env >>= fun x => foldedSetIterable iter env x >>= fun x => standAt iter.pos >>= fun _ => holding [x] (pyIter x) >>= fun it => runOwn (.forLoop target it body orelse env) env).wrap K H gd lv) fs s
  refine seg_at ?_
  rw [Sem.bind_eq_wrap', Sem.wrap_wrap]
  refine seg_wrap (wpAny_mono h (fun x s₁ h₁ => ?_) fun _ _ e => e.elim)
  rw [hs]
  show Seg M A R Y n s₀ c (.at iter.pos fun _ => (holding [x] (pyIter x) >>= fun it => runOwn (.forLoop target it body orelse env) env).wrap K H gd lv) fs s₁
  refine seg_at ?_
  rw [Sem.bind_eq_wrap', Sem.wrap_wrap]
  refine seg_wrap (wpAny_holding (wpAny_mono h₁ (fun it s₂ h₂ => ?_) fun _ _ e => e.elim))
  exact seg_call h₂
end

section
variable {prog : Program} {w : World} {A : Around} {R : GenEnd} {Y : Protocol} {n : Nat} {s₀ : Shared} {fs : List Frame} {s : Shared} {env : Env}
def loopK (target : PySem.Expr) (it : Value) (body orelse : List Stmt) (env : Env) : Flow → Sem Fin
  | .next | .cont => .pure (.again (.forLoop target it body orelse env))
  | .brk => .pure (.done .next)
  | .ret v => .pure (.done (.ret v))
def loopH (env : Env) (e : Value) : Sem Fin := (do noteFrame e env; theTreesLotGoes e : Sem Unit).wrap (fun _ => .raise e) .raise id id

theorem seg_forLoop {target : PySem.Expr} {it : Value} {body orelse : List Stmt}
    (h : wpAny (model prog w) (A.over (.forLoop target it body orelse env) fs) (pyNext it) (fun r s₁ => match r with
      | none => Seg (model prog w) A R Y n s₀ (.forLoop target it body orelse env) (.pure (.again (.block orelse env))) fs s₁
      | some v => wpAny (model prog w) (A.over (.forLoop target it body orelse env) fs) (letOwnedTupleGo target it v) (fun _ s₂ => wpAny (model prog w) (A.over (.forLoop target it body orelse env) fs) (assign target env v) (fun _ s₃ =>
          Seg (model prog w) A R Y n s₀ (.forLoop target it body orelse env) ((execs body env).wrap (loopK target it body orelse env) (loopH env) id id) fs s₃) NoE s₂) NoE s₁) NoE s) :
    Seg (model prog w) A R Y n s₀ (.forLoop target it body orelse env) ((model prog w).den (.forLoop target it body orelse env)) fs s := by
  show Seg _ A R Y n s₀ _ ((forTurn target it body orelse env).onRaise (fun x => do noteFrame x env; theTreesLotGoes x)) fs s
  unfold forTurn
  rw [Sem.onRaise_eq_wrap, Sem.bind_eq_wrap', Sem.wrap_wrap]
  refine seg_wrap (wpAny_standAt ?_)
  rw [Sem.bind_eq_wrap', Sem.wrap_wrap]
  refine seg_wrap (wpAny_onRaise (wpAny_mono h (fun r s₁ h₁ => ?_) fun _ _ e => e.elim))
  cases r with
  | none => exact h₁
  | some v =>
    show Seg _ A R Y n s₀ _ (Sem.wrap _ _ _ _ (letOwnedTupleGo target it v >>= fun _ => assign target env v >>= fun _ => execs body env >>= _)) fs s₁
    rw [Sem.bind_eq_wrap' (letOwnedTupleGo target it v), Sem.wrap_wrap]
    refine seg_wrap (wpAny_mono h₁ (fun _ s₂ h₂ => ?_) fun _ _ e => e.elim)
    rw [Sem.bind_eq_wrap' (assign target env v), Sem.wrap_wrap]
    refine seg_wrap (wpAny_mono h₂ (fun _ s₃ h₃ => ?_) fun _ _ e => e.elim)
    rw [Sem.bind_eq_wrap' (execs body env), Sem.wrap_wrap]
    rw [Sem.wrap_congr (execs body env) _ _ (K' := loopK target it body orelse env) (H' := loopH env) (fun f => by cases f <;> rfl)
      (fun e => by first | exact Sem.bind_eq_wrap _ _ | (show (do noteFrame e env; theTreesLotGoes e : Sem Unit).bind (fun _ => .raise e) = _; rw [Sem.bind_eq_wrap]; rfl))]
    exact h₃
theorem seg_block_nil {p : Pos} {K : Flow → Sem Fin} {H : Value → Sem Fin} {gd : Bool → Bool} {lv : List Value → List Value} {c c' : Code} {env' : Env}
    (h : Seg (model prog w) A R Y n s₀ c (K .next) fs s) : Seg (model prog w) A R Y n s₀ c' (.pure (.again (.block [] env))) (loopFrame env' K H gd lv c p :: fs) s := by
  refine seg_again rfl ?_
  exact seg_leaf (.ok .next) h
end
end Mine
end
section
open PySem PySem.Calls PyProof.Rows PySem.Builtin.Str
set_option linter.unusedVariables false
namespace Mine

/-- all but wr stands -/
structure Mv (wr : List Addr) (s s' : Shared) : Prop where
  heap : ∀ b o, b ∉ wr → s.heap.get? b = some o → s'.heap.get? b = some o
  gens : GExt s.gens s'.gens
  os : s'.os = s.os
  dr : s'.drawn = s.drawn
theorem Mv.refl (wr : List Addr) (s : Shared) : Mv wr s s := ⟨fun _ _ _ e => e, .refl _, rfl, rfl⟩
theorem Mv.trans {wr : List Addr} {a b c : Shared} (x : Mv wr a b) (y : Mv wr b c) : Mv wr a c := ⟨fun i o h e => y.heap i o h (x.heap i o h e), x.gens.trans y.gens, y.os.trans x.os, y.dr.trans x.dr⟩

theorem setGen_other {s : Shared} {g i : Nat} {x : GenState} (h : i ≠ g) : (s.setGen g x).gens[i]? = s.gens[i]? := (GenOnly.setGen s g x).2 i h
theorem setGen_bare {s : Shared} {g : Nat} {x : GenState} (h : AllBare s.gens) (hx : x.bare = true) : AllBare (s.setGen g x).gens := fun y hy => by
  have hy' : y ∈ s.gens.setIfInBounds g x := hy
  rcases Array.mem_or_eq_of_mem_setIfInBounds hy' with h1 | h1
  · exact h y h1
  · rw [h1]; exact hx

section
variable {prog : Program} {w : World} {A : Around} {E : Value → Shared → Prop} {s : Shared}
/-- the next item of a generator def -/
theorem pyNext_genQ {a : Addr} {g n : Nat} {gs : GenState} {P : Nat → Shared → Shared → Prop} {Y : Protocol} {Q : Option Value → Shared → Prop} (hh : A.handled = none)
    (hl : s.heap.NoLimit) (hroom : A.depth < recursionLimit)
    (hg : s.heap.IsGen a g) (hgs : s.gens[g]? = some gs)
    (hgo : gs.Goes (model prog w) A.in1 (fun n s₀ r s₁ => r = .ok (.ret .none) ∧ P n s₀ s₁) Y n (.send .none) (s.setGen g .running))
    (hY : ∀ v s₁ gs', gs'.bare = true → Y (n - 1) (s.setGen g .running) v s₁ (fun r' s'' => match n with
        | 0 => False
        | m + 1 => gs'.Goes (model prog w) A.in1 (fun n s₀ r s₁ => r = .ok (.ret .none) ∧ P n s₀ s₁) Y m r' s'') → Q (some v) (s₁.setGen g gs'))
    (hP : ∀ s₁, P n (s.setGen g .running) s₁ → ∀ h', (∀ b o, s₁.heap.get? b = some o → h'.get? b = some o) → Q none { s₁.setGen g .finished with heap := h' }) :
    wpAny (model prog w) A (pyNext (.ref a)) Q E s := by
  unfold pyNext
  refine wpAny_bind (wpAny_attempt (wpAny_callSpecial?_slot (name := Str.ofString "__next__") hg.typeIs slot_gen_next
    (wpAny_call_entry slot_gen_next hg.typeIs entry_gen_next ?_ (args_gen_next _))))
  show wpAny _ A.in1 (Builtin.Generator.genWake (.ref a) (.send .none)) _ _ s
  unfold Builtin.Generator.genWake
  refine wpAny_bind (wpAny_holding (wpAny_genNumber hg (wpAny_bind (wpAny_genState hgs ?_))))
  cases gs with
  | running => exact hgo.elim
  | finished => exact hgo.elim
  | _ =>
    refine wpAny_bind (wpAny_roomToWake hl hroom ?_)
    show wpAny _ A.in1 (.resume g (.send .none) [] _) _ _ s
    refine wpAny_resumeQ hgs hgo (fun x s₁ hx => ?_) (fun v s₁ gs' hb hv => ?_)
    · obtain ⟨rfl, hp⟩ := hx
      show wpAny _ A.in1 (newExc (.type "StopIteration") [] >>= _) _ _ _
      refine wpAny_bind ?_
      simp only [newExc, newTuple]
      refine wpAny_bind (wpAny_newObj_type ?_ (by size_fits))
      refine wpAny_bind (m := firstArgMember _ _) (wpAny_of_eq (a := Value.none) (by first | rfl | (simp only [firstArgMember]; rfl)) ?_)
      refine wpAny_newObj_type ?_ (by size_fits)
      simp only [raiseNew]
      refine wpAny_bind (wpAny_bind (wpAny_handled ?_))
      first | rw [show A.in1.handled = none from hh] | rw [hh]
      refine wpAny_throw ?_
      refine wpAny_bind (wpAny_isInstance (T := "StopIteration") (b := true) ⟨_, Heap.get?_push_size _ rfl, rfl⟩ isSubtype_stop ?_)
      exact wpAny_pure (hP s₁ hp _ fun b o hb => Heap.get?_push_of_some _ (Heap.get?_push_of_some _ hb))
    · exact wpAny_pure ⟨v, rfl, wpAny_pure (hY v s₁ gs' hb hv)⟩
end
end Mine
end
section
open PySem PySem.Calls PyProof.Rows PySem.Builtin.Str
set_option linter.unusedVariables false
namespace Mine
section
variable {Θ : Wd} {A : Around} {env : Env} {ρ ρ' ρf : Rho} {s₀ : Shared} {σ₀ π σ : Get} {s : Shared} {m : Str → Option Value} {P : Out → Prop}

theorem eval_list0 {p : Pos} {Q : Value → Shared → Prop} {E : Value → Shared → Prop} (h : Q (.ref s.heap.objs.size) { s with heap := s.heap.push { cls := .type "list", data := .seq #[] } }) : wpAny (model Θ.prog Θ.w) A (eval (.List [] p) env) Q E s := by
  rw [arm_eval_List]
  refine wpAny_bind (wpAny_standAt (wpAny_bind (wpAny_pure ?_)))
  exact wpAny_newList h (Nat.zero_le _)

/-- a, b = [], [] -/
theorem X_new2 {a b : Str} {pa pb pt p1 p2 : Pos} {kt kv : Nat} {pv pos : Pos} (R : Room A 0) (ha : KdS env a) (hb : KdS env b) (hab : a ≠ b)
    (h : P (.next ((a, .ol []) :: (b, .ol []) :: ρ)))
    (hs : swapsWith (.Tuple [.List [] p1, .List [] p2] kv pv) (some (.Tuple [.Name a pa, .Name b pb] kt pt)) pos.line env = pure false := by rfl)
    (hw : swappedStores [.Tuple [.Name a pa, .Name b pb] kt pt] (.Tuple [.List [] p1, .List [] p2] kv pv) env = pure (some [a, b]) := by rfl) :
    X Θ A env (exec (.Assign [.Tuple [.Name a pa, .Name b pb] kt pt] (.Tuple [.List [] p1, .List [] p2] kv pv) pos) env) ρ P := fun s₀ σ₀ π σ s ⟨m, S⟩ => by
  rw [exec_Assign_arm]
  have hs' : swapsWithSole [.Tuple [.Name a pa, .Name b pb] kt pt] (.Tuple [.List [] p1, .List [] p2] kv pv) pos.line env = pure false := hs
  rw [hs', hw]
  refine wpAny_bind (wpAny_standAt (wpAny_bind (wpAny_pure ?_)))
  simp only [Bool.false_eq_true, if_false]
  refine wpAny_bind ?_
  rw [arm_eval_Tuple]
  refine wpAny_bind (wpAny_standAt (wpAny_bind ?_))
  show wpAny _ A (eval (.List [] p1) env >>= fun v => (pure [v] : Sem (List Value)) >>= fun here => holding here (eval (.List [] p2) env >>= fun v => (pure [v] : Sem (List Value)) >>= fun here => holding here (spliced []) >>= fun r => pure (here ++ r)) >>= fun r => pure (here ++ r)) _ _ s
  refine wpAny_bind (eval_list0 ?_)
  refine wpAny_bind (wpAny_pure (wpAny_bind (wpAny_holding ?_)))
  refine wpAny_bind (eval_list0 ?_)
  refine wpAny_bind (wpAny_pure (wpAny_bind (wpAny_holding (spliced_nil (wpAny_pure (wpAny_pure ?_))))))
  have z1 : (s.heap.push { cls := .type "list", data := .seq #[] }).objs.size = s.heap.objs.size + 1 := Heap.size_push ..
  have k1 : Sub s.heap.get? (s.heap.push { cls := .type "list", data := .seq #[] }).get? := push_keep _ _
  have o1 : (s.heap.push { cls := .type "list", data := .seq #[] }).PlainList s.heap.objs.size #[] := ⟨0, Heap.get?_push_size _ rfl⟩
  show wpAny _ A (newTuple [.ref s.heap.objs.size, .ref (s.heap.push { cls := .type "list", data := .seq #[] }).objs.size]) _ _ _
  generalize (s.heap.push { cls := .type "list", data := .seq #[] }) = h₁ at z1 k1 o1 ⊢
  have z2 : (h₁.push { cls := .type "list", data := .seq #[] }).objs.size = h₁.objs.size + 1 := Heap.size_push ..
  have k2 : Sub h₁.get? (h₁.push { cls := .type "list", data := .seq #[] }).get? := push_keep _ _
  have o2 : (h₁.push { cls := .type "list", data := .seq #[] }).PlainList h₁.objs.size #[] := ⟨0, Heap.get?_push_size _ rfl⟩
  generalize (h₁.push { cls := .type "list", data := .seq #[] }) = h₂ at z2 k2 o2 ⊢
  refine wpAny_newTuple ?_ (by show 2 ≤ sizeLine; decide)
  have xall : Ext σ s σ { s with heap := h₂.push { cls := .type "tuple", data := .seq [.ref s.heap.objs.size, .ref h₁.objs.size].toArray } } := Ext.heap S.le ((k1.trans k2).trans (push_keep _ _)) s.toks
  have S' := S.ext xall
  have ht : (h₂.push { cls := .type "tuple", data := .seq [.ref s.heap.objs.size, .ref h₁.objs.size].toArray }).IsTuple h₂.objs.size #[.ref s.heap.objs.size, .ref h₁.objs.size] := ⟨_, Heap.get?_push_size _ rfl, rfl, _, rfl⟩
  refine wpAny_bind (wpAny_pure ?_)
  show wpAny _ A (do
    rule "assign.swapped-stores"
    let items ← unpackItems (.ref h₂.objs.size) 2 none
    assignInOrder ([bindName env b, bindName env a]) items.reverse
    (pure Flow.next : Sem Flow)) _ _ _
  refine wpAny_bind (wpAny_rule (wpAny_bind ?_))
  obtain ⟨items, hit, ht⟩ : ∃ items : Array Value, items.toList = [.ref s.heap.objs.size, .ref h₁.objs.size] ∧ (h₂.push { cls := .type "tuple", data := .seq [.ref s.heap.objs.size, .ref h₁.objs.size].toArray }).IsTuple h₂.objs.size items := ⟨_, rfl, ht⟩
  have en : items.size = 2 := by rw [← Array.length_toList, hit]; rfl
  rw [← en]
  refine wpAny_unpackItems_tuple R.handled ht fun h' hx => ?_
  rw [hit]
  have kx := sub_extBut hx
  have S'' := S'.ext (Ext.heap S'.rd.le kx s.toks)
  have p1 : h'.PlainList s.heap.objs.size #[] := (o1.at fun o e => k2 _ o e).at fun o e => kx _ o (push_keep _ _ _ o e)
  have p2 : h'.PlainList h₁.objs.size #[] := o2.at fun o e => kx _ o (push_keep _ _ _ o e)
  have fr : ∀ d, s.heap.objs.size ≤ d → (∀ y c, (y, c) ∈ env.cells → c ≠ d) ∧ d ≠ env.locals ∧ σ d = none ∧ π d = none ∧ ∀ y c, ρ.lookup y = some c → c.own = true → m y ≠ some (.ref d) := fun d hd => by
    have nd : s.heap.get? d = none := by
      cases e : s.heap.get? d with
      | none => rfl
      | some o => exact absurd (Heap.lt_size e) (Nat.not_lt.mpr hd)
    refine ⟨fun y c hc e => ?_, fun e => ?_, none_of_sub S.le nd, none_of_sub S.πle nd, fun y c e o q => ?_⟩
    · obtain ⟨o, ho, _⟩ := S.fs.cell y c hc; rw [e, nd] at ho; cases ho
    · obtain ⟨_, ⟨o, _, _, ho, _⟩, _⟩ := S.fs.ns; rw [← e, nd] at ho; cases ho
    · obtain ⟨v, h1, h2, _⟩ := S.b y c e
      rw [q] at h1; cases h1
      cases h2 with
      | sh => cases o
      | od n hd lo hk => obtain ⟨o', _, _, ho, _⟩ := hd; rw [nd] at ho; cases ho
      | ol n hd hk => obtain ⟨_, ho⟩ := hd; rw [nd] at ho; cases ho
  have f1 := fr s.heap.objs.size (Nat.le_refl _)
  have f2 := fr h₁.objs.size (by rw [z1]; exact Nat.le_succ _)
  have ne12 : s.heap.objs.size ≠ h₁.objs.size := by rw [z1]; exact Nat.ne_of_lt (Nat.lt_succ_self _)
  have ap1 : Ap env ρ m [s.heap.objs.size] := ⟨fun h => f1.2.1 (List.mem_singleton.mp h).symm, fun y c hc h => f1.1 y c hc (List.mem_singleton.mp h), fun y b d e o q h => f1.2.2.2.2 y b e o (by rw [← List.mem_singleton.mp h]; exact q)⟩
  refine wpAny_bind (assignInOrder_cons (wpAny_bindName ((S''.guard ap1).put hb (.ol f2.2.2.1 p2 .nil) (fun _ d e => by
    cases e
    exact ⟨⟨by unfold over; rw [if_neg (fun h => ne12 (List.mem_singleton.mp h).symm)]; exact f2.2.2.2.1, f2.2.1, f2.1⟩, fun y c e o _ => f2.2.2.2.2 y c e o⟩) fun s₃ M₃' => ?_)))
  obtain ⟨M₃, ap₂, hfx, _⟩ := S''.unguard M₃' ap1.c (fun d hd => by rw [List.mem_singleton.mp hd]; obtain ⟨_, ho⟩ := p1; exact ⟨_, ho⟩) (fun d hd o e => S''.πle d o e)
  have p1' : s₃.heap.PlainList s.heap.objs.size #[] := p1.at fun o e => hfx _ (by simp) o e
  refine assignInOrder_cons (wpAny_bindName (M₃.put ha (.ol f1.2.2.1 p1' .nil) (fun _ d e => by
    cases e
    refine ⟨⟨f1.2.2.2.1, f1.2.1, f1.1⟩, fun y c e o hy q => ?_⟩
    rw [List.lookup_cons] at e
    by_cases hyb : y = b
    · subst hyb
      simp only [if_true] at q
      exact ne12 (Value.ref.inj (Option.some.inj q)).symm
    · have hyb' : (y == b) = false := by simpa using hyb
      simp only [hyb'] at e
      simp only [if_neg hyb] at q
      exact f1.2.2.2.2 y c e o q) fun s₄ M₄ => assignInOrder_nil (wpAny_pure ?_)))
  exact ⟨_, σ, h, .refl _, _, M₄⟩
end
end Mine
end
section
open PySem PySem.Calls PyProof.Rows PySem.Builtin.Str
set_option linter.unusedVariables false
namespace Mine
abbrev pw : Program := PySem.Challenge.pw_wf0049_01
def stB : Stmt → List Stmt
  | .FunctionDef _ _ b .. => b
  | _ => []
def stA : Stmt → Arguments
  | .FunctionDef _ a .. => a
  | _ => ⟨[], [], none, [], [], none, []⟩
def stS : Stmt → Scope
  | .FunctionDef _ _ _ _ _ _ sc .. => sc
  | _ => default
def stAt (k : Nat) : Stmt := pw.main.body.getD k (.Pass default)
/-- the text's k-th statement is this def -/
abbrev Is (Θ : Wd) (k : Nat) (name : Str) (a : Addr) : Prop := IsDef Θ name (stA (stAt k)) (stB (stAt k)) (stS (stAt k)) a

theorem zipArgs {fd : FuncData} {vs : List Value} {xs : List Str} (h : bindArgs fd ⟨vs, []⟩ = pure (xs.zip vs)) : bindArgs fd ⟨vs, []⟩ = pure (xs.zip vs) := h
end Mine
end
section
open PySem PySem.Calls PyProof.Rows PySem.Builtin.Str
set_option linter.unusedVariables false
set_option maxRecDepth 100000
namespace Mine
section
variable {Θ : Wd} {A : Around} {a : Addr}

def iv : PV → Int
  | .int n => n
  | _ => 0
/-- a dict of ints -/
def DI (w : List (Str × Int)) : List (Str × PV) := w.map fun e => (e.1, .int e.2)
theorem DI_mem {w : List (Str × Int)} {pre post : List (Str × PV)} {k : Str} {p : PV} (h : DI w = pre ++ (k, p) :: post) : ∃ u n v, w = u ++ (k, n) :: v ∧ pre = DI u ∧ p = .int n ∧ post = DI v := by
  unfold DI at h
  obtain ⟨u, r, rfl, rfl, hr⟩ := List.map_eq_append_iff.mp h
  obtain ⟨⟨k', n⟩, v, rfl, e, rfl⟩ := List.map_eq_cons_iff.mp hr
  cases e
  exact ⟨u, n, v, rfl, rfl, rfl, rfl⟩
def wsum (w : List (Str × Int)) : Int := (w.map (·.2)).sum
def psum (l : List (Str × PV)) : Int := (l.map fun e => iv e.2).sum
theorem psum_DI (w : List (Str × Int)) : psum (DI w) = wsum w := by
  unfold psum DI wsum; rw [List.map_map]; rfl
theorem wsum_snoc (u : List (Str × Int)) (e : Str × Int) : wsum (u ++ [e]) = wsum u + e.2 := by
  unfold wsum; simp
theorem DI_snoc (u : List (Str × Int)) (k : Str) (n : Int) : DI (u ++ [(k, n)]) = DI u ++ [(k, .int n)] := by
  unfold DI; simp

theorem iadd_ok (x y : Int) : ∀ σ s va vb, At Θ A σ s → Rp Θ.prog Θ.w σ va (.int x) → Rp Θ.prog Θ.w σ vb (.int y) → W Θ.prog Θ.w A (inplaceOp .Add va vb) σ s fun v σ' s' => Rp Θ.prog Θ.w σ' v (.int (x + y)) := fun σ s va vb h ha hb => by
  cases ha; cases hb; exact iadd_int (val_tok h.le (.int _ _))

theorem fn_count (O : Θ.Ok) (D : Is Θ 3 "count_calls" a) (R : Room A 2) (w : List (Str × Int)) : Fn Θ A a [.dic (DI w)] (.int (wsum w)) := by
  refine Fn_plain O (k := 1) (xs := ["callers"]) D R rfl (fun pm cd doc vs h => ?_) (by decide) (by decide) (fun L cd => ?_)
  · match vs, h with
    | [v], _ => rfl
  · have R0 : Room (A.deeper (envOf "count_calls" (stS (stAt 3)) L a cd)) 0 := R.deeper.less (by omega)
    refine X_cons (X_assign Ev_int (.inl rfl) ?_)
    refine X_cons (X_vals (Src_values R0 (Ev_name rfl (.inl rfl))) (.inl rfl) (fun pre => [("nc", .sh (.int (psum pre))), ("callers", .sh (.dic (DI w)))]) ?_ (fun pre k p post e => ?_) (fun r h => ?_))
    · exact .cons rfl (.cons rfl .nil)
    · obtain ⟨u, n, v, rfl, rfl, rfl, rfl⟩ := DI_mem e
      refine X_cons (X_aug (p := .int (psum (DI u))) (q := .int n) (r := .int (psum (DI u) + n)) rfl (Ev_name rfl (.inl rfl)) (.inl rfl) (iadd_ok _ _) ?_)
      refine X_nil (.cons ?_ (.cons rfl .nil))
      rw [← DI_snoc, psum_DI, psum_DI, wsum_snoc]; rfl
    · refine X_cons (X_ret (Ev_name (p := .int (wsum w)) ?_ (.inl rfl)) rfl)
      rw [← psum_DI]
      exact h _ _ rfl
end
end Mine
end
section
open PySem PySem.Calls PyProof.Rows PySem.Builtin.Str
set_option linter.unusedVariables false
set_option maxRecDepth 100000
namespace Mine

abbrev Wg := List (Str × Int)
def getW (w : Wg) (k : Str) : Option Int := (w.find? fun e => e.1 = k).map (·.2)
def putW (w : Wg) (k : Str) (n : Int) : Wg := if w.any (fun e => e.1 = k) then w.map (fun e => if e.1 = k then (e.1, n) else e) else w ++ [(k, n)]
theorem DI_put (w : Wg) (k : Str) (n : Int) : DI (putW w k n) = putAt (DI w) k (.int n) := by
  unfold putW putAt DI
  have e : ((w.map fun e => (e.1, PV.int e.2)).any fun kv => decide (kv.1 = k)) = w.any fun e => decide (e.1 = k) := by rw [List.any_map]; rfl
  rw [e]
  split
  · rw [List.map_map, List.map_map]
    apply List.map_congr_left
    intro x _
    simp only [Function.comp]
    split <;> rfl
  · rw [List.map_append]; rfl
theorem DI_get (w : Wg) (k : Str) : valAt (DI w) k = (getW w k).map PV.int := by
  unfold valAt getW DI
  induction w with
  | nil => rfl
  | cons e r ih =>
    simp only [List.map_cons, List.find?_cons]
    by_cases h : e.1 = k
    · simp [h]
    · simp only [h, decide_false]; exact ih
theorem putW_len (w : Wg) (k : Str) (n : Int) : (putW w k n).length ≤ w.length + 1 := by
  unfold putW; split <;> simp
theorem DI_len (w : Wg) : (DI w).length = w.length := by unfold DI; simp

/-- the copy -/
def cpW (t : Wg) : Wg := t.foldl (fun acc e => putW acc e.1 e.2) []
/-- one more entry is added -/
def bumpW (acc : Wg) (e : Str × Int) : Wg := match getW acc e.1 with
  | some n => putW acc e.1 (n + e.2)
  | none => putW acc e.1 e.2
def addW (t s : Wg) : Wg := s.foldl bumpW (cpW t)
theorem cpW_snoc (u : Wg) (e : Str × Int) : cpW (u ++ [e]) = putW (cpW u) e.1 e.2 := by unfold cpW; simp
theorem cpW_len (u : Wg) : (cpW u).length ≤ u.length := by
  suffices h : ∀ (u acc : Wg), (u.foldl (fun acc e => putW acc e.1 e.2) acc).length ≤ acc.length + u.length by simpa [cpW] using h u []
  intro u
  induction u with
  | nil => intro acc; simp
  | cons e r ih => intro acc; have := ih (putW acc e.1 e.2); have := putW_len acc e.1 e.2; simp only [List.foldl_cons, List.length_cons]; omega
theorem bumpW_len (acc : Wg) (e : Str × Int) : (bumpW acc e).length ≤ acc.length + 1 := by
  unfold bumpW; split <;> exact putW_len _ _ _
theorem fold_len (u : Wg) : ∀ acc : Wg, (u.foldl bumpW acc).length ≤ acc.length + u.length := by
  induction u with
  | nil => intro acc; simp
  | cons e r ih => intro acc; have := ih (bumpW acc e); have := bumpW_len acc e; simp only [List.foldl_cons, List.length_cons]; omega

section
variable {Θ : Wd} {A : Around} {a : Addr} {env : Env} {ρ : Rho}

/-- isinstance(int, tuple) -/
theorem Ev_isi (O : Θ.Ok) {x y : PySem.Expr} {p pos : Pos} {n : Int} (h1 : Θ.gv "isinstance" = some (.builtin "isinstance")) (hk : env.kindOf "isinstance" = some .globalImplicit)
    (hx : Evs Θ A env ρ [x, y] [.int n, .typ "tuple"]) : Ev Θ A env ρ (.Call (.Name "isinstance" p) [x, y] [] pos) (.bool false) :=
  Ev_callee O h1 hk hx kept_builtin fun σ s vs at0 hv => by
    cases hv with
    | cons a1 r => cases r with
      | cons a2 r => cases r with
        | nil => cases a1; cases a2; exact PySem.IsiPair.int_tuple (val_tok at0.le (.bool _))

structure Bi (Θ : Wd) : Prop where
  isi : Θ.gv "isinstance" = some (.builtin "isinstance")
  tup : Θ.gv "tuple" = some (.type "tuple")
  int : Θ.gv "int" = some (.type "int")
  len : Θ.gv "len" = some (.builtin "len")
  sum : Θ.gv "sum" = some (.builtin "sum")
  enu : Θ.gv "enumerate" = some (.type "enumerate")

theorem ns_name (x : Str) (pos : Pos) : ∀ a b, PySem.Expr.Name x pos ≠ .Starred a b := fun _ _ e => by cases e

theorem fn_add (O : Θ.Ok) (B : Bi Θ) (D : Is Θ 2 "add_callers" a) (R : Room A 2) (t s : Wg) (ht : t.length ≤ 1000) (hs : s.length ≤ 1000) : Fn Θ A a [.dic (DI t), .dic (DI s)] (.dic (DI (addW t s))) := by
  refine Fn_plain O (k := 1) (xs := ["target", "source"]) D R rfl (fun pm cd doc vs h => ?_) (by decide) (by decide) (fun L cd => ?_)
  · match vs, h with
    | [v, u], _ => rfl
  · have R0 : Room (A.deeper (envOf "add_callers" (stS (stAt 2)) L a cd)) 0 := R.deeper.less (by omega)
    refine X_cons (X_new_dict O (.inl rfl) ?_)
    refine X_cons (X_items R0 (Src_items R0 (Ev_name rfl (.inl rfl))) (.inl rfl) (.inl rfl) (fun pre => [("new_callers", .od (DI (cpW (pre.map fun e => (e.1, iv e.2))))), ("target", .sh (.dic (DI t))), ("source", .sh (.dic (DI s)))]) ?_ (fun pre k p post e => ?_) (fun r h => ?_))
    · exact .cons rfl (.cons rfl (.cons rfl .nil))
    · obtain ⟨u, n, v, rfl, rfl, rfl, rfl⟩ := DI_mem e
      have eu : ∀ u : Wg, (DI u).map (fun e => (e.1, iv e.2)) = u := fun u => by unfold DI; rw [List.map_map]; exact (List.map_congr_left (fun _ _ => rfl)).trans (List.map_id u)
      rw [← DI_snoc, eu, eu]
      have hl := cpW_len u
      simp only [List.length_append, List.length_cons] at ht
      refine X_cons (X_store (l := DI (cpW u)) (k := k) (p := .int n) rfl (.inl rfl) (Ev_name rfl (.inl rfl)) (Ev_name rfl (.inl rfl)) (by rw [DI_len]; omega) ?_)
      refine X_nil (.cons ?_ (.cons rfl (.cons rfl .nil)))
      rw [cpW_snoc, DI_put]; rfl
    · have eu : ∀ u : Wg, (DI u).map (fun e => (e.1, iv e.2)) = u := fun u => by unfold DI; rw [List.map_map]; exact (List.map_congr_left (fun _ _ => rfl)).trans (List.map_id u)
      rw [eu] at h
      have h1 := h "new_callers" _ rfl
      have h2 := h "source" _ rfl
      refine X_cons (X_items R0 (Src_items R0 (Ev_name h2 (.inl rfl))) (.inl rfl) (.inl rfl) (fun pre => [("new_callers", .od (DI ((pre.map fun e => (e.1, iv e.2)).foldl bumpW (cpW t)))), ("source", .sh (.dic (DI s)))]) ?_ (fun pre k p post e => ?_) (fun r h => ?_))
      · exact .cons h1 (.cons h2 .nil)
      · obtain ⟨u, n, v, rfl, rfl, rfl, rfl⟩ := DI_mem e
        rw [← DI_snoc, eu, eu, List.foldl_append, List.foldl_cons, List.foldl_nil]
        have hl := cpW_len t
        have hf := fold_len u (cpW t)
        simp only [List.length_append, List.length_cons] at hs
        generalize u.foldl bumpW (cpW t) = acc at hf ⊢
        refine X_cons (X_if (Tv_in_dict (d := DI acc) (Ev_name rfl (.inl rfl)) (Hd_own rfl (.inl rfl))) (fun hb => ?_) (fun hb => ?_))
        · rw [DI_get] at hb
          obtain ⟨old, ho⟩ : ∃ o, getW acc k = some o := by
            cases q : getW acc k with
            | none => rw [q] at hb; cases hb
            | some o => exact ⟨o, rfl⟩
          refine X_cons (X_if (b := false) (Tv_ev (Ev_isi O B.isi rfl (.cons (Ev_name rfl (.inl rfl)) (ns_name _ _) (.cons (Ev_global O B.tup (.typ _) rfl) (ns_name _ _) .nil))) (TrOk.bool _)) (fun hb => by cases hb) (fun _ => ?_))
          refine X_cons (X_aug_store (l := DI acc) (k := k) (p := .int old) (q := .int n) (r := .int (old + n)) rfl (.inl rfl) (Ev_name rfl (.inl rfl)) (Ev_name rfl (.inl rfl)) (by rw [DI_len]; omega) (by rw [DI_get, ho]; rfl) (iadd_ok _ _) ?_)
          refine X_nil (X_nil (X_nil (.cons ?_ (.cons rfl .nil))))
          rw [← DI_put]
          unfold bumpW
          rw [ho]; rfl
        · rw [DI_get] at hb
          have ho : getW acc k = none := by
            cases q : getW acc k with
            | none => rfl
            | some o => rw [q] at hb; cases hb
          refine X_cons (X_store (l := DI acc) (k := k) (p := .int n) rfl (.inl rfl) (Ev_name rfl (.inl rfl)) (Ev_name rfl (.inl rfl)) (by rw [DI_len]; omega) ?_)
          refine X_nil (X_nil (.cons ?_ (.cons rfl .nil)))
          rw [← DI_put]
          unfold bumpW
          rw [ho]; rfl
      · rw [eu] at h
        have h1 := h "new_callers" _ rfl
        exact X_freeze_d h1 (X_cons (X_ret (Ev_name rfl (.inl rfl)) rfl))
end
end Mine
end
section
open PySem PySem.Calls PyProof.Rows PySem.Builtin.Str
set_option linter.unusedVariables false
set_option maxRecDepth 100000
namespace Mine
section
variable {Θ : Wd} {A : Around} {a b : Addr} {env : Env} {ρ : Rho}

/-- an entry of the profile -/
def ent (c n t u : Int) (w : Wg) : PV := .tup [.int c, .int n, .int t, .int u, .dic (DI w)]

theorem fn_stats (O : Θ.Ok) (B : Bi Θ) (D : Is Θ 1 "add_func_stats" a) (D2 : Is Θ 2 "add_callers" b) (R : Room A 3) (c n t u c' n' t' u' : Int) (w v : Wg) (hw : w.length ≤ 1000) (hv : v.length ≤ 1000) :
    Fn Θ A a [ent c n t u w, ent c' n' t' u' v] (ent (c' + c) (n' + n) (t' + t) (u' + u) (addW w v)) := by
  refine Fn_plain O (k := 2) (xs := ["target", "source"]) D R rfl (fun pm cd doc vs h => ?_) (by decide) (by decide) (fun L cd => ?_)
  · match vs, h with
    | [v, u], _ => rfl
  · have R2 : Room (A.deeper (envOf "add_func_stats" (stS (stAt 1)) L a cd)) 2 := R.deeper
    have R0 := R2.less (j := 0) (by omega)
    refine X_cons (X_unpack (Ev_name rfl (.inl rfl)) (As_tup R0 (.cons (As_name (.inl rfl)) (ns_name _ _) (.cons (As_name (.inl rfl)) (ns_name _ _) (.cons (As_name (.inl rfl)) (ns_name _ _) (.cons (As_name (.inl rfl)) (ns_name _ _) (.cons (As_name (.inl rfl)) (ns_name _ _) .nil)))))) ?_ (fun _ _ e => by cases e))
    refine X_cons (X_unpack (Ev_name rfl (.inl rfl)) (As_tup R0 (.cons (As_name (.inl rfl)) (ns_name _ _) (.cons (As_name (.inl rfl)) (ns_name _ _) (.cons (As_name (.inl rfl)) (ns_name _ _) (.cons (As_name (.inl rfl)) (ns_name _ _) (.cons (As_name (.inl rfl)) (ns_name _ _) .nil)))))) ?_ (fun _ _ e => by cases e))
    refine X_cons (X_ret (Ev_tuple (.cons (Ev_bin (Ev_name rfl (.inl rfl)) (Ev_name rfl (.inl rfl)) (bin_add _ _)) (fun _ _ e => by cases e)
      (.cons (Ev_bin (Ev_name rfl (.inl rfl)) (Ev_name rfl (.inl rfl)) (bin_add _ _)) (fun _ _ e => by cases e)
      (.cons (Ev_bin (Ev_name rfl (.inl rfl)) (Ev_name rfl (.inl rfl)) (bin_add _ _)) (fun _ _ e => by cases e)
      (.cons (Ev_bin (Ev_name rfl (.inl rfl)) (Ev_name rfl (.inl rfl)) (bin_add _ _)) (fun _ _ e => by cases e)
      (.cons (Ev_fn O D2 rfl (.cons (Ev_name rfl (.inl rfl)) (ns_name _ _) (.cons (Ev_name rfl (.inl rfl)) (ns_name _ _) .nil)) (fn_add O B D2 R2 w v hw hv)) (fun _ _ e => by cases e) .nil))))) (by simp)) rfl)
end
end Mine
end
section
open PySem PySem.Calls PyProof.Rows PySem.Builtin.Str
set_option linter.unusedVariables false
set_option maxRecDepth 100000
namespace Mine
section
variable {Θ : Wd} {A : Around} {a b : Addr} {env : Env} {ρ : Rho}

def tickS : Str := "'"
def pieces (s : Str) : List Str := Txt.splitMax s tickS 2
def decoded (s : Str) : PV := if (pieces s).length ≤ 2 then .tup [.none, .none, .str s] else .lst ((pieces s).map PV.str)
def Glob (Θ : Wd) (x : Str) (p : PV) : Prop := ∃ v, Θ.gv x = some v ∧ Rp Θ.prog Θ.w Θ.hb.get? v p
theorem Ev_glob (O : Θ.Ok) {x : Str} {pos : Pos} {p : PV} (g : Glob Θ x p) (hk : env.kindOf x = some .globalImplicit) (hd : (x == ("__debug__" : Str)) = false := by decide) : Ev Θ A env ρ (.Name x pos) p := by
  obtain ⟨v, h1, h2⟩ := g
  exact Ev_global O h1 h2 hk hd

theorem fn_decode (O : Θ.Ok) (B : Bi Θ) (T : Glob Θ "TICK" (.str tickS)) (D : Is Θ 8 "decode_rfc2231" a) (R : Room A 1) (s : Str) (hs : s.length ≤ 1000) (hp : (pieces s).length ≤ 1000) : Fn Θ A a [.str s] (decoded s) := by
  refine Fn_plain O (k := 0) (xs := ["s"]) D R rfl (fun pm cd doc vs h => ?_) (by decide) (by decide) (fun L cd => ?_)
  · match vs, h with
    | [v], _ => rfl
  · have R0 : Room (A.deeper (envOf "decode_rfc2231" (stS (stAt 8)) L a cd)) 0 := R.deeper
    refine X_cons (X_assign (Ev_split_max (Ev_name rfl (.inl rfl)) (Ev_glob O T rfl) Ev_int (ns_name _ _) (fun _ _ e => by cases e) (by decide) (by decide) (by omega)) (.inl rfl) ?_)
    refine X_cons (X_if (Tv_cmp (Ev_len_list O B.len rfl (Ev_name rfl (.inl rfl)) (ns_name _ _) (by rw [List.length_map]; exact Nat.le_trans hp (by decide))) Ev_int (cmp_le_int _ _)) (fun h => ?_) (fun h => ?_))
    · have h' : (pieces s).length ≤ 2 := by
        rw [List.length_map] at h
        have h2 : ((pieces s).length : Int) ≤ 2 := of_decide_eq_true h
        omega
      refine X_cons (X_ret (Ev_tuple (.cons Ev_none (fun _ _ e => by cases e) (.cons Ev_none (fun _ _ e => by cases e) (.cons (Ev_name rfl (.inl rfl)) (ns_name _ _) .nil))) (by simp)) ?_)
      show Out.ret _ = Out.ret _
      unfold decoded; rw [if_pos h']
    · have h' : ¬ (pieces s).length ≤ 2 := by
        rw [List.length_map] at h
        have h2 : ¬ ((pieces s).length : Int) ≤ 2 := of_decide_eq_false h
        omega
      refine X_nil (X_cons (X_ret (Ev_name rfl (.inl rfl)) ?_))
      show Out.ret _ = Out.ret _
      unfold decoded; rw [if_neg h']; rfl
end
end Mine
end
section
open PySem PySem.Calls PyProof.Rows PySem.Builtin.Str
set_option linter.unusedVariables false
set_option maxRecDepth 100000
namespace Mine
section
variable {Θ : Wd}
abbrev gS : Scope := stS (stAt 6)
abbrev gB : List Stmt := stB (stAt 6)
abbrev genv (L a : Addr) (cd : Value) : Env := envOf "_iter_escaped_chars" gS L a cd
def forT : Stmt → PySem.Expr
  | .For t .. => t
  | _ => .Constant .none 0 default
def forI : Stmt → PySem.Expr
  | .For _ i .. => i
  | _ => .Constant .none 0 default
def forB : Stmt → List Stmt
  | .For _ _ b .. => b
  | _ => []
abbrev gFor : Stmt := gB.getD 2 (.Pass default)

structure GA (Θ : Wd) (L It E : Addr) : Prop where
  hL : Θ.hb.get? L = none
  hI : Θ.hb.get? It = none
  hE : Θ.hb.get? E = none
  LI : L ≠ It
  LE : L ≠ E
  EI : E ≠ It
abbrev gwr (L It E : Addr) : List Addr := [L, It, E]

structure LN (Θ : Wd) (L : Addr) (s : Shared) : Prop where
  hb : Sub Θ.hb.get? s.heap.get?
  ns : ∃ m, s.heap.Ns L m ∧ m "escape" = some (.bool false)
structure LS (Θ : Wd) (L It E : Addr) (t : Str) (u : Tok) (i : Nat) (s : Shared) : Prop extends LN Θ L s where
  en : ∃ old, IsEnum s.heap E It i old
  it : s.heap.IsStrIter It "str_ascii_iterator" t u i
theorem LS.keep {L It E : Addr} {t : Str} {u : Tok} {i : Nat} {s s' : Shared} (x : LS Θ L It E t u i s) (k : ∀ b ∈ gwr L It E, ∀ o, s.heap.get? b = some o → s'.heap.get? b = some o) (h : Sub Θ.hb.get? s'.heap.get?) : LS Θ L It E t u i s' :=
  ⟨⟨h, let ⟨m, a, b⟩ := x.ns; ⟨m, a.at' fun o e => k L (by simp) o e, b⟩⟩, let ⟨o, e⟩ := x.en; ⟨o, k E (by simp) _ e⟩, let ⟨o, e, r⟩ := x.it; ⟨o, k It (by simp) o e, r⟩⟩

theorem gstm {L It E a : Addr} {cd : Value} {s : Shared} (G : GA Θ L It E) (x : LN Θ L s) :
    ∃ m, StM Θ { s with heap := Θ.hb } Θ.hb.get? (genv L a cd) (fun b => if b ∈ gwr L It E then none else s.heap.get? b) Θ.hb.get? [("escape", .sh (.bool false))] m s := by
  obtain ⟨m, hn, he⟩ := x.ns
  refine ⟨m, .refl _, .refl _, x.hb, fun b o e => ?_, fun b o e => ?_, fun b o e => .inl e, rfl, rfl, .refl _, FS.plain rfl hn, ⟨if_pos (List.mem_cons_self ..), G.hL⟩, fun _ _ h => (by cases h), fun y b e => ?_, fun y z b c a' e1 e2 o1 => ?_⟩
  · by_cases h : b ∈ gwr L It E
    · rw [if_pos h] at e; cases e
    · rw [if_neg h] at e; exact e
  · have h : b ∉ gwr L It E := fun h => by
      have e' : Θ.hb.get? b = some o := e
      simp only [List.mem_cons, List.not_mem_nil, or_false] at h
      rcases h with rfl | rfl | rfl
      · rw [G.hL] at e'; cases e'
      · rw [G.hI] at e'; cases e'
      · rw [G.hE] at e'; cases e'
    show (if b ∈ gwr L It E then none else s.heap.get? b) = some o
    rw [if_neg h]; exact x.hb b o e
  · rw [List.lookup_cons] at e
    by_cases hy : y = "escape"
    · subst hy
      simp only [beq_self_eq_true] at e
      cases e
      exact ⟨_, he, .sh (.bool _), fun o => by cases o⟩
    · have hy' : (y == ("escape" : Str)) = false := by simpa using hy
      simp only [hy', List.lookup_nil] at e; cases e
  · rw [List.lookup_cons] at e1
    by_cases hy : y = "escape"
    · subst hy
      simp only [beq_self_eq_true] at e1
      cases e1; cases o1
    · have hy' : (y == ("escape" : Str)) = false := by simpa using hy
      simp only [hy', List.lookup_nil] at e1; cases e1

def gR (wr : List Addr) : GenEnd := fun n s₀ r s₁ => r = .ok (.ret .none) ∧ (n = 0 ∧ Mv wr s₀ s₁)
structure GV (t : Str) (i : Nat) (v : Value) (h : Heap) : Prop where
  ex : ∃ (T : Addr) (items : Array Value) (c : Nat) (u x : Tok), v = .ref T ∧ h.IsTuple T items ∧ t.cps[i]? = some c ∧ items.toList = [.int (i : Int) u, .str ⟨#[c]⟩ x]
def gY (Θ : Wd) (wr : List Addr) (t : Str) : Protocol := fun k s₀ v s' kap => Mv wr s₀ s' ∧ GV t (t.cps.size - 1 - k) v s'.heap ∧ (∀ b ∈ wr, ∃ o, s'.heap.get? b = some o) ∧ Sub Θ.hb.get? s'.heap.get? ∧
  ∀ s'', (∀ b ∈ wr, ∀ o, s'.heap.get? b = some o → s''.heap.get? b = some o) → Sub Θ.hb.get? s''.heap.get? → kap (.send .none) s''

theorem over_room {A : Around} {target : PySem.Expr} {it : Value} {body orelse b : List Stmt} {env env' e : Env} {K : Flow → Sem Fin} {H : Value → Sem Fin} {gd : Bool → Bool} {lv : List Value → List Value} {p : Pos} (R : Room A 2) :
    Room (A.in1.over (.forLoop target it body orelse env) [loopFrame env' K H gd lv (.func b e) p]) 0 := by
  refine ⟨R.handled, ?_, ?_⟩
  · have := R.depth
    show A.depth + frameCount [(Code.func b e, p)] + 0 + 0 < _
    have e1 : frameCount [(Code.func b e, p)] = 1 := rfl
    rw [e1]; omega
  · have := R.units
    show A.units + 1 + unitsOf [(Code.func b e, p)] + 0 + 6 * 0 + 100 < _
    have e1 : unitsOf [(Code.func b e, p)] = 3 := rfl
    rw [e1]; omega

theorem loop_seg {A : Around} {L It E a : Addr} {cd : Value} {t : Str} {u : Tok} (O : Θ.Ok) (G : GA Θ L It E) (R : Room A 2) (hne : ∀ c ∈ t.cps.toList, c ≠ 92) {K : Flow → Sem Fin} {H : Value → Sem Fin} {p : Pos}
    (hK : ∀ s₀ s, Mv (gwr L It E) s₀ s → LN Θ L s → Seg (model Θ.prog Θ.w) A.in1 (gR (gwr L It E)) (gY Θ (gwr L It E) t) 0 s₀ (.func gB (genv L a cd)) (K .next) [] s) :
    ∀ (k i : Nat) (s₀ s : Shared), i + k = t.cps.size → Mv (gwr L It E) s₀ s → LS Θ L It E t u i s →
      Seg (model Θ.prog Θ.w) A.in1 (gR (gwr L It E)) (gY Θ (gwr L It E) t) k s₀ (.forLoop (forT gFor) (.ref E) (forB gFor) [] (genv L a cd)) ((model Θ.prog Θ.w).den (.forLoop (forT gFor) (.ref E) (forB gFor) [] (genv L a cd)))
        [loopFrame (genv L a cd) K H id id (.func gB (genv L a cd)) p] s := by
  have WT := fun (B : Around) (hB : B.handled = none) => WalksT.enumerateD (Draws.strAscii (prog := Θ.prog) (w := Θ.w) (A := B.in1) hB It t u) E G.EI (by simp [G.EI]) (by simp)
  have nb : ∀ b, Θ.hb.get? b ≠ none → b ∉ [E, It] := fun b h hm => by
    simp only [List.mem_cons, List.not_mem_nil, or_false] at hm
    rcases hm with rfl | rfl
    · exact h G.hE
    · exact h G.hI
  have sub : ∀ b, b ∉ gwr L It E → b ∉ [E, It] := fun b h hm => h (by simp only [List.mem_cons, List.not_mem_nil, or_false] at hm ⊢; rcases hm with rfl | rfl <;> simp)
  have nL : L ∉ [E, It] := by simp [G.LI, G.LE]
  intro k
  induction k with
  | zero =>
    intro i s₀ s hi hm x
    have hin : i = t.cps.size := by omega
    subst hin
    refine seg_forLoop ?_
    refine (WT _ (over_room R).handled).done s _ _ ⟨x.en, x.it⟩ fun h' tk hk => ?_
    refine seg_block_nil (hK _ _ (hm.trans ⟨fun b o hb e => hk b o (sub b hb) e, .refl _, rfl, rfl⟩) ⟨fun b o e => hk b o (nb b (by rw [e]; simp)) (x.hb b o e), ?_⟩)
    obtain ⟨m, hn, he⟩ := x.ns
    exact ⟨m, hn.at' fun o e => hk L o nL e, he⟩
  | succ k ih =>
    intro i s₀ s hi hm x
    have hlt : i < t.cps.size := by omega
    refine seg_forLoop ?_
    have R0 := over_room (target := forT gFor) (it := .ref E) (body := forB gFor) (orelse := []) (b := gB) (env := genv L a cd) (env' := genv L a cd) (e := genv L a cd) (K := K) (H := H) (gd := id) (lv := id) (p := p) R
    obtain ⟨m, S⟩ := gstm (a := a) (cd := cd) G x.toLN
    refine (WT _ R0.handled).item i s _ _ hlt ⟨x.en, x.it⟩ fun T vals h₁ tk₁ hP hlo hT hMid hk₁ => ?_
    refine (WT _ R0.handled).go _ _ _ i T _ _ _ hMid fun h₂ st₂ hk₂ => ?_
    have hTw := (WT _ R0.handled).apart i T _ hMid
    obtain ⟨t₁, y, ⟨c, u', hc, rfl⟩, rfl⟩ := hP
    have hT₂ : h₂.IsTuple T #[.int i t₁, .str ⟨#[c]⟩ u'] := let ⟨o, ho, r⟩ := hT; ⟨o, hk₂ T o hTw ho, r⟩
    have ap : Ap (genv L a cd) [("escape", .sh (.bool false))] m [E, It] := ⟨nL, fun _ _ h => (by cases h), fun z b a' e o q => by
      rw [List.lookup_cons] at e
      by_cases hy : z = "escape"
      · subst hy
        simp only [beq_self_eq_true] at e
        cases e; cases o
      · have hy' : (z == ("escape" : Str)) = false := by simpa using hy
        simp only [hy', List.lookup_nil] at e; cases e⟩
    have T1 := S.turn (h' := h₂) (tk := tk₁) ap (fun b hb => by
      simp only [List.mem_cons, List.not_mem_nil, or_false] at hb
      rcases hb with rfl | rfl
      · exact ⟨G.hE, if_pos (by simp)⟩
      · exact ⟨G.hI, if_pos (by simp)⟩) fun b o hb e => hk₂ b o hb (hk₁ b o hb e)
    have Gd := T1.guard ap
    refine wpAny_mono (As_heapTup R0 (.cons (As_name (x := "pos") (.inl rfl)) (ns_name _ _) (.cons (As_name (x := "ch") (.inl rfl)) (ns_name _ _) .nil)) ⟨m, Gd⟩ hT₂ (ps := [.int i, .str ⟨#[c]⟩]) (.cons (.int _ _) (.cons (.str _ _) .nil))) (fun _ s₃ S₃ => ?_) fun _ _ e => e
    refine seg_execs_cons (seg_If (W.then (σ := Θ.hb.get?) (P := fun b _ _ => b = false) ?_ fun b₄ σ₄ s₄ x₄ e₄ => ?_))
    · exact Tv_ev (hs := by rfl) (Ev_name (p := .bool false) rfl (.inl rfl)) (TrOk.bool false) _ _ S₃.rd
    subst e₄
    rw [cond_false]
    have S₄ := S₃.ext x₄
    refine seg_execs_cons (seg_If (W.then (σ := σ₄) (P := fun b _ _ => b = false) ?_ fun b₅ σ₅ s₅ x₅ e₅ => ?_))
    · refine W.mono (P := fun v _ _ => v = decide ((⟨#[c]⟩ : Str) = ("\\" : Str))) ?_ fun v _ _ _ e => ?_
      · exact Tv_cmp (hm := by with_unfolding_all rfl) (Ev_name (p := .str ⟨#[c]⟩) rfl (.inl rfl)) Ev_str (cmp_eq_str _ _) _ _ S₄.rd
      refine e.trans (decide_eq_false fun h => ?_)
      have h92 : c = 92 := by
        have h1 := congrArg Str.cps h
        have h2 : (#[c] : Array Nat) = #[92] := h1
        simpa using h2
      exact hne c (by rw [Array.getElem?_eq_some_iff] at hc; obtain ⟨q, rfl⟩ := hc; simp) h92
    subst e₅
    rw [cond_false]
    have S₅ := S₄.ext x₅
    refine seg_execs_cons (seg_Expr_Yield rfl rfl rfl (W.then (σ := σ₅) (P := fun v σ' _ => Rp Θ.prog Θ.w σ' v (.tup [.int i, .str ⟨#[c]⟩])) ?_ fun v σ₆ s₆ x₆ hv => ?_))
    · exact Ev_tuple (.cons (Ev_name (p := .int i) rfl (.inl rfl)) (ns_name _ _) (.cons (Ev_name (p := .str ⟨#[c]⟩) rfl (.inl rfl)) (ns_name _ _) .nil)) (by simp) _ _ S₅.rd
    intro kap hkap
    obtain ⟨m₆, S₆⟩ := S₅.ext x₆
    have exE : ∀ b ∈ [E, It], ∃ o, h₂.get? b = some o := fun b hb => by
      simp only [List.mem_cons, List.not_mem_nil, or_false] at hb
      obtain ⟨⟨old, he⟩, o, ho, _⟩ := st₂
      rcases hb with rfl | rfl
      · exact ⟨_, he⟩
      · exact ⟨_, ho⟩
    obtain ⟨U, ap₆, hfx, _⟩ := T1.unguard S₆ ap.c exE fun b hb o e => T1.πle b o e
    have mv : Mv (gwr L It E) s s₆ := ⟨fun b o hb e => U.πle b o ((if_neg hb).trans e), U.gens, U.os, U.dr⟩
    have x' : LS Θ L It E t u (i + 1) s₆ := by
      refine ⟨⟨U.rd.base.trans U.le, ?_⟩, ?_, ?_⟩
      · obtain ⟨ml, hn, he⟩ := U.fs.ns
        obtain ⟨v, hv, hb, _⟩ := U.b "escape" (.sh (.bool false)) rfl
        cases hb with
        | sh hb => cases hb; exact ⟨ml, hn, (he _ rfl).trans hv⟩
      · obtain ⟨⟨old, he⟩, _⟩ := st₂
        exact ⟨old, hfx E (by simp) _ he⟩
      · obtain ⟨_, o, ho, r⟩ := st₂
        exact ⟨o, hfx It (by simp) o ho, r⟩
    have e1 : t.cps.size - 1 - k = i := by omega
    refine ⟨hm.trans mv, ⟨?_⟩, fun b hb => ?_, x'.hb, fun s'' hs'' hb'' => hkap .none s'' ?_⟩
    · rw [e1]
      obtain ⟨T', items, rfl, hT', hr⟩ := hv.isTuple U.le
      generalize hit : items.toList = l at hr
      cases hr with | cons a1 r => cases r with | cons a2 r => cases r with | nil => cases a1; cases a2; exact ⟨T', items, c, _, _, rfl, hT', hc, hit⟩
    · simp only [List.mem_cons, List.not_mem_nil, or_false] at hb
      rcases hb with rfl | rfl | rfl
      · obtain ⟨_, ⟨o, _, _, ho, _⟩, _⟩ := x'.ns; exact ⟨o, ho⟩
      · obtain ⟨o, ho, _⟩ := x'.it; exact ⟨o, ho⟩
      · obtain ⟨o, he⟩ := x'.en; exact ⟨_, he⟩
    · exact seg_again rfl (ih (i + 1) s'' s'' (by omega) (Mv.refl _ _) (x'.keep hs'' hb''))
end
end Mine
end
section
open PySem PySem.Calls PyProof.Rows PySem.Builtin.Str
set_option linter.unusedVariables false
set_option maxRecDepth 100000
namespace Mine
section
variable {Θ : Wd}

theorem func_seg {A : Around} {L It E a : Addr} {cd : Value} {t : Str} {u : Tok} {s : Shared} {m0 : Str → Option Value} (O : Θ.Ok) (B : Bi Θ) (G : GA Θ L It E) (R : Room A 2) (hne : ∀ c ∈ t.cps.toList, c ≠ 92) (hasc : t.cps.all (· < 128) = true)
    (hb : Sub Θ.hb.get? s.heap.get?) (hn : s.heap.Ns L m0) (ha : m0 "addr" = some (.str t u)) (hI : It = s.heap.objs.size) (hE : E = s.heap.objs.size + 1) :
    Seg (model Θ.prog Θ.w) A.in1 (gR (gwr L It E)) (gY Θ (gwr L It E) t) t.cps.size s (.func gB (genv L a cd)) ((model Θ.prog Θ.w).den (.func gB (genv L a cd))) [] s := by
  refine seg_func ?_
  refine seg_execs_cons (seg_wrap (wpAny_Assign_Name (wpAny_Constant_int (wpAny_storeName_local rfl hn (fun h₁ hn₁ hs₁ => ?_) rfl))))
  refine seg_execs_cons (seg_wrap (wpAny_Assign_Name (x := "escape") ?_))
  show wpAny _ _ (Pure.pure (Value.bool false)) _ _ _
  refine wpAny_pure (wpAny_storeName_local rfl hn₁ (fun h₂ hn₂ hs₂ => ?_) rfl)
  have sz₁ : h₁.objs.size = s.heap.objs.size := hs₁.1
  have sz₂ : h₂.objs.size = s.heap.objs.size := hs₂.1.trans sz₁
  have kp : ∀ b o, b ≠ L → s.heap.get? b = some o → h₂.get? b = some o := fun b o h e => (hs₂.2 b h).trans ((hs₁.2 b h).trans e)
  have hb₂ : Sub Θ.hb.get? h₂.get? := fun b o e => kp b o (by rintro rfl; have e' : Θ.hb.get? b = some o := e; rw [G.hL] at e'; cases e') (hb b o e)
  refine seg_execs_cons (seg_For ?_)
  generalize hst : (⟨h₂, _, _, _, _⟩ : Shared) = s₂
  have eh : s₂.heap = h₂ := by rw [← hst]
  have eg : s₂.gens = s.gens := by rw [← hst]
  have eo : s₂.os = s.os := by rw [← hst]
  have ed : s₂.drawn = s.drawn := by rw [← hst]
  clear hst
  subst eh
  have Rd0 : Rd Θ (genv L a cd) [] Θ.hb.get? s₂ := ⟨.refl _, hb₂, _, FS.plain rfl hn₂, fun _ _ e => by cases e⟩
  rw [arm_eval_Call_Name']
  refine wpAny_bind (name_global O Rd0 rfl B.enu ?_)
  refine PySem.W.callWith_of (P := fun _ => True) rfl (fun _ _ => kept_type) (evalArgs_plain ?_)
  show wpAny _ _ (eval (.Name "addr" _) (genv L a cd) >>= fun v => (pure [v] : Sem (List Value)) >>= fun here => holding here (spliced []) >>= fun r => pure (here ++ r)) _ _ s₂
  refine wpAny_bind (wpAny_Name (wpAny_loadName_local rfl rfl hn₂ (v := .str t u) ha ?_) rfl)
  refine wpAny_bind (wpAny_pure (wpAny_bind (wpAny_holding (spliced_nil (wpAny_pure ⟨trivial, ?_⟩)))))
  refine call_enumerate_str fun h₃ he hi hz hk => ?_
  refine wpAny_pyIter_enum he ?_
  intro p
  have eI : s₂.heap.objs.size = It := sz₂.trans hI.symm
  have eE : s₂.heap.objs.size + 1 = E := by rw [sz₂]; exact hE.symm
  rw [eI] at hi he
  have eE' : It + 1 = E := by rw [← eI]; exact eE
  rw [eE'] at he
  rw [eE]
  refine loop_seg (t := t) (u := u) O G R hne (fun s₀ s' hm x => ?_) t.cps.size 0 s { s₂ with heap := h₃ } (by omega) ⟨fun b o hb e => hk b o (kp b o (fun h => hb (by rw [h]; exact List.mem_cons_self ..)) e), by show GExt s.gens s₂.gens; rw [eg]; exact .refl _, eo, ed⟩
    ⟨⟨fun b o e => hk b o (hb₂ b o e), ⟨_, hn₂.keeps fun b o e => hk b o e, if_pos rfl⟩⟩, ⟨_, he⟩, ?_⟩
  · obtain ⟨m, S⟩ := gstm (a := a) (cd := cd) G x
    refine seg_execs_cons (seg_If (W.then (σ := Θ.hb.get?) (P := fun b _ _ => b = false) ?_ fun b₄ σ₄ s₄ x₄ e₄ => ?_))
    · exact Tv_ev (hs := by rfl) (Ev_name (p := .bool false) rfl (.inl rfl)) (TrOk.bool false) _ _ S.rd
    subst e₄
    rw [cond_false]
    have S₄ := S.ext x₄
    refine seg_end (.ok (.ret .none)) ⟨rfl, rfl, hm.trans ⟨fun b o hb e => S₄.πle b o ((if_neg hb).trans e), S₄.gens, S₄.os, S₄.dr⟩⟩
  · have est : strIterType t = "str_ascii_iterator" := if_pos hasc
    rw [est] at hi
    exact hi
end
end Mine
end
section
open PySem PySem.Calls PyProof.Rows PySem.Builtin.Str
set_option linter.unusedVariables false
set_option maxRecDepth 100000
namespace Mine
section
variable {Θ : Wd} {A : Around} {env : Env} {ρ : Rho}

theorem nin3 (n : Nat) : (n + 1) ∉ [n, n + 2, n + 3] := by simp only [List.mem_cons, List.not_mem_nil, or_false, not_or]; omega
theorem ge3 (n b : Nat) (h : b ∈ [n + 1, n, n + 2, n + 3]) : n ≤ b := by simp only [List.mem_cons, List.not_mem_nil, or_false] at h; omega
theorem nne (n k : Nat) (h : 0 < k) : n ≠ n + k := by omega
theorem letGo_gen {E : Value → Shared → Prop} {target : PySem.Expr} {G : Addr} {g : Nat} {v : Value} {Q : Unit → Shared → Prop} {s : Shared} (hg : s.heap.IsGen G g) (h : Q () s) :
    wpAny (model Θ.prog Θ.w) A (letOwnedTupleGo target (.ref G) v) Q E s := by
  obtain ⟨o, nm, qn, ho, hc, hd, _⟩ := hg
  unfold letOwnedTupleGo
  cases target <;> first
    | exact wpAny_pure h
    | (cases v <;> first
        | exact wpAny_pure h
        | (refine wpAny_bind (wpAny_load ho ?_)
           rw [hc, hd]
           exact wpAny_pure h))

def GSt (Θ : Wd) (A : Around) (L It E a G : Addr) (g : Nat) (cd : Value) (t : Str) : Nat → Shared → Prop
  | 0 => fun s => s.heap.IsGen G g ∧ Sub Θ.hb.get? s.heap.get? ∧ (∃ m0 u, s.heap.Ns L m0 ∧ m0 "addr" = some (.str t u)) ∧ It = s.heap.objs.size ∧ E = s.heap.objs.size + 1 ∧ s.gens[g]? = some (.fresh (.func gB (genv L a cd)))
  | i + 1 => fun s => s.heap.IsGen G g ∧ Sub Θ.hb.get? s.heap.get? ∧ (∀ b ∈ gwr L It E, ∃ o, s.heap.get? b = some o) ∧ ∃ gs, s.gens[g]? = some gs ∧
      ∀ s'' : Shared, (∀ b ∈ gwr L It E, ∀ o, s.heap.get? b = some o → s''.heap.get? b = some o) → Sub Θ.hb.get? s''.heap.get? →
        gs.Goes (model Θ.prog Θ.w) A.in1 (gR (gwr L It E)) (gY Θ (gwr L It E) t) (t.cps.size - (i + 1)) (.send .none) s''

theorem GSt.goes {L It E a G : Addr} {g : Nat} {cd : Value} {t : Str} (O : Θ.Ok) (B : Bi Θ) (H : GA Θ L It E) (R : Room A 2) (hne : ∀ c ∈ t.cps.toList, c ≠ 92) (hasc : t.cps.all (· < 128) = true) {i : Nat} {s : Shared} (x : GSt Θ A L It E a G g cd t i s) :
    s.heap.IsGen G g ∧ Sub Θ.hb.get? s.heap.get? ∧ ∃ gs, s.gens[g]? = some gs ∧ gs.Goes (model Θ.prog Θ.w) A.in1 (gR (gwr L It E)) (gY Θ (gwr L It E) t) (t.cps.size - i) (.send .none) (s.setGen g .running) := by
  cases i with
  | zero =>
    obtain ⟨h1, h2, ⟨m0, u, hn, ha⟩, hI, hE, hg⟩ := x
    exact ⟨h1, h2, _, hg, rfl, func_seg (s := s.setGen g .running) O B H R hne hasc h2 hn ha hI hE⟩
  | succ i =>
    obtain ⟨h1, h2, h3, gs, hg, hgo⟩ := x
    exact ⟨h1, h2, gs, hg, hgo _ (fun _ _ _ e => e) h2⟩

theorem iter_turns {L It E a G : Addr} {g : Nat} {cd : Value} {t : Str} {target : PySem.Expr} (O : Θ.Ok) (B : Bi Θ) (H : GA Θ L It E) (R : Room A 2) (hne : ∀ c ∈ t.cps.toList, c ≠ 92) (hasc : t.cps.all (· < 128) = true)
    (hG : G ∉ gwr L It E) : GTurns Θ A target G g (gwr L It E) t.cps.size (GSt Θ A L It E a G g cd t) (fun i v s => GV t i v s.heap) where
  frame := fun i s s' x k hb hg => by
    obtain ⟨h1, h2, h3, gs, hgs, hgo⟩ := x
    refine ⟨?_, hb, fun b hm => let ⟨o, ho⟩ := h3 b hm; ⟨o, k b (List.mem_cons_of_mem _ hm) o ho⟩, gs, hg.trans hgs, fun s'' k' hb' => hgo s'' (fun b hm o e => k' b hm o (k b (List.mem_cons_of_mem _ hm) o e)) hb'⟩
    obtain ⟨o, nm, qn, ho, r⟩ := h1
    exact ⟨o, nm, qn, k G (List.mem_cons_self ..) o ho, r⟩
  ex := fun i s x => by
    obtain ⟨⟨o, nm, qn, ho, r⟩, h2, h3, gs, hgs, hgo⟩ := x
    refine ⟨fun b hm => ?_, gs, hgs⟩
    rcases List.mem_cons.mp hm with rfl | hm
    · exact ⟨o, ho⟩
    · exact h3 b hm
  item := fun i s Q hi x hQ => by
    obtain ⟨h1, h2, gs, hgs, hgo⟩ := x.goes O B H R hne hasc
    obtain ⟨k, hk⟩ : ∃ k, t.cps.size - i = k + 1 := ⟨t.cps.size - i - 1, by omega⟩
    rw [hk] at hgo
    refine pyNext_genQ (P := fun n s₀ s₁ => n = 0 ∧ Mv (gwr L It E) s₀ s₁) R.handled (O.nolimit.keeps h2) (by have := R.depth; omega) h1 hgs hgo (fun v s₁ gs' hbare hy => ?_) (fun s₁ hp => by exact absurd hp.1 (Nat.succ_ne_zero k))
    obtain ⟨mv, gv, ex, hb, kap⟩ := hy
    have e1 : t.cps.size - 1 - (k + 1 - 1) = i := by omega
    rw [e1] at gv
    have hrun : (s.setGen g .running).gens[g]? = some .running := setGen_self hgs
    have hrun₁ : s₁.gens[g]? = some .running := mv.gens.kp g _ hrun
    have mm : GMove (gwr L It E) g s (s₁.setGen g gs') := by
      refine ⟨fun b o hb e => mv.heap b o hb e, fun j z hj e => ?_, fun hbs => ?_, mv.os, mv.dr⟩
      · rw [setGen_other hj]
        exact mv.gens.kp j z (by rw [setGen_other hj]; exact e)
      · exact setGen_bare (mv.gens.bare (setGen_bare hbs rfl)) hbare
    refine hQ v _ gv ⟨?_, hb, ex, gs', setGen_self hrun₁, fun s'' k' hb' => ?_⟩ mm
    · obtain ⟨o, nm, qn, ho, r⟩ := h1
      exact ⟨o, nm, qn, mv.heap G o hG ho, r⟩
    · have e2 : t.cps.size - (i + 1) = k := by omega
      rw [e2]
      exact kap s'' k' hb'
  go := fun i v s Q x _ hQ => letGo_gen x.1 hQ
  done := fun s Q x hQ => by
    obtain ⟨h1, h2, gs, hgs, hgo⟩ := x.goes O B H R hne hasc
    rw [Nat.sub_self] at hgo
    refine pyNext_genQ (P := fun n s₀ s₁ => n = 0 ∧ Mv (gwr L It E) s₀ s₁) R.handled (O.nolimit.keeps h2) (by have := R.depth; omega) h1 hgs hgo (fun v s₁ gs' hbare hy => ?_) (fun s₁ hp h' hk => ?_)
    · obtain ⟨mv, gv, ex, hb, kap⟩ := hy
      exact (kap s₁ (fun _ _ _ e => e) hb).elim
    · obtain ⟨_, mv⟩ := hp
      refine hQ _ ⟨fun b o hb e => hk b o (mv.heap b o hb e), fun j z hj e => ?_, fun hbs => ?_, mv.os, mv.dr⟩
      · show (s₁.setGen g .finished).gens[j]? = _
        rw [setGen_other hj]
        exact mv.gens.kp j z (by rw [setGen_other hj]; exact e)
      · exact setGen_bare (mv.gens.bare (setGen_bare hbs rfl)) rfl

theorem SrcG_iter (O : Θ.Ok) (B : Bi Θ) {e : PySem.Expr} {fp cp : Pos} {t : Str} {target : PySem.Expr} {a : Addr} (D : Is Θ 6 "_iter_escaped_chars" a) (R : Room A 2) (hk : env.kindOf "_iter_escaped_chars" = some .globalImplicit)
    (he : Ev Θ A env ρ e (.str t)) (hns : ∀ a b, e ≠ .Starred a b) (hne : ∀ c ∈ t.cps.toList, c ≠ 92) (hasc : t.cps.all (· < 128) = true) :
    SrcG Θ A env ρ target (.Call (.Name "_iter_escaped_chars" fp) [e] [] cp) t.cps.size fun i v σ s => GV t i v s.heap := fun σ s Rd0 => by
  obtain ⟨of, pm, cd, doc, hof, hdata, hcd⟩ := D.ex
  have hs : Evs Θ A env ρ [e] [.str t] := .cons he hns .nil
  rw [arm_eval_Call_Name']
  refine wpAny_bind (name_global O Rd0 hk D.gv ?_)
  refine PySem.W.callWith_of (P := fun h => Sub s.heap.get? h.get?) (by rw [starEach_cons hns]; rfl) (fun h k => ?_) ((evalArgs_evs hs Rd0).then fun ar σ₁ s₁ x₁ ⟨vs, ea, hv⟩ => ?_)
  · obtain ⟨k', q1, q2⟩ := kept_fn (M := model Θ.prog Θ.w) hof hdata; exact ⟨k', q1, q2.keeps ((Rd0.base.trans Rd0.le).trans k)⟩
  subst ea
  refine ⟨x₁.kp, ?_⟩
  cases hv with | cons a1 r => cases r; cases a1 with | str _ u =>
  have R₁ := Rd0.ext x₁
  have kb := R₁.base.trans R₁.le
  have hcell : ∀ x ∈ (stS (stAt 6)).names, x.2 ≠ .cell := by decide
  have hbd : bindArgs (docDef "_iter_escaped_chars" (stA (stAt 6)) (stB (stAt 6)) (stS (stAt 6)) pm cd doc) ⟨[] ++ (⟨[Value.str t u], []⟩ : Args).pos, []⟩ = pure [(("addr" : Str), Value.str t u)] := rfl
  refine wpAny_call (codeAny_call_generator (by have := R.depth; omega) (kb _ _ hof) hdata rfl rfl rfl (hcd.keeps kb) ?_)
  rw [hbd]
  refine wpAny_pure (wpAny_newFunctionEnv hcell (fun y hy => ?_) (fun h₁ hn₁ hsb₁ => ⟨?_, ?_⟩) rfl)
  · rw [List.mem_singleton.mp hy]; rfl
  · exact (O.nolimit.keeps kb).fresh _ hsb₁
  · have szs : h₁.objs.size = s₁.heap.objs.size + 1 := by rw [hsb₁.1, Heap.size_push]
    have old : ∀ b o, s₁.heap.get? b = some o → h₁.get? b = some o := fun b o e => hsb₁.extBut b o (Nat.ne_of_lt (Heap.lt_size e)) (Heap.get?_push_of_some _ e)
    refine wpAny_pyIter_gen (g := s₁.gens.size) ⟨_, _, _, Heap.get?_push_size _ rfl, rfl, rfl, rfl⟩ ?_
    have keep₅ : ∀ ob : Obj, Sub s₁.heap.get? (h₁.push ob).get? := fun ob b o e => Heap.get?_push_of_some _ (old b o e)
    have hns : ∀ ob : Obj, (h₁.push ob).Ns s₁.heap.objs.size (fun x => [(("addr" : Str), Value.str t u)].reverse.lookup x) := fun ob => hn₁.push _
    have up : ∀ b, s₁.heap.objs.size ≤ b → s₁.heap.get? b = none := fun b hb => by
      cases e : s₁.heap.get? b with
      | none => rfl
      | some o => exact absurd (Heap.lt_size e) (Nat.not_lt.mpr hb)
    have hbn : ∀ b, s₁.heap.get? b = none → Θ.hb.get? b = none := fun b h => none_of_sub kb h
    have fr : ∀ b, s₁.heap.objs.size ≤ b → s.heap.get? b = none ∧ σ₁ b = none := fun b hb => ⟨none_of_sub x₁.kp (up b hb), none_of_sub x₁.le (up b hb)⟩
    have H : GA Θ s₁.heap.objs.size (s₁.heap.objs.size + 2) (s₁.heap.objs.size + 3) :=
      ⟨hbn _ (up _ (Nat.le_refl _)), hbn _ (up _ (Nat.le_add_right _ _)), hbn _ (up _ (Nat.le_add_right _ _)), nne _ 2 (by decide), nne _ 3 (by decide), Ne.symm (nne (s₁.heap.objs.size + 2) 1 (by decide))⟩
    refine ⟨σ₁, h₁.objs.size, s₁.gens.size, gwr s₁.heap.objs.size (s₁.heap.objs.size + 2) (s₁.heap.objs.size + 3), _, _, rfl, ?_, iter_turns (a := a) (cd := cd) O B H R hne hasc ?_, ?_, ?_, ?_, ?_, ?_⟩
    · refine x₁.trans ⟨.refl _, x₁.le.trans (keep₅ _), keep₅ _, fun b o e => .inl e, rfl, rfl, ⟨fun j z e => ?_, fun hbs z hz => ?_⟩⟩
      · have hj : j < s₁.gens.size := by
          rcases Nat.lt_or_ge j s₁.gens.size with h | h
          · exact h
          · rw [Array.getElem?_eq_none h] at e; cases e
        show (s₁.gens.push _)[j]? = _
        rw [Array.getElem?_push_lt hj]
        rw [Array.getElem?_eq_getElem hj] at e
        exact e
      · rcases Array.mem_push.mp hz with h | h
        · exact hbs z h
        · rw [h]; rfl
    · rw [szs]; exact nin3 _
    · refine ⟨⟨_, _, _, Heap.get?_push_size _ rfl, rfl, rfl, rfl⟩, kb.trans (keep₅ _), ⟨_, u, hns _, rfl⟩, ?_, ?_, Array.getElem?_push_size ..⟩
      · show _ = (h₁.push _).objs.size
        rw [Heap.size_push, szs]
      · show _ = (h₁.push _).objs.size + 1
        rw [Heap.size_push, szs]
    · intro b hb
      refine fr b ?_
      rw [szs] at hb
      exact ge3 _ _ hb
    · rw [szs]; exact nin3 _
    · have hsz : s.gens.size ≤ s₁.gens.size := by
        rcases Nat.lt_or_ge s₁.gens.size s.gens.size with h | h
        · have := x₁.gens.kp s₁.gens.size s.gens[s₁.gens.size] (Array.getElem?_eq_getElem h)
          rw [Array.getElem?_eq_none (Nat.le_refl _)] at this; cases this
        · exact h
      exact Array.getElem?_eq_none hsz
    · exact fun i v σ' s' _ _ gv => gv
end
end Mine
end
section
open PySem PySem.Calls PyProof.Rows PySem.Builtin.Str
set_option linter.unusedVariables false
set_option maxRecDepth 100000
namespace Mine
section
variable {Θ : Wd} {A : Around} {env : Env} {ρ : Rho} {a b : Addr}

structure Qd (t : Str) : Prop where
  some : (Builtin.Str.occurrences t ("\"" : Str) 0 t.length 1).isEmpty = false
  c0 : t.cps[0]? = Option.some 34
  c1 : ∃ x, t.cps[1]? = Option.some x ∧ x ≠ 34
  c2 : t.cps[2]? = Option.some 34
  c3 : ∀ i c, 3 ≤ i → t.cps[i]? = Option.some c → c ≠ 34
  ne : ∀ c ∈ t.cps.toList, c ≠ 92
  asc : t.cps.all (· < 128) = true
  lo : 3 < t.length
  hi : t.length ≤ 1000

theorem chr_ne {c : Nat} (h : c ≠ 34) : (⟨#[c]⟩ : Str) ≠ ("\"" : Str) := fun e => by
  have h1 := congrArg Str.cps e
  have h2 : (#[c] : Array Nat) = #[34] := h1
  exact h (by simpa using h2)

/-- the loop's bindings behind i signs -/
def stripR (t : Str) : Nat → Rho
  | 0 => [("start", .sh (.int 0)), ("open_pos", .sh .none), ("result", .ol []), ("addr", .sh (.str t))]
  | 1 => [("start", .sh (.int 0)), ("open_pos", .sh (.int 0)), ("result", .ol []), ("addr", .sh (.str t))]
  | 2 => [("start", .sh (.int 0)), ("open_pos", .sh (.int 0)), ("result", .ol []), ("addr", .sh (.str t))]
  | _ + 3 => [("start", .sh (.int 3)), ("open_pos", .sh .none), ("result", .ol []), ("addr", .sh (.str t))]

theorem Tv_is {e : PySem.Expr} {b b' : Bool} (t : Tv Θ A env ρ e b) (h : b = b') : Tv Θ A env ρ e b' := h ▸ t

theorem fn_strip_plain (O : Θ.Ok) (D : Is Θ 7 "_strip_quoted_realnames" a) (R : Room A 3) (t : Str) (h : (Builtin.Str.occurrences t ("\"" : Str) 0 t.length 1).isEmpty = true) : Fn Θ A a [.str t] (.str t) := by
  refine Fn_plain O (k := 2) (xs := ["addr"]) D R rfl (fun pm cd doc vs h => ?_) (by decide) (by decide) (fun L cd => ?_)
  · match vs, h with
    | [v], _ => rfl
  · refine X_cons (X_if (b := true) (Tv_is (Tv_cmp Ev_str (Ev_name (p := .str t) rfl (.inl rfl)) cmp_notin_str) h) (fun _ => ?_) (fun hb => by cases hb))
    exact X_cons (X_ret (Ev_name rfl (.inl rfl)) rfl)

theorem fn_strip_quoted (O : Θ.Ok) (B : Bi Θ) (D : Is Θ 7 "_strip_quoted_realnames" a) (D2 : Is Θ 6 "_iter_escaped_chars" b) (R : Room A 3) (t : Str) (q : Qd t) : Fn Θ A a [.str t] (.str (Txt.join "" [Txt.slice t (.some 3) none])) := by
  refine Fn_plain O (k := 2) (xs := ["addr"]) D R rfl (fun pm cd doc vs h => ?_) (by decide) (by decide) (fun L cd => ?_)
  · match vs, h with
    | [v], _ => rfl
  · have R2 : Room (A.deeper (envOf "_strip_quoted_realnames" (stS (stAt 7)) L a cd)) 2 := R.deeper
    have R0 := R2.less (j := 0) (by omega)
    refine X_cons (X_if (b := false) (Tv_is (Tv_cmp Ev_str (Ev_name (p := .str t) rfl (.inl rfl)) cmp_notin_str) q.some) (fun hb => by cases hb) (fun _ => ?_))
    refine X_nil ?_
    refine X_cons (X_assign Ev_int (.inl rfl) ?_)
    refine X_cons (X_assign Ev_none (.inl rfl) ?_)
    refine X_cons (X_new_list (.inl rfl) ?_)
    refine X_cons (X_forG (SrcG_iter O B D2 R2 rfl (Ev_name (p := .str t) rfl (.inl rfl)) (ns_name _ _) q.ne q.asc) (fun i r => Le (stripR t i) r) ?_ (fun i r hi hI v σ s₀ σ₀ π s hv S => ?_) (fun r h => ?_))
    · exact .cons rfl (.cons rfl (.cons rfl (.cons rfl .nil)))
    · obtain ⟨T, items, c, u, x, rfl, hT, hc, hit⟩ := hv.ex
      refine wpAny_mono (As_heapTup R0 (.cons (As_name (x := "pos") (.inl rfl)) (ns_name _ _) (.cons (As_name (x := "ch") (.inl rfl)) (ns_name _ _) .nil)) (S.less hI) hT (ps := [.int i, .str ⟨#[c]⟩]) (by rw [hit]; exact .cons (.int _ _) (.cons (.str _ _) .nil))) (fun _ s₃ S₃ => ⟨_, σ, .refl _, S₃, ?_⟩) fun _ _ e => e
      match i, hi, hI, hc with
      | 0, hi, hI, hc =>
        rw [q.c0] at hc; cases hc
        refine X_cons (X_if (b := true) (Tv_is (Tv_cmp (Ev_name (p := .str ⟨#[34]⟩) rfl (.inl rfl)) Ev_str (cmp_eq_str _ _)) (by decide)) (fun _ => ?_) (fun hb => by cases hb))
        refine X_cons (X_if (b := true) (Tv_cmp (Ev_name (p := .none) rfl (.inl rfl)) Ev_none (cmp_is_none rfl)) (fun _ => ?_) (fun hb => by cases hb))
        refine X_cons (X_assign (Ev_name (p := .int 0) rfl (.inl rfl)) (.inl rfl) ?_)
        exact X_nil (X_nil (X_nil (.cons rfl (.cons rfl (.cons rfl (.cons rfl .nil))))))
      | 1, hi, hI, hc =>
        obtain ⟨y, h1, h2⟩ := q.c1
        rw [h1] at hc
        rw [Option.some.inj hc] at h2
        refine X_cons (X_if (b := false) (Tv_is (Tv_cmp (Ev_name (p := .str ⟨#[c]⟩) rfl (.inl rfl)) Ev_str (cmp_eq_str _ _)) (decide_eq_false (chr_ne h2))) (fun hb => by cases hb) (fun _ => ?_))
        exact X_nil (X_nil (.cons rfl (.cons rfl (.cons rfl (.cons rfl .nil)))))
      | 2, hi, hI, hc =>
        rw [q.c2] at hc; cases hc
        refine X_cons (X_if (b := true) (Tv_is (Tv_cmp (Ev_name (p := .str ⟨#[34]⟩) rfl (.inl rfl)) Ev_str (cmp_eq_str _ _)) (by decide)) (fun _ => ?_) (fun hb => by cases hb))
        refine X_cons (X_if (b := false) (Tv_cmp (Ev_name (p := .int 0) rfl (.inl rfl)) Ev_none (cmp_is_none rfl)) (fun hb => by cases hb) (fun _ => ?_))
        refine X_cons (X_if (b := false) (Tv_is (Tv_cmp (Ev_name (p := .int 0) rfl (.inl rfl)) (Ev_name (p := .int 0) rfl (.inl rfl)) (cmp_ne_int _ _)) (by decide)) (fun hb => by cases hb) (fun _ => ?_))
        refine X_nil ?_
        refine X_cons (X_assign (p := .int 3) (Ev_bin (Ev_name (p := .int 2) rfl (.inl rfl)) Ev_int (bin_add 2 1)) (.inl rfl) ?_)
        refine X_cons (X_assign Ev_none (.inl rfl) ?_)
        exact X_nil (X_nil (X_nil (.cons rfl (.cons rfl (.cons rfl (.cons rfl .nil))))))
      | j + 3, hi, hI, hc =>
        have h2 := q.c3 (j + 3) c (by omega) hc
        refine X_cons (X_if (b := false) (Tv_is (Tv_cmp (Ev_name (p := .str ⟨#[c]⟩) rfl (.inl rfl)) Ev_str (cmp_eq_str _ _)) (decide_eq_false (chr_ne h2))) (fun hb => by cases hb) (fun _ => ?_))
        exact X_nil (X_nil (.cons rfl (.cons rfl (.cons rfl (.cons rfl .nil)))))
    · obtain ⟨k, hk⟩ : ∃ k, t.cps.size = k + 3 := ⟨t.cps.size - 3, by have := q.lo; unfold Str.length at this; omega⟩
      rw [hk] at h
      have h1 := h "start" _ rfl
      have h2 := h "result" _ rfl
      have h3 := h "addr" _ rfl
      refine X_cons (X_if (b := true) (Tv_is (Tv_cmp (Ev_name h1 (.inl rfl)) (Ev_len_str O B.len rfl (Ev_name h3 (.inl rfl)) (ns_name _ _) (by have := q.hi; omega)) (cmp_lt_int _ _)) (by have := q.lo; exact decide_eq_true (by omega))) (fun _ => ?_) (fun hb => by cases hb))
      refine X_cons (X_append h2 (.inl rfl) (Ev_str_from (Ev_name h3 (.inl rfl)) (Ev_name h1 (.inl rfl)) (by have := q.hi; omega)) (fun _ _ e => by cases e) (by simp) ?_)
      refine X_nil (X_freeze_l (x := "result") rfl (X_cons (X_ret (Ev_join (ys := [Txt.slice t (.some 3) none]) Ev_str (Ev_name rfl (.inl rfl)) (ns_name _ _) ?_) rfl)))
      have h4 := Nat.le_trans (PySem.Txt.slice_le t (.some 3) none) q.hi
      show (Txt.slice t (.some 3) none).length + 0 + 1 * 0 ≤ 16777216
      omega
end
end Mine
end
section
open PySem PySem.Calls PyProof.Rows PySem.Builtin.Str
set_option linter.unusedVariables false
set_option maxRecDepth 100000
namespace Mine
def signA : Str := "( ) [ ] : , ; + - * / | & < > = . % { } == != <= >= ~ ^ << >> **"
def signB : Str := "+= -= *= /= %= &= |= ^= <<= >>= **= // //= @ @= -> ... := !"
def signL : List Str := (["(", ")", "[", "]", ":", ",", ";", "+", "-", "*", "/", "|", "&", "<", ">", "=", ".", "%", "{", "}", "==", "!=", "<=", ">=", "~", "^", "<<", ">>", "**",
  "+=", "-=", "*=", "/=", "%=", "&=", "|=", "^=", "<<=", ">>=", "**=", "//", "//=", "@", "@=", "->", "...", ":=", "!"] : List String).map Str.ofString
theorem sign_split : Txt.split signA " " ++ Txt.split signB " " = signL := by decide +kernel
def midL : List Str := ["'", "'\"'\"", "'\"+\"", ""]
def chS (f : Nat) : Str := ⟨#[97 + f]⟩
def lineOf (f s mid spot : Nat) : Str := chS f ++ ("'" : Str) ++ chS s ++ midL.getD mid "" ++ signL.getD spot ""
def restOf (mid spot : Nat) : Str := (["", "\"'\"", "\"+\"", ""] : List Str).getD mid "" ++ signL.getD spot ""
end Mine
end
section
open PySem PySem.Calls PyProof.Rows PySem.Builtin.Str PySem.StrLaws
set_option linter.unusedVariables false
set_option maxRecDepth 100000
namespace Mine
theorem subAt_chr (x : Str) (c i : Nat) : subAt x ⟨#[c]⟩ i = decide (x.cps[i]? = some c) := by
  show (x.cps.extract i (i + 1) == #[c]) = _
  by_cases h : i < x.cps.size
  · have e : x.cps.extract i (i + 1) = #[x.cps[i]] := by
      apply Array.ext
      · simp; omega
      · intro j h1 h2
        have : j = 0 := by simp at h2; omega
        subst this
        simp
    rw [e, Array.getElem?_eq_getElem h]
    simp [Bool.beq_eq_decide_eq]
  · have e : x.cps.extract i (i + 1) = #[] := by
      apply Array.eq_empty_of_size_eq_zero
      simp; omega
    rw [e, Array.getElem?_eq_none (by omega)]
    simp
theorem occ_skip (x : Str) (c hi limit : Nat) : ∀ (l : List Nat) (st : Array Nat × Nat), (∀ i ∈ l, st.fst.size < limit → x.cps[i]? ≠ some c) → (forIn l st (occBody x ⟨#[c]⟩ hi limit)).run.fst = st.fst
  | [], st, _ => by simp
  | a :: l, st, h => by
    rw [List.forIn_cons]
    unfold occBody
    rw [if_neg (fun q => h a (List.mem_cons_self ..) q.1.1.1 (by have := q.2; rw [subAt_chr] at this; exact of_decide_eq_true this))]
    exact occ_skip x c hi limit l _ fun i hm => h i (List.mem_cons_of_mem _ hm)
theorem occ_hit {x : Str} {c hi limit a : Nat} {l : List Nat} {st : Array Nat × Nat} (h1 : st.fst.size < limit) (h2 : st.snd ≤ a) (h3 : a + 1 ≤ hi) (h4 : x.cps[a]? = some c) :
    forIn (a :: l) st (occBody x ⟨#[c]⟩ hi limit) = forIn l (st.fst.push a, a + 1) (occBody x ⟨#[c]⟩ hi limit) := by
  rw [List.forIn_cons]
  have e : occBody x ⟨#[c]⟩ hi limit a st = pure (ForInStep.yield (st.fst.push a, a + 1)) := if_pos ⟨⟨⟨h1, h2⟩, h3⟩, by rw [subAt_chr]; exact decide_eq_true h4⟩
  rw [e]; rfl
theorem occ_miss {x : Str} {c hi limit a : Nat} {l : List Nat} {st : Array Nat × Nat} (h : x.cps[a]? ≠ some c) :
    forIn (a :: l) st (occBody x ⟨#[c]⟩ hi limit) = forIn l st (occBody x ⟨#[c]⟩ hi limit) := by
  rw [List.forIn_cons]
  have e : occBody x ⟨#[c]⟩ hi limit a st = pure (ForInStep.yield (st.fst, st.snd)) := if_neg fun q => h (by have := q.2; rw [subAt_chr] at this; exact of_decide_eq_true this)
  rw [e]; rfl

theorem occ_line {x : Str} {a b : Nat} {r : List Nat} (hx : x.cps.toList = a :: 39 :: b :: 39 :: r) (ha : a ≠ 39) (hb : b ≠ 39) : occurrences x ⟨#[39]⟩ 0 x.length 2 = [1, 3] := by
  have hg : ∀ i, x.cps[i]? = (a :: 39 :: b :: 39 :: r)[i]? := fun i => by rw [← hx, Array.getElem?_toList]
  have hs : x.length = r.length + 4 := by
    show x.cps.size = _
    rw [← Array.length_toList, hx]; simp
  rw [occ_eq, hs]
  have er : List.range' 0 (r.length + 4 + 1 - 0) = 0 :: 1 :: 2 :: 3 :: List.range' 4 (r.length + 1) := by
    rw [show r.length + 4 + 1 - 0 = (r.length + 1) + 4 by omega]
    simp [List.range']
  rw [er, occ_miss (by rw [hg]; simpa using ha), occ_hit (by simp) (by simp) (by omega) (by rw [hg]; rfl), occ_miss (by rw [hg]; simpa using hb), occ_hit (by simp) (by simp) (by omega) (by rw [hg]; rfl),
    occ_skip _ _ _ _ _ _ (fun i _ h => by simp at h)]
  rfl
theorem occ_line1 {x : Str} {a b : Nat} {r : List Nat} (hx : x.cps.toList = a :: 39 :: b :: r) (ha : a ≠ 39) (hb : b ≠ 39) (hr : 39 ∉ r) : occurrences x ⟨#[39]⟩ 0 x.length 2 = [1] := by
  have hg : ∀ i, x.cps[i]? = (a :: 39 :: b :: r)[i]? := fun i => by rw [← hx, Array.getElem?_toList]
  have hs : x.length = r.length + 3 := by
    show x.cps.size = _
    rw [← Array.length_toList, hx]; simp
  rw [occ_eq, hs]
  have er : List.range' 0 (r.length + 3 + 1 - 0) = 0 :: 1 :: 2 :: List.range' 3 (r.length + 1) := by
    rw [show r.length + 3 + 1 - 0 = (r.length + 1) + 3 by omega]
    simp [List.range']
  rw [er, occ_miss (by rw [hg]; simpa using ha), occ_hit (by simp) (by simp) (by omega) (by rw [hg]; rfl), occ_miss (by rw [hg]; simpa using hb),
    occ_skip _ _ _ _ _ _ (fun i hi _ h => ?_)]
  · rfl
  · rw [hg] at h
    have hi3 : 3 ≤ i := by
      rw [List.mem_range'_1] at hi; exact hi.1
    obtain ⟨j, rfl⟩ : ∃ j, i = j + 3 := ⟨i - 3, by omega⟩
    exact hr (List.mem_of_getElem? (by simpa using h))

theorem sub_list (x : Str) (i j : Nat) : (strSub x i j).cps.toList = (x.cps.toList.take j).drop i := by
  show (x.cps.extract i j).toList = _
  simp [Array.toList_extract, List.extract_eq_take_drop, List.drop_take]
theorem str_ext {x y : Str} (h : x.cps.toList = y.cps.toList) : x = y := by
  cases x; cases y
  simp only [Str.mk.injEq]
  exact Array.toList_inj.mp h

theorem kind_one (x : Str) : Builtin.Str.strKind (⟨#[39]⟩ : Str) ≤ Builtin.Str.strKind x := by
  have e : Builtin.Str.strKind (⟨#[39]⟩ : Str) = 1 := by decide +kernel
  rw [e]
  unfold Builtin.Str.strKind
  split
  · exact Nat.le_refl _
  · split <;> omega

theorem pieces_line {x : Str} {a b : Nat} {r : List Nat} (hx : x.cps.toList = a :: 39 :: b :: 39 :: r) (ha : a ≠ 39) (hb : b ≠ 39) : pieces x = [⟨#[a]⟩, ⟨#[b]⟩, ⟨r.toArray⟩] := by
  have ho := occ_line hx ha hb
  have hs : x.length = r.length + 4 := by
    show x.cps.size = _
    rw [← Array.length_toList, hx]; simp
  unfold pieces Txt.splitMax
  have et : tickS = ⟨#[39]⟩ := rfl
  have el : limitOf x 2 = 2 := rfl
  have hk := kind_one x
  rw [et, el, ho, if_neg, if_neg (by decide)]
  · show [strSub x 0 1, strSub x 2 3, strSub x 4 x.length] = _
    rw [str_ext (x := strSub x 0 1) (y := ⟨#[a]⟩) (by rw [sub_list, hx]; rfl), str_ext (x := strSub x 2 3) (y := ⟨#[b]⟩) (by rw [sub_list, hx]; rfl),
      str_ext (x := strSub x 4 x.length) (y := ⟨r.toArray⟩) (by rw [sub_list, hx, hs]; simp)]
  · have h1 : ¬ x.length < (⟨#[39]⟩ : Str).length := by show ¬ x.length < 1; omega
    have h2 : ¬ Builtin.Str.strKind x < Builtin.Str.strKind (⟨#[39]⟩ : Str) := by omega
    simp [h1, h2]
theorem pieces_short {x : Str} {a b : Nat} {r : List Nat} (hx : x.cps.toList = a :: 39 :: b :: r) (ha : a ≠ 39) (hb : b ≠ 39) (hr : 39 ∉ r) : (pieces x).length = 2 := by
  have ho := occ_line1 hx ha hb hr
  have hs : x.length = r.length + 3 := by
    show x.cps.size = _
    rw [← Array.length_toList, hx]; simp
  unfold pieces Txt.splitMax
  have et : tickS = ⟨#[39]⟩ := rfl
  have el : limitOf x 2 = 2 := rfl
  have hk := kind_one x
  rw [et, el, ho, if_neg, if_neg (by decide)]
  · rfl
  · have h1 : ¬ x.length < (⟨#[39]⟩ : Str).length := by show ¬ x.length < 1; omega
    have h2 : ¬ Builtin.Str.strKind x < Builtin.Str.strKind (⟨#[39]⟩ : Str) := by omega
    simp [h1, h2]
end Mine
end
section
open PySem PySem.Calls PyProof.Rows PySem.Builtin.Str PySem.StrLaws
set_option linter.unusedVariables false
set_option maxRecDepth 100000
namespace Mine
def preL : List Str := (["", "\"'\"", "\"+\""] : List String).map Str.ofString
theorem append_toList (x y : Str) : (x ++ y).cps.toList = x.cps.toList ++ y.cps.toList := by
  show (x.cps ++ y.cps).toList = _
  simp
def signS (spot : Nat) : Str := signL.getD spot ""
def restS (mid spot : Nat) : Str := preL.getD mid "" ++ signS spot
theorem mid_pre : ∀ mid, mid < 3 → (midL.getD mid "").cps.toList = 39 :: (preL.getD mid "").cps.toList := by decide +kernel
theorem sign_plain : ∀ spot, spot < 48 → (∀ c ∈ (signS spot).cps.toList, c ≠ 39 ∧ c ≠ 34 ∧ c ≠ 92 ∧ c < 128) ∧ 1 ≤ (signS spot).length ∧ (signS spot).length ≤ 3 := by decide +kernel

theorem line_list (f s mid spot : Nat) : (lineOf f s mid spot).cps.toList = (97 + f) :: 39 :: (97 + s) :: ((midL.getD mid "").cps.toList ++ (signS spot).cps.toList) := by
  unfold lineOf signS
  rw [append_toList, append_toList, append_toList, append_toList]
  rfl
theorem line_pieces {f s mid spot : Nat} (hm : mid < 3) : pieces (lineOf f s mid spot) = [chS f, chS s, restS mid spot] := by
  have h := line_list f s mid spot
  rw [mid_pre mid hm] at h
  rw [pieces_line (r := (preL.getD mid "").cps.toList ++ (signS spot).cps.toList) h (by omega) (by omega)]
  have e : (⟨((preL.getD mid "").cps.toList ++ (signS spot).cps.toList).toArray⟩ : Str) = restS mid spot := by
    apply str_ext
    unfold restS
    rw [append_toList]
  rw [e]; rfl
theorem line_decoded {f s mid spot : Nat} (hm : mid < 3) : decoded (lineOf f s mid spot) = .lst [.str (chS f), .str (chS s), .str (restS mid spot)] := by
  unfold decoded
  rw [line_pieces hm]
  rfl
theorem line_short {f s spot : Nat} (hs : spot < 48) : decoded (lineOf f s 3 spot) = .tup [.none, .none, .str (lineOf f s 3 spot)] := by
  have h := line_list f s 3 spot
  have e : (midL.getD 3 "").cps.toList = [] := rfl
  rw [e] at h
  unfold decoded
  rw [pieces_short (r := (signS spot).cps.toList) h (by omega) (by omega) (fun hm => ((sign_plain spot hs).1 _ hm).1 rfl)]
  rfl
theorem line_len (f s mid spot : Nat) (hm : mid < 4) (hs : spot < 48) : (lineOf f s mid spot).length ≤ 100 := by
  have h := line_list f s mid spot
  have h1 := (sign_plain spot hs).2.2
  have h2 : ∀ mid, mid < 4 → (midL.getD mid "").cps.toList.length ≤ 4 := by decide +kernel
  have h3 := h2 mid hm
  show (lineOf f s mid spot).cps.size ≤ 100
  have h1' : (signS spot).cps.toList.length ≤ 3 := by rw [Array.length_toList]; exact h1
  rw [← Array.length_toList, h]
  simp only [List.length_cons, List.length_append]
  omega
theorem line_pieces_len (f s mid spot : Nat) (hm : mid < 4) (hs : spot < 48) : (pieces (lineOf f s mid spot)).length ≤ 1000 := by
  rcases Nat.lt_or_ge mid 3 with h | h
  · rw [line_pieces h]; simp
  · have : mid = 3 := by omega
    subst this
    have h := line_list f s 3 spot
    have e : (midL.getD 3 "").cps.toList = [] := rfl
    rw [e] at h
    rw [pieces_short (r := (signS spot).cps.toList) h (by omega) (by omega) (fun hm => ((sign_plain spot hs).1 _ hm).1 rfl)]
    decide

theorem rest_list (mid spot : Nat) : (restS mid spot).cps.toList = (preL.getD mid "").cps.toList ++ (signS spot).cps.toList := by unfold restS; rw [append_toList]
theorem rest_plain {spot : Nat} (hs : spot < 48) : (occurrences (restS 0 spot) ("\"" : Str) 0 (restS 0 spot).length 1).isEmpty = true := by
  have e : ("\"" : Str) = ⟨#[34]⟩ := rfl
  have el : (restS 0 spot).cps.toList = (signS spot).cps.toList := by rw [rest_list]; rfl
  rw [e, PyProof.Rows.empty_one, el]
  have h : 34 ∉ (signS spot).cps.toList := fun hm => ((sign_plain spot hs).1 _ hm).2.1 rfl
  rw [decide_eq_false h]; rfl
theorem rest_zero {spot : Nat} : restS 0 spot = signS spot := str_ext (by rw [rest_list]; rfl)
theorem rest_qd {mid spot : Nat} (hm : mid < 3) (h0 : mid ≠ 0) (hs : spot < 48) : Qd (restS mid spot) := by
  obtain ⟨hp, hl, hu⟩ := sign_plain spot hs
  obtain ⟨x, hx, h34, h92, h128⟩ : ∃ x, (preL.getD mid "").cps.toList = [34, x, 34] ∧ x ≠ 34 ∧ x ≠ 92 ∧ x < 128 := by
    match mid, hm, h0 with
    | 1, _, _ => exact ⟨39, rfl, by decide, by decide, by decide⟩
    | 2, _, _ => exact ⟨43, rfl, by decide, by decide, by decide⟩
  have h := rest_list mid spot
  rw [hx] at h
  have hg : ∀ i, (restS mid spot).cps[i]? = (34 :: x :: 34 :: (signS spot).cps.toList)[i]? := fun i => by
    have h' : (restS mid spot).cps.toList = 34 :: x :: 34 :: (signS spot).cps.toList := h
    rw [← h', Array.getElem?_toList]
  have sz : (restS mid spot).length = (signS spot).length + 3 := by
    show (restS mid spot).cps.size = (signS spot).cps.size + 3
    rw [← Array.length_toList, h]; simp
  refine ⟨?_, by rw [hg]; rfl, ⟨x, by rw [hg]; rfl, h34⟩, by rw [hg]; rfl, fun i c hi hc => ?_, fun c hc => ?_, ?_, by omega, by omega⟩
  · have e : ("\"" : Str) = ⟨#[34]⟩ := rfl
    rw [e, PyProof.Rows.empty_one, h]; simp
  · rw [hg] at hc
    obtain ⟨j, rfl⟩ : ∃ j, i = j + 3 := ⟨i - 3, by omega⟩
    exact (hp c (List.mem_of_getElem? (by simpa using hc))).2.1
  · rw [h] at hc
    simp only [List.cons_append, List.nil_append, List.mem_cons] at hc
    rcases hc with rfl | rfl | rfl | hc
    · decide
    · exact h92
    · decide
    · exact (hp c hc).2.2.1
  · rw [← Array.all_toList, h, List.all_eq_true]
    intro c hc
    simp only [List.cons_append, List.nil_append, List.mem_cons] at hc
    rcases hc with rfl | rfl | rfl | hc
    · decide
    · exact decide_eq_true h128
    · decide
    · exact decide_eq_true (hp c hc).2.2.2
set_option maxHeartbeats 0 in
theorem rest_slice : ∀ mid, mid < 2 → ∀ spot, spot < 48 → Txt.join "" [Txt.slice (restS (mid + 1) spot) (some 3) none] = signS spot := by decide +kernel
def tokW : List (Str × Int) := ([("!", 54), ("!=", 28), ("%", 24), ("%=", 40), ("&", 19), ("&=", 41), ("(", 7), (")", 8), ("*", 16), ("**", 35), ("**=", 46), ("*=", 38), ("+", 14), ("+=", 36), (",", 12), ("-", 15), ("-=", 37), ("->", 51), (".", 23), ("...", 52), ("/", 17), ("//", 47), ("//=", 48), ("/=", 39), (":", 11), (":=", 53), (";", 13), ("<", 20), ("<<", 33), ("<<=", 44), ("<=", 29), ("=", 22), ("==", 27), (">", 21), (">=", 30), (">>", 34), (">>=", 45), ("@", 49), ("@=", 50), ("[", 9), ("]", 10), ("^", 32), ("^=", 43), ("{", 25), ("|", 18), ("|=", 42), ("}", 26), ("~", 31)] : List (String × Int)).map fun e => (Str.ofString e.1, e.2)
set_option maxHeartbeats 0 in
theorem tok_sign : ∀ spot, spot < 48 → getW tokW (signS spot) = some (7 + (spot : Int)) := by decide +kernel
end Mine
end
section
open PySem PySem.Calls PyProof.Rows PySem.Builtin.Str
set_option linter.unusedVariables false
set_option maxRecDepth 100000
set_option exponentiation.threshold 2000
namespace Mine
def numF (c : Int) : Nat := (c.fmod (10 ^ 6)).toNat
def dflt : List Nat := [1200, 25, 2475, 127, 60, 194, 3621]
def nums7 (script : List Int) : List Nat := (script.take 7).map numF ++ dflt.drop (script.take 7).length
theorem numF_lt (c : Int) : numF c < 10 ^ 6 := by
  unfold numF
  rw [Int.fmod_eq_emod_of_nonneg _ (by decide)]
  have h2 := Int.emod_lt_of_pos c (show (0 : Int) < 10 ^ 6 by decide)
  have : ((10 : Int) ^ 6) = ((10 ^ 6 : Nat) : Int) := by decide
  omega
theorem numF_int (c : Int) : (c.fmod (10 ^ 6)) = (numF c : Int) := by
  unfold numF
  have h1 : 0 ≤ c.fmod (10 ^ 6) := by
    rw [Int.fmod_eq_emod_of_nonneg _ (by decide)]
    exact Int.emod_nonneg c (by decide)
  omega
theorem nums7_len (script : List Int) : (nums7 script).length = 7 := by
  unfold nums7
  have h : (script.take 7).length ≤ 7 := by rw [List.length_take]; omega
  rw [List.length_append, List.length_map, List.length_drop]
  have : dflt.length = 7 := rfl
  omega
theorem nums7_lt (script : List Int) : ∀ n ∈ nums7 script, n < 10 ^ 6 := by
  intro n hn
  unfold nums7 at hn
  rcases List.mem_append.mp hn with h | h
  · obtain ⟨c, _, rfl⟩ := List.mem_map.mp h
    exact numF_lt c
  · have h1 : ∀ n ∈ dflt, n < 10 ^ 6 := by decide
    exact h1 n (List.mem_of_mem_drop h)

def tF (k n : Nat) : Nat := if k < 4 then n % (k + 1) else n % 5
def tS (k n : Nat) : Nat := if k < 4 then k + 1 else n / 5 % 5
def tM (k n : Nat) : Nat := if k < 4 then (if n / 1200 % 4 = 3 then 0 else n / 1200 % 4) else n / 1200 % 4
def tP (n : Nat) : Nat := n / 25 % 48
theorem tF_lt {k n : Nat} : tF k n < 5 := by unfold tF; split <;> have := Nat.mod_lt n (show k + 1 > 0 by omega) <;> have := Nat.mod_lt n (show 5 > 0 by omega) <;> omega
theorem tS_lt {k n : Nat} : tS k n < 5 := by unfold tS; split <;> omega
theorem tM_lt {k n : Nat} : tM k n < 4 := by unfold tM; split <;> (try split) <;> omega
theorem tP_lt {n : Nat} : tP n < 48 := by unfold tP; omega
def lineT (k n : Nat) : Str := lineOf (tF k n) (tS k n) (tM k n) (tP n)
def wirePV (f s p : Nat) : PV := .tup [.str (chS f), .str (chS s), .int (7 + (p : Int))]
def wireT (k n : Nat) : List PV := if tM k n ≠ 3 ∧ tF k n ≠ tS k n then [wirePV (tF k n) (tS k n) (tP n)] else []
def linesP (np : List Nat) : List PV := np.zipIdx.map fun e => .str (lineT e.2 e.1)
def wiresP (np : List Nat) : List PV := np.zipIdx.flatMap fun e => wireT e.2 e.1
theorem linesP_snoc (np : List Nat) (n : Nat) : linesP (np ++ [n]) = linesP np ++ [.str (lineT np.length n)] := by
  unfold linesP; simp [List.zipIdx_append]
theorem wiresP_snoc (np : List Nat) (n : Nat) : wiresP (np ++ [n]) = wiresP np ++ wireT np.length n := by
  unfold wiresP; simp [List.zipIdx_append]
theorem linesP_len (np : List Nat) : (linesP np).length = np.length := by unfold linesP; simp
theorem wiresP_len (np : List Nat) : (wiresP np).length ≤ np.length := by
  suffices h : ∀ (l : List Nat) (j : Nat), ((l.zipIdx j).flatMap fun e => wireT e.2 e.1).length ≤ l.length from h np 0
  intro l
  induction l with
  | nil => intro j; simp
  | cons n r ih =>
    intro j
    have h1 := ih (j + 1)
    have h2 : (wireT j n).length ≤ 1 := by unfold wireT; split <;> simp
    rw [List.zipIdx_cons, List.flatMap_cons, List.length_append, List.length_cons]
    show (wireT j n).length + _ ≤ _
    omega
def nv : PV → Nat
  | .int n => n.toNat
  | _ => 0
def nPV (n : Nat) : PV := .int (n : Int)
theorem nv_nPV (l : List Nat) : (l.map nPV).map nv = l := by rw [List.map_map]; exact (List.map_congr_left (fun n _ => by simp [nv, nPV])).trans (List.map_id l)

section
variable {Θ : Wd} {A : Around} {env : Env} {ρ : Rho} {a b : Addr}

theorem clo_nil {scope : Scope} {env : Env} (h1 : closureFor scope env = pure []) (h2 : ∀ z ∈ scope.names, z.2 ≠ .cell) (h3 : scope.kind = .function) (h4 : ∀ z ∈ scope.names, z.2 = .local → scope.names.lookup z.1 = some .local) (h5 : (relabel scope env).names.lookup accN = none) : Clo scope env [] :=
  ⟨h1, h2, h3, h4, fun _ _ h => (by cases h), .nil, h5⟩
theorem free_nil {cl : List (Str × Addr)} : Free cl ρ [] := fun _ _ e => by cases e

theorem Ev_is {e : PySem.Expr} {p q : PV} (h : Ev Θ A env ρ e p) (k : p = q) : Ev Θ A env ρ e q := k ▸ h
theorem Ev_nmod {e f : PySem.Expr} {pos : Pos} {m k : Nat} (he : Ev Θ A env ρ e (nPV m)) (hf : Ev Θ A env ρ f (nPV k)) (hk : k ≠ 0) : Ev Θ A env ρ (.BinOp e .Mod f pos) (nPV (m % k)) :=
  Ev_is (Ev_bin he hf (bin_mod (by omega))) (by unfold nPV; rw [Int.ofNat_fmod])
theorem Ev_ndiv {e f : PySem.Expr} {pos : Pos} {m k : Nat} (he : Ev Θ A env ρ e (nPV m)) (hf : Ev Θ A env ρ f (nPV k)) (hk : k ≠ 0) (hs : k < 2 ^ 62) : Ev Θ A env ρ (.BinOp e .FloorDiv f pos) (nPV (m / k)) :=
  Ev_is (Ev_bin he hf (bin_div (by omega) (by rw [Int.natAbs_natCast]; exact Nat.lt_of_lt_of_le hs (Nat.pow_le_pow_right (by decide) (by decide))))) (by unfold nPV; rw [Int.ofNat_fdiv])
theorem Ev_chr {e : PySem.Expr} {k : Nat} {p1 p2 : Pos} {f : Nat} (he : Ev Θ A env ρ e (nPV f)) (hf : f < 5)
    (hs : ∀ o i, ∃ vs, subscripted e false o i = operate vs (getItem o i) := by intro o i; exact ⟨_, by rfl⟩) : Ev Θ A env ρ (.Subscript (.Constant (.str "abcde") k p1) e p2) (.str (chS f)) :=
  Ev_item_str Ev_str he (by omega) (by
    have h : ∀ f, f < 5 → ("abcde" : Str).cps[f]? = some (97 + f) := by decide
    exact h f hf) hs
theorem len_app (x y : Str) : (x ++ y).length = x.length + y.length := by
  show (x.cps ++ y.cps).size = _
  rw [Array.size_append]; rfl

def ρc (np : List Nat) (n f s m : Nat) : Rho := [("first", .sh (nPV f)), ("second", .sh (nPV s)), ("middle", .sh (.str (midL.getD m ""))), ("number", .sh (nPV n)), ("lines", .ol (linesP np)), ("wires", .ol (wiresP np)), ("signs", .sh (.lst (signL.map PV.str)))]


abbrev dEnv (L a : Addr) (cd : Value) : Env := envOf "_law_drawn" (stS (stAt 59)) L a cd
abbrev dBody : List Stmt := forB ((stB (stAt 59)).getD 5 (.Pass default))
def ρd (np : List Nat) : Rho := [("lines", .ol (linesP np)), ("wires", .ol (wiresP np)), ("signs", .sh (.lst (signL.map PV.str)))]
theorem midS_get : ∀ m, m < 4 → (([("'" : Str), "'\"'\"", "'\"+\"", ""] : List Str).map PV.str)[m]? = some (.str (midL.getD m "")) := by
  intro m hm
  match m, hm with
  | 0, _ => rfl
  | 1, _ => rfl
  | 2, _ => rfl
  | 3, _ => rfl
theorem mid_or : ∀ m, m < 4 → (if (PySem.BoolOp.Or = .And ∧ ((midL.getD m "").length != 0) = true) ∨ (PySem.BoolOp.Or = .Or ∧ ((midL.getD m "").length != 0) = false) then PV.str "'" else .str (midL.getD m "")) = .str (midL.getD (if m = 3 then 0 else m) "") := by
  intro m hm
  match m, hm with
  | 0, _ => rfl
  | 1, _ => rfl
  | 2, _ => rfl
  | 3, _ => rfl
theorem mid_tr : ∀ m, m < 4 → ((midL.getD m "").length != 0) = decide (m ≠ 3) := by decide +kernel
theorem mid_len : ∀ m, m < 4 → (midL.getD m "").length ≤ 4 := by decide +kernel
theorem sign_len : ∀ m, m < 48 → (signL.getD m "").length ≤ 3 := by decide +kernel

theorem drawn_body {L : Addr} {cd : Value} (R0 : Room A 0) {np : List Nat} {n : Nat} {P : Out → Prop} (hk : np.length < 7) :
    X Θ A (dEnv L a cd) (execs dBody (dEnv L a cd)) (("number", .sh (nPV n)) :: ("turn", .sh (.int (np.length : Int))) :: ρd np) (Left (ρd (np ++ [n])) P) := by
  have hb : ∀ (x y : PySem.Expr) (op : Operator) (p : Pos), ∀ a b, PySem.Expr.BinOp x op y p ≠ .Starred a b := fun _ _ _ _ _ _ e => by cases e
  refine X_cons (X_swap R0 (.cons (Ev_nmod (k := 5) (Ev_name rfl (.inl rfl)) Ev_int (by decide)) (hb _ _ _ _) (.cons (Ev_nmod (k := 5) (Ev_ndiv (k := 5) (Ev_name rfl (.inl rfl)) Ev_int (by decide) (by decide)) Ev_int (by decide)) (hb _ _ _ _) .nil)) (.inl rfl) (.inl rfl) ?_)
  have hm : n / 1200 % 4 < 4 := by omega
  refine X_cons (X_assign (p := .str (midL.getD (n / 1200 % 4) "")) (Ev_item_list (k := ((n / 1200 % 4 : Nat) : Int)) (Hl_ev (Ev_list (.cons Ev_str (fun _ _ e => by cases e) (.cons Ev_str (fun _ _ e => by cases e) (.cons Ev_str (fun _ _ e => by cases e) (.cons Ev_str (fun _ _ e => by cases e) .nil))))))
    (Ev_nmod (k := 4) (Ev_ndiv (k := 1200) (Ev_name rfl (.inl rfl)) Ev_int (by decide) (by decide)) Ev_int (by decide)) (by omega) (by omega) (midS_get _ hm)) (.inl rfl) ?_)
  refine X_cons (X.mono (P := fun o => match o with | .next r => Le (ρc np n (tF np.length n) (tS np.length n) (tM np.length n)) r | .ret _ => False) ?_ fun o ho => ?_)
  · refine X_if (Tv_cmp (Ev_name rfl (.inl rfl)) Ev_int (cmp_lt_int _ _)) (fun h => ?_) (fun h => ?_)
    · have h4 : np.length < 4 := by have := of_decide_eq_true h; omega
      have e1 : tF np.length n = n % (np.length + 1) := if_pos h4
      have e2 : tS np.length n = np.length + 1 := if_pos h4
      have e3 : tM np.length n = if n / 1200 % 4 = 3 then 0 else n / 1200 % 4 := if_pos h4
      rw [e1, e2, e3]
      refine X_cons (X_swap R0 (.cons (Ev_nmod (k := np.length + 1) (Ev_name rfl (.inl rfl)) (Ev_is (Ev_bin (Ev_name rfl (.inl rfl)) Ev_int (bin_add _ _)) rfl) (by omega)) (hb _ _ _ _) (.cons (Ev_is (q := nPV (np.length + 1)) (Ev_bin (Ev_name rfl (.inl rfl)) Ev_int (bin_add _ _)) rfl) (hb _ _ _ _) .nil)) (.inl rfl) (.inl rfl) ?_)
      refine X_cons (X_assign (Ev_bool2 (Ev_name (p := .str (midL.getD (n / 1200 % 4) "")) rfl (.inl rfl)) (tr_str _ (by have := mid_len _ hm; omega)) (fun _ => Ev_str) rfl) (.inl rfl) ?_)
      rw [mid_or _ hm]
      exact X_nil (.cons rfl (.cons rfl (.cons rfl (.cons rfl (.cons rfl (.cons rfl (.cons rfl .nil)))))))
    · have h4 : ¬ np.length < 4 := by have := of_decide_eq_false h; omega
      have e1 : tF np.length n = n % 5 := if_neg h4
      have e2 : tS np.length n = n / 5 % 5 := if_neg h4
      have e3 : tM np.length n = n / 1200 % 4 := if_neg h4
      rw [e1, e2, e3]
      exact X_nil (.cons rfl (.cons rfl (.cons rfl (.cons rfl (.cons rfl (.cons rfl (.cons rfl .nil)))))))
  · cases o with
    | ret p => exact ho.elim
    | next r =>
      refine X.less (ρ₂ := ρc np n (tF np.length n) (tS np.length n) (tM np.length n)) ?_ ho
      have hf := tF_lt (k := np.length) (n := n)
      have hs := tS_lt (k := np.length) (n := n)
      have hM := tM_lt (k := np.length) (n := n)
      have hp := tP_lt (n := n)
      unfold ρd
      rw [linesP_snoc, wiresP_snoc]
      unfold lineT wireT
      have el := linesP_len np
      have ew := wiresP_len np
      have c1 : ∀ f, (chS f).length = 1 := fun _ => rfl
      have c2 : ("'" : Str).length = 1 := rfl
      have c3 := mid_len _ hM
      have c4 := sign_len _ hp
      generalize tF np.length n = f at hf ⊢
      generalize tS np.length n = s at hs ⊢
      generalize tM np.length n = m at hM c3 ⊢
      refine X_cons (X_assign (p := nPV (tP n)) (Ev_nmod (k := 48) (Ev_ndiv (k := 25) (Ev_name rfl (.inl rfl)) Ev_int (by decide) (by decide)) Ev_int (by decide)) (.inl rfl) ?_)
      generalize tP n = q at hp c4 ⊢
      refine X_cons (X_append rfl (.inl rfl) (p := .str (lineOf f s m q))
        (Ev_bin (Ev_bin (Ev_bin (Ev_bin (Ev_chr (Ev_name rfl (.inl rfl)) hf) Ev_str (bin_cat ?_)) (Ev_chr (Ev_name rfl (.inl rfl)) hs) (bin_cat ?_)) (Ev_name (p := .str (midL.getD m "")) rfl (.inl rfl)) (bin_cat ?_))
          (Ev_item_list (k := (q : Int)) (p := .str (signL.getD q "")) (Hl_ev (Ev_name (p := .lst (signL.map PV.str)) rfl (.inl rfl))) (Ev_name rfl (.inl rfl)) (by omega) (by omega) ?_) (bin_cat ?_)) (hb _ _ _ _) (by omega) ?_)
      · rw [c1, c2]; omega
      · rw [len_app, c1, c1, c2]; omega
      · rw [len_app, len_app, c1, c1, c2]; omega
      · have hq : q < signL.length := hp
        rw [Int.toNat_natCast, List.getElem?_map, List.getD_eq_getElem?_getD, List.getElem?_eq_getElem hq]; rfl
      · rw [len_app, len_app, len_app, c1, c1, c2]; omega
      refine X_cons (X_if (b := decide (m ≠ 3 ∧ f ≠ s)) (Tv_is (Tv_and2 (b := decide (f ≠ s)) (Tv_ev (Ev_name (p := .str (midL.getD m "")) rfl (.inl rfl)) (tr_str _ (by omega))) (fun _ => Tv_is (Tv_cmp (Ev_name (p := nPV f) rfl (.inl rfl)) (Ev_name (p := nPV s) rfl (.inl rfl)) (cmp_ne_int _ _)) ?_)) ?_) (fun h => ?_) (fun h => ?_))
      · by_cases h : f = s
        · subst h; simp
        · have h' : ¬ (f : Int) = (s : Int) := fun e => h (by omega)
          rw [decide_eq_true h]
          exact bne_iff_ne.mpr h'
      · rw [mid_tr m hM]; simp
      · have h' := of_decide_eq_true h
        rw [if_pos h']
        refine X_cons (X_append rfl (.inl rfl) (p := wirePV f s q) (Ev_tuple (.cons (Ev_chr (Ev_name rfl (.inl rfl)) hf) (fun _ _ e => by cases e) (.cons (Ev_chr (Ev_name rfl (.inl rfl)) hs) (fun _ _ e => by cases e) (.cons (Ev_bin Ev_int (Ev_name (p := nPV q) rfl (.inl rfl)) (bin_add _ _)) (hb _ _ _ _) .nil))) (by simp)) (fun _ _ e => by cases e) (by omega) ?_)
        exact X_nil (X_nil (.cons rfl (.cons rfl (.cons rfl .nil))))
      · have h' := of_decide_eq_false h
        rw [if_neg h', List.append_nil]
        exact X_nil (X_nil (.cons rfl (.cons rfl (.cons rfl .nil))))

theorem fn_drawn (O : Θ.Ok) (B : Bi Θ) (D : Is Θ 59 "_law_drawn" a) (R : Room A 3) (script : List Int) (hlen : script.length ≤ 100) :
    Fn Θ A a [.lst (script.map PV.int)] (.tup [.lst (linesP (nums7 script)), .lst (wiresP (nums7 script))]) := by
  refine Fn_plain O (k := 2) (xs := ["script"]) D R rfl (fun pm cd doc vs h => ?_) (by decide) (by decide) (fun L cd => ?_)
  · match vs, h with
    | [v], _ => rfl
  · have R0 : Room (A.deeper (envOf "_law_drawn" (stS (stAt 59)) L a cd)) 0 := R.deeper.less (by omega)
    have hns : ∀ (x y : PySem.Expr) (op : Operator) (p : Pos), ∀ a b, PySem.Expr.BinOp x op y p ≠ .Starred a b := fun _ _ _ _ _ _ e => by cases e
    refine X_cons (X_assign (Ev_split Ev_str Ev_str (fun _ _ e => by cases e) (by decide) (by decide)) (.inl rfl) ?_)
    refine X_cons (X_assign (p := .lst (signL.map PV.str)) (Ev_is (Ev_bin (Ev_name rfl (.inl rfl)) (Ev_split Ev_str Ev_str (fun _ _ e => by cases e) (by decide) (by decide)) (bin_lst (by decide +kernel))) (congrArg PV.lst ?_)) (.inl rfl) ?_)
    · rw [← sign_split, List.map_append]; rfl
    refine X_cons (X_assign_lc (ρf := []) (src := Src_list R0 (Ev_list_upto (n := 7) (Ev_name (p := .lst (script.map PV.int)) rfl (.inl rfl)) Ev_int (by rw [List.length_map]; omega))) (by simp; omega)
      (clo_nil rfl (by decide) rfl (by decide) rfl) free_nil rfl (fun i => ((script.take 7).take i).map fun c => nPV (numF c)) rfl (fun C i hi v σ s hv => ?_) (.inl rfl) ?_)
    · obtain ⟨p, hp, hr⟩ := hv
      obtain ⟨c, hc, rfl⟩ : ∃ c, (script.take 7)[i]? = some c ∧ p = .int c := by
        rw [← List.map_take, List.getElem?_map] at hp
        cases e : (script.take 7)[i]? with
        | none => rw [e] at hp; cases hp
        | some c => rw [e] at hp; cases hp; exact ⟨c, rfl, rfl⟩
      refine ⟨_, true, nPV (numF c), AsM_name (x := "cell") (.inl rfl) (by decide) hr, rfl, Le.nil, Tests_nil, fun _ => ?_, ?_⟩
      · exact Ev_is (Ev_bin (Ev_int_of O B.int rfl (Ev_name (p := .int c) rfl (.inl rfl)) (ns_name _ _)) (Ev_bin (p := .int (10 ^ 6)) Ev_int Ev_int (bin_pow (by decide) (by decide +kernel))) (bin_mod (by decide))) (by unfold nPV; rw [numF_int])
      · rw [if_pos rfl, (take_snoc hc).1, List.map_append]; rfl
    refine X_cons (X_assign (p := .lst ((nums7 script).map nPV)) (Ev_is (Ev_bin (Ev_name rfl (.inl rfl)) (Ev_list_from (l := dflt.map nPV) (n := (script.take 7).length) (Ev_list (ps := dflt.map nPV)
      (.cons Ev_int (fun _ _ e => by cases e) (.cons Ev_int (fun _ _ e => by cases e) (.cons Ev_int (fun _ _ e => by cases e) (.cons Ev_int (fun _ _ e => by cases e) (.cons Ev_int (fun _ _ e => by cases e) (.cons Ev_int (fun _ _ e => by cases e) (.cons Ev_int (fun _ _ e => by cases e) .nil))))))))
      (Ev_is (Ev_len_list O B.len rfl (Ev_name rfl (.inl rfl)) (ns_name _ _) ?_) ?_) (by decide)) (bin_lst ?_)) ?_) (.inl rfl) ?_)
    · have : (script.take 7).length ≤ 7 := by rw [List.length_take]; omega
      rw [List.length_map, List.length_take]; omega
    · congr 2
      rw [List.length_map, List.length_take, List.length_take, List.length_map, List.length_take]; omega
    · have : (script.take 7).length ≤ 7 := by rw [List.length_take]; omega
      rw [List.length_map, List.length_drop, List.length_map, List.length_take]
      have : dflt.length = 7 := rfl
      omega
    · unfold nums7
      rw [List.map_append, List.map_drop, List.map_map]
      congr 2
      rw [List.take_of_length_le (by simp)]
      rfl
    refine X_cons (X_new2 R0 (.inl rfl) (.inl rfl) (by decide) ?_)
    refine X_cons (X_enum (l := (nums7 script).map nPV) R0 (Src_enum O R0 B.enu rfl (Ev_name (p := .lst ((nums7 script).map nPV)) rfl (.inl rfl)) (ns_name _ _)) (.inl rfl) (.inl rfl)
      (fun pre => [("lines", .ol (linesP (pre.map nv))), ("wires", .ol (wiresP (pre.map nv))), ("signs", .sh (.lst (signL.map PV.str)))]) ?_ (fun pre p post e => ?_) (fun r h => ?_))
    · exact .cons rfl (.cons rfl (.cons rfl .nil))
    · obtain ⟨np, r, en, rfl, er⟩ := List.map_eq_append_iff.mp e
      obtain ⟨n, post', rfl, rfl, _⟩ := List.map_eq_cons_iff.mp er
      have hn : n < 10 ^ 6 := nums7_lt script n (by rw [en]; simp)
      have hk : np.length < 7 := by
        have h1 := nums7_len script
        rw [en] at h1
        simp only [List.length_append, List.length_cons] at h1
        omega
      rw [List.length_map, List.map_append, nv_nPV]
      have e1 : np ++ List.map nv [nPV n] = np ++ [n] := rfl
      rw [e1]
      exact drawn_body R0 hk
    · rw [nv_nPV] at h
      have h1 := h "lines" _ rfl
      have h2 := h "wires" _ rfl
      refine X_freeze_l h1 (X_freeze_l (x := "wires") (l := wiresP (nums7 script)) (by rw [List.lookup_cons]; exact h2) ?_)
      exact X_cons (X_ret (Ev_tuple (.cons (Ev_name rfl (.inl rfl)) (ns_name _ _) (.cons (Ev_name rfl (.inl rfl)) (ns_name _ _) .nil)) (by simp)) rfl)
end
end Mine
end
section
open PySem PySem.Calls PyProof.Rows PySem.Builtin.Str
set_option linter.unusedVariables false
set_option maxRecDepth 100000
namespace Mine
section
variable {α β : Type}
def getA (l : List (Str × α)) (k : Str) : Option α := (l.find? fun e => e.1 = k).map (·.2)
def putA (l : List (Str × α)) (k : Str) (v : α) : List (Str × α) := if l.any (fun e => e.1 = k) then l.map (fun e => if e.1 = k then (e.1, v) else e) else l ++ [(k, v)]
theorem getA_map (l : List (Str × α)) (g : α → β) (k : Str) : getA (l.map fun e => (e.1, g e.2)) k = (getA l k).map g := by
  unfold getA
  induction l with
  | nil => rfl
  | cons e r ih =>
    simp only [List.map_cons, List.find?_cons]
    by_cases h : e.1 = k
    · simp [h]
    · simp only [h, decide_false]; exact ih
theorem putA_map (l : List (Str × α)) (g : α → β) (k : Str) (v : α) : (putA l k v).map (fun e => (e.1, g e.2)) = putA (l.map fun e => (e.1, g e.2)) k (g v) := by
  unfold putA
  have e : ((l.map fun e => (e.1, g e.2)).any fun kv => decide (kv.1 = k)) = l.any fun e => decide (e.1 = k) := by rw [List.any_map]; rfl
  rw [e]
  split
  · rw [List.map_map, List.map_map]
    apply List.map_congr_left
    intro x _
    simp only [Function.comp]
    split <;> rfl
  · rw [List.map_append]; rfl
theorem putA_len (l : List (Str × α)) (k : Str) (v : α) : (putA l k v).length ≤ l.length + 1 := by unfold putA; split <;> simp
theorem putA_all {l : List (Str × α)} {k : Str} {v : α} {p : α → Prop} (h : ∀ e ∈ l, p e.2) (hv : p v) : ∀ e ∈ putA l k v, p e.2 := by
  intro e he
  unfold putA at he
  split at he
  · obtain ⟨x, hx, rfl⟩ := List.mem_map.mp he
    split
    · exact hv
    · exact h x hx
  · rcases List.mem_append.mp he with h1 | h1
    · exact h e h1
    · rw [List.mem_singleton.mp h1]; exact hv
theorem getA_mem {l : List (Str × α)} {k : Str} {v : α} (h : getA l k = some v) : (k, v) ∈ l := by
  unfold getA at h
  cases e : l.find? fun e => decide (e.1 = k) with
  | none => rw [e] at h; cases h
  | some x =>
    rw [e] at h
    have h1 := List.find?_some e
    have h2 := List.mem_of_find?_eq_some e
    have h3 : x.1 = k := of_decide_eq_true h1
    have h4 : x.2 = v := Option.some.inj h
    rw [← h3, ← h4]; exact h2
end

abbrev Prof := List (Str × (Int × Int × Wg))
def entP (e : Int × Int × Wg) : PV := ent e.1 e.2.1 0 0 e.2.2
def PD (pr : Prof) : List (Str × PV) := pr.map fun e => (e.1, entP e.2)
def book (pr : Prof) (x y : Str) (n : Int) : Prof :=
  let e := (getA pr x).getD (0, 0, [])
  putA pr x (1 + e.1, n + e.2.1, addW e.2.2 [(y, n)])
def lineBook (pr : Prof) (f s m p : Nat) : Prof := if m ≠ 3 ∧ f ≠ s then book (book pr (chS f) (chS s) (7 + (p : Int))) (chS s) (chS f) (7 + (p : Int)) else pr
def prof (np : List Nat) : Prof := np.zipIdx.foldl (fun pr e => lineBook pr (tF e.2 e.1) (tS e.2 e.1) (tM e.2 e.1) (tP e.1)) []
theorem prof_snoc (np : List Nat) (n : Nat) : prof (np ++ [n]) = lineBook (prof np) (tF np.length n) (tS np.length n) (tM np.length n) (tP n) := by
  unfold prof; simp [List.zipIdx_append]
structure PBd (k : Nat) (pr : Prof) : Prop where
  len : pr.length ≤ k
  all : ∀ e ∈ pr, e.2.2.2.length ≤ k
theorem addW_len (t s : Wg) : (addW t s).length ≤ t.length + s.length := by
  unfold addW
  have h1 := fold_len s (cpW t)
  have h2 := cpW_len t
  omega
theorem PBd.get {k : Nat} {pr : Prof} (h : PBd k pr) (x : Str) : ((getA pr x).getD (0, 0, [])).2.2.length ≤ k := by
  cases e : getA pr x with
  | none => exact Nat.zero_le _
  | some v => exact h.all _ (getA_mem e)
theorem PBd.book {k : Nat} {pr : Prof} (h : PBd k pr) (x y : Str) (n : Int) : PBd (k + 1) (book pr x y n) := by
  refine ⟨?_, ?_⟩
  · have h1 := putA_len pr x (1 + ((getA pr x).getD (0, 0, [])).1, n + ((getA pr x).getD (0, 0, [])).2.1, addW ((getA pr x).getD (0, 0, [])).2.2 [(y, n)])
    have h2 := h.len
    unfold Mine.book
    simp only
    omega
  · refine putA_all (p := fun v : Int × Int × Wg => v.2.2.length ≤ k + 1) (fun e he => Nat.le_succ_of_le (h.all e he)) ?_
    have h1 := h.get x
    have h2 := addW_len ((getA pr x).getD (0, 0, [])).2.2 [(y, n)]
    simp only [List.length_cons, List.length_nil] at h2
    show (addW ((getA pr x).getD (0, 0, [])).2.2 [(y, n)]).length ≤ k + 1
    omega
theorem PBd.mono {k j : Nat} {pr : Prof} (h : PBd k pr) (hk : k ≤ j) : PBd j pr := ⟨Nat.le_trans h.len hk, fun e he => Nat.le_trans (h.all e he) hk⟩
theorem PBd.line {k : Nat} {pr : Prof} (h : PBd k pr) (f s m p : Nat) : PBd (k + 2) (lineBook pr f s m p) := by
  unfold lineBook
  split
  · exact (h.book _ _ _).book _ _ _
  · exact h.mono (by omega)
theorem PBd.prof (np : List Nat) : PBd (2 * np.length) (Mine.prof np) := by
  suffices h : ∀ (l : List Nat) (j : Nat) (pr : Prof) (k : Nat), PBd k pr → PBd (k + 2 * l.length) ((l.zipIdx j).foldl (fun pr e => lineBook pr (tF e.2 e.1) (tS e.2 e.1) (tM e.2 e.1) (tP e.1)) pr) by
    have := h np 0 [] 0 ⟨Nat.le_refl _, fun e he => by cases he⟩
    rw [Nat.zero_add] at this
    exact this
  intro l
  induction l with
  | nil => intro j pr k h; exact h
  | cons n r ih =>
    intro j pr k h
    rw [List.zipIdx_cons, List.foldl_cons]
    have := ih (j + 1) _ (k + 2) (h.line (tF j n) (tS j n) (tM j n) (tP n))
    rw [List.length_cons]
    exact this.mono (by omega)
end Mine
end
section
open PySem PySem.Calls PyProof.Rows PySem.Builtin.Str
set_option linter.unusedVariables false
set_option maxRecDepth 100000
namespace Mine
section
variable {Θ : Wd} {A : Around} {env : Env} {ρ : Rho} {a a1 a2 a7 a6 a8 : Addr} {P : Out → Prop}

theorem X_eachT {target : PySem.Expr} {pos : Pos} {iter : PySem.Expr} {body : List Stmt} {l : List PV} (src : Src Θ A env ρ target iter l.length fun i v σ s => ∃ p, l[i]? = some p ∧ Rp Θ.prog Θ.w σ v p)
    (Rf : List PV → Rho) (Rg : List PV → PV → Rho) (h0 : Le (Rf []) ρ)
    (as : ∀ pre p post, l = pre ++ p :: post → As Θ A env target p (Rf pre) (Rg pre p))
    (step : ∀ pre p post, l = pre ++ p :: post → X Θ A env (execs body env) (Rg pre p) (Left (Rf (pre ++ [p])) P))
    (fin : ∀ r, Le (Rf l) r → P (.next r)) (hs : ∀ x, foldedSetIterable iter env x = pure x := by intro _; rfl) :
    X Θ A env (exec (.For target iter body [] pos) env) ρ P := by
  refine X_for src (fun i r => Le (Rf (l.take i)) r) h0 (fun i r hi hI v σ s₀ σ₀ π s hv S => ?_) (fun r h => fin r (by rwa [List.take_length] at h)) hs
  obtain ⟨p, hp, hr⟩ := hv
  obtain ⟨e1, e2⟩ := take_snoc hp
  refine wpAny_mono (as _ _ _ e2 _ _ _ _ _ _ (S.less hI) hr) (fun _ s' S' => ⟨_, σ, .refl _, S', (step _ _ _ e2).mono fun o h => ?_⟩) fun _ _ e => e
  cases o with
  | next r => rw [e1]; exact h
  | ret q => exact h

theorem chS_inj {i j : Nat} (h : chS i = chS j) : i = j := by
  have h1 := congrArg Str.cps h
  have h2 : (#[97 + i] : Array Nat) = #[97 + j] := h1
  have h3 : 97 + i = 97 + j := by simpa using h2
  omega

theorem Ev_stats (O : Θ.Ok) (B : Bi Θ) (D1 : Is Θ 1 "add_func_stats" a1) (D2 : Is Θ 2 "add_callers" a2) (R : Room A 3) {p1 p2 : Pos} {e f : PySem.Expr} {c n c' n' : Int} {w v : Wg} (hk : env.kindOf "add_func_stats" = some .globalImplicit)
    (he : Ev Θ A env ρ e (ent c n 0 0 w)) (hf : Ev Θ A env ρ f (ent c' n' 0 0 v)) (hw : w.length ≤ 1000) (hv : v.length ≤ 1000) (h1 : ∀ a b, e ≠ .Starred a b) (h2 : ∀ a b, f ≠ .Starred a b) :
    Ev Θ A env ρ (.Call (.Name "add_func_stats" p1) [e, f] [] p2) (ent (c' + c) (n' + n) 0 0 (addW w v)) :=
  Ev_fn O D1 hk (.cons he h1 (.cons hf h2 .nil)) (fn_stats O B D1 D2 R c n 0 0 c' n' 0 0 w v hw hv)

theorem PD_get (pr : Prof) (k : Str) : valAt (PD pr) k = (getA pr k).map entP := getA_map pr entP k
theorem PD_put (pr : Prof) (k : Str) (v : Int × Int × Wg) : PD (putA pr k v) = putAt (PD pr) k (entP v) := putA_map pr entP k v
theorem PD_len (pr : Prof) : (PD pr).length = pr.length := by unfold PD; simp

theorem fn_strip (O : Θ.Ok) (B : Bi Θ) (D : Is Θ 7 "_strip_quoted_realnames" a7) (D2 : Is Θ 6 "_iter_escaped_chars" a6) (R : Room A 3) {m p : Nat} (hm : m < 3) (hp : p < 48) : Fn Θ A a7 [.str (restS m p)] (.str (signS p)) := by
  rcases Nat.eq_zero_or_pos m with rfl | h
  · rw [rest_zero]
    have h := rest_plain hp
    rw [rest_zero] at h
    exact fn_strip_plain O D R (signS p) h
  · obtain ⟨j, rfl⟩ : ∃ j, m = j + 1 := ⟨m - 1, by omega⟩
    rw [← rest_slice j (by omega) p hp]
    exact fn_strip_quoted O B D D2 R _ (rest_qd hm (by omega) hp)

abbrev pfEnv (L a : Addr) (cd : Value) : Env := envOf "_law_profile" (stS (stAt 60)) L a cd
abbrev pfBody : List Stmt := forB ((stB (stAt 60)).getD 1 (.Pass default))

/-- one booking -/
theorem book_step (O : Θ.Ok) (B : Bi Θ) (D1 : Is Θ 1 "add_func_stats" a1) (D2 : Is Θ 2 "add_callers" a2) {L : Addr} {cd : Value} (R : Room A 3) {pr : Prof} {k : Nat} (hb : PBd k pr) (hk : k ≤ 100) {x y : Str} {n : Int} {P : Out → Prop} {ρ : Rho}
    (h1 : ρ.lookup ("node" : Str) = some (.sh (.str x))) (h2 : ρ.lookup ("beyond" : Str) = some (.sh (.str y))) (h3 : ρ.lookup ("width" : Str) = some (.sh (.int n))) (h4 : ρ.lookup ("profile" : Str) = some (.od (PD pr)))
    (h : P (.next (("profile", .od (PD (book pr x y n))) :: ("entry", .sh (entP ((getA pr x).getD (0, 0, [])))) :: ρ))) :
    X Θ A (pfEnv L a cd) (execs (forB (match (pfBody.getD 1 (.Pass default)) with | .If _ b _ _ => b.getD 1 (.Pass default) | s => s)) (pfEnv L a cd)) ρ P := by
  refine X_cons (X_assign (Ev_is (Ev_get (Hd_own h4 (.inl rfl)) (Ev_name h1 (.inl rfl)) (Ev_tuple (.cons Ev_int (fun _ _ e => by cases e) (.cons Ev_int (fun _ _ e => by cases e) (.cons Ev_int (fun _ _ e => by cases e) (.cons Ev_int (fun _ _ e => by cases e) (.cons (Ev_dict0 O) (fun _ _ e => by cases e) .nil)))))) (ns_name _ _) (fun _ _ e => by cases e)) (q := entP ((getA pr x).getD (0, 0, []))) ?_) (.inl rfl) ?_)
  · rw [PD_get]
    cases getA pr x <;> rfl
  have hw := hb.get x
  have hlen := hb.len
  have hP : book pr x y n = putA pr x (1 + ((getA pr x).getD (0, 0, [])).1, n + ((getA pr x).getD (0, 0, [])).2.1, addW ((getA pr x).getD (0, 0, [])).2.2 [(y, n)]) := rfl
  rw [hP, PD_put] at h
  generalize (getA pr x).getD (0, 0, []) = e at hw h ⊢
  obtain ⟨c, m, w⟩ := e
  refine X_cons (X_store (l := PD pr) (k := x) (p := entP (1 + c, n + m, addW w [(y, n)])) (by rw [List.lookup_cons]; exact h4) (.inl rfl) ?_ (Ev_name (by rw [List.lookup_cons]; exact h1) (.inl rfl)) (by rw [PD_len]; omega) (X_nil h))
  exact Ev_stats O B D1 D2 R rfl (Ev_name rfl (.inl rfl)) (Ev_tuple (.cons Ev_int (fun _ _ e => by cases e) (.cons (Ev_name (by rw [List.lookup_cons]; exact h3) (.inl rfl)) (ns_name _ _) (.cons Ev_int (fun _ _ e => by cases e) (.cons Ev_int (fun _ _ e => by cases e) (.cons (Ev_dict1 O (Ev_name (by rw [List.lookup_cons]; exact h2) (.inl rfl)) (Ev_name (by rw [List.lookup_cons]; exact h3) (.inl rfl))) (fun _ _ e => by cases e) .nil))))) (by simp)) (by simp at hw ⊢; omega) (by simp) (ns_name _ _) (fun _ _ e => by cases e)

theorem linesP_get {ns : List Nat} {k : Nat} {p : PV} (h : (linesP ns)[k]? = some p) : ∃ n, ns[k]? = some n ∧ p = .str (lineT k n) := by
  unfold linesP at h
  rw [List.getElem?_map, List.getElem?_zipIdx] at h
  cases e : ns[k]? with
  | none => rw [e] at h; cases h
  | some n => rw [e] at h; cases h; exact ⟨n, rfl, by simp⟩

theorem fn_profile (O : Θ.Ok) (B : Bi Θ) (T : Glob Θ "TICK" (.str tickS)) (T2 : Glob Θ "EXACT_TOKEN_TYPES" (.dic (DI tokW))) (D1 : Is Θ 1 "add_func_stats" a1) (D2 : Is Θ 2 "add_callers" a2) (D6 : Is Θ 6 "_iter_escaped_chars" a6)
    (D7 : Is Θ 7 "_strip_quoted_realnames" a7) (D8 : Is Θ 8 "decode_rfc2231" a8) (D : Is Θ 60 "_law_profile" a) (R : Room A 4) (ns : List Nat) (hlen : ns.length ≤ 40) :
    Fn Θ A a [.lst (linesP ns)] (.dic (PD (prof ns))) := by
  refine Fn_plain O (k := 3) (xs := ["lines"]) D R rfl (fun pm cd doc vs h => ?_) (by decide) (by decide) (fun L cd => ?_)
  · match vs, h with
    | [v], _ => rfl
  · have R3 : Room (A.deeper (envOf "_law_profile" (stS (stAt 60)) L a cd)) 3 := R.deeper
    have R0 := R3.less (j := 0) (by omega)
    have R1 := R3.less (j := 1) (by omega)
    refine X_cons (X_new_dict O (.inl rfl) ?_)
    refine X_cons (X_each (l := linesP ns) (Src_list R0 (Ev_name (p := .lst (linesP ns)) rfl (.inl rfl))) (.inl rfl) (fun pre => [("profile", .od (PD (prof (ns.take pre.length))))]) ?_ (fun pre p post e => ?_) (fun r h => ?_))
    · exact .cons rfl .nil
    · have hget : (linesP ns)[pre.length]? = some p := by rw [e]; simp
      obtain ⟨n, hn, rfl⟩ := linesP_get hget
      have hk : pre.length < ns.length := by
        rcases Nat.lt_or_ge pre.length ns.length with h | h
        · exact h
        · rw [List.getElem?_eq_none h] at hn; cases hn
      have hnext : prof (ns.take (pre ++ [PV.str (lineT pre.length n)]).length) = lineBook (prof (ns.take pre.length)) (tF pre.length n) (tS pre.length n) (tM pre.length n) (tP n) := by
        rw [List.length_append, List.length_singleton, (take_snoc hn).1, prof_snoc]
        have : (ns.take pre.length).length = pre.length := by rw [List.length_take]; omega
        rw [this]
      rw [hnext]
      have hb := PBd.prof (ns.take pre.length)
      have hl : 2 * (ns.take pre.length).length ≤ 80 := by rw [List.length_take]; omega
      have hf := tF_lt (k := pre.length) (n := n)
      have hs := tS_lt (k := pre.length) (n := n)
      have hM := tM_lt (k := pre.length) (n := n)
      have hp := tP_lt (n := n)
      unfold lineT
      clear hnext hget hn e
      generalize tF pre.length n = f at hf ⊢
      generalize tS pre.length n = s at hs ⊢
      generalize tM pre.length n = m at hM ⊢
      generalize tP n = q at hp ⊢
      generalize prof (ns.take pre.length) = pr at hb ⊢
      generalize 2 * (ns.take pre.length).length = k at hb hl
      have hdec := fn_decode O B T D8 R1 (lineOf f s m q) (Nat.le_trans (line_len f s m q hM hp) (by decide)) (line_pieces_len f s m q hM hp)
      rcases Nat.lt_or_ge m 3 with h3 | h3
      · rw [line_decoded h3] at hdec
        refine X_cons (X_unpack (Ev_fn O D8 rfl (.cons (Ev_name (p := .str (lineOf f s m q)) rfl (.inl rfl)) (ns_name _ _) .nil) hdec) (As_lst R0 (.cons (As_name (x := "first") (.inl rfl)) (ns_name _ _) (.cons (As_name (x := "second") (.inl rfl)) (ns_name _ _) (.cons (As_name (x := "rest") (.inl rfl)) (ns_name _ _) .nil)))) ?_ (fun _ _ e => by cases e))
        refine X_cons (X_if (b := decide (f ≠ s)) (Tv_is (Tv_cmp (Ev_name (p := .str (chS f)) rfl (.inl rfl)) (Ev_name (p := .str (chS s)) rfl (.inl rfl)) (cmp_ne_str _ _)) ?_) (fun h => ?_) (fun h => ?_))
        · by_cases hfs : f = s
          · subst hfs; simp
          · rw [decide_eq_true hfs, decide_eq_false (fun e => hfs (chS_inj e))]; rfl
        · have hfs := of_decide_eq_true h
          have hlb : lineBook pr f s m q = book (book pr (chS f) (chS s) (7 + (q : Int))) (chS s) (chS f) (7 + (q : Int)) := if_pos ⟨by omega, hfs⟩
          rw [hlb]
          refine X_cons (X_assign (p := .int (7 + (q : Int))) (Ev_item_dict (Hd_ev (Ev_glob O T2 rfl)) (Ev_fn O D7 rfl (.cons (Ev_name (p := .str (restS m q)) rfl (.inl rfl)) (ns_name _ _) .nil) (fn_strip O B D7 D6 R3 h3 hp)) (by rw [DI_get, tok_sign q hp]; rfl)) (.inl rfl) ?_)
          have hb1 := hb.book (chS f) (chS s) (7 + (q : Int))
          generalize hpr1 : book pr (chS f) (chS s) (7 + (q : Int)) = pr1 at hb1 ⊢
          generalize hpr2 : book pr1 (chS s) (chS f) (7 + (q : Int)) = pr2
          refine X_cons (X_eachT (l := [.tup [.str (chS f), .str (chS s)], .tup [.str (chS s), .str (chS f)]])
            (Src_tup R0 (Ev_tuple (.cons (Ev_tuple (.cons (Ev_name (p := .str (chS f)) rfl (.inl rfl)) (ns_name _ _) (.cons (Ev_name (p := .str (chS s)) rfl (.inl rfl)) (ns_name _ _) .nil)) (by simp)) (fun _ _ e => by cases e)
              (.cons (Ev_tuple (.cons (Ev_name (p := .str (chS s)) rfl (.inl rfl)) (ns_name _ _) (.cons (Ev_name (p := .str (chS f)) rfl (.inl rfl)) (ns_name _ _) .nil)) (by simp)) (fun _ _ e => by cases e) .nil)) (by simp)))
            (fun pre => [("profile", .od (PD (match pre.length with | 0 => pr | 1 => pr1 | _ => pr2))), ("width", .sh (.int (7 + (q : Int))))])
            (fun pre p => match p with | .tup [.str x, .str y] => [("beyond", .sh (.str y)), ("node", .sh (.str x)), ("profile", .od (PD (match pre.length with | 0 => pr | 1 => pr1 | _ => pr2))), ("width", .sh (.int (7 + (q : Int))))] | _ => [])
            ?_ (fun pre p post e => ?_) (fun pre p post e => ?_) (fun r h => ?_))
          · exact .cons rfl (.cons rfl .nil)
          · rcases pre with _ | ⟨x1, _ | ⟨x2, pre⟩⟩
            · obtain ⟨rfl, _⟩ := List.cons.inj e
              exact As_tup R0 (.cons (As_name (x := "node") (.inl rfl)) (ns_name _ _) (.cons (As_name (x := "beyond") (.inl rfl)) (ns_name _ _) .nil))
            · obtain ⟨rfl, e'⟩ := List.cons.inj e
              obtain ⟨rfl, _⟩ := List.cons.inj e'
              exact As_tup R0 (.cons (As_name (x := "node") (.inl rfl)) (ns_name _ _) (.cons (As_name (x := "beyond") (.inl rfl)) (ns_name _ _) .nil))
            · simp at e
          · rcases pre with _ | ⟨x1, _ | ⟨x2, pre⟩⟩
            · obtain ⟨rfl, _⟩ := List.cons.inj e
              refine book_step O B D1 D2 R3 hb (by omega) (x := chS f) (y := chS s) (n := 7 + (q : Int)) rfl rfl rfl rfl ?_
              rw [hpr1]
              exact .cons rfl (.cons rfl .nil)
            · obtain ⟨rfl, e'⟩ := List.cons.inj e
              obtain ⟨rfl, _⟩ := List.cons.inj e'
              refine book_step O B D1 D2 R3 hb1 (by omega) (x := chS s) (y := chS f) (n := 7 + (q : Int)) rfl rfl rfl rfl ?_
              rw [hpr2]
              exact .cons rfl (.cons rfl .nil)
            · simp at e
          · have h1 := h "profile" _ rfl
            exact X_nil (X_nil (.cons h1 .nil))
        · have hfs := of_decide_eq_false h
          have hlb : lineBook pr f s m q = pr := if_neg (fun h => hfs h.2)
          rw [hlb]
          exact X_nil (X_nil (.cons rfl .nil))
      · have h3' : m = 3 := by omega
        subst h3'
        rw [line_short hp] at hdec
        refine X_cons (X_unpack (Ev_fn O D8 rfl (.cons (Ev_name (p := .str (lineOf f s 3 q)) rfl (.inl rfl)) (ns_name _ _) .nil) hdec) (As_tup R0 (.cons (As_name (x := "first") (.inl rfl)) (ns_name _ _) (.cons (As_name (x := "second") (.inl rfl)) (ns_name _ _) (.cons (As_name (x := "rest") (.inl rfl)) (ns_name _ _) .nil)))) ?_ (fun _ _ e => by cases e))
        refine X_cons (X_if (b := false) (Tv_cmp (Ev_name (p := .none) rfl (.inl rfl)) (Ev_name (p := .none) rfl (.inl rfl)) (cmp_ne_none R0)) (fun h => by cases h) (fun _ => ?_))
        have hlb : lineBook pr f s 3 q = pr := if_neg (fun h => h.1 rfl)
        rw [hlb]
        exact X_nil (X_nil (.cons rfl .nil))
    · have h1 := h "profile" _ rfl
      rw [linesP_len, List.take_length] at h1
      exact X_freeze_d h1 (X_cons (X_ret (Ev_name rfl (.inl rfl)) rfl))
end
end Mine
end
section
open PySem PySem.Calls PyProof.Rows PySem.Builtin.Str
set_option linter.unusedVariables false
set_option maxRecDepth 100000
set_option exponentiation.threshold 2000
namespace Mine
abbrev Tb := List (Str × Wg)
def tbD (T : Tb) : List (Str × PV) := T.map fun e => (e.1, .dic (DI e.2))
def farW (c : Int) (v : Str) (w : Wg) : Wg := w.foldl (fun acc e => if e.1 ≠ v then putW acc e.1 (c * e.2) else acc) []
def thrG (o : Option Int) (near : Str) (w : Wg) : Wg := w.foldl (fun acc e => if o.isSome = true ∧ e.1 ≠ near then putW acc e.1 (o.getD 0 * e.2) else acc) []
def thrW (beside : Wg) (near : Str) : Wg := thrG (getW beside near) near beside
def struckL (T : Tb) (v : Str) (d : Int) (beside : Wg) : Tb := T.foldl (fun acc e => if e.1 ≠ v then putA acc e.1 (addW (farW d v e.2) (thrW beside e.1)) else acc) []
theorem tbD_get (T : Tb) (k : Str) : valAt (tbD T) k = (getA T k).map fun w => .dic (DI w) := getA_map T (fun w => PV.dic (DI w)) k
theorem tbD_put (T : Tb) (k : Str) (w : Wg) : tbD (putA T k w) = putAt (tbD T) k (.dic (DI w)) := putA_map T (fun w => PV.dic (DI w)) k w
theorem tbD_len (T : Tb) : (tbD T).length = T.length := by unfold tbD; simp
theorem farW_snoc (c : Int) (v : Str) (w : Wg) (e : Str × Int) : farW c v (w ++ [e]) = if e.1 ≠ v then putW (farW c v w) e.1 (c * e.2) else farW c v w := by unfold farW; rw [List.foldl_append]; rfl
theorem thrG_snoc (o : Option Int) (near : Str) (w : Wg) (e : Str × Int) : thrG o near (w ++ [e]) = if o.isSome = true ∧ e.1 ≠ near then putW (thrG o near w) e.1 (o.getD 0 * e.2) else thrG o near w := by unfold thrG; rw [List.foldl_append]; rfl
theorem struckL_snoc (T : Tb) (v : Str) (d : Int) (beside : Wg) (e : Str × Wg) : struckL (T ++ [e]) v d beside = if e.1 ≠ v then putA (struckL T v d beside) e.1 (addW (farW d v e.2) (thrW beside e.1)) else struckL T v d beside := by unfold struckL; rw [List.foldl_append]; rfl
theorem foldput_len {β : Type} (g : Wg → β → Wg) (h : ∀ acc e, (g acc e).length ≤ acc.length + 1) : ∀ (l : List β) (acc : Wg), (l.foldl g acc).length ≤ acc.length + l.length
  | [], acc => by simp
  | e :: r, acc => by have h1 := foldput_len g h r (g acc e); have h2 := h acc e; simp only [List.foldl_cons, List.length_cons]; omega
theorem farW_len (c : Int) (v : Str) (w : Wg) : (farW c v w).length ≤ w.length := by
  have := foldput_len (fun acc e => if e.1 ≠ v then putW acc e.1 (c * e.2) else acc) (fun acc e => by split; exact putW_len _ _ _; omega) w []
  simpa [farW] using this
theorem thrG_len (o : Option Int) (near : Str) (w : Wg) : (thrG o near w).length ≤ w.length := by
  have := foldput_len (fun acc e => if o.isSome = true ∧ e.1 ≠ near then putW acc e.1 (o.getD 0 * e.2) else acc) (fun acc e => by split; exact putW_len _ _ _; omega) w []
  simpa [thrG] using this
theorem struckL_len (T : Tb) (v : Str) (d : Int) (beside : Wg) : (struckL T v d beside).length ≤ T.length := by
  suffices h : ∀ (l : Tb) (acc : Tb), (l.foldl (fun acc e => if e.1 ≠ v then putA acc e.1 (addW (farW d v e.2) (thrW beside e.1)) else acc) acc).length ≤ acc.length + l.length by simpa [struckL] using h T []
  intro l
  induction l with
  | nil => intro acc; simp
  | cons e r ih =>
    intro acc
    rw [List.foldl_cons, List.length_cons]
    split
    · have h1 := ih (putA acc e.1 (addW (farW d v e.2) (thrW beside e.1)))
      have h2 := putA_len acc e.1 (addW (farW d v e.2) (thrW beside e.1))
      omega
    · have h1 := ih acc
      omega

section
variable {Θ : Wd} {A : Around} {env : Env} {ρ ρf : Rho} {a a2 a3 : Addr} {P : Out → Prop}

theorem DI_at {w : Wg} {i : Nat} {k : Str} {p : PV} (h : (DI w)[i]? = some (k, p)) : ∃ n, w[i]? = some (k, n) ∧ p = .int n := by
  unfold DI at h
  rw [List.getElem?_map] at h
  cases e : w[i]? with
  | none => rw [e] at h; cases h
  | some x => rw [e] at h; cases h; exact ⟨x.2, rfl, rfl⟩

abbrev skEnv (L a : Addr) (cd : Value) : Env := envOfC "_law_struck" (stS (stAt 61)) L a cd
abbrev skFor : Stmt := (stB (stAt 61)).getD 3 (.Pass default)
abbrev skIf : List Stmt := match (forB skFor).getD 0 (.Pass default) with | .If _ b _ _ => b | _ => []

/-- what the loop knows -/
def ρs (T : Tb) (v : Str) (beside : Wg) (left : Tb) : Rho := [("left", .od (tbD left)), ("whole", .sh (.int (wsum beside))), ("beside", .sh (.dic (DI beside))), ("node", .sh (.str v))]

theorem X_far {L : Addr} {cd : Value} (R0 : Room A 0) (O : Θ.Ok) {w : Wg} {v : Str} {d : Int} {y : Str} {py pos spos : Pos}
    (hw : w.length ≤ 1000) (hd : Sm d) (hn : ∀ e ∈ w, Sm e.2)
    (h1 : ρ.lookup ("callers" : Str) = some (.sh (.dic (DI w)))) (h2 : ρ.lookup ("whole" : Str) = some (.sh (.int d))) (h3 : ρ.lookup ("node" : Str) = some (.sh (.str v)))
    (h : P (.next (("far", .sh (.dic (DI (farW d v w)))) :: ρ))) : X Θ A (skEnv L a cd) (exec (skIf.getD 0 (.Pass default)) (skEnv L a cd)) ρ P := by
  have hw' : (DI w).length ≤ 100000 := by rw [DI_len]; omega
  refine X_assign_dc O (ρf := [("whole", .sh (.int d)), ("node", .sh (.str v))]) (cl := [("whole", L + 3), ("node", L + 1)]) (src := Src_items (l := DI w) R0 (Ev_name h1 (.inl rfl))) hw' ?_ ?_ rfl (fun i => DI (farW d v (w.take i))) rfl (fun C i hi u σ s hv => ?_) (.inl rfl) ?_
  · refine ⟨rfl, by decide, rfl, by decide, fun x c hc => ?_, ?_, rfl⟩
    · simp only [List.mem_cons, List.not_mem_nil, or_false, Prod.mk.injEq] at hc
      rcases hc with ⟨rfl, rfl⟩ | ⟨rfl, rfl⟩
      · exact ⟨mem_of_lookup rfl, rfl, rfl⟩
      · exact ⟨mem_of_lookup rfl, rfl, rfl⟩
    · refine List.pairwise_cons.mpr ⟨fun y hy => ?_, List.pairwise_singleton _ _⟩
      rw [List.mem_singleton.mp hy]
      exact Nat.ne_of_gt (Nat.add_lt_add_left (show 1 < 3 by decide) L)
  · intro x b hx
    rw [List.lookup_cons] at hx
    by_cases hxw : x = "whole"
    · subst hxw; simp only [beq_self_eq_true] at hx; cases hx; exact ⟨h2, rfl, rfl⟩
    · have hx' : (x == ("whole" : Str)) = false := by simpa using hxw
      simp only [hx', List.lookup_cons] at hx
      by_cases hxn : x = "node"
      · subst hxn; simp only [beq_self_eq_true] at hx; cases hx; exact ⟨h3, rfl, rfl⟩
      · have hx'' : (x == ("node" : Str)) = false := by simpa using hxn
        simp only [hx'', List.lookup_nil] at hx; cases hx
  · obtain ⟨T, items, k, p, rfl, ht, hp, hr⟩ := hv
    obtain ⟨n, hn', rfl⟩ := DI_at hp
    refine ⟨_, decide (k ≠ v), k, .int (d * n), AsM_tup R0 (.cons (x := "other") (.inl rfl) (by decide) (.cons (x := "width") (.inl rfl) (by decide) .nil)) ht hr, rfl, ?_, Tests_one (Tv_is (Tv_cmp (Ev_name (p := .str k) rfl (.inl rfl)) (Ev_name (p := .str v) rfl (.inr ⟨rfl, rfl⟩)) (cmp_ne_str _ _)) (by simp)), fun _ => ⟨Ev_name rfl (.inl rfl), Ev_bin (Ev_name (p := .int d) rfl (.inr ⟨rfl, rfl⟩)) (Ev_name (p := .int n) rfl (.inl rfl)) (bin_mul hd (hn _ (List.mem_of_getElem? hn')))⟩, ?_⟩
    · exact .cons rfl (.cons rfl .nil)
    · rw [(take_snoc hn').1, farW_snoc]
      by_cases hkv : k = v
      · subst hkv; simp
      · rw [if_pos hkv, decide_eq_true hkv, if_pos rfl, DI_put]
  · rw [DI_len, List.take_length]; exact h

theorem X_thr {L : Addr} {cd : Value} (R0 : Room A 0) (O : Θ.Ok) {w : Wg} {v : Str} {y : Str}
    (hw : w.length ≤ 1000) (hn : ∀ e ∈ w, Sm e.2)
    (h1 : ρ.lookup ("beside" : Str) = some (.sh (.dic (DI w)))) (h2 : ρ.lookup ("near" : Str) = some (.sh (.str v)))
    (h : P (.next (("through", .sh (.dic (DI (thrW w v)))) :: ρ))) : X Θ A (skEnv L a cd) (exec (skIf.getD 1 (.Pass default)) (skEnv L a cd)) ρ P := by
  have hw' : (DI w).length ≤ 100000 := by rw [DI_len]; omega
  refine X_assign_dc O (ρf := [("beside", .sh (.dic (DI w))), ("near", .sh (.str v))]) (cl := [("near", L + 4), ("beside", L + 2)]) (src := Src_items (l := DI w) R0 (Ev_name h1 (.inr ⟨rfl, rfl⟩))) hw' ?_ ?_ rfl (fun i => DI (thrG (getW w v) v (w.take i))) rfl (fun C i hi u σ s hv => ?_) (.inl rfl) ?_
  · refine ⟨rfl, by decide, rfl, by decide, fun x c hc => ?_, ?_, rfl⟩
    · simp only [List.mem_cons, List.not_mem_nil, or_false, Prod.mk.injEq] at hc
      rcases hc with ⟨rfl, rfl⟩ | ⟨rfl, rfl⟩
      · exact ⟨mem_of_lookup rfl, rfl, rfl⟩
      · exact ⟨mem_of_lookup rfl, rfl, rfl⟩
    · refine List.pairwise_cons.mpr ⟨fun y hy => ?_, List.pairwise_singleton _ _⟩
      rw [List.mem_singleton.mp hy]
      exact Nat.ne_of_gt (Nat.add_lt_add_left (show 2 < 4 by decide) L)
  · intro x b hx
    rw [List.lookup_cons] at hx
    by_cases hxw : x = "beside"
    · subst hxw; simp only [beq_self_eq_true] at hx; cases hx; exact ⟨h1, rfl, rfl⟩
    · have hx' : (x == ("beside" : Str)) = false := by simpa using hxw
      simp only [hx', List.lookup_cons] at hx
      by_cases hxn : x = "near"
      · subst hxn; simp only [beq_self_eq_true] at hx; cases hx; exact ⟨h2, rfl, rfl⟩
      · have hx'' : (x == ("near" : Str)) = false := by simpa using hxn
        simp only [hx'', List.lookup_nil] at hx; cases hx
  · obtain ⟨T, items, k, p, rfl, ht, hp, hr⟩ := hv
    obtain ⟨n, hn', rfl⟩ := DI_at hp
    refine ⟨_, decide ((getW w v).isSome = true ∧ k ≠ v), k, .int ((getW w v).getD 0 * n), AsM_tup R0 (.cons (x := "other") (.inl rfl) (by decide) (.cons (x := "width") (.inl rfl) (by decide) .nil)) ht hr, rfl, ?_,
      Tests_one (Tv_is (Tv_and2 (Tv_in_dict (d := DI w) (Ev_name (p := .str v) rfl (.inr ⟨rfl, rfl⟩)) (Hd_ev (Ev_name rfl (.inr ⟨rfl, rfl⟩)))) (fun _ => Tv_cmp (Ev_name (p := .str k) rfl (.inl rfl)) (Ev_name (p := .str v) rfl (.inr ⟨rfl, rfl⟩)) (cmp_ne_str _ _))) ?_), fun hb => ⟨Ev_name rfl (.inl rfl), ?_⟩, ?_⟩
    · exact .cons rfl (.cons rfl .nil)
    · rw [DI_get]
      cases getW w v <;> simp
    · obtain ⟨q, hq⟩ := Option.isSome_iff_exists.mp (of_decide_eq_true hb).1
      rw [hq]
      refine Ev_bin (Ev_item_dict (l := DI w) (k := v) (p := .int q) (Hd_ev (Ev_name rfl (.inr ⟨rfl, rfl⟩))) (Ev_name (p := .str v) rfl (.inr ⟨rfl, rfl⟩)) (by rw [DI_get, hq]; rfl)) (Ev_name (p := .int n) rfl (.inl rfl)) (bin_mul ?_ (hn _ (List.mem_of_getElem? hn')))
      exact hn _ (getA_mem (l := w) hq)
    · rw [(take_snoc hn').1, thrG_snoc]
      by_cases hkv : (getW w v).isSome = true ∧ k ≠ v
      · rw [if_pos hkv, decide_eq_true hkv, if_pos rfl, DI_put]
      · rw [if_neg hkv, decide_eq_false hkv, if_neg (by decide)]
  · rw [DI_len, List.take_length]; exact h

theorem tbD_at {T : Tb} {i : Nat} {k : Str} {p : PV} (h : (tbD T)[i]? = some (k, p)) : ∃ w, T[i]? = some (k, w) ∧ p = .dic (DI w) := by
  unfold tbD at h
  rw [List.getElem?_map] at h
  cases e : T[i]? with
  | none => rw [e] at h; cases h
  | some x => rw [e] at h; cases h; exact ⟨x.2, rfl, rfl⟩

theorem fn_struck (O : Θ.Ok) (B : Bi Θ) (D2 : Is Θ 2 "add_callers" a2) (D3 : Is Θ 3 "count_calls" a3) (D : Is Θ 61 "_law_struck" a) (R : Room A 4) (T : Tb) (v : Str) (beside : Wg) (hv : getA T v = some beside) (hT : T.length ≤ 1000)
    (hl : ∀ e ∈ T, e.2.length ≤ 400 ∧ ∀ x ∈ e.2, Sm x.2) (hd : Sm (wsum beside)) :
    Fn Θ A a [.dic (tbD T), .str v] (.tup [.int (wsum beside), .dic (tbD (struckL T v (wsum beside) beside))]) := by
  refine FnC.fn (FnC_cells O (k := 3) (xs := ["table", "node"]) D R rfl (fun pm cd doc vs h => ?_) (fun L x hx => ?_) (by decide) (fun L y c hc => ?_) (fun L cd => ?_))
  · match vs, h with
    | [v, u], _ => rfl
  · simp only [List.mem_cons, List.not_mem_nil, or_false] at hx
    rcases hx with rfl | rfl
    · exact .inl rfl
    · exact .inr ⟨rfl, rfl⟩
  · have hc' : (y, c) ∈ [(("near" : Str), L + 4), ("whole", L + 3), ("beside", L + 2), ("node", L + 1)] := hc
    simp only [List.mem_cons, List.not_mem_nil, or_false, Prod.mk.injEq] at hc'
    rcases hc' with ⟨rfl, rfl⟩ | ⟨rfl, rfl⟩ | ⟨rfl, rfl⟩ | ⟨rfl, rfl⟩ <;> exact ⟨rfl, rfl⟩
  · have R3 : Room (A.deeper (skEnv L a cd)) 3 := R.deeper
    have R0 := R3.less (j := 0) (by omega)
    have R2 := R3.less (j := 2) (by omega)
    have hbl : beside.length ≤ 400 ∧ ∀ x ∈ beside, Sm x.2 := hl _ (getA_mem hv)
    have hb4 := hbl.1
    refine X_cons (X_assign (Ev_item_dict (l := tbD T) (k := v) (p := .dic (DI beside)) (Hd_ev (Ev_name rfl (.inl rfl))) (Ev_name rfl (.inr ⟨rfl, rfl⟩)) (by rw [tbD_get, hv]; rfl)) (.inr ⟨rfl, rfl, rfl⟩) ?_)
    refine X_cons (X_assign (Ev_fn O D3 rfl (.cons (Ev_name (p := .dic (DI beside)) rfl (.inr ⟨rfl, rfl⟩)) (ns_name _ _) .nil) (fn_count O D3 R2 beside)) (.inr ⟨rfl, rfl, rfl⟩) ?_)
    refine X_cons (X_new_dict O (.inl rfl) ?_)
    refine X_cons (X_items (l := tbD T) R0 (Src_items R0 (Ev_name (p := .dic (tbD T)) rfl (.inl rfl))) (.inr ⟨rfl, rfl, rfl⟩) (.inl rfl) (fun pre => ρs T v beside (struckL (T.take pre.length) v (wsum beside) beside)) ?_ (fun pre k p post e => ?_) (fun r h => ?_))
    · exact .cons rfl (.cons rfl (.cons rfl (.cons rfl .nil)))
    · have hget : (tbD T)[pre.length]? = some (k, p) := by rw [e]; simp
      obtain ⟨w, hw, rfl⟩ := tbD_at hget
      obtain ⟨hw1, hw2⟩ : w.length ≤ 400 ∧ ∀ x ∈ w, Sm x.2 := hl _ (List.mem_of_getElem? hw)
      have hnext : struckL (T.take (pre ++ [(k, PV.dic (DI w))]).length) v (wsum beside) beside = if k ≠ v then putA (struckL (T.take pre.length) v (wsum beside) beside) k (addW (farW (wsum beside) v w) (thrW beside k)) else struckL (T.take pre.length) v (wsum beside) beside := by
        rw [List.length_append, List.length_singleton, (take_snoc hw).1, struckL_snoc]
      rw [hnext]
      have hsl := struckL_len (T.take pre.length) v (wsum beside) beside
      have hsl' : (T.take pre.length).length ≤ T.length := by rw [List.length_take]; omega
      generalize struckL (T.take pre.length) v (wsum beside) beside = left at hsl ⊢
      refine X_cons (X_if (b := decide (k ≠ v)) (Tv_is (Tv_cmp (Ev_name (p := .str k) rfl (.inr ⟨rfl, rfl⟩)) (Ev_name (p := .str v) rfl (.inr ⟨rfl, rfl⟩)) (cmp_ne_str _ _)) (by simp)) (fun h => ?_) (fun h => ?_))
      · have hkv := of_decide_eq_true h
        rw [if_pos hkv]
        refine X_cons (X_far (d := wsum beside) (w := w) (v := v) R0 O (y := "far") (py := default) (pos := default) (spos := default) (by omega) hd hw2 rfl rfl rfl ?_)
        refine X_cons (X_thr (w := beside) (v := k) R0 O (y := "through") (by omega) hbl.2 rfl rfl ?_)
        refine X_cons (X_store (l := tbD left) (k := k) (p := .dic (DI (addW (farW (wsum beside) v w) (thrW beside k)))) rfl (.inl rfl)
          (Ev_fn O D2 rfl (.cons (Ev_name (p := .dic (DI (farW (wsum beside) v w))) rfl (.inl rfl)) (ns_name _ _) (.cons (Ev_name (p := .dic (DI (thrW beside k))) rfl (.inl rfl)) (ns_name _ _) .nil)) (fn_add O B D2 R2 _ _ ?_ ?_))
          (Ev_name rfl (.inr ⟨rfl, rfl⟩)) (by rw [tbD_len]; omega) ?_)
        · have := farW_len (wsum beside) v w; omega
        · have : (thrW beside k).length ≤ beside.length := thrG_len _ _ _; have := hbl.1; omega
        rw [← tbD_put]
        exact X_nil (X_nil (.cons rfl (.cons rfl (.cons rfl (.cons rfl .nil)))))
      · have hkv := of_decide_eq_false h
        rw [if_neg hkv]
        exact X_nil (X_nil (.cons rfl (.cons rfl (.cons rfl (.cons rfl .nil)))))
    · have h1 := h "left" _ rfl
      have h2 := h "whole" _ rfl
      rw [tbD_len, List.take_length] at h1
      refine X_freeze_d h1 (X_cons (X_ret (Ev_tuple (.cons (Ev_name (by rw [List.lookup_cons]; exact h2) (.inr ⟨rfl, rfl⟩)) (ns_name _ _) (.cons (Ev_name rfl (.inl rfl)) (ns_name _ _) .nil)) (by simp)) rfl))
end
end Mine
end
section
open PySem PySem.Calls PyProof.Rows PySem.Builtin.Str
set_option linter.unusedVariables false
set_option maxRecDepth 100000
set_option exponentiation.threshold 2000
namespace Mine
def betS (x y : Str) (st : List Int × Tb) (v : Str) : List Int × Tb :=
  if v ≠ x ∧ v ≠ y then (st.1 ++ [wsum ((getA st.2 v).getD [])], struckL st.2 v (wsum ((getA st.2 v).getD [])) ((getA st.2 v).getD [])) else st
def betF (x y : Str) (T : Tb) (k : Nat) : List Int × Tb := (List.range k).foldl (fun st j => betS x y st (chS j)) ([], T)
theorem betF_succ (x y : Str) (T : Tb) (k : Nat) : betF x y T (k + 1) = betS x y (betF x y T k) (chS k) := by unfold betF; rw [List.range_succ, List.foldl_append]; rfl
structure GoodT (T : Tb) (v : Str) : Prop where
  ex : ∃ beside, getA T v = some beside ∧ Sm (wsum beside)
  len : T.length ≤ 1000
  all : ∀ e ∈ T, e.2.length ≤ 400 ∧ ∀ x ∈ e.2, Sm x.2
theorem betF_len (x y : Str) (T : Tb) : ∀ k, (betF x y T k).1.length ≤ k
  | 0 => by simp [betF]
  | k + 1 => by
    have h := betF_len x y T k
    rw [betF_succ]
    unfold betS
    split
    · simp; exact h
    · omega

section
variable {Θ : Wd} {A : Around} {env : Env} {ρ ρf : Rho} {a a2 a3 a61 : Addr} {P : Out → Prop}
theorem abc_at {pre post : List Nat} {c : Nat} (h : ("abcde" : Str).cps.toList = pre ++ c :: post) : pre.length < 5 ∧ c = 97 + pre.length := by
  have hc : ("abcde" : Str).cps.toList[pre.length]? = some c := by rw [h]; simp
  have hl : ("abcde" : Str).cps.toList.length = 5 := by decide
  have hk : pre.length < 5 := by rw [← hl, h]; simp
  have hall : ∀ k, k < 5 → ("abcde" : Str).cps.toList[k]? = some (97 + k) := by decide
  rw [hall _ hk] at hc
  exact ⟨hk, (Option.some.inj hc).symm⟩

theorem fn_between (O : Θ.Ok) (B : Bi Θ) (D2 : Is Θ 2 "add_callers" a2) (D3 : Is Θ 3 "count_calls" a3) (D61 : Is Θ 61 "_law_struck" a61) (D : Is Θ 62 "_law_between" a) (R : Room A 5) (T : Tb) (x y : Str)
    (hg : ∀ k, k < 5 → chS k ≠ x → chS k ≠ y → GoodT (betF x y T k).2 (chS k)) (w : Wg) (last : Int) (hw : getA (betF x y T 5).2 x = some w) (hlast : getW w y = some last) :
    Fn Θ A a [.dic (tbD T), .str x, .str y] (.tup [.lst ((betF x y T 5).1.map PV.int), .int last]) := by
  refine Fn_plain O (k := 4) (xs := ["table", "first", "second"]) D R rfl (fun pm cd doc vs h => ?_) (by decide) (by decide) (fun L cd => ?_)
  · match vs, h with
    | [v, u, z], _ => rfl
  · have R4 : Room (A.deeper (envOf "_law_between" (stS (stAt 62)) L a cd)) 4 := R.deeper
    have R0 := R4.less (j := 0) (by omega)
    refine X_cons (X_new_list (.inl rfl) ?_)
    refine X_cons (X_signs (t := "abcde") (Src_str R0 Ev_str (by decide +kernel)) (.inl rfl) (fun pre => [("wholes", .ol ((betF x y T pre.length).1.map PV.int)), ("table", .sh (.dic (tbD (betF x y T pre.length).2))), ("first", .sh (.str x)), ("second", .sh (.str y))]) ?_ (fun pre c post e => ?_) (fun r h => ?_))
    · exact .cons rfl (.cons rfl (.cons rfl (.cons rfl .nil)))
    · obtain ⟨hk, rfl⟩ := abc_at e
      have hg' := hg pre.length hk
      have hl := betF_len x y T pre.length
      rw [List.length_append, List.length_singleton, betF_succ]
      show X Θ _ _ _ ((("node" : Str), .sh (.str (chS pre.length))) :: _) _
      generalize chS pre.length = v at hg' ⊢
      generalize betF x y T pre.length = st at hg' hl ⊢
      obtain ⟨ws, T'⟩ := st
      refine X_cons (X_if (b := decide (v ≠ x ∧ v ≠ y)) (Tv_is (Tv_and2 (Tv_cmp (Ev_name (p := .str v) rfl (.inl rfl)) (Ev_name (p := .str x) rfl (.inl rfl)) (cmp_ne_str _ _)) (fun _ => Tv_cmp (Ev_name (p := .str v) rfl (.inl rfl)) (Ev_name (p := .str y) rfl (.inl rfl)) (cmp_ne_str _ _))) (by simp)) (fun h => ?_) (fun h => ?_))
      · have hv := of_decide_eq_true h
        have G := hg' hv.1 hv.2
        obtain ⟨beside, hbe, hsm⟩ := G.ex
        have hbe' : getA T' v = some beside := hbe
        have eS : betS x y (ws, T') v = (ws ++ [wsum beside], struckL T' v (wsum beside) beside) := by
          unfold betS
          rw [if_pos hv]
          simp only [hbe', Option.getD_some]
        rw [eS]
        refine X_cons (X_unpack (Ev_fn O D61 rfl (.cons (Ev_name (p := .dic (tbD T')) rfl (.inl rfl)) (ns_name _ _) (.cons (Ev_name (p := .str v) rfl (.inl rfl)) (ns_name _ _) .nil)) (fn_struck O B D2 D3 D61 R4 T' v beside hbe' G.len G.all hsm))
          (As_tup R0 (.cons (As_name (x := "whole") (.inl rfl)) (ns_name _ _) (.cons (As_name (x := "table") (.inl rfl)) (ns_name _ _) .nil))) ?_ (fun _ _ e => by cases e))
        refine X_cons (X_append (l := ws.map PV.int) (p := .int (wsum beside)) rfl (.inl rfl) (Ev_name rfl (.inl rfl)) (ns_name _ _) (by rw [List.length_map]; simp only at hl; omega) ?_)
        refine X_nil (X_nil (.cons ?_ (.cons rfl (.cons rfl (.cons rfl .nil)))))
        rw [List.map_append]; rfl
      · have hv := of_decide_eq_false h
        have eS : betS x y (ws, T') v = (ws, T') := if_neg hv
        rw [eS]
        exact X_nil (X_nil (.cons rfl (.cons rfl (.cons rfl (.cons rfl .nil)))))
    · have e5 : ("abcde" : Str).cps.toList.length = 5 := by decide
      rw [e5] at h
      have h1 := h "wholes" _ rfl
      have h2 := h "table" _ rfl
      have h3 := h "first" _ rfl
      have h4 := h "second" _ rfl
      refine X_freeze_l h1 (X_cons (X_ret (Ev_tuple (.cons (Ev_name rfl (.inl rfl)) (ns_name _ _) (.cons
        (Ev_item_dict (l := DI w) (k := y) (p := .int last) (Hd_ev (Ev_item_dict (l := tbD (betF x y T 5).2) (k := x) (p := .dic (DI w)) (Hd_ev (Ev_name (by rw [List.lookup_cons]; exact h2) (.inl rfl))) (Ev_name (by rw [List.lookup_cons]; exact h3) (.inl rfl)) (by rw [tbD_get, hw]; rfl))) (Ev_name (by rw [List.lookup_cons]; exact h4) (.inl rfl)) (by rw [DI_get, hlast]; rfl)) (fun _ _ e => by cases e) .nil)) (by simp)) rfl))
end
end Mine
end
section
open PySem PySem.Calls PyProof.Rows PySem.Builtin.Str
set_option linter.unusedVariables false
set_option maxRecDepth 100000
set_option exponentiation.threshold 2000
namespace Mine
abbrev Wr := Nat × Nat × Nat
def wrPV (e : Wr) : PV := wirePV e.1 e.2.1 e.2.2
def wrT (k n : Nat) : List Wr := if tM k n ≠ 3 ∧ tF k n ≠ tS k n then [(tF k n, tS k n, tP n)] else []
def wrL (ns : List Nat) : List Wr := ns.zipIdx.flatMap fun e => wrT e.2 e.1
theorem wiresP_wr (ns : List Nat) : wiresP ns = (wrL ns).map wrPV := by
  unfold wiresP wrL
  rw [List.map_flatMap]
  congr 1
  funext e
  unfold wireT wrT
  split <;> rfl
def touch (v : Str) (e : Wr) : Bool := [chS e.1, chS e.2.1].any (· == v)
def widL (wl : List Wr) (v : Str) : List Int := (wl.filter (touch v)).map fun e => 7 + (e.2.2 : Int)
def tabOf (pr : Prof) : Tb := pr.foldl (fun acc e => putA acc e.1 e.2.2.2) []
theorem tabOf_snoc (pr : Prof) (e : Str × Int × Int × Wg) : tabOf (pr ++ [e]) = putA (tabOf pr) e.1 e.2.2.2 := by unfold tabOf; rw [List.foldl_append]; rfl

section
variable {Θ : Wd} {A : Around} {env : Env} {ρ ρ' ρf : Rho} {σ : Get} {s : Shared} {a : Addr} {P : Out → Prop}
theorem AsM_rtup (R : Room A 0) {elts : List PySem.Expr} {k : Nat} {pos : Pos} {ps : List PV} {v : Value} (h : Nms env elts ps ρ ρ') (hv : Rp Θ.prog Θ.w σ v (.tup ps)) : AsM Θ A env (.Tuple elts k pos) v σ s ρ ρ' := fun s₀ σ₀ π m S => by
  obtain ⟨t, items, rfl, ht, hr⟩ := hv.isTuple S.rd.le
  exact AsM_tup R h ht hr _ _ _ _ S

abbrev lwEnv (L a : Addr) (cd : Value) : Env := envOfC "law" (stS (stAt 63)) L a cd
abbrev lwFor : Stmt := (stB (stAt 63)).getD 2 (.Pass default)
abbrev lwSt (k : Nat) : Stmt := (stB (stAt 63)).getD k (.Pass default)

theorem X_widths {L : Addr} {cd : Value} (R0 : Room A 0) {wl : List Wr} {v : Str} (hl : wl.length ≤ 100)
    (h1 : ρ.lookup ("wires" : Str) = some (.sh (.lst (wl.map wrPV)))) (h2 : ρ.lookup ("node" : Str) = some (.sh (.str v)))
    (h : P (.next (("widths", .sh (.lst ((widL wl v).map PV.int))) :: ρ))) : X Θ A (lwEnv L a cd) (exec ((forB lwFor).getD 0 (.Pass default)) (lwEnv L a cd)) ρ P := by
  refine X_assign_lc (ρf := [("node", .sh (.str v))]) (cl := [("node", L + 1)]) (src := Src_list (l := wl.map wrPV) R0 (Ev_name h1 (.inl rfl))) (by rw [List.length_map]; omega) ?_ ?_ rfl (fun i => (widL (wl.take i) v).map PV.int) rfl (fun C i hi u σ s hv => ?_) (.inl rfl) ?_
  · refine ⟨rfl, by decide, rfl, by decide, fun x c hc => ?_, List.pairwise_singleton _ _, rfl⟩
    obtain ⟨rfl, rfl⟩ := Prod.mk.inj (List.mem_singleton.mp hc)
    exact ⟨mem_of_lookup rfl, rfl, rfl⟩
  · intro x b hx
    rw [List.lookup_cons] at hx
    by_cases hxw : x = "node"
    · subst hxw; simp only [beq_self_eq_true] at hx; cases hx; exact ⟨h2, rfl, rfl⟩
    · have hx' : (x == ("node" : Str)) = false := by simpa using hxw
      simp only [hx', List.lookup_nil] at hx; cases hx
  · obtain ⟨p, hp, hr⟩ := hv
    rw [List.getElem?_map] at hp
    obtain ⟨e, he, rfl⟩ : ∃ e, wl[i]? = some e ∧ p = wrPV e := by
      cases q : wl[i]? with
      | none => rw [q] at hp; cases hp
      | some e => rw [q] at hp; cases hp; exact ⟨e, rfl, rfl⟩
    refine ⟨_, touch v e, .int (7 + (e.2.2 : Int)), AsM_rtup R0 (.cons (x := "first") (.inl rfl) (by decide) (.cons (x := "second") (.inl rfl) (by decide) (.cons (x := "width") (.inl rfl) (by decide) .nil))) hr, rfl, ?_,
      Tests_one (Tv_cmp (Ev_name (p := .str v) rfl (.inr ⟨rfl, rfl⟩)) (Ev_tuple (.cons (Ev_name (p := .str (chS e.1)) rfl (.inl rfl)) (ns_name _ _) (.cons (Ev_name (p := .str (chS e.2.1)) rfl (.inl rfl)) (ns_name _ _) .nil)) (by simp)) (cmp_in_strs (ks := [chS e.1, chS e.2.1]))), fun _ => Ev_name rfl (.inl rfl), ?_⟩
    · exact .cons rfl .nil
    · rw [(take_snoc he).1]
      unfold widL
      rw [List.filter_append, List.map_append, List.map_append, List.filter_cons, List.filter_nil]
      cases touch v e <;> simp
  · rw [List.length_map, List.take_length]; exact h
end
end Mine
end
section
open PySem PySem.Calls PyProof.Rows PySem.Builtin.Str
set_option linter.unusedVariables false
set_option maxRecDepth 100000
set_option exponentiation.threshold 2000
namespace Mine
section
variable {Θ : Wd} {A : Around} {env : Env} {ρ ρ' ρf : Rho} {σ : Get} {s : Shared} {a : Addr} {P : Out → Prop}

/-- a, b = e, [] -/
theorem X_new1 {a b : Str} {pa pb pt p2 : Pos} {kt kv : Nat} {e : PySem.Expr} {pv pos : Pos} {p : PV} (R : Room A 0) (he : Ev Θ A env ρ e p) (hns : ∀ x y, e ≠ .Starred x y) (ha : KdS env a) (hb : KdS env b) (hab : a ≠ b)
    (h : P (.next ((a, .sh p) :: (b, .ol []) :: ρ)))
    (hs : swapsWith (.Tuple [e, .List [] p2] kv pv) (some (.Tuple [.Name a pa, .Name b pb] kt pt)) pos.line env = pure false := by rfl)
    (hw : swappedStores [.Tuple [.Name a pa, .Name b pb] kt pt] (.Tuple [e, .List [] p2] kv pv) env = pure (some [a, b]) := by rfl) :
    X Θ A env (exec (.Assign [.Tuple [.Name a pa, .Name b pb] kt pt] (.Tuple [e, .List [] p2] kv pv) pos) env) ρ P := fun s₀ σ₀ π σ s ⟨m, S⟩ => by
  rw [exec_Assign_arm]
  have hs' : swapsWithSole [.Tuple [.Name a pa, .Name b pb] kt pt] (.Tuple [e, .List [] p2] kv pv) pos.line env = pure false := hs
  rw [hs', hw]
  refine wpAny_bind (wpAny_standAt (wpAny_bind (wpAny_pure ?_)))
  simp only [Bool.false_eq_true, if_false]
  refine wpAny_bind ?_
  rw [arm_eval_Tuple]
  refine wpAny_bind (wpAny_standAt (wpAny_bind ?_))
  rw [starEach_cons hns]
  show wpAny _ A (eval e env >>= fun v => (pure [v] : Sem (List Value)) >>= fun here => holding here (eval (.List [] p2) env >>= fun v => (pure [v] : Sem (List Value)) >>= fun here => holding here (spliced []) >>= fun r => pure (here ++ r)) >>= fun r => pure (here ++ r)) _ _ s
  refine wpAny_bind ((he σ s S.rd).then fun v σ₁ s₁ x₁ hv => ?_)
  have S₁ := S.ext x₁
  refine wpAny_bind (wpAny_pure (wpAny_bind (wpAny_holding ?_)))
  refine wpAny_bind (eval_list0 ?_)
  refine wpAny_bind (wpAny_pure (wpAny_bind (wpAny_holding (spliced_nil (wpAny_pure (wpAny_pure ?_))))))
  have z1 : (s₁.heap.push { cls := .type "list", data := .seq #[] }).objs.size = s₁.heap.objs.size + 1 := Heap.size_push ..
  have k1 : Sub s₁.heap.get? (s₁.heap.push { cls := .type "list", data := .seq #[] }).get? := push_keep _ _
  have o1 : (s₁.heap.push { cls := .type "list", data := .seq #[] }).PlainList s₁.heap.objs.size #[] := ⟨0, Heap.get?_push_size _ rfl⟩
  show wpAny _ A (newTuple [v, .ref s₁.heap.objs.size]) _ _ _
  generalize (s₁.heap.push { cls := .type "list", data := .seq #[] }) = h₁ at z1 k1 o1 ⊢
  refine wpAny_newTuple ?_ (by show 2 ≤ sizeLine; decide)
  have xall : Ext σ₁ s₁ σ₁ { s₁ with heap := h₁.push { cls := .type "tuple", data := .seq [v, .ref s₁.heap.objs.size].toArray } } := Ext.heap S₁.le (k1.trans (push_keep _ _)) s₁.toks
  have S' := S₁.ext xall
  obtain ⟨items, hit, ht⟩ : ∃ items : Array Value, items.toList = [v, .ref s₁.heap.objs.size] ∧ (h₁.push { cls := .type "tuple", data := .seq [v, .ref s₁.heap.objs.size].toArray }).IsTuple h₁.objs.size items := ⟨_, rfl, ⟨_, Heap.get?_push_size _ rfl, rfl, _, rfl⟩⟩
  refine wpAny_bind (wpAny_pure ?_)
  show wpAny _ A (do
    rule "assign.swapped-stores"
    let items ← unpackItems (.ref h₁.objs.size) 2 none
    assignInOrder ([bindName env b, bindName env a]) items.reverse
    (pure Flow.next : Sem Flow)) _ _ _
  refine wpAny_bind (wpAny_rule (wpAny_bind ?_))
  have en : items.size = 2 := by rw [← Array.length_toList, hit]; rfl
  rw [← en]
  refine wpAny_unpackItems_tuple R.handled ht fun h' hx => ?_
  rw [hit]
  have kx := sub_extBut hx
  have S'' := S'.ext (Ext.heap S'.rd.le kx s₁.toks)
  have p1 : h'.PlainList s₁.heap.objs.size #[] := o1.at fun o e => kx _ o (push_keep _ _ _ o e)
  have nd : s₁.heap.get? s₁.heap.objs.size = none := get?_size _
  refine wpAny_bind (assignInOrder_cons (wpAny_bindName (S''.put hb (.ol (none_of_sub S₁.le nd) p1 .nil) (fun _ d e => by
    cases e
    refine ⟨⟨none_of_sub S₁.πle nd, fun e => ?_, fun y c hc e => ?_⟩, fun y c e o _ q => ?_⟩
    · obtain ⟨_, ⟨o, _, _, ho, _⟩, _⟩ := S₁.fs.ns; rw [← e, nd] at ho; cases ho
    · obtain ⟨o, ho, _⟩ := S₁.fs.cell y c hc; rw [e, nd] at ho; cases ho
    · obtain ⟨u, h1, h2, _⟩ := S₁.b y c e
      rw [q] at h1; cases h1
      cases h2 with
      | sh => cases o
      | od n hd lo hk => obtain ⟨o', _, _, ho, _⟩ := hd; rw [nd] at ho; cases ho
      | ol n hd hk => obtain ⟨_, ho⟩ := hd; rw [nd] at ho; cases ho) fun s₃ M₃ => ?_)))
  refine assignInOrder_cons (wpAny_bindName (M₃.put ha (.sh hv) (fun o => by cases o) fun s₄ M₄ => assignInOrder_nil (wpAny_pure ?_)))
  exact ⟨_, σ₁, h, x₁.sub, _, M₄⟩

/-- len(own list) -/
theorem Ev_len_own (O : Θ.Ok) {x : Str} {px p pos : Pos} {l : List PV} (hf : Θ.gv "len" = some (.builtin "len")) (hk : env.kindOf "len" = some .globalImplicit) (hr : ρ.lookup x = some (.ol l)) (hx : Kd env x) (hsz : l.length ≤ 1000000) (hd : (x == ("__debug__" : Str)) = false := by decide) :
    Ev Θ A env ρ (.Call (.Name "len" p) [.Name x px] [] pos) (.int (l.length : Int)) := fun σ s R => by
  rw [arm_eval_Call_Name']
  refine wpAny_bind (name_global O R hk hf ?_)
  refine PySem.W.callWith_of (P := fun _ => True) rfl (fun _ _ => kept_builtin) (evalArgs_plain ?_)
  show wpAny _ _ (eval (.Name x px) env >>= fun v => (pure [v] : Sem (List Value)) >>= fun here => holding here (spliced []) >>= fun r => pure (here ++ r)) _ _ s
  obtain ⟨m, F, hb⟩ := R.m
  obtain ⟨v, hv, hp⟩ := hb x _ hr
  cases hp with
  | ol a b c =>
    refine wpAny_bind (wpAny_Name (name_local F hx hv ?_) hd)
    refine wpAny_bind (wpAny_pure (wpAny_bind (wpAny_holding (spliced_nil (wpAny_pure ⟨trivial, ?_⟩)))))
    have el := c.length
    rw [Array.length_toList] at el
    refine PyProof.Rows.len_list b.isList (by rw [el]; omega) ?_
    rw [el]
    exact ⟨σ, .tok R.le _, .int _ _⟩

theorem PD_at {pr : Prof} {i : Nat} {k : Str} {p : PV} (h : (PD pr)[i]? = some (k, p)) : ∃ e, pr[i]? = some (k, e) ∧ p = entP e := by
  unfold PD at h
  rw [List.getElem?_map] at h
  cases e : pr[i]? with
  | none => rw [e] at h; cases h
  | some x => rw [e] at h; cases h; exact ⟨x.2, rfl, rfl⟩

theorem X_table (O : Θ.Ok) {L : Addr} {cd : Value} (R0 : Room A 0) {pr : Prof} (hl : pr.length ≤ 100)
    (h1 : ρ.lookup ("profile" : Str) = some (.sh (.dic (PD pr))))
    (h : P (.next (("table", .sh (.dic (tbD (tabOf pr)))) :: ρ))) : X Θ A (lwEnv L a cd) (exec (lwSt 3) (lwEnv L a cd)) ρ P := by
  refine X_assign_dc O (ρf := []) (src := Src_items (l := PD pr) R0 (Ev_name h1 (.inl rfl))) (by rw [PD_len]; omega) (clo_nil rfl (by decide) rfl (by decide) rfl) free_nil rfl (fun i => tbD (tabOf (pr.take i))) rfl (fun C i hi u σ s hv => ?_) (.inl rfl) ?_
  · obtain ⟨T, items, k, p, rfl, ht, hp, hr⟩ := hv
    obtain ⟨e, he, rfl⟩ := PD_at hp
    refine ⟨_, true, k, .dic (DI e.2.2), AsM_tup R0 (.cons (x := "node") (.inl rfl) (by decide) (.cons (x := "entry") (.inl rfl) (by decide) .nil)) ht hr, rfl, Le.nil, Tests_nil, fun _ => ⟨Ev_name rfl (.inl rfl), Ev_item_tup (k := 4) (Ev_name (p := entP e) rfl (.inl rfl)) Ev_int (by decide) rfl⟩, ?_⟩
    rw [if_pos rfl, (take_snoc he).1, tabOf_snoc, tbD_put]
  · rw [PD_len, List.take_length]; exact h
end
end Mine
end
section
open PySem PySem.Calls PyProof.Rows PySem.Builtin.Str
set_option linter.unusedVariables false
set_option maxRecDepth 100000
set_option exponentiation.threshold 2000
namespace Mine
structure ChkOK (wl : List Wr) (pr : Prof) (v : Str) : Prop where
  ex : ∃ w, getA pr v = some (((widL wl v).length : Int), (widL wl v).sum, w) ∧ wsum w = (widL wl v).sum

def ltS (x y : Str) : Bool := decide (x.cps.toList < y.cps.toList)
def cIn (M : Str → Str → Int) (near : Str) (w : Wg) : Int := ((w.filter fun o => ltS near o.1).map fun o => o.2 * M near o.1).sum
def kIn (near : Str) (w : Wg) : Nat := (w.filter fun o => ltS near o.1).length
def cOut (M : Str → Str → Int) (T : Tb) : Int := (T.map fun e => cIn M e.1 e.2).sum
def kOut (T : Tb) : Nat := (T.map fun e => kIn e.1 e.2).sum
theorem cIn_snoc (M : Str → Str → Int) (near : Str) (w : Wg) (o : Str × Int) : cIn M near (w ++ [o]) = cIn M near w + if ltS near o.1 = true then o.2 * M near o.1 else 0 := by
  unfold cIn
  rw [List.filter_append, List.map_append, List.sum_append_int, List.filter_cons, List.filter_nil]
  split <;> simp
theorem kIn_snoc (near : Str) (w : Wg) (o : Str × Int) : kIn near (w ++ [o]) = kIn near w + if ltS near o.1 = true then 1 else 0 := by
  unfold kIn
  rw [List.filter_append, List.length_append, List.filter_cons, List.filter_nil]
  split <;> simp
theorem cOut_snoc (M : Str → Str → Int) (T : Tb) (e : Str × Wg) : cOut M (T ++ [e]) = cOut M T + cIn M e.1 e.2 := by
  unfold cOut; simp
theorem kOut_snoc (T : Tb) (e : Str × Wg) : kOut (T ++ [e]) = kOut T + kIn e.1 e.2 := by
  unfold kOut; simp
theorem kIn_le (near : Str) (w : Wg) : kIn near w ≤ w.length := List.length_filter_le _ _
theorem kOut_le (T : Tb) (h : ∀ e ∈ T, e.2.length ≤ 100) : kOut T ≤ T.length * 100 := by
  induction T with
  | nil => exact Nat.zero_le _
  | cons e r ih =>
    have h1 := ih fun x hx => h x (List.mem_cons_of_mem _ hx)
    have h2 := Nat.le_trans (kIn_le e.1 e.2) (h e (List.mem_cons_self ..))
    unfold kOut at h1 ⊢
    rw [List.map_cons, List.sum_cons, List.length_cons]
    omega

/-- what the law finds between two nodes -/
structure PairOK (T : Tb) (T0 : Int) (M : Str → Str → Int) (x y : Str) (load : Int) : Prop where
  good : ∀ k, k < 5 → chS k ≠ x → chS k ≠ y → GoodT (betF x y T k).2 (chS k)
  nums : ∃ one two three last w, (betF x y T 5).1 = [one, two, three] ∧ getA (betF x y T 5).2 x = some w ∧ getW w y = some last ∧ one ≠ 0 ∧ one * one * two ≠ 0 ∧ Sm one ∧ Sm two ∧ Sm (one * one) ∧ (one * one * two).natAbs < 2 ^ 1000 ∧
    three.fmod one = 0 ∧ last.fmod (one * one * two) = 0 ∧ three.fdiv one = M x y ∧ last.fdiv (one * one * two) = T0
  load : Sm load
  m : Sm (M x y)

section
variable {Θ : Wd} {A : Around} {env : Env} {ρ ρ' ρf : Rho} {σ : Get} {s : Shared} {a a3 a62 : Addr} {P : Out → Prop}
def ρ1 (wl : List Wr) (pr : Prof) : Rho := [("wires", .sh (.lst (wl.map wrPV))), ("profile", .sh (.dic (PD pr)))]

theorem X_check (O : Θ.Ok) (B : Bi Θ) (D3 : Is Θ 3 "count_calls" a3) {L : Addr} {cd : Value} (R2 : Room A 2) {wl : List Wr} {pr : Prof} (hl : wl.length ≤ 100) (hc : ∀ k, k < 5 → ChkOK wl pr (chS k))
    (h1 : ρ.lookup ("wires" : Str) = some (.sh (.lst (wl.map wrPV)))) (h2 : ρ.lookup ("profile" : Str) = some (.sh (.dic (PD pr))))
    (h : ∀ r, Le (ρ1 wl pr) r → P (.next r)) : X Θ A (lwEnv L a cd) (exec lwFor (lwEnv L a cd)) ρ P := by
  have R0 : Room A 0 := R2.less (by omega)
  refine X_signs (t := "abcde") (Src_str R0 Ev_str (by decide +kernel)) (.inr ⟨rfl, rfl, rfl⟩) (fun _ => ρ1 wl pr) (.cons h1 (.cons h2 .nil)) (fun pre c post e => ?_) (fun r hr => h r hr)
  obtain ⟨hk, rfl⟩ := abc_at e
  obtain ⟨w, hw, hs⟩ := (hc _ hk).ex
  show X Θ _ _ _ ((("node" : Str), .sh (.str (chS pre.length))) :: _) _
  generalize chS pre.length = v at hw hs ⊢
  refine X_cons (X_widths R0 (v := v) hl rfl rfl ?_)
  have hwl : (widL wl v).length ≤ 100 := by unfold widL; rw [List.length_map]; have := List.length_filter_le (touch v) wl; omega
  have pv : ∀ {ρ : Rho}, ρ.lookup ("profile" : Str) = some (.sh (.dic (PD pr))) → ρ.lookup ("node" : Str) = some (.sh (.str v)) → ∀ {p1 p2 p3}, Ev Θ A (lwEnv L a cd) ρ (.Subscript (.Name "profile" p1) (.Name "node" p2) p3) (entP (((widL wl v).length : Int), (widL wl v).sum, w)) := fun q1 q2 _ _ _ =>
    Ev_item_dict (l := PD pr) (k := v) (Hd_ev (Ev_name q1 (.inl rfl))) (Ev_name q2 (.inr ⟨rfl, rfl⟩)) (by rw [PD_get, hw]; rfl)
  refine X_cons (X_if (b := false) (Tv_is (Tv_or2 (a := false) (b := false) (Tv_is (Tv_cmp (Ev_tup_upto (n := 2) (pv rfl rfl) Ev_int (by simp) (by simp))
    (Ev_tuple (.cons (Ev_len_list (l := (widL wl v).map PV.int) O B.len rfl (Ev_name rfl (.inl rfl)) (ns_name _ _) (by rw [List.length_map]; omega)) (fun _ _ e => by cases e) (.cons (Ev_sum O R0 B.sum rfl (Ev_name rfl (.inl rfl)) (ns_name _ _)) (fun _ _ e => by cases e) .nil)) (by simp))
    (cmp_ne_ints R0 [((widL wl v).length : Int), (widL wl v).sum] [(((widL wl v).map PV.int).length : Int), (widL wl v).sum])) ?_)
    (fun _ => Tv_is (Tv_cmp (Ev_fn O D3 rfl (.cons (Ev_item_tup (k := 4) (p := .dic (DI w)) (pv rfl rfl) Ev_int (by decide) rfl) (fun _ _ e => by cases e) .nil) (fn_count O D3 R2 w)) (Ev_sum O R0 B.sum rfl (Ev_name rfl (.inl rfl)) (ns_name _ _)) (cmp_ne_int _ _)) ?_)) rfl) (fun h => by cases h) (fun _ => ?_))
  · rw [List.length_map]; simp
  · rw [hs]; simp
  exact X_nil (X_nil (.cons rfl (.cons rfl .nil)))

def ρo (M : Str → Str → Int) (T0 : Int) (T : Tb) (c : Int) (k : Nat) : Rho := [("carried", .sh (.int c)), ("trees", .ol ((List.replicate k T0).map PV.int)), ("table", .sh (.dic (tbD T)))]

theorem X_inner (O : Θ.Ok) (B : Bi Θ) {a2 a61 : Addr} (D2 : Is Θ 2 "add_callers" a2) (D3 : Is Θ 3 "count_calls" a3) (D61 : Is Θ 61 "_law_struck" a61) (D62 : Is Θ 62 "_law_between" a62) {L : Addr} {cd : Value} (R : Room A 5) {T : Tb} {T0 : Int} {M : Str → Str → Int} {near : Str} {w : Wg} {c : Int} {k : Nat}
    (hk : k ≤ 10000) (hw : w.length ≤ 100) (hp : ∀ o ∈ w, ltS near o.1 = true → PairOK T T0 M near o.1 o.2)
    (h1 : ρ.lookup ("callers" : Str) = some (.sh (.dic (DI w)))) (h2 : ρ.lookup ("near" : Str) = some (.sh (.str near))) (h3 : Le (ρo M T0 T c k) ρ)
    (h : ∀ r, Le (ρo M T0 T (c + cIn M near w) (k + kIn near w)) r → P (.next r)) : X Θ A (lwEnv L a cd) (exec ((forB (lwSt 5)).getD 0 (.Pass default)) (lwEnv L a cd)) ρ P := by
  have R0 : Room A 0 := R.less (by omega)
  refine X_items (l := DI w) R0 (Src_items R0 (Ev_name h1 (.inl rfl))) (.inl rfl) (.inl rfl) (fun pre => ("near", .sh (.str near)) :: ρo M T0 T (c + cIn M near (w.take pre.length)) (k + kIn near (w.take pre.length))) ?_ (fun pre x p post e => ?_) (fun r hr => ?_)
  · refine .cons h2 ?_
    show Le (ρo M T0 T (c + 0) (k + 0)) ρ
    rw [Int.add_zero]; exact h3
  · have hget : (DI w)[pre.length]? = some (x, p) := by rw [e]; simp
    obtain ⟨n, hn, rfl⟩ := DI_at hget
    have eC := cIn_snoc M near (w.take pre.length) (x, n)
    have eK := kIn_snoc near (w.take pre.length) (x, n)
    rw [← (take_snoc hn).1] at eC eK
    rw [List.length_append, List.length_singleton, eC, eK]
    have hkl : kIn near (w.take pre.length) ≤ 100 := Nat.le_trans (kIn_le _ _) (by rw [List.length_take]; omega)
    have hpx := hp _ (List.mem_of_getElem? hn)
    simp only at hpx
    generalize cIn M near (w.take pre.length) = c1
    generalize kIn near (w.take pre.length) = k1 at hkl ⊢
    clear hget e eC eK
    refine X_cons (X_if (b := ltS near x) (Tv_cmp (Ev_name (p := .str near) rfl (.inl rfl)) (Ev_name (p := .str x) rfl (.inl rfl)) (cmp_lt_str _ _)) (fun hb => ?_) (fun hb => ?_))
    · have PO := hpx hb
      obtain ⟨one, two, three, last, wl, q1, q2, q3, q4, q5, q6, q7, q8, q9, q10, q11, q12, q13⟩ := PO.nums
      simp only [hb, if_true]
      refine X_cons (X_unpack (Ev_fn O D62 rfl (.cons (Ev_name (p := .dic (tbD T)) rfl (.inl rfl)) (ns_name _ _) (.cons (Ev_name (p := .str near) rfl (.inl rfl)) (ns_name _ _) (.cons (Ev_name (p := .str x) rfl (.inl rfl)) (ns_name _ _) .nil))) (fn_between O B D2 D3 D61 D62 R T near x PO.good wl last q2 q3))
        (As_tup R0 (.cons (As_lst R0 (by rw [q1]; exact .cons (As_name (x := "one") (.inl rfl)) (ns_name _ _) (.cons (As_name (x := "two") (.inl rfl)) (ns_name _ _) (.cons (As_name (x := "three") (.inl rfl)) (ns_name _ _) .nil)))) (fun _ _ e => by cases e) (.cons (As_name (x := "last") (.inl rfl)) (ns_name _ _) .nil))) ?_ (fun _ _ e => by cases e))
      have prod : ∀ {ρ : Rho}, ρ.lookup ("one" : Str) = some (.sh (.int one)) → ρ.lookup ("two" : Str) = some (.sh (.int two)) → ∀ {p1 p2 p3 p4 p5}, Ev Θ A (lwEnv L a cd) ρ (.BinOp (.BinOp (.Name "one" p1) .Mult (.Name "one" p2) p3) .Mult (.Name "two" p4) p5) (.int (one * one * two)) := fun e1 e2 _ _ _ _ _ =>
        Ev_bin (Ev_bin (Ev_name e1 (.inl rfl)) (Ev_name e1 (.inl rfl)) (bin_mul q6 q6)) (Ev_name e2 (.inl rfl)) (bin_mul q8 q7)
      have one1 : one.natAbs < 2 ^ 1000 := q6
      refine X_cons (X_if (b := false) (Tv_is (Tv_or2 (a := false) (b := false) (Tv_is (Tv_ev (Ev_bin (Ev_name (p := .int three) rfl (.inl rfl)) (Ev_name (p := .int one) rfl (.inl rfl)) (bin_mod q4)) (tr_int _)) (by rw [q10]; rfl))
        (fun _ => Tv_is (Tv_ev (Ev_bin (Ev_name (p := .int last) rfl (.inl rfl)) (prod rfl rfl) (bin_mod q5)) (tr_int _)) (by rw [q11]; rfl))) rfl) (fun h => by cases h) (fun _ => ?_))
      refine X_nil ?_
      refine X_cons (X_assign (p := .int (c + c1 + n * M near x)) (Ev_is (Ev_bin (Ev_name (p := .int (c + c1)) rfl (.inl rfl)) (Ev_bin (Ev_name (p := .int n) rfl (.inl rfl)) (Ev_is (Ev_bin (Ev_name (p := .int three) rfl (.inl rfl)) (Ev_name (p := .int one) rfl (.inl rfl)) (bin_div q4 one1)) (congrArg PV.int q12)) (bin_mul PO.load PO.m)) (bin_add _ _)) rfl) (.inl rfl) ?_)
      refine X_cons (X_append (l := (List.replicate (k + k1) T0).map PV.int) (p := .int T0) rfl (.inl rfl) (Ev_is (Ev_bin (Ev_name (p := .int last) rfl (.inl rfl)) (prod rfl rfl) (bin_div q5 q9)) (congrArg PV.int q13)) (fun _ _ e => by cases e) (by rw [List.length_map, List.length_replicate]; omega) ?_)
      refine X_nil (X_nil (.cons rfl (.cons ?_ (.cons ?_ (.cons rfl .nil)))))
      · rw [← Int.add_assoc]; rfl
      · rw [← Nat.add_assoc, List.replicate_succ', List.map_append]; rfl
    · simp only [hb, if_neg (show ¬ (false = true) by decide)]
      rw [Int.add_zero, Nat.add_zero]
      exact X_nil (X_nil (.cons rfl (.cons rfl (.cons rfl (.cons rfl .nil)))))
  · rw [DI_len, List.take_length] at hr
    exact h r fun y b e => hr y b (by
      rw [List.lookup_cons]
      have : (y == ("near" : Str)) = false := by
        cases hy : y == ("near" : Str) with
        | false => rfl
        | true =>
          rw [beq_iff_eq] at hy
          subst hy
          have e' : (none : Option Bd) = some b := e
          cases e'
      rw [this]; exact e)
end
end Mine
end
section
open PySem PySem.Calls PyProof.Rows PySem.Builtin.Str
set_option linter.unusedVariables false
set_option maxRecDepth 100000
set_option exponentiation.threshold 2000
namespace Mine
structure LawOK (ns : List Nat) : Prop where
  nlen : ns.length ≤ 40
  wl : (wrL ns).length ≤ 100
  chk : ∀ k, k < 5 → ChkOK (wrL ns) (prof ns) (chS k)
  tlen : (tabOf (prof ns)).length ≤ 100
  wlen : ∀ e ∈ tabOf (prof ns), e.2.length ≤ 100
  fin : ∃ T0 M, (∀ e ∈ tabOf (prof ns), ∀ o ∈ e.2, ltS e.1 o.1 = true → PairOK (tabOf (prof ns)) T0 M e.1 o.1 o.2) ∧ 1 ≤ kOut (tabOf (prof ns)) ∧ cOut M (tabOf (prof ns)) = 4 * T0 ∧ Sm T0

section
variable {Θ : Wd} {A : Around} {a a1 a2 a3 a6 a7 a8 a59 a60 a61 a62 : Addr}
theorem fn_law (O : Θ.Ok) (B : Bi Θ) (T : Glob Θ "TICK" (.str tickS)) (T2 : Glob Θ "EXACT_TOKEN_TYPES" (.dic (DI tokW))) (D1 : Is Θ 1 "add_func_stats" a1) (D2 : Is Θ 2 "add_callers" a2) (D3 : Is Θ 3 "count_calls" a3)
    (D6 : Is Θ 6 "_iter_escaped_chars" a6) (D7 : Is Θ 7 "_strip_quoted_realnames" a7) (D8 : Is Θ 8 "decode_rfc2231" a8) (D59 : Is Θ 59 "_law_drawn" a59) (D60 : Is Θ 60 "_law_profile" a60) (D61 : Is Θ 61 "_law_struck" a61) (D62 : Is Θ 62 "_law_between" a62)
    (D : Is Θ 63 "law" a) (R : Room A 6) (script : List Int) (hlen : script.length ≤ 100) (W : LawOK (nums7 script)) : FnC Θ A a [.lst (script.map PV.int)] (.bool true) := by
  refine FnC_cells O (k := 5) (xs := ["script"]) D R rfl (fun pm cd doc vs h => ?_) (fun L x hx => ?_) (by decide) (fun L y c hc => ?_) (fun L cd => ?_)
  · match vs, h with
    | [v], _ => rfl
  · rw [List.mem_singleton.mp hx]; exact .inl rfl
  · have hc' : (y, c) ∈ [(("node" : Str), L + 1)] := hc
    obtain ⟨rfl, rfl⟩ := Prod.mk.inj (List.mem_singleton.mp hc')
    exact ⟨rfl, rfl⟩
  · have R5 : Room (A.deeper (lwEnv L a cd)) 5 := R.deeper
    have R0 := R5.less (j := 0) (by omega)
    have R2 := R5.less (j := 2) (by omega)
    have R3 := R5.less (j := 3) (by omega)
    have R4 := R5.less (j := 4) (by omega)
    have hpl : (prof (nums7 script)).length ≤ 100 := by
      have h1 := (PBd.prof (nums7 script)).len
      have h2 := W.nlen
      omega
    obtain ⟨T0, M, hpair, hk1, hsum, hT0⟩ := W.fin
    refine X_cons (X_unpack (Ev_fn O D59 rfl (.cons (Ev_name (p := .lst (script.map PV.int)) rfl (.inl rfl)) (ns_name _ _) .nil) (fn_drawn O B D59 R3 script hlen)) (As_tup R0 (.cons (As_name (x := "lines") (.inl rfl)) (ns_name _ _) (.cons (As_name (x := "wires") (.inl rfl)) (ns_name _ _) .nil))) ?_ (fun _ _ e => by cases e))
    refine X_cons (X_assign (Ev_fn O D60 rfl (.cons (Ev_name (p := .lst (linesP (nums7 script))) rfl (.inl rfl)) (ns_name _ _) .nil) (fn_profile O B T T2 D1 D2 D6 D7 D8 D60 R4 (nums7 script) W.nlen)) (.inl rfl) ?_)
    rw [wiresP_wr]
    refine X_cons (X_check O B D3 R2 W.wl W.chk rfl rfl (fun r hr => ?_))
    refine X.less ?_ hr
    refine X_cons (X_table O R0 hpl rfl ?_)
    refine X_cons (X_new1 R0 Ev_int (fun _ _ e => by cases e) (.inl rfl) (.inl rfl) (by decide) ?_)
    generalize hTb : tabOf (prof (nums7 script)) = Tb at hpair hk1 hsum ⊢
    have hwl : ∀ e ∈ Tb, e.2.length ≤ 100 := by rw [← hTb]; exact W.wlen
    have htl : Tb.length ≤ 100 := by rw [← hTb]; exact W.tlen
    have hko := kOut_le Tb hwl
    refine X_cons (X_items (l := tbD Tb) R0 (Src_items R0 (Ev_name (p := .dic (tbD Tb)) rfl (.inl rfl))) (.inl rfl) (.inl rfl) (fun pre => ρo M T0 Tb (cOut M (Tb.take pre.length)) (kOut (Tb.take pre.length))) ?_ (fun pre x p post e => ?_) (fun r h => ?_))
    · exact .cons rfl (.cons rfl (.cons rfl .nil))
    · have hget : (tbD Tb)[pre.length]? = some (x, p) := by rw [e]; simp
      obtain ⟨w, hw, rfl⟩ := tbD_at hget
      have hmem := List.mem_of_getElem? hw
      have eC := cOut_snoc M (Tb.take pre.length) (x, w)
      have eK := kOut_snoc (Tb.take pre.length) (x, w)
      rw [← (take_snoc hw).1] at eC eK
      rw [List.length_append, List.length_singleton, eC, eK]
      have hkl : kOut (Tb.take pre.length) ≤ 10000 := by
        have h1 := kOut_le (Tb.take pre.length) fun e he => hwl e (List.mem_of_mem_take he)
        have h2 : (Tb.take pre.length).length ≤ Tb.length := by rw [List.length_take]; omega
        omega
      refine X_cons (X_inner O B D2 D3 D61 D62 R5 (T := Tb) (T0 := T0) (M := M) (near := x) (w := w) hkl (hwl _ hmem) (fun o ho hlt => hpair _ hmem o ho hlt) rfl rfl (.cons rfl (.cons rfl (.cons rfl .nil))) (fun r hr => X_nil hr))
    · rw [tbD_len, List.take_length] at h
      have h1 := h "carried" _ rfl
      have h2 := h "trees" _ rfl
      obtain ⟨k, hk⟩ : ∃ k, kOut Tb = k + 1 := ⟨kOut Tb - 1, by omega⟩
      rw [hk] at h2
      have hkb : k + 1 ≤ 10000 := by omega
      have first : ∀ {p1 p2 k' p3}, Ev Θ (A.deeper (lwEnv L a cd)) (lwEnv L a cd) r (.Subscript (.Name "trees" p1) (.Constant (.int 0) k' p2) p3) (.int T0) := fun {_ _ _ _} =>
        Ev_item_list (l := (List.replicate (k + 1) T0).map PV.int) (k := 0) (Hl_own h2 (.inl rfl)) Ev_int (by decide) (by decide) (by rw [List.replicate_succ]; rfl)
      refine X_cons (X_ret (Ev_is (Ev_bool2 (p := .bool true) (q := .bool true) (a := true) (Ev_is (Ev_cmp (Ev_count (l := List.replicate (k + 1) T0) h2 (.inl rfl) first (fun _ _ e => by cases e)) (Ev_len_own O B.len rfl h2 (.inl rfl) (by rw [List.length_map, List.length_replicate]; omega)) (cmp_eq_int _ _)) ?_) (TrOk.bool true)
        (fun _ => Ev_is (Ev_cmp (Ev_name h1 (.inl rfl)) (Ev_bin (Ev_int (i := 4)) first (bin_mul (by unfold Sm; decide) hT0)) (cmp_eq_int _ _)) ?_) rfl) (by simp)) rfl)
      · rw [List.length_map, List.length_replicate, List.countP_replicate]; simp
      · rw [hsum]; simp
end
end Mine
end
section
open PySem PySem.Calls PyProof.Rows PySem.Builtin.Str
set_option linter.unusedVariables false
set_option maxRecDepth 100000
namespace Mine
def tokL : List (Str × Tok × Int × Tok) := ([("!", 357, 54, 355), ("!=", 359, 28, 303), ("%", 361, 24, 295), ("%=", 363, 40, 327), ("&", 365, 19, 285), ("&=", 367, 41, 329), ("(", 369, 7, 261), (")", 371, 8, 263), ("*", 373, 16, 279), ("**", 375, 35, 317), ("**=", 377, 46, 339), ("*=", 379, 38, 323), ("+", 381, 14, 275), ("+=", 383, 36, 319), (",", 385, 12, 271), ("-", 387, 15, 277), ("-=", 389, 37, 321), ("->", 391, 51, 349), (".", 393, 23, 293), ("...", 395, 52, 351), ("/", 397, 17, 281), ("//", 399, 47, 341), ("//=", 401, 48, 343), ("/=", 403, 39, 325), (":", 405, 11, 269), (":=", 407, 53, 353), (";", 409, 13, 273), ("<", 411, 20, 287), ("<<", 413, 33, 313), ("<<=", 415, 44, 335), ("<=", 417, 29, 305), ("=", 419, 22, 291), ("==", 421, 27, 301), (">", 423, 21, 289), (">=", 425, 30, 307), (">>", 426, 34, 315), (">>=", 427, 45, 337), ("@", 428, 49, 345), ("@=", 429, 50, 347), ("[", 430, 9, 265), ("]", 431, 10, 267), ("^", 432, 32, 311), ("^=", 433, 43, 333), ("{", 434, 25, 297), ("|", 435, 18, 283), ("|=", 436, 42, 331), ("}", 437, 26, 299), ("~", 438, 31, 309)] : List (String × Tok × Int × Tok)).map fun e => (Str.ofString e.1, e.2)
def entL (P : Params) (L : List (Str × Tok × Int × Tok)) : List DictEntry := L.map fun e => ⟨PyData.keyHash P e.1, .str e.1 e.2.1, .int e.2.2.1 e.2.2.2⟩
def kvL (L : List (Str × Tok × Int × Tok)) : List (Str × Value) := L.map fun e => (e.1, .int e.2.2.1 e.2.2.2)
theorem ent_pairs {prog : Program} {w : World} (L : List (Str × Tok × Int × Tok)) : Pairs (PySem.strKind prog w) (entL w.params L) (kvL L) := by
  induction L with
  | nil => exact .nil
  | cons e r ih => exact .cons (strKind_is _ _ _ _) rfl ih
theorem ent_keys {prog : Program} {w : World} (L : List (Str × Tok × Int × Tok)) : KeysOf (PySem.strKind prog w) (entL w.params L).toArray := by
  intro e he
  have he' : e ∈ entL w.params L := by simpa using he
  obtain ⟨x, _, rfl⟩ := List.mem_map.mp he'
  exact ⟨x.1, strKind_is _ _ _ _, rfl⟩
theorem ent_rpk {prog : Program} {w : World} {σ : Get} (L : List (Str × Tok × Int × Tok)) : Rpk prog w σ (kvL L) (DI (L.map fun e => (e.1, e.2.2.1))) := by
  induction L with
  | nil => exact .nil
  | cons e r ih => exact .cons (.int _ _) ih
theorem tokL_W : (tokL.map fun e => (e.1, e.2.2.1)) = tokW := by decide +kernel
theorem tokL_nodup : ((kvL tokL).map (·.1)).Nodup := by
  have e : (kvL tokL).map (·.1) = tokL.map (·.1) := by unfold kvL; rw [List.map_map]; rfl
  rw [e]; decide +kernel
theorem tok_rp {prog : Program} {w : World} {h : Heap} {a : Addr} {n : Nat} (ho : h.get? a = some { cls := .type "dict", data := .dict (entL w.params tokL).toArray n }) (lo : (a == sysModules) = false) : Rp prog w h.get? (.ref a) (.dic (DI tokW)) := by
  rw [← tokL_W]
  exact .dic ho ⟨_, n, ⟨rfl, rfl, rfl⟩, rfl, ent_keys _, ent_pairs _, tokL_nodup⟩ lo (ent_rpk _)
end Mine
end
section
open PySem PySem.Calls PyProof.Rows PySem.Builtin.Str
set_option linter.unusedVariables false
set_option maxRecDepth 100000
namespace Mine
/-- what the top leaves -/
structure Tops (Θ : Wd) : Prop where
  ok : Θ.Ok
  none : ∀ x : Str, x = "isinstance" ∨ x = "tuple" ∨ x = "int" ∨ x = "len" ∨ x = "sum" ∨ x = "enumerate" → Θ.mg x = Option.none
  boot : ∀ x : Str, x ≠ "__name__" → Θ.mb x = bootBuiltins x
  tick : ∃ t, Θ.mg "TICK" = some (.str tickS t)
  toks : ∃ a n, Θ.mg "EXACT_TOKEN_TYPES" = some (.ref a) ∧ (a == sysModules) = false ∧ Θ.hb.get? a = some { cls := .type "dict", data := .dict (entL Θ.w.params tokL).toArray n }
section
variable {Θ : Wd}
theorem Tops.gv {Θ : Wd} (T : Tops Θ) {x : Str} {v : Value} (h : x = "isinstance" ∨ x = "tuple" ∨ x = "int" ∨ x = "len" ∨ x = "sum" ∨ x = "enumerate") (hn : x ≠ "__name__") (hb : bootBuiltins x = some v) : Θ.gv x = some v := by
  unfold Wd.gv
  rw [T.none x h]
  exact (T.boot x hn).trans hb
theorem Tops.bi {Θ : Wd} (T : Tops Θ) : Bi Θ where
  isi := T.gv (by simp) (by decide) (by decide +kernel)
  tup := T.gv (by simp) (by decide) (by decide +kernel)
  int := T.gv (by simp) (by decide) (by decide +kernel)
  len := T.gv (by simp) (by decide) (by decide +kernel)
  sum := T.gv (by simp) (by decide) (by decide +kernel)
  enu := T.gv (by simp) (by decide) (by decide +kernel)
theorem gv_of {Θ : Wd} {x : Str} {v : Value} (h : Θ.mg x = some v) : Θ.gv x = some v := by unfold Wd.gv; rw [h]
theorem Tops.gTick {Θ : Wd} (T : Tops Θ) : Glob Θ "TICK" (.str tickS) := let ⟨t, h⟩ := T.tick; ⟨_, gv_of h, .str _ t⟩
theorem Tops.gToks {Θ : Wd} (T : Tops Θ) : Glob Θ "EXACT_TOKEN_TYPES" (.dic (DI tokW)) := let ⟨a, n, h, lo, ho⟩ := T.toks; ⟨_, gv_of h, tok_rp ho lo⟩

theorem room_caller : Room callerA 6 := ⟨rfl, by decide, by decide⟩

theorem law_run (T : Tops Θ) {a a1 a2 a3 a6 a7 a8 a59 a60 a61 a62 : Addr} (D1 : Is Θ 1 "add_func_stats" a1) (D2 : Is Θ 2 "add_callers" a2) (D3 : Is Θ 3 "count_calls" a3)
    (D6 : Is Θ 6 "_iter_escaped_chars" a6) (D7 : Is Θ 7 "_strip_quoted_realnames" a7) (D8 : Is Θ 8 "decode_rfc2231" a8) (D59 : Is Θ 59 "_law_drawn" a59) (D60 : Is Θ 60 "_law_profile" a60) (D61 : Is Θ 61 "_law_struck" a61) (D62 : Is Θ 62 "_law_between" a62)
    (D : Is Θ 63 "law" a) {s : Shared} (hs : s.heap = Θ.hb) {l : Addr} {vs : List Value} {ns : List Int} (hl : s.heap.IsList l vs.toArray) (hi : IntsAre vs ns) (hlen : ns.length ≤ 100) (W : LawOK (nums7 ns)) :
    codeAny (model Θ.prog Θ.w) callerA (.call (.ref a) ⟨[.ref l], []⟩) (fun r s' => r = .ok (.ret (.bool true)) ∧ (∀ b o, s.heap.get? b = some o → s'.heap.get? b = some o) ∧ s'.os = s.os ∧ (AllBare s.gens → AllBare s'.gens)) s := by
  have h := fn_law T.ok T.bi T.gTick T.gToks D1 D2 D3 D6 D7 D8 D59 D60 D61 D62 D room_caller ns hlen W s.heap.get? s [.ref l] ⟨by rw [hs]; exact .refl _, .refl _⟩
    (.cons (by obtain ⟨o, ho, hc, n, hd⟩ := hl; exact .lst ho hc hd (by simpa using Rps.of_ints hi)) .nil)
  refine codeAny_mono h fun r s' ⟨v, e, σ', x, hr⟩ => ?_
  cases hr
  exact ⟨e, x.kp, x.os, x.gens.bare⟩
end
end Mine
end
section
open PySem PySem.Calls PyProof.Rows PySem.Builtin.Str
set_option linter.unusedVariables false
set_option maxRecDepth 100000
namespace Mine
section
variable {α β : Type}
abbrev keys (l : List (Str × α)) : List Str := l.map (·.1)
theorem getA_nil (k : Str) : getA ([] : List (Str × α)) k = none := rfl
theorem getA_cons (e : Str × α) (l : List (Str × α)) (k : Str) : getA (e :: l) k = if e.1 = k then some e.2 else getA l k := by
  unfold getA
  rw [List.find?_cons]
  by_cases h : e.1 = k <;> simp [h]
theorem getA_none {l : List (Str × α)} {k : Str} (h : k ∉ keys l) : getA l k = none := by
  induction l with
  | nil => rfl
  | cons e r ih =>
    rw [getA_cons, if_neg (fun q => h (by simp [keys, q])), ih fun q => h (List.mem_cons_of_mem _ q)]
theorem getA_isSome {l : List (Str × α)} {k : Str} (h : k ∈ keys l) : (getA l k).isSome = true := by
  induction l with
  | nil => cases h
  | cons e r ih =>
    rw [getA_cons]
    split
    · rfl
    · rename_i hne
      exact ih ((List.mem_cons.mp h).resolve_left fun q => hne q.symm)
theorem getA_of_mem {l : List (Str × α)} {k : Str} {v : α} (hn : (keys l).Nodup) (h : (k, v) ∈ l) : getA l k = some v := by
  induction l with
  | nil => cases h
  | cons e r ih =>
    rw [getA_cons]
    obtain ⟨h1, h2⟩ := List.nodup_cons.mp (show (e.1 :: keys r).Nodup from hn)
    rcases List.mem_cons.mp h with rfl | h
    · rw [if_pos rfl]
    · rw [if_neg (fun q : e.1 = k => h1 (by rw [q]; exact List.mem_map_of_mem (f := (·.1)) h)), ih h2 h]
theorem getA_snoc (l : List (Str × α)) (e : Str × α) (k : Str) : getA (l ++ [e]) k = (getA l k).or (if e.1 = k then some e.2 else none) := by
  induction l with
  | nil => rw [List.nil_append, getA_cons]; simp [getA_nil]
  | cons x r ih =>
    rw [List.cons_append, getA_cons, getA_cons, ih]
    split <;> simp
theorem getA_mapIf (l : List (Str × α)) (k : Str) (v : α) (k' : Str) : getA (l.map fun e => if e.1 = k then (e.1, v) else e) k' = if k' = k then (getA l k).map fun _ => v else getA l k' := by
  induction l with
  | nil => simp [getA_nil]
  | cons e r ih =>
    rw [List.map_cons, getA_cons, getA_cons, getA_cons, ih]
    by_cases h1 : e.1 = k
    · by_cases h2 : k' = k
      · subst h2; simp [h1]
      · have h3 : ¬ e.1 = k' := fun q => h2 (q.symm.trans h1)
        have h4 : ¬ k = k' := fun q => h2 q.symm
        simp [h1, h2, h4]
    · by_cases h2 : k' = k
      · subst h2; simp [h1]
      · simp [h1, h2]
theorem getA_put (l : List (Str × α)) (k : Str) (v : α) (k' : Str) : getA (putA l k v) k' = if k' = k then some v else getA l k' := by
  unfold putA
  split
  · rename_i h
    rw [getA_mapIf]
    split
    · obtain ⟨e, he, hk⟩ := List.any_eq_true.mp h
      have : (getA l k).isSome = true := getA_isSome (by rw [← of_decide_eq_true hk]; exact List.mem_map_of_mem he)
      obtain ⟨x, hx⟩ := Option.isSome_iff_exists.mp this
      rw [hx]; rfl
    · rfl
  · rename_i h
    rw [getA_snoc]
    by_cases hk : k' = k
    · subst hk
      have hno : k' ∉ keys l := fun q => by
        obtain ⟨e, he, hk⟩ := List.mem_map.mp q
        exact h (List.any_eq_true.mpr ⟨e, he, decide_eq_true hk⟩)
      rw [getA_none hno]; simp
    · have : ¬ k = k' := fun q => hk q.symm
      simp [hk, this]
theorem keys_put (l : List (Str × α)) (k : Str) (v : α) : keys (putA l k v) = if k ∈ keys l then keys l else keys l ++ [k] := by
  unfold putA keys
  by_cases h : k ∈ l.map (·.1)
  · rw [if_pos h, if_pos]
    · rw [List.map_map]
      apply List.map_congr_left
      intro e _
      simp only [Function.comp]
      split <;> rfl
    · obtain ⟨e, he, hk⟩ := List.mem_map.mp h
      exact List.any_eq_true.mpr ⟨e, he, decide_eq_true hk⟩
  · rw [if_neg h, if_neg]
    · simp
    · intro q
      obtain ⟨e, he, hk⟩ := List.any_eq_true.mp q
      exact h (by rw [← of_decide_eq_true hk]; exact List.mem_map_of_mem he)
theorem nodup_put {l : List (Str × α)} {k : Str} {v : α} (h : (keys l).Nodup) : (keys (putA l k v)).Nodup := by
  rw [keys_put]
  split
  · exact h
  · rename_i hk
    rw [List.nodup_append]
    exact ⟨h, by simp, fun a ha b hb => by rw [List.mem_singleton.mp hb]; rintro rfl; exact hk ha⟩
theorem mem_keys_put {l : List (Str × α)} {k k' : Str} {v : α} : k' ∈ keys (putA l k v) ↔ k' ∈ keys l ∨ k' = k := by
  rw [keys_put]
  split
  · rename_i hk
    exact ⟨.inl, fun h => h.elim id fun q => q ▸ hk⟩
  · simp
theorem put_new {l : List (Str × α)} {k : Str} {v : α} (h : k ∉ keys l) : putA l k v = l ++ [(k, v)] := by
  unfold putA
  rw [if_neg]
  intro q
  obtain ⟨e, he, hk⟩ := List.any_eq_true.mp q
  exact h (by rw [← of_decide_eq_true hk]; exact List.mem_map_of_mem he)

theorem fold_put (p : β → Bool) (kf : β → Str) (g : β → α) : ∀ (l : List β) (acc : List (Str × α)), ((l.filter p).map kf).Nodup → (∀ k ∈ (l.filter p).map kf, k ∉ keys acc) →
    l.foldl (fun acc e => if p e = true then putA acc (kf e) (g e) else acc) acc = acc ++ (l.filter p).map fun e => (kf e, g e)
  | [], acc, _, _ => by simp
  | e :: r, acc, hn, hd => by
    rw [List.foldl_cons]
    by_cases hp : p e = true
    · rw [if_pos hp]
      rw [List.filter_cons_of_pos hp] at hn hd ⊢
      rw [List.map_cons] at hn hd
      obtain ⟨h1, h2⟩ := List.nodup_cons.mp hn
      rw [put_new (hd _ (List.mem_cons_self ..)), fold_put p kf g r _ h2 (fun k hk q => ?_)]
      · simp
      · unfold keys at q
        rw [List.map_append, List.mem_append] at q
        rcases q with q | q
        · exact hd k (List.mem_cons_of_mem _ hk) q
        · simp at q
          exact h1 (q ▸ hk)
    · rw [if_neg hp]
      rw [List.filter_cons_of_neg hp] at hn hd ⊢
      exact fold_put p kf g r acc hn hd
end
theorem keys_filter_nodup {α : Type} {l : List (Str × α)} (p : Str × α → Bool) (h : (keys l).Nodup) : ((l.filter p).map (·.1)).Nodup := by
  unfold keys at h
  rw [List.Nodup, List.pairwise_map] at h ⊢
  exact List.Pairwise.sublist List.filter_sublist h
theorem farW_eq (c : Int) (v : Str) (w : Wg) (h : (keys w).Nodup) : farW c v w = (w.filter fun e => decide (e.1 ≠ v)).map fun e => (e.1, c * e.2) := by
  have := fold_put (fun e : Str × Int => decide (e.1 ≠ v)) (·.1) (fun e => c * e.2) w [] (keys_filter_nodup _ h) (fun k _ q => by cases q)
  rw [List.nil_append] at this
  rw [← this]
  unfold farW
  congr 1
  funext acc e
  by_cases he : e.1 = v
  · simp [he]
  · simp [he]; rfl
theorem thrG_eq (o : Option Int) (v : Str) (w : Wg) (h : (keys w).Nodup) : thrG o v w = (w.filter fun e => decide (o.isSome = true ∧ e.1 ≠ v)).map fun e => (e.1, o.getD 0 * e.2) := by
  have := fold_put (fun e : Str × Int => decide (o.isSome = true ∧ e.1 ≠ v)) (·.1) (fun e => o.getD 0 * e.2) w [] (keys_filter_nodup _ h) (fun k _ q => by cases q)
  rw [List.nil_append] at this
  rw [← this]
  unfold thrG
  congr 1
  funext acc e
  by_cases he : o.isSome = true ∧ e.1 ≠ v
  · rw [if_pos he, if_pos (decide_eq_true he)]; rfl
  · rw [if_neg he, if_neg (by simpa using he)]
theorem struckL_eq (T : Tb) (v : Str) (d : Int) (b : Wg) (h : (keys T).Nodup) : struckL T v d b = (T.filter fun e => decide (e.1 ≠ v)).map fun e => (e.1, addW (farW d v e.2) (thrW b e.1)) := by
  have := fold_put (fun e : Str × Wg => decide (e.1 ≠ v)) (·.1) (fun e => addW (farW d v e.2) (thrW b e.1)) T [] (keys_filter_nodup _ h) (fun k _ q => by cases q)
  rw [List.nil_append] at this
  rw [← this]
  unfold struckL
  congr 1
  funext acc e
  by_cases he : e.1 = v
  · simp [he]
  · simp [he]
theorem tabOf_eq (pr : Prof) (h : (keys pr).Nodup) : tabOf pr = pr.map fun e => (e.1, e.2.2.2) := by
  have := fold_put (fun _ : Str × Int × Int × Wg => true) (·.1) (fun e => e.2.2.2) pr [] (keys_filter_nodup _ h) (fun k _ q => by cases q)
  rw [List.nil_append, List.filter_eq_self.mpr (fun _ _ => rfl)] at this
  rw [← this]
  unfold tabOf
  congr 1
theorem cpW_eq (w : Wg) (h : (keys w).Nodup) : cpW w = w := by
  have := fold_put (fun _ : Str × Int => true) (·.1) (fun e => e.2) w [] (keys_filter_nodup _ h) (fun k _ q => by cases q)
  rw [List.nil_append, List.filter_eq_self.mpr (fun _ _ => rfl)] at this
  have e : w.map (fun e => (e.1, e.2)) = w := List.map_id w
  rw [e] at this
  refine Eq.trans ?_ this
  unfold cpW
  congr 1
theorem getA_filterNe {α : Type} (l : List (Str × α)) (v k : Str) : getA (l.filter fun e => decide (e.1 ≠ v)) k = if k = v then none else getA l k := by
  induction l with
  | nil => simp [getA_nil]
  | cons e r ih =>
    by_cases he : e.1 = v
    · rw [List.filter_cons_of_neg (by simp [he]), ih, getA_cons]
      by_cases hk : k = v
      · simp [hk]
      · have : ¬ e.1 = k := fun q => hk (q.symm.trans he)
        simp [hk, this]
    · rw [List.filter_cons_of_pos (by simp [he]), getA_cons, getA_cons, ih]
      by_cases hk : k = v
      · subst hk; simp [he]
      · simp [hk]
/-- what is added up under a key -/
def comb (a b : Option Int) : Option Int := match a, b with
  | none, none => none
  | some x, none => some x
  | none, some y => some y
  | some x, some y => some (x + y)
theorem bump_get (acc : Wg) (e : Str × Int) (k : Str) : getA (bumpW acc e) k = if k = e.1 then comb (getA acc k) (some e.2) else getA acc k := by
  unfold bumpW
  by_cases hk : k = e.1
  · subst hk
    rw [if_pos rfl]
    cases h : getW acc e.1 with
    | none =>
      have h' : getA acc e.1 = none := h
      rw [h']
      exact (getA_put acc e.1 e.2 e.1).trans (if_pos rfl)
    | some n =>
      have h' : getA acc e.1 = some n := h
      rw [h']
      exact (getA_put acc e.1 (n + e.2) e.1).trans (if_pos rfl)
  · rw [if_neg hk]
    split
    · exact (getA_put acc e.1 _ k).trans (if_neg hk)
    · exact (getA_put acc e.1 _ k).trans (if_neg hk)
theorem fold_bump (s : Wg) : ∀ (acc : Wg), (keys s).Nodup → ∀ k, getA (s.foldl bumpW acc) k = comb (getA acc k) (getA s k) := by
  induction s with
  | nil => intro acc _ k; rw [List.foldl_nil, getA_nil]; cases getA acc k <;> rfl
  | cons e r ih =>
    intro acc hn k
    obtain ⟨h1, h2⟩ := List.nodup_cons.mp (show (e.1 :: keys r).Nodup from hn)
    rw [List.foldl_cons, ih _ h2, bump_get, getA_cons]
    by_cases hk : k = e.1
    · subst hk
      rw [if_pos rfl, if_pos rfl, getA_none h1]
      cases getA acc e.1 <;> rfl
    · rw [if_neg hk, if_neg (fun q => hk q.symm)]
theorem addW_get (t s : Wg) (ht : (keys t).Nodup) (hs : (keys s).Nodup) (k : Str) : getA (addW t s) k = comb (getA t k) (getA s k) := by
  unfold addW
  rw [cpW_eq t ht, fold_bump s t hs]
theorem bump_keys (acc : Wg) (e : Str × Int) (k : Str) : k ∈ keys (bumpW acc e) ↔ k ∈ keys acc ∨ k = e.1 := by
  unfold bumpW
  split <;> exact mem_keys_put
theorem bump_nodup (acc : Wg) (e : Str × Int) (h : (keys acc).Nodup) : (keys (bumpW acc e)).Nodup := by
  unfold bumpW
  split <;> exact nodup_put h
theorem fold_bump_keys (s : Wg) : ∀ (acc : Wg), (keys acc).Nodup → (keys (s.foldl bumpW acc)).Nodup ∧ ∀ k, k ∈ keys (s.foldl bumpW acc) ↔ k ∈ keys acc ∨ k ∈ keys s := by
  induction s with
  | nil => intro acc h; exact ⟨h, fun k => by simp [keys]⟩
  | cons e r ih =>
    intro acc h
    rw [List.foldl_cons]
    obtain ⟨h1, h2⟩ := ih _ (bump_nodup acc e h)
    refine ⟨h1, fun k => ?_⟩
    rw [h2, bump_keys]
    simp only [keys, List.map_cons, List.mem_cons]
    constructor
    · rintro ((h | h) | h) <;> simp [h]
    · rintro (h | h | h) <;> simp [h]
theorem addW_keys (t s : Wg) (ht : (keys t).Nodup) : (keys (addW t s)).Nodup ∧ ∀ k, k ∈ keys (addW t s) ↔ k ∈ keys t ∨ k ∈ keys s := by
  unfold addW
  rw [cpW_eq t ht]
  exact fold_bump_keys s t ht
end Mine
end
section
open PySem PySem.Calls PyProof.Rows PySem.Builtin.Str
set_option linter.unusedVariables false
set_option maxRecDepth 100000
namespace Mine
def S5 (f : Nat → Int) : Int := f 0 + f 1 + f 2 + f 3 + f 4
def In5 {α : Type} (l : List (Str × α)) : Prop := ∀ e ∈ l, ∃ j, j < 5 ∧ e.1 = chS j
theorem S5_congr {f g : Nat → Int} (h : ∀ j, j < 5 → f j = g j) : S5 f = S5 g := by
  unfold S5
  rw [h 0 (by decide), h 1 (by decide), h 2 (by decide), h 3 (by decide), h 4 (by decide)]
theorem chS_iff {i j : Nat} : chS i = chS j ↔ i = j := ⟨chS_inj, fun h => by rw [h]⟩
theorem S5_one (i : Nat) (hi : i < 5) (x : Int) (f : Nat → Int) (h0 : f i = 0) : S5 (fun j => if i = j then x else f j) = x + S5 f := by
  unfold S5
  rcases i with _ | _ | _ | _ | _ | i
  · simp [h0]; omega
  · simp [h0]; omega
  · simp [h0]; omega
  · simp [h0]; omega
  · simp [h0]; omega
  · omega
theorem sum5 {α : Type} (g : Str → α → Int) : ∀ (l : List (Str × α)), (keys l).Nodup → In5 l → (l.map fun e => g e.1 e.2).sum = S5 fun j => ((getA l (chS j)).map (g (chS j))).getD 0
  | [], _, _ => by simp [getA_nil, S5]
  | e :: r, hn, h5 => by
    obtain ⟨h1, h2⟩ := List.nodup_cons.mp (show (e.1 :: keys r).Nodup from hn)
    obtain ⟨i, hi, he⟩ := h5 e (List.mem_cons_self ..)
    rw [List.map_cons, List.sum_cons, sum5 g r h2 fun x hx => h5 x (List.mem_cons_of_mem _ hx)]
    have e2 : (S5 fun j => ((getA (e :: r) (chS j)).map (g (chS j))).getD 0) = S5 fun j => if i = j then g e.1 e.2 else ((getA r (chS j)).map (g (chS j))).getD 0 := S5_congr fun j _ => by
      rw [getA_cons, he]
      by_cases hij : i = j
      · subst hij; simp
      · have : ¬ chS i = chS j := fun q => hij (chS_inj q)
        simp [hij, this]
    rw [he] at h1
    rw [e2, S5_one i hi _ _ (by rw [getA_none h1]; rfl)]

structure RepW (w : Wg) (f : Nat → Int) : Prop where
  nd : (keys w).Nodup
  key : In5 w
  val : ∀ j, j < 5 → getA w (chS j) = if 0 < f j then some (f j) else none
theorem RepW.sum {w : Wg} {f : Nat → Int} (R : RepW w f) (h0 : ∀ j, j < 5 → 0 ≤ f j) : wsum w = S5 f := by
  refine (sum5 (fun (_ : Str) (n : Int) => n) w R.nd R.key).trans (S5_congr fun j hj => ?_)
  rw [R.val j hj]
  have := h0 j hj
  split
  · rfl
  · show (0 : Int) = f j; omega
theorem RepW.mem {w : Wg} {f : Nat → Int} (R : RepW w f) {e : Str × Int} (he : e ∈ w) : ∃ j, j < 5 ∧ e.1 = chS j ∧ e.2 = f j ∧ 0 < f j := by
  obtain ⟨j, hj, hk⟩ := R.key e he
  have h := getA_of_mem R.nd (k := chS j) (v := e.2) (by rw [← hk]; exact he)
  rw [R.val j hj] at h
  split at h
  · rename_i hp
    exact ⟨j, hj, hk, (Option.some.inj h).symm, hp⟩
  · cases h
theorem In5.len {α : Type} {l : List (Str × α)} (hn : (keys l).Nodup) (h : In5 l) : l.length ≤ 5 := by
  have h1 := sum5 (fun (_ : Str) (_ : α) => (1 : Int)) l hn h
  have h2 : (l.map fun _ => (1 : Int)).sum = l.length := by
    clear h1 hn h
    induction l with
    | nil => rfl
    | cons e r ih => rw [List.map_cons, List.sum_cons, ih, List.length_cons]; omega
  have h3 : ∀ j, ((getA l (chS j)).map fun _ => (1 : Int)).getD 0 ≤ 1 := fun j => by cases getA l (chS j) <;> simp
  have h4 : (l.length : Int) = S5 fun j => ((getA l (chS j)).map fun _ => (1 : Int)).getD 0 := h2.symm.trans h1
  have g0 := h3 0
  have g1 := h3 1
  have g2 := h3 2
  have g3 := h3 3
  have g4 := h3 4
  unfold S5 at h4
  dsimp only at h4
  omega

structure RepT (T : Tb) (S : Nat → Bool) (ω : Nat → Nat → Int) : Prop where
  nd : (keys T).Nodup
  row : ∀ e ∈ T, ∃ j, j < 5 ∧ S j = true ∧ e.1 = chS j ∧ RepW e.2 (ω j)
  has : ∀ j, j < 5 → S j = true → chS j ∈ keys T
  sym : ∀ i j, i < 5 → j < 5 → ω i j = ω j i
  pos : ∀ i j, i < 5 → j < 5 → 0 ≤ ω i j
  diag : ∀ i, i < 5 → ω i i = 0
theorem RepT.get {T : Tb} {S : Nat → Bool} {ω : Nat → Nat → Int} (R : RepT T S ω) {j : Nat} (hj : j < 5) (hs : S j = true) : ∃ w, getA T (chS j) = some w ∧ RepW w (ω j) := by
  obtain ⟨w, hw⟩ := Option.isSome_iff_exists.mp (getA_isSome (R.has j hj hs))
  obtain ⟨i, hi, _, hk, hr⟩ := R.row _ (getA_mem hw)
  have := chS_inj hk
  subst this
  exact ⟨w, hw, hr⟩
def deg (ω : Nat → Nat → Int) (v : Nat) : Int := S5 (ω v)
def strike (ω : Nat → Nat → Int) (v : Nat) (i j : Nat) : Int := if i = v ∨ j = v ∨ i = j then 0 else deg ω v * ω i j + ω v i * ω v j
theorem getA_mapVal (l : Wg) (c : Int) (k : Str) : getA (l.map fun e => (e.1, c * e.2)) k = (getA l k).map (c * ·) := getA_map l (c * ·) k
theorem keys_mapVal {α β : Type} (l : List (Str × α)) (g : Str × α → β) : keys (l.map fun e => (e.1, g e)) = keys l := by unfold keys; rw [List.map_map]; rfl

theorem strike_rep {T : Tb} {S : Nat → Bool} {ω : Nat → Nat → Int} (R : RepT T S ω) {v : Nat} (hv : v < 5) (hs : S v = true) (hd : 0 < deg ω v) :
    ∃ b, getA T (chS v) = some b ∧ wsum b = deg ω v ∧ RepT (struckL T (chS v) (deg ω v) b) (fun j => S j && decide (j ≠ v)) (strike ω v) := by
  obtain ⟨b, hb, hR⟩ := R.get hv hs
  refine ⟨b, hb, hR.sum (fun j hj => R.pos v j hv hj), ?_⟩
  have hpos : ∀ i j, i < 5 → j < 5 → 0 ≤ deg ω v * ω i j + ω v i * ω v j := fun i j hi hj =>
    Int.add_nonneg (Int.mul_nonneg (Int.le_of_lt hd) (R.pos i j hi hj)) (Int.mul_nonneg (R.pos v i hv hi) (R.pos v j hv hj))
  rw [struckL_eq _ _ _ _ R.nd]
  refine ⟨?_, fun e he => ?_, fun j hj hsj => ?_, fun i j hi hj => ?_, fun i j hi hj => ?_, fun i hi => ?_⟩
  · rw [keys_mapVal]; exact keys_filter_nodup _ R.nd
  · obtain ⟨e0, he0, rfl⟩ := List.mem_map.mp he
    obtain ⟨hm, hne⟩ := List.mem_filter.mp he0
    have hne' : e0.1 ≠ chS v := of_decide_eq_true hne
    obtain ⟨i, hi, hsi, hk, hr⟩ := R.row e0 hm
    have hiv : i ≠ v := fun q => hne' (by rw [hk, q])
    refine ⟨i, hi, by simp [hsi, hiv], hk, ?_⟩
    have hfar := farW_eq (deg ω v) (chS v) e0.2 hr.nd
    have hthr : thrW b e0.1 = _ := thrG_eq (getW b e0.1) e0.1 b hR.nd
    have nf : (keys (farW (deg ω v) (chS v) e0.2)).Nodup := by rw [hfar, keys_mapVal]; exact keys_filter_nodup _ hr.nd
    have nt : (keys (thrW b e0.1)).Nodup := by rw [hthr, keys_mapVal]; exact keys_filter_nodup _ hR.nd
    obtain ⟨nk, mk⟩ := addW_keys (farW (deg ω v) (chS v) e0.2) (thrW b e0.1) nf
    refine ⟨nk, fun x hx => ?_, fun j hj => ?_⟩
    · have hkx : x.1 ∈ keys (addW (farW (deg ω v) (chS v) e0.2) (thrW b e0.1)) := List.mem_map_of_mem hx
      rcases (mk _).mp hkx with h | h
      · rw [hfar, keys_mapVal] at h
        obtain ⟨y, hy, e⟩ := List.mem_map.mp h
        obtain ⟨q, hq, e'⟩ := hr.key y (List.mem_filter.mp hy).1
        exact ⟨q, hq, e.symm.trans e'⟩
      · rw [hthr, keys_mapVal] at h
        obtain ⟨y, hy, e⟩ := List.mem_map.mp h
        obtain ⟨q, hq, e'⟩ := hR.key y (List.mem_filter.mp hy).1
        exact ⟨q, hq, e.symm.trans e'⟩
    · rw [addW_get _ _ nf nt, hfar, getA_mapVal, getA_filterNe]
      have ho : getW b e0.1 = if 0 < ω v i then some (ω v i) else none := by rw [hk]; exact hR.val i hi
      have et : getA (thrW b e0.1) (chS j) = if 0 < ω v i ∧ j ≠ i ∧ 0 < ω v j then some (ω v i * ω v j) else none := by
        rw [hthr, getA_mapVal, ho]
        by_cases hvi : 0 < ω v i
        · rw [if_pos hvi]
          have : (b.filter fun e => decide ((some (ω v i)).isSome = true ∧ e.1 ≠ e0.1)) = b.filter fun e => decide (e.1 ≠ e0.1) := by congr 1; funext e; simp
          rw [this, getA_filterNe, hk]
          by_cases hji : j = i
          · subst hji; simp
          · have : ¬ chS j = chS i := fun q => hji (chS_inj q)
            rw [if_neg this, hR.val j hj]
            by_cases hvj : 0 < ω v j
            · simp [hvi, hvj, hji]
            · simp [hvj]
        · rw [if_neg hvi]
          have : (b.filter fun e => decide ((none : Option Int).isSome = true ∧ e.1 ≠ e0.1)) = [] := by
            rw [List.filter_eq_nil_iff]; intro e _; simp
          rw [this]; simp [hvi, getA_nil]
      rw [et]
      unfold strike
      by_cases hjv : j = v
      · subst hjv
        have h0 : ω j j = 0 := R.diag j hj
        simp [h0, comb]
      · have hne2 : ¬ chS j = chS v := fun q => hjv (chS_inj q)
        rw [if_neg hne2, hr.val j hj]
        by_cases hji : i = j
        · subst hji
          have h0 : ω i i = 0 := R.diag i hi
          simp [h0, comb]
        · rw [if_neg (show ¬ (i = v ∨ j = v ∨ i = j) by simp [hiv, hjv, hji])]
          have p1 := R.pos i j hi hj
          have p2 := R.pos v i hv hi
          have p3 := R.pos v j hv hj
          have hji' : j ≠ i := fun q => hji q.symm
          by_cases h1 : 0 < ω i j <;> by_cases h2 : 0 < ω v i <;> by_cases h3 : 0 < ω v j
          all_goals
            first
              | (have m1 := Int.mul_pos hd h1
                 have m2 := Int.mul_nonneg p2 p3
                 rw [if_pos (show 0 < deg ω v * ω i j + ω v i * ω v j by omega)]
                 simp [h1, h2, h3, hji', comb]
                 first
                   | done
                   | (have z : ω v i = 0 := by omega
                      simp [z])
                   | (have z : ω v j = 0 := by omega
                      simp [z]))
              | (have z1 : ω i j = 0 := by omega
                 have m2 := Int.mul_pos h2 h3
                 simp [z1, h2, h3, hji', comb, m2])
              | (have z1 : ω i j = 0 := by omega
                 have z2 : ω v i = 0 := by omega
                 simp [z1, z2, comb])
              | (have z1 : ω i j = 0 := by omega
                 have z2 : ω v j = 0 := by omega
                 simp [z1, z2, comb])
  · have h1 : S j = true ∧ j ≠ v := by simpa using hsj
    rw [keys_mapVal]
    obtain ⟨e, he, hk⟩ := List.mem_map.mp (R.has j hj h1.1)
    refine List.mem_map.mpr ⟨e, List.mem_filter.mpr ⟨he, decide_eq_true fun q => h1.2 (chS_inj (hk.symm.trans q))⟩, hk⟩
  · unfold strike
    rw [R.sym i j hi hj, Int.mul_comm (ω v i) (ω v j)]
    by_cases h : i = v ∨ j = v ∨ i = j
    · rw [if_pos h, if_pos (by rcases h with h | h | h <;> simp [h])]
    · rw [if_neg h, if_neg (by
        intro q; apply h
        rcases q with q | q | q <;> simp [q])]
  · unfold strike
    split
    · exact Int.le_refl _
    · exact hpos i j hi hj
  · unfold strike; simp
end Mine
end
section
open PySem PySem.Calls PyProof.Rows PySem.Builtin.Str
set_option linter.unusedVariables false
set_option maxRecDepth 100000
set_option exponentiation.threshold 2000
namespace Mine
/-- every cut is crossed -/
def Conn (S : Nat → Bool) (ω : Nat → Nat → Int) : Prop := ∀ A : Nat → Bool, (∃ i, i < 5 ∧ S i = true ∧ A i = true) → (∃ j, j < 5 ∧ S j = true ∧ A j = false) →
  ∃ i j, i < 5 ∧ j < 5 ∧ S i = true ∧ S j = true ∧ A i = true ∧ A j = false ∧ 0 < ω i j
theorem S5_pos {f : Nat → Int} (h : ∀ j, j < 5 → 0 ≤ f j) {i : Nat} (hi : i < 5) (hp : 0 < f i) : 0 < S5 f := by
  unfold S5
  have h0 := h 0 (by decide)
  have h1 := h 1 (by decide)
  have h2 := h 2 (by decide)
  have h3 := h 3 (by decide)
  have h4 := h 4 (by decide)
  have hc : i = 0 ∨ i = 1 ∨ i = 2 ∨ i = 3 ∨ i = 4 := by omega
  rcases hc with rfl | rfl | rfl | rfl | rfl <;> omega
theorem Conn.deg {S : Nat → Bool} {ω : Nat → Nat → Int} (C : Conn S ω) (h0 : ∀ i j, i < 5 → j < 5 → 0 ≤ ω i j) {v u : Nat} (hv : v < 5) (hu : u < 5) (sv : S v = true) (su : S u = true) (hne : u ≠ v) : 0 < deg ω v := by
  obtain ⟨i, j, hi, hj, _, _, hA, _, hp⟩ := C (fun i => decide (i = v)) ⟨v, hv, sv, by simp⟩ ⟨u, hu, su, by simp [hne]⟩
  have : i = v := of_decide_eq_true hA
  subst this
  exact S5_pos (fun j hj => h0 i j hi hj) hj hp
theorem Conn.strike {S : Nat → Bool} {ω : Nat → Nat → Int} (C : Conn S ω) (h0 : ∀ i j, i < 5 → j < 5 → 0 ≤ ω i j) (hsym : ∀ i j, i < 5 → j < 5 → ω i j = ω j i) {v : Nat} (hv : v < 5) (sv : S v = true) (hd : 0 < Mine.deg ω v) :
    Conn (fun j => S j && decide (j ≠ v)) (Mine.strike ω v) := by
  rintro A ⟨a, ha, hsa, hAa⟩ ⟨b, hb, hsb, hAb⟩
  have sa : S a = true ∧ a ≠ v := by simpa using hsa
  have sb : S b = true ∧ b ≠ v := by simpa using hsb
  have direct : ∀ i j, i < 5 → j < 5 → S i = true → S j = true → i ≠ v → j ≠ v → A i = true → A j = false → (0 < ω i j ∨ (0 < ω v i ∧ 0 < ω v j)) →
      ∃ i j, i < 5 ∧ j < 5 ∧ (S i && decide (i ≠ v)) = true ∧ (S j && decide (j ≠ v)) = true ∧ A i = true ∧ A j = false ∧ 0 < Mine.strike ω v i j := by
    intro i j hi hj si sj iv jv hAi hAj h
    have hij : i ≠ j := fun e => by rw [e, hAj] at hAi; cases hAi
    refine ⟨i, j, hi, hj, by simp [si, iv], by simp [sj, jv], hAi, hAj, ?_⟩
    unfold Mine.strike
    rw [if_neg (by simp [iv, jv, hij])]
    rcases h with h | ⟨h1, h2⟩
    · have m1 := Int.mul_pos hd h
      have m2 := Int.mul_nonneg (h0 v i hv hi) (h0 v j hv hj)
      omega
    · have m1 := Int.mul_nonneg (Int.le_of_lt hd) (h0 i j hi hj)
      have m2 := Int.mul_pos h1 h2
      omega
  obtain ⟨i, j, hi, hj, si, sj, hA1, hA2, hp⟩ := C (fun i => A i && decide (i ≠ v)) ⟨a, ha, sa.1, by simp [hAa, sa.2]⟩ ⟨b, hb, sb.1, by simp [hAb]⟩
  have i1 : A i = true ∧ i ≠ v := by simpa using hA1
  by_cases jv : j = v
  · subst jv
    obtain ⟨i', j', hi', hj', si', sj', hB1, hB2, hp'⟩ := C (fun i => A i || decide (i = j)) ⟨a, ha, sa.1, by simp [hAa]⟩ ⟨b, hb, sb.1, by simp [hAb, sb.2]⟩
    have j2 : A j' = false ∧ j' ≠ j := by simpa using hB2
    by_cases iv' : i' = j
    · subst iv'
      exact direct i j' hi hj' si sj' i1.2 j2.2 i1.1 j2.1 (.inr ⟨by rw [hsym i' i hv hi]; exact hp, hp'⟩)
    · have i2 : A i' = true := by simpa [iv'] using hB1
      exact direct i' j' hi' hj' si' sj' iv' j2.2 i2 j2.1 (.inl hp')
  · have j1 : A j = false := by simpa [jv] using hA2
    exact direct i j hi hj si sj i1.2 jv i1.1 j1 (.inl hp)

/-- weights stay small -/
def Bdd (ω : Nat → Nat → Int) (B : Int) : Prop := ∀ i j, i < 5 → j < 5 → ω i j ≤ B
theorem Bdd.deg {ω : Nat → Nat → Int} {B : Int} (h : Bdd ω B) {v : Nat} (hv : v < 5) : deg ω v ≤ 5 * B := by
  unfold Mine.deg S5
  have h0 := h v 0 hv (by decide)
  have h1 := h v 1 hv (by decide)
  have h2 := h v 2 hv (by decide)
  have h3 := h v 3 hv (by decide)
  have h4 := h v 4 hv (by decide)
  omega
theorem Bdd.strike {ω : Nat → Nat → Int} {B : Int} (h : Bdd ω B) (h0 : ∀ i j, i < 5 → j < 5 → 0 ≤ ω i j) {v : Nat} (hv : v < 5) : Bdd (strike ω v) (6 * (B * B)) := by
  have hB : 0 ≤ B := Int.le_trans (h0 0 0 (by decide) (by decide)) (h 0 0 (by decide) (by decide))
  have hBB : 0 ≤ B * B := Int.mul_nonneg hB hB
  intro i j hi hj
  unfold Mine.strike
  split
  · omega
  · have d1 := h.deg hv
    have dd0 : 0 ≤ Mine.deg ω v := by
      unfold Mine.deg S5
      have h0' := h0 v 0 hv (by decide)
      have h1 := h0 v 1 hv (by decide)
      have h2 := h0 v 2 hv (by decide)
      have h3 := h0 v 3 hv (by decide)
      have h4 := h0 v 4 hv (by decide)
      omega
    have e1 : Mine.deg ω v * ω i j ≤ 5 * B * B := Int.mul_le_mul d1 (h i j hi hj) (h0 i j hi hj) (by omega)
    have e2 : ω v i * ω v j ≤ B * B := Int.mul_le_mul (h v i hv hi) (h v j hv hj) (h0 v j hv hj) hB
    have e3 : 5 * B * B = 5 * (B * B) := Int.mul_assoc ..
    omega
end Mine
end
section
open PySem PySem.Calls PyProof.Rows PySem.Builtin.Str
set_option linter.unusedVariables false
set_option maxRecDepth 1000000
set_option exponentiation.threshold 2000
namespace Mine
/-- trees on four nodes -/
def tau4 (b23 b2p b2q b3p b3q bpq : Int) : Int :=
  (b23 + b2p + b2q) * ((b23 + b3p + b3q) * (b2p + b3p + bpq) - b3p * b3p) - b23 * (b23 * (b2p + b3p + bpq) + b3p * b2p) - b2p * (b23 * b3p + (b23 + b3p + b3q) * b2p)
theorem tA (b23 b2p b2q b3p b3q bpq : Int) :
   (let d2 := b23 + b2p + b2q
    let c3p := d2 * b3p + b23 * b2p
    let c3q := d2 * b3q + b23 * b2q
    let cpq := d2 * bpq + b2p * b2q
    (c3p + c3q) * cpq + c3p * c3q) = (b23 + b2p + b2q) * tau4 b23 b2p b2q b3p b3q bpq := by
  unfold tau4
  grind
def det3 (a b c d e f g h i : Int) : Int := a * (e * i - f * h) - b * (d * i - f * g) + c * (d * h - e * g)
/-- trees on five nodes -/
def tau5 (a12 a13 a1p a1q a23 a2p a2q a3p a3q apq : Int) : Int :=
  let e1 := a12 + a13 + a1p + a1q
  let e2 := a12 + a23 + a2p + a2q
  let e3 := a13 + a23 + a3p + a3q
  let ep := a1p + a2p + a3p + apq
  e1 * det3 e2 (-a23) (-a2p) (-a23) e3 (-a3p) (-a2p) (-a3p) ep + a12 * det3 (-a12) (-a23) (-a2p) (-a13) e3 (-a3p) (-a1p) (-a3p) ep
   - a13 * det3 (-a12) e2 (-a2p) (-a13) (-a23) (-a3p) (-a1p) (-a2p) ep + a1p * det3 (-a12) e2 (-a23) (-a13) (-a23) e3 (-a1p) (-a2p) (-a3p)
/-- the row of a struck node, in the law's own terms -/
theorem tB_row (d x y z q r s t : Int) (h : d = x + y + z + q) : (d * r + x * y) + (d * s + x * z) + (d * t + x * q) = d * (x + r + s + t) - x * x := by
  subst h; grind
theorem tB_det (d e2 e3 ep x y z r s t : Int) :
    (d * e2 - x * x) * ((d * e3 - y * y) * (d * ep - z * z) - (d * t + y * z) * (d * t + y * z))
      - (d * r + x * y) * ((d * r + x * y) * (d * ep - z * z) + (d * t + y * z) * (d * s + x * z))
      - (d * s + x * z) * ((d * r + x * y) * (d * t + y * z) + (d * e3 - y * y) * (d * s + x * z))
    = d * d * (d * det3 e2 (-r) (-s) (-r) e3 (-t) (-s) (-t) ep + x * det3 (-x) (-r) (-s) (-y) e3 (-t) (-z) (-t) ep
      - y * det3 (-x) e2 (-s) (-y) (-r) (-t) (-z) (-s) ep + z * det3 (-x) e2 (-r) (-y) (-r) e3 (-z) (-s) (-t)) := by
  unfold det3
  grind
theorem tB (a12 a13 a1p a1q a23 a2p a2q a3p a3q apq : Int) :
   (let d1 := a12 + a13 + a1p + a1q
    tau4 (d1 * a23 + a12 * a13) (d1 * a2p + a12 * a1p) (d1 * a2q + a12 * a1q) (d1 * a3p + a13 * a1p) (d1 * a3q + a13 * a1q) (d1 * apq + a1p * a1q)) = (a12 + a13 + a1p + a1q) * (a12 + a13 + a1p + a1q) * tau5 a12 a13 a1p a1q a23 a2p a2q a3p a3q apq := by
  unfold tau4 tau5
  generalize hd : a12 + a13 + a1p + a1q = d
  dsimp only
  rw [tB_row d a12 a13 a1p a1q a23 a2p a2q hd.symm,
    show (d * a23 + a12 * a13) + (d * a3p + a13 * a1p) + (d * a3q + a13 * a1q) = d * (a13 + a23 + a3p + a3q) - a13 * a13 by
      rw [← tB_row d a13 a12 a1p a1q a23 a3p a3q (by omega), Int.mul_comm a12 a13],
    show (d * a2p + a12 * a1p) + (d * a3p + a13 * a1p) + (d * apq + a1p * a1q) = d * (a1p + a2p + a3p + apq) - a1p * a1p by
      rw [← tB_row d a1p a12 a13 a1q a2p a3p apq (by omega), Int.mul_comm a12 a1p, Int.mul_comm a13 a1p]]
  exact tB_det ..
/-- forests that part p and q -/
def minor (a12 a13 a1p a1q a23 a2p a2q a3p a3q : Int) : Int :=
  let d1 := a12 + a13 + a1p + a1q
  let e2 := a12 + a23 + a2p + a2q
  let e3 := a13 + a23 + a3p + a3q
  d1 * e2 * e3 - 2 * a12 * a23 * a13 - d1 * a23 * a23 - e2 * a13 * a13 - e3 * a12 * a12
theorem tC (a12 a13 a1p a1q a23 a2p a2q a3p a3q d1 : Int) (h : d1 = a12 + a13 + a1p + a1q) :
   (let b23 := d1 * a23 + a12 * a13
    let b2p := d1 * a2p + a12 * a1p
    let b2q := d1 * a2q + a12 * a1q
    let b3p := d1 * a3p + a13 * a1p
    let b3q := d1 * a3q + a13 * a1q
    let d2 := b23 + b2p + b2q
    (d2 * b3p + b23 * b2p) + (d2 * b3q + b23 * b2q)) = d1 * minor a12 a13 a1p a1q a23 a2p a2q a3p a3q := by
  subst h
  unfold minor
  grind

/-- the three numbers and the last one -/
theorem alg {ω : Nat → Nat → Int} (hdiag : ∀ i, i < 5 → ω i i = 0) {u1 u2 u3 p q : Nat} (hperm : ∀ f : Nat → Int, S5 f = f u1 + f u2 + f u3 + f p + f q) (h1 : u1 < 5)
    (n : u1 ≠ u2 ∧ u1 ≠ u3 ∧ u1 ≠ p ∧ u1 ≠ q ∧ u2 ≠ u3 ∧ u2 ≠ p ∧ u2 ≠ q ∧ u3 ≠ p ∧ u3 ≠ q ∧ p ≠ q) :
    deg (strike (strike ω u1) u2) u3 = deg ω u1 * minor (ω u1 u2) (ω u1 u3) (ω u1 p) (ω u1 q) (ω u2 u3) (ω u2 p) (ω u2 q) (ω u3 p) (ω u3 q) ∧
    strike (strike (strike ω u1) u2) u3 p q = (deg ω u1 * deg ω u1 * deg (strike ω u1) u2) * tau5 (ω u1 u2) (ω u1 u3) (ω u1 p) (ω u1 q) (ω u2 u3) (ω u2 p) (ω u2 q) (ω u3 p) (ω u3 q) (ω p q) := by
  obtain ⟨n1, n2, n3, n4, n5, n6, n7, n8, n9, n10⟩ := n
  have ed1 : deg ω u1 = ω u1 u2 + ω u1 u3 + ω u1 p + ω u1 q := by unfold deg; rw [hperm, hdiag u1 h1]; omega
  have st : ∀ (ω : Nat → Nat → Int) (v i j : Nat), i ≠ v → j ≠ v → i ≠ j → strike ω v i j = deg ω v * ω i j + ω v i * ω v j := fun ω v i j a b c => by unfold strike; rw [if_neg (by simp [a, b, c])]
  have s0 : ∀ (ω : Nat → Nat → Int) (v i : Nat), strike ω v i v = 0 := fun ω v i => by unfold strike; rw [if_pos (by simp)]
  have s1 : ∀ (ω : Nat → Nat → Int) (v i : Nat), strike ω v i i = 0 := fun ω v i => by unfold strike; rw [if_pos (by simp)]
  have b23 := st ω u1 u2 u3 n1.symm n2.symm n5
  have b2p := st ω u1 u2 p n1.symm n3.symm n6
  have b2q := st ω u1 u2 q n1.symm n4.symm n7
  have b3p := st ω u1 u3 p n2.symm n3.symm n8
  have b3q := st ω u1 u3 q n2.symm n4.symm n9
  have bpq := st ω u1 p q n3.symm n4.symm n10
  have ed2 : deg (strike ω u1) u2 = strike ω u1 u2 u3 + strike ω u1 u2 p + strike ω u1 u2 q := by
    unfold deg; rw [hperm, s0, s1]; simp
  have c3p := st (strike ω u1) u2 u3 p n5.symm n6.symm n8
  have c3q := st (strike ω u1) u2 u3 q n5.symm n7.symm n9
  have cpq := st (strike ω u1) u2 p q n6.symm n7.symm n10
  have s02 : strike (strike ω u1) u2 u3 u1 = 0 := by
    rw [st (strike ω u1) u2 u3 u1 n5.symm n1 n2.symm, s0, s0]; simp
  have ed3 : deg (strike (strike ω u1) u2) u3 = strike (strike ω u1) u2 u3 p + strike (strike ω u1) u2 u3 q := by
    unfold deg; rw [hperm]
    have e1 := s0 (strike ω u1) u2 u3
    have e2 := s1 (strike ω u1) u2 u3
    show strike (strike ω u1) u2 u3 u1 + strike (strike ω u1) u2 u3 u2 + strike (strike ω u1) u2 u3 u3 + _ + _ = _
    rw [s02, e1, e2]; simp
  have last := st (strike (strike ω u1) u2) u3 p q n8.symm n9.symm n10
  have A := tA (strike ω u1 u2 u3) (strike ω u1 u2 p) (strike ω u1 u2 q) (strike ω u1 u3 p) (strike ω u1 u3 q) (strike ω u1 p q)
  have B := tB (ω u1 u2) (ω u1 u3) (ω u1 p) (ω u1 q) (ω u2 u3) (ω u2 p) (ω u2 q) (ω u3 p) (ω u3 q) (ω p q)
  have C := tC (ω u1 u2) (ω u1 u3) (ω u1 p) (ω u1 q) (ω u2 u3) (ω u2 p) (ω u2 q) (ω u3 p) (ω u3 q) (deg ω u1) ed1
  dsimp only at A B C
  rw [← ed1] at B
  constructor
  · rw [ed3, c3p, c3q, ed2, b23, b2p, b2q, b3p, b3q]
    exact C
  · rw [last, ed3, c3p, c3q, cpq, ed2]
    refine A.trans ?_
    have e : tau4 (strike ω u1 u2 u3) (strike ω u1 u2 p) (strike ω u1 u2 q) (strike ω u1 u3 p) (strike ω u1 u3 q) (strike ω u1 p q) = deg ω u1 * deg ω u1 * tau5 (ω u1 u2) (ω u1 u3) (ω u1 p) (ω u1 q) (ω u2 u3) (ω u2 p) (ω u2 q) (ω u3 p) (ω u3 q) (ω p q) := by
      rw [b23, b2p, b2q, b3p, b3q, bpq]; exact B
    rw [e]
    generalize strike ω u1 u2 u3 + strike ω u1 u2 p + strike ω u1 u2 q = x
    generalize deg ω u1 * deg ω u1 = y
    generalize tau5 _ _ _ _ _ _ _ _ _ _ = z
    rw [← Int.mul_assoc, Int.mul_comm x y]
end Mine
end
section
open PySem
set_option linter.unusedVariables false
set_option maxRecDepth 1000000
set_option maxHeartbeats 40000000
namespace Mine
theorem ts01 (a b c d e f g h i j : Int) : tau5 h i b e j c f d g a = tau5 a b c d e f g h i j := by unfold tau5 det3; grind
theorem ts02 (a b c d e f g h i j : Int) : tau5 f g a e j c h d i b = tau5 a b c d e f g h i j := by unfold tau5 det3; grind
theorem ts03 (a b c d e f g h i j : Int) : tau5 e g a f i b h d j c = tau5 a b c d e f g h i j := by unfold tau5 det3; grind
theorem ts04 (a b c d e f g h i j : Int) : tau5 e f a g h b i c j d = tau5 a b c d e f g h i j := by unfold tau5 det3; grind
theorem ts12 (a b c d e f g h i j : Int) : tau5 c d a b j f h g i e = tau5 a b c d e f g h i j := by unfold tau5 det3; grind
theorem ts13 (a b c d e f g h i j : Int) : tau5 b d a c i e h g j f = tau5 a b c d e f g h i j := by unfold tau5 det3; grind
theorem ts14 (a b c d e f g h i j : Int) : tau5 b c a d h e i f j g = tau5 a b c d e f g h i j := by unfold tau5 det3; grind
theorem ts23 (a b c d e f g h i j : Int) : tau5 a d b c g e f i j h = tau5 a b c d e f g h i j := by unfold tau5 det3; grind
theorem ts24 (a b c d e f g h i j : Int) : tau5 a c b d f e g h j i = tau5 a b c d e f g h i j := by unfold tau5 det3; grind
theorem ts34 (a b c d e f g h i j : Int) : tau5 a b c d e f g h i j = tau5 a b c d e f g h i j := by unfold tau5 det3; grind
theorem foster (a b c d e f g h i j : Int) : a * minor h i b e j c f d g + b * minor f g a e j c h d i + c * minor e g a f i b h d j + d * minor e f a g h b i c j + e * minor c d a b j f h g i + f * minor b d a c i e h g j + g * minor b c a d h e i f j + h * minor a d b c g e f i j + i * minor a c b d f e g h j + j * minor a b c d e f g h i = 4 * tau5 a b c d e f g h i j := by unfold tau5 minor det3; grind
end Mine
end
section
open PySem PySem.Calls PyProof.Rows PySem.Builtin.Str
set_option linter.unusedVariables false
set_option maxRecDepth 100000
set_option exponentiation.threshold 2000
namespace Mine
def stg (p q : Nat) (ω : Nat → Nat → Int) : Nat → List Int × (Nat → Nat → Int)
  | 0 => ([], ω)
  | k + 1 => if k ≠ p ∧ k ≠ q then ((stg p q ω k).1 ++ [deg (stg p q ω k).2 k], strike (stg p q ω k).2 k) else stg p q ω k
def rem (p q k j : Nat) : Bool := decide (k ≤ j) || decide (j = p) || decide (j = q)
def bnd : Nat → Int
  | 0 => 512
  | m + 1 => 6 * (bnd m * bnd m)
theorem bnd_pos : ∀ m, 0 < bnd m
  | 0 => by decide
  | m + 1 => by have h := bnd_pos m; have h2 := Int.mul_pos h h; show 0 < 6 * (bnd m * bnd m); omega
theorem bnd_le : ∀ m, m ≤ 4 → bnd m ≤ 2 ^ 190 := by decide +kernel

structure Stage (T : Tb) (p q k : Nat) (ω : Nat → Nat → Int) (T' : Tb) : Prop where
  run : betF (chS p) (chS q) T k = ((stg p q ω k).1, T')
  rep : RepT T' (rem p q k) (stg p q ω k).2
  con : Conn (rem p q k) (stg p q ω k).2
  bd : ∃ m, m ≤ k ∧ Bdd (stg p q ω k).2 (bnd m)

theorem stage {T : Tb} {ω : Nat → Nat → Int} {p q : Nat} (hp : p < 5) (hq : q < 5) (R : RepT T (fun _ => true) ω) (C : Conn (fun _ => true) ω) (B : Bdd ω 512) : ∀ k, k ≤ 5 → ∃ T', Stage T p q k ω T'
  | 0, _ => ⟨T, rfl, by
      have e : rem p q 0 = fun _ => true := by funext j; simp [rem]
      rw [e]; exact R, by
      have e : rem p q 0 = fun _ => true := by funext j; simp [rem]
      rw [e]; exact C, 0, Nat.le_refl _, B⟩
  | k + 1, hk => by
    obtain ⟨T', X⟩ := stage hp hq R C B k (by omega)
    by_cases h : k ≠ p ∧ k ≠ q
    · have es : stg p q ω (k + 1) = ((stg p q ω k).1 ++ [deg (stg p q ω k).2 k], strike (stg p q ω k).2 k) := if_pos h
      have sk : rem p q k k = true := by simp [rem]
      have sp : rem p q k p = true := by simp [rem]
      have hd := X.con.deg X.rep.pos (v := k) (u := p) (by omega) hp sk sp (fun e => h.1 e.symm)
      obtain ⟨b, hb, hs, hr⟩ := strike_rep X.rep (v := k) (by omega) sk hd
      have hc := X.con.strike X.rep.pos X.rep.sym (v := k) (by omega) sk hd
      have er : (fun j => rem p q k j && decide (j ≠ k)) = rem p q (k + 1) := by
        funext j
        unfold rem
        by_cases h1 : j = k
        · subst h1; simp [h.1, h.2]
        · have : (k ≤ j) ↔ (k + 1 ≤ j) := by omega
          simp [h1, this]
      rw [er] at hr hc
      refine ⟨struckL T' (chS k) (deg (stg p q ω k).2 k) b, ?_, ?_, ?_, ?_⟩
      · rw [betF_succ, X.run, es]
        unfold betS
        have h1 : chS k ≠ chS p ∧ chS k ≠ chS q := ⟨fun e => h.1 (chS_inj e), fun e => h.2 (chS_inj e)⟩
        rw [if_pos h1]
        simp only [hb, Option.getD_some, hs]
      · rw [es]; exact hr
      · rw [es]; exact hc
      · obtain ⟨m, hm, hB⟩ := X.bd
        rw [es]
        exact ⟨m + 1, by omega, hB.strike X.rep.pos (by omega)⟩
    · have es : stg p q ω (k + 1) = stg p q ω k := if_neg h
      have er : rem p q (k + 1) = rem p q k := by
        funext j
        unfold rem
        by_cases h1 : j = k
        · subst h1
          have h2 : j = p ∨ j = q := by
            by_cases a : j = p
            · exact .inl a
            · exact .inr (by
                by_cases b : j = q
                · exact b
                · exact absurd ⟨a, b⟩ h)
          rcases h2 with h2 | h2 <;> simp [h2]
        · have : (k ≤ j) ↔ (k + 1 ≤ j) := by omega
          simp [this]
      refine ⟨T', ?_, ?_, ?_, ?_⟩
      · rw [betF_succ, X.run, es]
        unfold betS
        rw [if_neg]
        rintro ⟨a, b⟩
        exact h ⟨fun e => a (by rw [e]), fun e => b (by rw [e])⟩
      · rw [es, er]; exact X.rep
      · rw [es, er]; exact X.con
      · obtain ⟨m, hm, hB⟩ := X.bd
        rw [es]; exact ⟨m, by omega, hB⟩

theorem sm_of {a B : Int} (h0 : 0 ≤ a) (h : a ≤ B) (hB : B < 2 ^ 200) : Sm a := Sm.of (Int.lt_of_lt_of_le (show -((2 : Int) ^ 200) < 0 by decide) h0) (Int.lt_of_le_of_lt h hB)
theorem deg_nonneg {ω : Nat → Nat → Int} (h0 : ∀ i j, i < 5 → j < 5 → 0 ≤ ω i j) {v : Nat} (hv : v < 5) : 0 ≤ deg ω v := by
  unfold deg S5
  have h0' := h0 v 0 hv (by decide)
  have h1 := h0 v 1 hv (by decide)
  have h2 := h0 v 2 hv (by decide)
  have h3 := h0 v 3 hv (by decide)
  have h4 := h0 v 4 hv (by decide)
  omega
theorem RepT.in5 {T : Tb} {S : Nat → Bool} {ω : Nat → Nat → Int} (R : RepT T S ω) : In5 T := fun e he => let ⟨j, hj, _, hk, _⟩ := R.row e he; ⟨j, hj, hk⟩
theorem RepT.good {T : Tb} {S : Nat → Bool} {ω : Nat → Nat → Int} (R : RepT T S ω) {m : Nat} (hm : m ≤ 4) (B : Bdd ω (bnd m)) {v : Nat} (hv : v < 5) (hs : S v = true) : GoodT T (chS v) := by
  obtain ⟨w, hw, hr⟩ := R.get hv hs
  have hb := bnd_le m hm
  refine ⟨⟨w, hw, ?_⟩, Nat.le_trans (In5.len R.nd R.in5) (by decide), fun e he => ?_⟩
  · rw [hr.sum fun j hj => R.pos v j hv hj]
    have h1 := B.deg hv
    exact sm_of (deg_nonneg R.pos hv) h1 (by have : (5 : Int) * 2 ^ 190 < 2 ^ 200 := by decide
                                             omega)
  · obtain ⟨j, hj, _, _, hr⟩ := R.row e he
    refine ⟨Nat.le_trans (In5.len hr.nd hr.key) (by decide), fun x hx => ?_⟩
    obtain ⟨i, hi, _, e2, hp⟩ := hr.mem hx
    rw [e2]
    exact sm_of (R.pos j i hj hi) (Int.le_trans (B j i hj hi) hb) (by decide)
theorem strike_pos {ω : Nat → Nat → Int} (h0 : ∀ i j, i < 5 → j < 5 → 0 ≤ ω i j) {v i j : Nat} (hv : v < 5) (hi : i < 5) (hj : j < 5) (hd : 0 < deg ω v) (a : i ≠ v) (b : j ≠ v) (c : i ≠ j) (h : 0 < ω i j) : 0 < strike ω v i j := by
  unfold strike
  rw [if_neg (by simp [a, b, c])]
  have m1 := Int.mul_pos hd h
  have m2 := Int.mul_nonneg (h0 v i hv hi) (h0 v j hv hj)
  omega
theorem stg_pos {T : Tb} {ω : Nat → Nat → Int} {p q : Nat} (hp : p < 5) (hq : q < 5) (hne : p ≠ q) (R : RepT T (fun _ => true) ω) (C : Conn (fun _ => true) ω) (B : Bdd ω 512) (h : 0 < ω p q) : ∀ k, k ≤ 5 → 0 < (stg p q ω k).2 p q
  | 0, _ => h
  | k + 1, hk => by
    have ih := stg_pos hp hq hne R C B h k (by omega)
    obtain ⟨T', X⟩ := stage hp hq R C B k (by omega)
    by_cases hh : k ≠ p ∧ k ≠ q
    · have es : stg p q ω (k + 1) = ((stg p q ω k).1 ++ [deg (stg p q ω k).2 k], strike (stg p q ω k).2 k) := if_pos hh
      rw [es]
      have hd := X.con.deg X.rep.pos (v := k) (u := p) (by omega) hp (by simp [rem]) (by simp [rem]) (fun e => hh.1 e.symm)
      exact strike_pos X.rep.pos (by omega) hp hq hd (fun e => hh.1 e.symm) (fun e => hh.2 e.symm) hne ih
    · have es : stg p q ω (k + 1) = stg p q ω k := if_neg hh
      rw [es]; exact ih
end Mine
end
section
open PySem PySem.Calls PyProof.Rows PySem.Builtin.Str
set_option linter.unusedVariables false
set_option maxRecDepth 100000
set_option exponentiation.threshold 2000
namespace Mine
def Tau (ω : Nat → Nat → Int) : Int := tau5 (ω 0 1) (ω 0 2) (ω 0 3) (ω 0 4) (ω 1 2) (ω 1 3) (ω 1 4) (ω 2 3) (ω 2 4) (ω 3 4)
def Mf (T : Tb) (x y : Str) : Int := ((betF x y T 5).1.getD 2 0).fdiv ((betF x y T 5).1.getD 0 0)
structure Start (T : Tb) (ω : Nat → Nat → Int) : Prop where
  rep : RepT T (fun _ => true) ω
  con : Conn (fun _ => true) ω
  bd : Bdd ω 512

theorem le_of_mul {a b c : Int} (h : c = a * b) (ha : 0 < a) (hb : 0 ≤ b) : b ≤ c := by
  rw [h]
  have h1 : 1 * b ≤ a * b := Int.mul_le_mul_of_nonneg_right (by omega) hb
  omega
theorem nonneg_of_mul {a b c : Int} (h : c = a * b) (ha : 0 < a) (hc : 0 ≤ c) : 0 ≤ b := by
  rcases Int.lt_or_le b 0 with hb | hb
  · have := Int.mul_neg_of_pos_of_neg ha hb
    omega
  · exact hb

theorem pair_of {T : Tb} {ω : Nat → Nat → Int} (Z : Start T ω) {u1 u2 u3 p q : Nat} (hperm : ∀ f : Nat → Int, S5 f = f u1 + f u2 + f u3 + f p + f q) (lt : u1 < 5 ∧ u2 < 5 ∧ u3 < 5 ∧ p < 5 ∧ q < 5)
    (n : u1 ≠ u2 ∧ u1 ≠ u3 ∧ u1 ≠ p ∧ u1 ≠ q ∧ u2 ≠ u3 ∧ u2 ≠ p ∧ u2 ≠ q ∧ u3 ≠ p ∧ u3 ≠ q ∧ p ≠ q)
    (hstg : stg p q ω 5 = ([deg ω u1, deg (strike ω u1) u2, deg (strike (strike ω u1) u2) u3], strike (strike (strike ω u1) u2) u3))
    (ht : tau5 (ω u1 u2) (ω u1 u3) (ω u1 p) (ω u1 q) (ω u2 u3) (ω u2 p) (ω u2 q) (ω u3 p) (ω u3 q) (ω p q) = Tau ω) (hpq : 0 < ω p q) :
    PairOK T (Tau ω) (Mf T) (chS p) (chS q) (ω p q) ∧ Mf T (chS p) (chS q) = minor (ω u1 u2) (ω u1 u3) (ω u1 p) (ω u1 q) (ω u2 u3) (ω u2 p) (ω u2 q) (ω u3 p) (ω u3 q) ∧ Sm (Tau ω) := by
  obtain ⟨l1, l2, l3, l4, l5⟩ := lt
  obtain ⟨a3, aL⟩ := alg Z.rep.diag hperm l1 n
  rw [ht] at aL
  obtain ⟨T', X⟩ := stage l4 l5 Z.rep Z.con Z.bd 5 (Nat.le_refl _)
  have hlast := stg_pos l4 l5 n.2.2.2.2.2.2.2.2.2 Z.rep Z.con Z.bd hpq 5 (Nat.le_refl _)
  have hrun := X.run
  have hrep := X.rep
  rw [hstg] at hlast hrun hrep
  dsimp only at hlast hrun hrep
  have B1 := Z.bd.strike Z.rep.pos l1
  have d1 := Z.con.deg Z.rep.pos l1 l2 rfl rfl n.1.symm
  have c1 := Z.con.strike Z.rep.pos Z.rep.sym l1 rfl d1
  have pos1 : ∀ i j, i < 5 → j < 5 → 0 ≤ strike ω u1 i j := fun i j hi hj => by
    unfold strike
    split
    · exact Int.le_refl _
    · exact Int.add_nonneg (Int.mul_nonneg (Int.le_of_lt d1) (Z.rep.pos i j hi hj)) (Int.mul_nonneg (Z.rep.pos u1 i l1 hi) (Z.rep.pos u1 j l1 hj))
  have d2 := c1.deg pos1 l2 l3 (by simp [n.1.symm]) (by simp [n.2.1.symm]) n.2.2.2.2.1.symm
  have B2 := B1.strike pos1 l2
  have pos2 : ∀ i j, i < 5 → j < 5 → 0 ≤ strike (strike ω u1) u2 i j := fun i j hi hj => by
    rw [strike]
    split
    · exact Int.le_refl _
    · exact Int.add_nonneg (Int.mul_nonneg (Int.le_of_lt d2) (pos1 i j hi hj)) (Int.mul_nonneg (pos1 u2 i l2 hi) (pos1 u2 j l2 hj))
  have B3 := B2.strike pos2 l3
  have g1 := Z.bd.deg l1
  have g2 := B1.deg l2
  have g3 := B2.deg l3
  have p3 := deg_nonneg pos2 l3
  have g4 := B3 p q l4 l5
  generalize hone : deg ω u1 = one at *
  generalize htwo : deg (strike ω u1) u2 = two at *
  generalize hthree : deg (strike (strike ω u1) u2) u3 = three at *
  generalize minor (ω u1 u2) (ω u1 u3) (ω u1 p) (ω u1 q) (ω u2 u3) (ω u2 p) (ω u2 q) (ω u3 p) (ω u3 q) = M at *
  generalize hla : strike (strike (strike ω u1) u2) u3 p q = last at *
  have m0 : 0 ≤ M := nonneg_of_mul a3 d1 p3
  have m1 : M ≤ three := le_of_mul a3 d1 m0
  have oo : 0 < one * one := Int.mul_pos d1 d1
  have oot : 0 < one * one * two := Int.mul_pos oo d2
  have t0 : 0 ≤ Tau ω := nonneg_of_mul aL oot (Int.le_of_lt hlast)
  have t1 : Tau ω ≤ last := le_of_mul aL oot t0
  have hM : Mf T (chS p) (chS q) = M := by
    unfold Mf
    rw [hrun]
    show three.fdiv one = M
    rw [a3]
    exact Int.mul_fdiv_cancel_left _ (by omega)
  have oo2 : one * one ≤ 2560 * 2560 := Int.mul_le_mul g1 g1 (Int.le_of_lt d1) (by decide)
  have oot2 : one * one * two ≤ 2560 * 2560 * (5 * (6 * (512 * 512))) := Int.mul_le_mul oo2 g2 (Int.le_of_lt d2) (by decide)
  refine ⟨⟨fun k hk h1 h2 => ?_, ?_, sm_of (Int.le_of_lt hpq) (Z.bd p q l4 l5) (by decide), ?_⟩, hM, sm_of t0 (Int.le_trans t1 g4) (by decide)⟩
  · obtain ⟨T'', Y⟩ := stage l4 l5 Z.rep Z.con Z.bd k (by omega)
    rw [Y.run]
    obtain ⟨m, hm, hB⟩ := Y.bd
    exact Y.rep.good (by omega) hB hk (by simp [rem])
  · obtain ⟨w, hw, hr⟩ := hrep.get l4 (by simp [rem])
    refine ⟨one, two, three, last, w, by rw [hrun], by rw [hrun]; exact hw, ?_, by omega, by omega, sm_of (Int.le_of_lt d1) g1 (by decide), sm_of (Int.le_of_lt d2) g2 (by decide), sm_of (Int.le_of_lt oo) oo2 (by decide), sm_of (Int.le_of_lt oot) oot2 (by decide), ?_, ?_, ?_, ?_⟩
    · have hv := hr.val q l5
      simp only [hla] at hv
      rw [if_pos hlast] at hv
      exact hv
    · rw [a3]; exact Int.mul_fmod_right _ _
    · rw [aL]; exact Int.mul_fmod_right _ _
    · rw [hM, a3]; exact Int.mul_fdiv_cancel_left _ (by omega)
    · rw [aL]; exact Int.mul_fdiv_cancel_left _ (by omega)
  · rw [hM]; exact sm_of m0 (Int.le_trans m1 g3) (by decide)
end Mine
end
section
open PySem PySem.Calls PyProof.Rows PySem.Builtin.Str
set_option linter.unusedVariables false
set_option maxRecDepth 100000
set_option exponentiation.threshold 2000
namespace Mine
def MM (ω : Nat → Nat → Int) : Nat → Nat → Int
  | 0, 1 => minor (ω 2 3) (ω 2 4) (ω 2 0) (ω 2 1) (ω 3 4) (ω 3 0) (ω 3 1) (ω 4 0) (ω 4 1)
  | 0, 2 => minor (ω 1 3) (ω 1 4) (ω 1 0) (ω 1 2) (ω 3 4) (ω 3 0) (ω 3 2) (ω 4 0) (ω 4 2)
  | 0, 3 => minor (ω 1 2) (ω 1 4) (ω 1 0) (ω 1 3) (ω 2 4) (ω 2 0) (ω 2 3) (ω 4 0) (ω 4 3)
  | 0, 4 => minor (ω 1 2) (ω 1 3) (ω 1 0) (ω 1 4) (ω 2 3) (ω 2 0) (ω 2 4) (ω 3 0) (ω 3 4)
  | 1, 2 => minor (ω 0 3) (ω 0 4) (ω 0 1) (ω 0 2) (ω 3 4) (ω 3 1) (ω 3 2) (ω 4 1) (ω 4 2)
  | 1, 3 => minor (ω 0 2) (ω 0 4) (ω 0 1) (ω 0 3) (ω 2 4) (ω 2 1) (ω 2 3) (ω 4 1) (ω 4 3)
  | 1, 4 => minor (ω 0 2) (ω 0 3) (ω 0 1) (ω 0 4) (ω 2 3) (ω 2 1) (ω 2 4) (ω 3 1) (ω 3 4)
  | 2, 3 => minor (ω 0 1) (ω 0 4) (ω 0 2) (ω 0 3) (ω 1 4) (ω 1 2) (ω 1 3) (ω 4 2) (ω 4 3)
  | 2, 4 => minor (ω 0 1) (ω 0 3) (ω 0 2) (ω 0 4) (ω 1 3) (ω 1 2) (ω 1 4) (ω 3 2) (ω 3 4)
  | 3, 4 => minor (ω 0 1) (ω 0 2) (ω 0 3) (ω 0 4) (ω 1 2) (ω 1 3) (ω 1 4) (ω 2 3) (ω 2 4)
  | _, _ => 0
def GoodPair (T : Tb) (ω : Nat → Nat → Int) (p q : Nat) : Prop := PairOK T (Tau ω) (Mf T) (chS p) (chS q) (ω p q) ∧ Mf T (chS p) (chS q) = MM ω p q ∧ Sm (Tau ω)
section
variable {T : Tb} {ω : Nat → Nat → Int}
theorem gp01 (Z : Start T ω) (h : 0 < ω 0 1) : GoodPair T ω 0 1 :=
  pair_of Z (u1 := 2) (u2 := 3) (u3 := 4) (p := 0) (q := 1) (fun f => by unfold S5; omega) (by decide) (by decide) rfl (by unfold Tau; rw [Z.rep.sym 2 0 (by decide) (by decide), Z.rep.sym 2 1 (by decide) (by decide), Z.rep.sym 3 0 (by decide) (by decide), Z.rep.sym 3 1 (by decide) (by decide), Z.rep.sym 4 0 (by decide) (by decide), Z.rep.sym 4 1 (by decide) (by decide)]; exact ts01 _ _ _ _ _ _ _ _ _ _) h
theorem gp02 (Z : Start T ω) (h : 0 < ω 0 2) : GoodPair T ω 0 2 :=
  pair_of Z (u1 := 1) (u2 := 3) (u3 := 4) (p := 0) (q := 2) (fun f => by unfold S5; omega) (by decide) (by decide) rfl (by unfold Tau; rw [Z.rep.sym 1 0 (by decide) (by decide), Z.rep.sym 3 0 (by decide) (by decide), Z.rep.sym 3 2 (by decide) (by decide), Z.rep.sym 4 0 (by decide) (by decide), Z.rep.sym 4 2 (by decide) (by decide)]; exact ts02 _ _ _ _ _ _ _ _ _ _) h
theorem gp03 (Z : Start T ω) (h : 0 < ω 0 3) : GoodPair T ω 0 3 :=
  pair_of Z (u1 := 1) (u2 := 2) (u3 := 4) (p := 0) (q := 3) (fun f => by unfold S5; omega) (by decide) (by decide) rfl (by unfold Tau; rw [Z.rep.sym 1 0 (by decide) (by decide), Z.rep.sym 2 0 (by decide) (by decide), Z.rep.sym 4 0 (by decide) (by decide), Z.rep.sym 4 3 (by decide) (by decide)]; exact ts03 _ _ _ _ _ _ _ _ _ _) h
theorem gp04 (Z : Start T ω) (h : 0 < ω 0 4) : GoodPair T ω 0 4 :=
  pair_of Z (u1 := 1) (u2 := 2) (u3 := 3) (p := 0) (q := 4) (fun f => by unfold S5; omega) (by decide) (by decide) rfl (by unfold Tau; rw [Z.rep.sym 1 0 (by decide) (by decide), Z.rep.sym 2 0 (by decide) (by decide), Z.rep.sym 3 0 (by decide) (by decide)]; exact ts04 _ _ _ _ _ _ _ _ _ _) h
theorem gp12 (Z : Start T ω) (h : 0 < ω 1 2) : GoodPair T ω 1 2 :=
  pair_of Z (u1 := 0) (u2 := 3) (u3 := 4) (p := 1) (q := 2) (fun f => by unfold S5; omega) (by decide) (by decide) rfl (by unfold Tau; rw [Z.rep.sym 3 1 (by decide) (by decide), Z.rep.sym 3 2 (by decide) (by decide), Z.rep.sym 4 1 (by decide) (by decide), Z.rep.sym 4 2 (by decide) (by decide)]; exact ts12 _ _ _ _ _ _ _ _ _ _) h
theorem gp13 (Z : Start T ω) (h : 0 < ω 1 3) : GoodPair T ω 1 3 :=
  pair_of Z (u1 := 0) (u2 := 2) (u3 := 4) (p := 1) (q := 3) (fun f => by unfold S5; omega) (by decide) (by decide) rfl (by unfold Tau; rw [Z.rep.sym 2 1 (by decide) (by decide), Z.rep.sym 4 1 (by decide) (by decide), Z.rep.sym 4 3 (by decide) (by decide)]; exact ts13 _ _ _ _ _ _ _ _ _ _) h
theorem gp14 (Z : Start T ω) (h : 0 < ω 1 4) : GoodPair T ω 1 4 :=
  pair_of Z (u1 := 0) (u2 := 2) (u3 := 3) (p := 1) (q := 4) (fun f => by unfold S5; omega) (by decide) (by decide) rfl (by unfold Tau; rw [Z.rep.sym 2 1 (by decide) (by decide), Z.rep.sym 3 1 (by decide) (by decide)]; exact ts14 _ _ _ _ _ _ _ _ _ _) h
theorem gp23 (Z : Start T ω) (h : 0 < ω 2 3) : GoodPair T ω 2 3 :=
  pair_of Z (u1 := 0) (u2 := 1) (u3 := 4) (p := 2) (q := 3) (fun f => by unfold S5; omega) (by decide) (by decide) rfl (by unfold Tau; rw [Z.rep.sym 4 2 (by decide) (by decide), Z.rep.sym 4 3 (by decide) (by decide)]; exact ts23 _ _ _ _ _ _ _ _ _ _) h
theorem gp24 (Z : Start T ω) (h : 0 < ω 2 4) : GoodPair T ω 2 4 :=
  pair_of Z (u1 := 0) (u2 := 1) (u3 := 3) (p := 2) (q := 4) (fun f => by unfold S5; omega) (by decide) (by decide) rfl (by unfold Tau; rw [Z.rep.sym 3 2 (by decide) (by decide)]; exact ts24 _ _ _ _ _ _ _ _ _ _) h
theorem gp34 (Z : Start T ω) (h : 0 < ω 3 4) : GoodPair T ω 3 4 :=
  pair_of Z (u1 := 0) (u2 := 1) (u3 := 2) (p := 3) (q := 4) (fun f => by unfold S5; omega) (by decide) (by decide) rfl (by unfold Tau; exact ts34 _ _ _ _ _ _ _ _ _ _) h
theorem good_pair (Z : Start T ω) {p q : Nat} (hpq : p < q) (hq : q < 5) (h : 0 < ω p q) : GoodPair T ω p q := by
  have hc : (p = 0 ∧ q = 1) ∨ (p = 0 ∧ q = 2) ∨ (p = 0 ∧ q = 3) ∨ (p = 0 ∧ q = 4) ∨ (p = 1 ∧ q = 2) ∨ (p = 1 ∧ q = 3) ∨ (p = 1 ∧ q = 4) ∨ (p = 2 ∧ q = 3) ∨ (p = 2 ∧ q = 4) ∨ (p = 3 ∧ q = 4) := by omega
  rcases hc with ⟨rfl, rfl⟩ | ⟨rfl, rfl⟩ | ⟨rfl, rfl⟩ | ⟨rfl, rfl⟩ | ⟨rfl, rfl⟩ | ⟨rfl, rfl⟩ | ⟨rfl, rfl⟩ | ⟨rfl, rfl⟩ | ⟨rfl, rfl⟩ | ⟨rfl, rfl⟩
  · exact gp01 Z h
  · exact gp02 Z h
  · exact gp03 Z h
  · exact gp04 Z h
  · exact gp12 Z h
  · exact gp13 Z h
  · exact gp14 Z h
  · exact gp23 Z h
  · exact gp24 Z h
  · exact gp34 Z h
theorem foster_sum (Z : Start T ω) : (S5 fun i => S5 fun j => if i < j then ω i j * MM ω i j else 0) = 4 * Tau ω := by
  have e : (S5 fun i => S5 fun j => if i < j then ω i j * MM ω i j else 0) = ω 0 1 * MM ω 0 1 + ω 0 2 * MM ω 0 2 + ω 0 3 * MM ω 0 3 + ω 0 4 * MM ω 0 4 + ω 1 2 * MM ω 1 2 + ω 1 3 * MM ω 1 3 + ω 1 4 * MM ω 1 4 + ω 2 3 * MM ω 2 3 + ω 2 4 * MM ω 2 4 + ω 3 4 * MM ω 3 4 := by
    simp [S5]; omega
  rw [e]
  have f := foster (ω 0 1) (ω 0 2) (ω 0 3) (ω 0 4) (ω 1 2) (ω 1 3) (ω 1 4) (ω 2 3) (ω 2 4) (ω 3 4)
  unfold Tau
  rw [← f]
  simp only [MM]
  rw [Z.rep.sym 2 0 (by decide) (by decide), Z.rep.sym 2 1 (by decide) (by decide), Z.rep.sym 3 0 (by decide) (by decide), Z.rep.sym 3 1 (by decide) (by decide), Z.rep.sym 4 0 (by decide) (by decide), Z.rep.sym 4 1 (by decide) (by decide), Z.rep.sym 1 0 (by decide) (by decide), Z.rep.sym 3 2 (by decide) (by decide), Z.rep.sym 4 2 (by decide) (by decide), Z.rep.sym 4 3 (by decide) (by decide)]
end
end Mine
end
section
open PySem PySem.Calls PyProof.Rows PySem.Builtin.Str
set_option linter.unusedVariables false
set_option maxRecDepth 100000
set_option exponentiation.threshold 2000
namespace Mine
theorem ltS_chS : ∀ i, i < 5 → ∀ j, j < 5 → ltS (chS i) (chS j) = decide (i < j) := by decide +kernel
theorem filter_sum (w : Wg) (p : Str × Int → Bool) (f : Str × Int → Int) : ((w.filter p).map f).sum = (w.map fun o => if p o = true then f o else 0).sum := by
  induction w with
  | nil => rfl
  | cons e r ih =>
    rw [List.map_cons, List.sum_cons, ← ih]
    by_cases h : p e = true
    · rw [List.filter_cons_of_pos h, List.map_cons, List.sum_cons, if_pos h]
    · rw [List.filter_cons_of_neg h, if_neg h, Int.zero_add]
section
variable {T : Tb} {ω : Nat → Nat → Int}
theorem cIn_eq (Z : Start T ω) {i : Nat} (hi : i < 5) {w : Wg} (hr : RepW w (ω i)) : cIn (Mf T) (chS i) w = S5 fun j => if i < j then ω i j * MM ω i j else 0 := by
  unfold cIn
  rw [filter_sum]
  refine (sum5 (fun (k : Str) (n : Int) => if ltS (chS i) k = true then n * Mf T (chS i) k else 0) w hr.nd hr.key).trans (S5_congr fun j hj => ?_)
  rw [hr.val j hj, ltS_chS i hi j hj]
  by_cases hij : i < j
  · by_cases hp : 0 < ω i j
    · rw [if_pos hp, if_pos hij]
      have := (good_pair Z hij hj hp).2.1
      show (if decide (i < j) = true then ω i j * Mf T (chS i) (chS j) else 0) = _
      rw [if_pos (decide_eq_true hij), this]
    · have h0 := Z.rep.pos i j hi hj
      have : ω i j = 0 := by omega
      rw [if_neg hp, if_pos hij, this, Int.zero_mul]; rfl
  · rw [if_neg hij]
    by_cases hp : 0 < ω i j
    · rw [if_pos hp]
      show (if decide (i < j) = true then ω i j * Mf T (chS i) (chS j) else 0) = 0
      rw [if_neg (by simpa using hij)]
    · rw [if_neg hp]; rfl
theorem cOut_eq (Z : Start T ω) : cOut (Mf T) T = 4 * Tau ω := by
  rw [← foster_sum Z]
  unfold cOut
  refine (sum5 (fun (k : Str) (w : Wg) => cIn (Mf T) k w) T Z.rep.nd Z.rep.in5).trans (S5_congr fun i hi => ?_)
  obtain ⟨w, hw, hr⟩ := Z.rep.get hi rfl
  rw [hw]
  exact cIn_eq Z hi hr
theorem le_sum {α : Type} {l : List α} {f : α → Nat} {e : α} (h : e ∈ l) : f e ≤ (l.map f).sum := by
  induction l with
  | nil => cases h
  | cons x r ih =>
    rw [List.map_cons, List.sum_cons]
    rcases List.mem_cons.mp h with rfl | h
    · omega
    · have := ih h; omega
theorem kOut_pos (Z : Start T ω) (h : 0 < ω 0 1) : 1 ≤ kOut T := by
  obtain ⟨w, hw, hr⟩ := Z.rep.get (j := 0) (by decide) rfl
  have hm := getA_mem hw
  have h1 := hr.val 1 (by decide)
  rw [if_pos h] at h1
  have hm1 := getA_mem (l := w) h1
  have hk : 1 ≤ kIn (chS 0) w := by
    unfold kIn
    have : (chS 1, ω 0 1) ∈ w.filter fun o => ltS (chS 0) o.1 := List.mem_filter.mpr ⟨hm1, by rw [ltS_chS 0 (by decide) 1 (by decide)]; rfl⟩
    exact List.length_pos_of_mem this
  exact Nat.le_trans hk (le_sum (f := fun e : Str × Wg => kIn e.1 e.2) hm)
theorem fin_of (Z : Start T ω) (h : 0 < ω 0 1) : T.length ≤ 100 ∧ (∀ e ∈ T, e.2.length ≤ 100) ∧
    ∃ T0 M, (∀ e ∈ T, ∀ o ∈ e.2, ltS e.1 o.1 = true → PairOK T T0 M e.1 o.1 o.2) ∧ 1 ≤ kOut T ∧ cOut M T = 4 * T0 ∧ Sm T0 := by
  refine ⟨Nat.le_trans (In5.len Z.rep.nd Z.rep.in5) (by decide), fun e he => ?_, Tau ω, Mf T, fun e he o ho hlt => ?_, kOut_pos Z h, cOut_eq Z, (good_pair Z (p := 0) (q := 1) (by decide) (by decide) h).2.2⟩
  · obtain ⟨j, _, _, _, hr⟩ := Z.rep.row e he
    exact Nat.le_trans (In5.len hr.nd hr.key) (by decide)
  · obtain ⟨i, hi, _, e1, hr⟩ := Z.rep.row e he
    obtain ⟨j, hj, e2, e3, hp⟩ := hr.mem ho
    rw [e1, e2, ltS_chS i hi j hj] at hlt
    rw [e1, e2, e3]
    exact (good_pair Z (of_decide_eq_true hlt) hj hp).1
end

/-- the wires between two nodes, in width -/
def btw (i j : Nat) (e : Wr) : Bool := decide ((e.1 = i ∧ e.2.1 = j) ∨ (e.1 = j ∧ e.2.1 = i))
def wid (e : Wr) : Int := 7 + (e.2.2 : Int)
def ωw (wl : List Wr) (i j : Nat) : Int := ((wl.filter (btw i j)).map wid).sum
/-- a wire as it should be -/
structure WrOK (e : Wr) : Prop where
  f : e.1 < 5
  s : e.2.1 < 5
  ne : e.1 ≠ e.2.1
  p : e.2.2 < 48
theorem touch_iff {v : Nat} {e : Wr} : touch (chS v) e = decide (e.1 = v ∨ e.2.1 = v) := by
  unfold touch
  have b1 : (chS e.1 == chS v) = decide (e.1 = v) := by
    by_cases h : e.1 = v
    · rw [h]; simp
    · rw [decide_eq_false h]; exact beq_eq_false_iff_ne.mpr fun q => h (chS_inj q)
  have b2 : (chS e.2.1 == chS v) = decide (e.2.1 = v) := by
    by_cases h : e.2.1 = v
    · rw [h]; simp
    · rw [decide_eq_false h]; exact beq_eq_false_iff_ne.mpr fun q => h (chS_inj q)
  rw [List.any_cons, List.any_cons, List.any_nil, b1, b2]
  simp
theorem ωw_snoc (wl : List Wr) (e : Wr) (i j : Nat) : ωw (wl ++ [e]) i j = ωw wl i j + if btw i j e = true then wid e else 0 := by
  unfold ωw
  rw [List.filter_append, List.map_append, List.sum_append_int, List.filter_cons, List.filter_nil]
  split <;> simp
theorem widL_snoc (wl : List Wr) (e : Wr) (v : Str) : widL (wl ++ [e]) v = widL wl v ++ if touch v e = true then [wid e] else [] := by
  unfold widL
  rw [List.filter_append, List.map_append, List.filter_cons, List.filter_nil]
  split <;> rfl
def bi : Bool → Int
  | true => 1
  | false => 0
theorem ite_bi (b : Bool) (x : Int) : (if b = true then x else 0) = bi b * x := by
  cases b
  · exact (Int.zero_mul x).symm
  · exact (Int.one_mul x).symm
theorem btw_count : ∀ f, f < 5 → ∀ s, s < 5 → f ≠ s → ∀ v, v < 5 →
    S5 (fun j => bi (decide ((f = v ∧ s = j) ∨ (f = j ∧ s = v)))) = bi (decide (f = v ∨ s = v)) := by decide +kernel
theorem S5_mul (g : Nat → Int) (x : Int) : S5 (fun j => g j * x) = S5 g * x := by
  unfold S5
  simp only [Int.add_mul]
theorem S5_add (g g' : Nat → Int) : S5 (fun j => g j + g' j) = S5 g + S5 g' := by
  unfold S5
  dsimp only
  omega
theorem ωw_sum {wl : List Wr} (h : ∀ e ∈ wl, WrOK e) {v : Nat} (hv : v < 5) : S5 (ωw wl v) = (widL wl (chS v)).sum := by
  induction wl with
  | nil => rfl
  | cons e r ih =>
    have ih' := ih fun x hx => h x (List.mem_cons_of_mem _ hx)
    have he := h e (List.mem_cons_self ..)
    have hcons : ∀ j, ωw (e :: r) v j = bi (btw v j e) * wid e + ωw r v j := fun j => by
      rw [← ite_bi]
      unfold ωw
      rw [List.filter_cons]
      split
      · rw [List.map_cons, List.sum_cons]
      · exact (Int.zero_add _).symm
    have hw : (widL (e :: r) (chS v)).sum = bi (touch (chS v) e) * wid e + (widL r (chS v)).sum := by
      rw [← ite_bi]
      unfold widL
      rw [List.filter_cons]
      split
      · rw [List.map_cons, List.sum_cons]; rfl
      · exact (Int.zero_add _).symm
    rw [hw, ← ih', touch_iff, ← btw_count _ he.f _ he.s he.ne _ hv, ← S5_mul, ← S5_add]
    exact congrArg S5 (funext hcons)
end Mine
end
section
open PySem PySem.Calls PyProof.Rows PySem.Builtin.Str
set_option linter.unusedVariables false
set_option maxRecDepth 100000
set_option exponentiation.threshold 2000
namespace Mine
def book2 (pr : Prof) (e : Wr) : Prof := book (book pr (chS e.1) (chS e.2.1) (wid e)) (chS e.2.1) (chS e.1) (wid e)
theorem prof_wr (ns : List Nat) : prof ns = (wrL ns).foldl book2 [] := by
  unfold prof wrL
  rw [List.foldl_flatMap]
  congr 1
  funext pr e
  unfold lineBook wrT
  split <;> rfl
theorem wr_ok {ns : List Nat} : ∀ e ∈ wrL ns, WrOK e := by
  intro e he
  obtain ⟨x, _, hx⟩ := List.mem_flatMap.mp he
  unfold wrT at hx
  split at hx
  · rename_i h
    rw [List.mem_singleton.mp hx]
    exact ⟨tF_lt, tS_lt, h.2, tP_lt⟩
  · cases hx
theorem wr_len (ns : List Nat) : (wrL ns).length ≤ ns.length := by
  suffices h : ∀ (l : List Nat) (j : Nat), ((l.zipIdx j).flatMap fun e => wrT e.2 e.1).length ≤ l.length from h ns 0
  intro l
  induction l with
  | nil => intro j; simp
  | cons n r ih =>
    intro j
    have h1 := ih (j + 1)
    have h2 : (wrT j n).length ≤ 1 := by unfold wrT; split <;> simp
    rw [List.zipIdx_cons, List.flatMap_cons, List.length_append, List.length_cons]
    show (wrT j n).length + _ ≤ _
    omega
theorem wid_pos (e : Wr) : 0 < wid e := by unfold wid; omega
theorem ωw_nonneg (wl : List Wr) (i j : Nat) : 0 ≤ ωw wl i j := by
  unfold ωw
  generalize wl.filter (btw i j) = l
  induction l with
  | nil => exact Int.le_refl _
  | cons e r ih => rw [List.map_cons, List.sum_cons]; have := wid_pos e; omega
theorem ωw_le {wl : List Wr} (h : ∀ e ∈ wl, WrOK e) (i j : Nat) : ωw wl i j ≤ 54 * (wl.length : Int) := by
  have hf : (wl.filter (btw i j)).length ≤ wl.length := List.length_filter_le _ _
  have key : ∀ l : List Wr, (∀ e ∈ l, WrOK e) → (l.map wid).sum ≤ 54 * (l.length : Int) := by
    intro l
    induction l with
    | nil => intro _; exact Int.le_refl _
    | cons e r ih =>
      intro hl
      have h1 := ih fun x hx => hl x (List.mem_cons_of_mem _ hx)
      have h2 := (hl e (List.mem_cons_self ..)).p
      rw [List.map_cons, List.sum_cons, List.length_cons]
      unfold wid at h1 ⊢
      omega
  have := key (wl.filter (btw i j)) fun e he => h e (List.mem_filter.mp he).1
  unfold ωw
  omega
theorem ωw_sym (wl : List Wr) (i j : Nat) : ωw wl i j = ωw wl j i := by
  unfold ωw
  congr 2
  apply List.filter_congr
  intro e _
  unfold btw
  rw [decide_eq_decide]
  constructor
  · rintro (⟨a, b⟩ | ⟨a, b⟩)
    · exact .inr ⟨a, b⟩
    · exact .inl ⟨a, b⟩
  · rintro (⟨a, b⟩ | ⟨a, b⟩)
    · exact .inr ⟨a, b⟩
    · exact .inl ⟨a, b⟩
theorem ωw_diag {wl : List Wr} (h : ∀ e ∈ wl, WrOK e) (i : Nat) : ωw wl i i = 0 := by
  unfold ωw
  have : wl.filter (btw i i) = [] := by
    rw [List.filter_eq_nil_iff]
    intro e he q
    have q' := of_decide_eq_true q
    have := (h e he).ne
    rcases q' with ⟨a, b⟩ | ⟨a, b⟩ <;> exact this (a.trans b.symm)
  rw [this]; rfl
theorem ωw_pos {wl : List Wr} {e : Wr} {i j : Nat} (he : e ∈ wl) (hb : btw i j e = true) : 0 < ωw wl i j := by
  unfold ωw
  have hm : e ∈ wl.filter (btw i j) := List.mem_filter.mpr ⟨he, hb⟩
  generalize wl.filter (btw i j) = l at hm
  induction l with
  | nil => cases hm
  | cons x r ih =>
    rw [List.map_cons, List.sum_cons]
    have hx := wid_pos x
    have hr : 0 ≤ (r.map wid).sum := by
      clear ih hm
      induction r with
      | nil => exact Int.le_refl _
      | cons e r ih => rw [List.map_cons, List.sum_cons]; have := wid_pos e; omega
    omega

theorem RepW.book {w : Wg} {g : Nat → Int} (R : RepW w g) (h0 : ∀ j, j < 5 → 0 ≤ g j) {i : Nat} (hi : i < 5) {n : Int} (hn : 0 < n) {g' : Nat → Int} (hg : ∀ j, j < 5 → g' j = g j + if j = i then n else 0) : RepW (addW w [(chS i, n)]) g' := by
  have n1 : (keys [(chS i, n)]).Nodup := by simp [keys]
  obtain ⟨nk, mk⟩ := addW_keys w [(chS i, n)] R.nd
  refine ⟨nk, fun e he => ?_, fun j hj => ?_⟩
  · rcases (mk _).mp (List.mem_map_of_mem (f := (·.1)) he) with h | h
    · obtain ⟨x, hx, e'⟩ := List.mem_map.mp h
      obtain ⟨q, hq, k⟩ := R.key x hx
      exact ⟨q, hq, e'.symm.trans k⟩
    · have : e.1 = chS i := by simpa [keys] using h
      exact ⟨i, hi, this⟩
  · show getA (addW w [(chS i, n)]) (chS j) = _
    have hv : getA w (chS j) = if 0 < g j then some (g j) else none := R.val j hj
    rw [addW_get _ _ R.nd n1, getA_cons, getA_nil, hv, hg j hj]
    have := h0 j hj
    by_cases hij : j = i
    · subst hij
      rw [if_pos rfl, if_pos rfl, if_pos (show 0 < g j + n by omega)]
      by_cases hp : 0 < g j
      · rw [if_pos hp]; rfl
      · have : g j = 0 := by omega
        rw [if_neg hp, this, Int.zero_add]; rfl
    · have : ¬ chS i = chS j := fun q => hij (chS_inj q).symm
      rw [if_neg this, if_neg hij, Int.add_zero]
      by_cases hp : 0 < g j
      · rw [if_pos hp]; rfl
      · rw [if_neg hp]; rfl

structure INV (wl : List Wr) (pr : Prof) : Prop where
  nd : (keys pr).Nodup
  in5 : In5 pr
  ent : ∀ v, v < 5 → ∃ w, (getA pr (chS v)).getD (0, 0, []) = (((widL wl (chS v)).length : Int), (widL wl (chS v)).sum, w) ∧ RepW w (ωw wl v)
  some : ∀ v, v < 5 → widL wl (chS v) ≠ [] → (getA pr (chS v)).isSome = true
theorem book_keys (pr : Prof) (x y : Str) (n : Int) (k : Str) : k ∈ keys (book pr x y n) ↔ k ∈ keys pr ∨ k = x := mem_keys_put
theorem book_get (pr : Prof) (x y : Str) (n : Int) (k : Str) : getA (book pr x y n) k = if k = x then Option.some (1 + ((getA pr x).getD (0, 0, [])).1, n + ((getA pr x).getD (0, 0, [])).2.1, addW ((getA pr x).getD (0, 0, [])).2.2 [(y, n)]) else getA pr k := getA_put ..
theorem INV.step {wl : List Wr} {pr : Prof} (I : INV wl pr) {e : Wr} (he : WrOK e) : INV (wl ++ [e]) (book2 pr e) := by
  obtain ⟨f, s, p⟩ := e
  obtain ⟨hf, hs, hne, hp⟩ := he
  simp only at hf hs hne hp
  have hn := wid_pos (f, s, p)
  unfold book2
  simp only
  have hw : wid (f, s, p) = wid (f, s, p) := rfl
  generalize hnn : wid (f, s, p) = n at *
  have gs : getA (book (book pr (chS f) (chS s) n) (chS s) (chS f) n) = fun k => if k = chS s then Option.some (1 + ((getA pr (chS s)).getD (0, 0, [])).1, n + ((getA pr (chS s)).getD (0, 0, [])).2.1, addW ((getA pr (chS s)).getD (0, 0, [])).2.2 [(chS f, n)])
      else if k = chS f then Option.some (1 + ((getA pr (chS f)).getD (0, 0, [])).1, n + ((getA pr (chS f)).getD (0, 0, [])).2.1, addW ((getA pr (chS f)).getD (0, 0, [])).2.2 [(chS s, n)]) else getA pr k := by
    funext k
    have hsf : ¬ chS s = chS f := fun q => hne (chS_inj q).symm
    rw [book_get, book_get, book_get, if_neg hsf]
  have nonneg := ωw_nonneg wl
  refine ⟨nodup_put (nodup_put I.nd), fun x hx => ?_, fun v hv => ?_, fun v hv hne' => ?_⟩
  · have hk : x.1 ∈ keys (book (book pr (chS f) (chS s) n) (chS s) (chS f) n) := List.mem_map_of_mem hx
    rw [book_keys, book_keys] at hk
    rcases hk with (hk | hk) | hk
    · obtain ⟨y, hy, e⟩ := List.mem_map.mp hk
      obtain ⟨q, hq, e'⟩ := I.in5 y hy
      exact ⟨q, hq, e.symm.trans e'⟩
    · exact ⟨f, hf, hk⟩
    · exact ⟨s, hs, hk⟩
  · rw [gs]
    obtain ⟨w, hw, hr⟩ := I.ent v hv
    rw [widL_snoc, touch_iff]
    simp only [hnn]
    by_cases h1 : v = s
    · subst h1
      refine ⟨addW w [(chS f, n)], ?_, hr.book (fun j _ => nonneg v j) hf hn fun j hj => ?_⟩
      · rw [if_pos rfl, hw]
        simp
        omega
      · rw [ωw_snoc, hnn]
        congr 1
        have : btw v j (f, v, p) = decide (j = f) := by
          unfold btw
          rw [decide_eq_decide]
          constructor
          · rintro (⟨a, b⟩ | ⟨a, b⟩)
            · exact absurd a hne
            · exact a.symm
          · rintro rfl; exact .inr ⟨rfl, rfl⟩
        rw [this]
        by_cases q : j = f <;> simp [q]
    · have n1 : ¬ chS v = chS s := fun q => h1 (chS_inj q)
      by_cases h2 : v = f
      · subst h2
        refine ⟨addW w [(chS s, n)], ?_, hr.book (fun j _ => nonneg v j) hs hn fun j hj => ?_⟩
        · rw [if_neg n1, if_pos rfl, hw]
          simp
          omega
        · rw [ωw_snoc, hnn]
          congr 1
          have : btw v j (v, s, p) = decide (j = s) := by
            unfold btw
            rw [decide_eq_decide]
            constructor
            · rintro (⟨a, b⟩ | ⟨a, b⟩)
              · exact b.symm
              · exact absurd b.symm h1
            · rintro rfl; exact .inl ⟨rfl, rfl⟩
          rw [this]
          by_cases q : j = s <;> simp [q]
      · have n2 : ¬ chS v = chS f := fun q => h2 (chS_inj q)
        refine ⟨w, ?_, ?_⟩
        · rw [if_neg n1, if_neg n2, hw]
          have : ¬ (f = v ∨ s = v) := by rintro (q | q) <;> simp_all
          simp [this]
        · have e : ωw (wl ++ [(f, s, p)]) v = ωw wl v := by
            funext j
            rw [ωw_snoc]
            have : btw v j (f, s, p) = false := by
              unfold btw
              rw [decide_eq_false]
              rintro (⟨a, b⟩ | ⟨a, b⟩)
              · exact h2 a.symm
              · exact h1 b.symm
            rw [this]; simp
          rw [e]; exact hr
  · rw [gs]
    simp only
    by_cases h1 : v = s
    · subst h1; simp
    · have n1 : ¬ chS v = chS s := fun q => h1 (chS_inj q)
      by_cases h2 : v = f
      · subst h2; simp [n1]
      · have n2 : ¬ chS v = chS f := fun q => h2 (chS_inj q)
        rw [if_neg n1, if_neg n2]
        refine I.some v hv fun q => hne' ?_
        rw [widL_snoc, touch_iff, q]
        have : ¬ (f = v ∨ s = v) := by rintro (q | q) <;> simp_all
        simp [this]
theorem inv_of : ∀ (l wl : List Wr) (pr : Prof), (∀ e ∈ l, WrOK e) → INV wl pr → INV (wl ++ l) (l.foldl book2 pr)
  | [], wl, pr, _, I => by rw [List.append_nil]; exact I
  | e :: r, wl, pr, h, I => by
    have := inv_of r (wl ++ [e]) (book2 pr e) (fun x hx => h x (List.mem_cons_of_mem _ hx)) (I.step (h e (List.mem_cons_self ..)))
    rw [List.append_assoc] at this
    exact this
theorem inv_prof (ns : List Nat) : INV (wrL ns) (prof ns) := by
  rw [prof_wr]
  refine inv_of (wrL ns) [] [] wr_ok ⟨.nil, fun e he => (by cases he), fun v hv => ⟨[], rfl, .nil, fun e he => (by cases he), fun j hj => rfl⟩, fun v hv h => absurd rfl h⟩
end Mine
end
section
open PySem PySem.Calls PyProof.Rows PySem.Builtin.Str
set_option linter.unusedVariables false
set_option maxRecDepth 100000
set_option exponentiation.threshold 2000
namespace Mine
theorem tree_wire {ns : List Nat} (hl : ns.length = 7) {k : Nat} (hk : k < 4) : ∃ f p, f ≤ k ∧ (f, k + 1, p) ∈ wrL ns := by
  have h7 : k < ns.length := by omega
  refine ⟨tF k ns[k], tP ns[k], ?_, ?_⟩
  · unfold tF
    rw [if_pos hk]
    have := Nat.mod_lt ns[k] (show k + 1 > 0 by omega)
    omega
  · unfold wrL
    refine List.mem_flatMap.mpr ⟨(ns[k], k), ?_, ?_⟩
    · rw [List.mem_zipIdx_iff_getElem?]
      exact List.getElem?_eq_getElem h7
    · have e2 : tS k ns[k] = k + 1 := if_pos hk
      have e3 : tM k ns[k] ≠ 3 := by
        unfold tM
        rw [if_pos hk]
        split <;> omega
      have e1 : tF k ns[k] ≠ tS k ns[k] := by
        rw [e2]
        unfold tF
        rw [if_pos hk]
        have := Nat.mod_lt ns[k] (show k + 1 > 0 by omega)
        omega
      show (tF k ns[k], k + 1, tP ns[k]) ∈ wrT k ns[k]
      unfold wrT
      rw [if_pos ⟨e3, e1⟩, e2]
      exact List.mem_singleton.mpr rfl
theorem tree_pos {ns : List Nat} (hl : ns.length = 7) {k : Nat} (hk : k < 4) : ∃ f, f ≤ k ∧ 0 < ωw (wrL ns) f (k + 1) := by
  obtain ⟨f, p, hf, hm⟩ := tree_wire hl hk
  exact ⟨f, hf, ωw_pos hm (decide_eq_true (.inl ⟨rfl, rfl⟩))⟩
theorem tree_conn {ω : Nat → Nat → Int} (hsym : ∀ i j, ω i j = ω j i) (h : ∀ k, k < 4 → ∃ f, f ≤ k ∧ 0 < ω f (k + 1)) : Conn (fun _ => true) ω := by
  rintro A ⟨a, ha, _, hA⟩ ⟨b, hb, _, hB⟩
  refine Classical.byContradiction fun hno => ?_
  have same : ∀ i j, i < 5 → j < 5 → 0 < ω i j → A i = A j := fun i j hi hj hp => by
    cases h1 : A i <;> cases h2 : A j
    · rfl
    · exact absurd ⟨j, i, hj, hi, rfl, rfl, h2, h1, by rw [hsym]; exact hp⟩ hno
    · exact absurd ⟨i, j, hi, hj, rfl, rfl, h1, h2, hp⟩ hno
    · rfl
  have all : ∀ n k, k ≤ n → k < 5 → A k = A 0 := by
    intro n
    induction n with
    | zero => intro k hk _; rw [Nat.le_zero.mp hk]
    | succ n ih =>
      intro k hk h5
      rcases Nat.eq_zero_or_pos k with rfl | hp
      · rfl
      · obtain ⟨j, rfl⟩ : ∃ j, k = j + 1 := ⟨k - 1, by omega⟩
        obtain ⟨f, hf, hw⟩ := h j (by omega)
        rw [← same f (j + 1) (by omega) h5 hw]
        exact ih f (by omega) (by omega)
  have e1 := all 5 a (by omega) ha
  have e2 := all 5 b (by omega) hb
  rw [hA] at e1
  rw [hB] at e2
  rw [← e1] at e2
  cases e2
theorem mem_keys_of {α : Type} {l : List (Str × α)} {k : Str} (h : (getA l k).isSome = true) : k ∈ keys l := by
  obtain ⟨v, hv⟩ := Option.isSome_iff_exists.mp h
  exact List.mem_map_of_mem (f := (·.1)) (getA_mem hv)
theorem touched {ns : List Nat} (hl : ns.length = 7) : ∀ v, v < 5 → widL (wrL ns) (chS v) ≠ [] := by
  intro v hv q
  have hsum := ωw_sum (wl := wrL ns) wr_ok hv
  rw [q] at hsum
  have : ∃ j, j < 5 ∧ 0 < ωw (wrL ns) v j := by
    rcases Nat.eq_zero_or_pos v with rfl | hp
    · obtain ⟨f, hf, hw⟩ := tree_pos hl (k := 0) (by decide)
      have : f = 0 := by omega
      subst this
      exact ⟨1, by decide, hw⟩
    · obtain ⟨j, rfl⟩ : ∃ j, v = j + 1 := ⟨v - 1, by omega⟩
      obtain ⟨f, hf, hw⟩ := tree_pos hl (k := j) (by omega)
      exact ⟨f, by omega, by rw [ωw_sym]; exact hw⟩
  obtain ⟨j, hj, hp⟩ := this
  have := S5_pos (f := ωw (wrL ns) v) (fun j _ => ωw_nonneg _ _ _) hj hp
  rw [hsum] at this
  exact absurd this (by decide)
theorem entry_of {ns : List Nat} (hl : ns.length = 7) {v : Nat} (hv : v < 5) : ∃ w, getA (prof ns) (chS v) = some (((widL (wrL ns) (chS v)).length : Int), (widL (wrL ns) (chS v)).sum, w) ∧ RepW w (ωw (wrL ns) v) := by
  have I := inv_prof ns
  obtain ⟨w, hw, hr⟩ := I.ent v hv
  obtain ⟨x, hx⟩ := Option.isSome_iff_exists.mp (I.some v hv (touched hl v hv))
  rw [hx] at hw
  exact ⟨w, by rw [hx]; exact congrArg some hw, hr⟩
theorem start_of {ns : List Nat} (hl : ns.length = 7) : Start (tabOf (prof ns)) (ωw (wrL ns)) := by
  have I := inv_prof ns
  have hlen := wr_len ns
  refine ⟨?_, tree_conn (ωw_sym _) fun k hk => tree_pos hl hk, fun i j _ _ => ?_⟩
  · rw [tabOf_eq _ I.nd]
    refine ⟨by rw [keys_mapVal]; exact I.nd, fun e he => ?_, fun j hj _ => ?_, fun i j _ _ => ωw_sym _ i j, fun i j _ _ => ωw_nonneg _ i j, fun i _ => ωw_diag wr_ok i⟩
    · obtain ⟨x, hx, rfl⟩ := List.mem_map.mp he
      obtain ⟨j, hj, hk⟩ := I.in5 x hx
      obtain ⟨w, hw, hr⟩ := entry_of hl hj
      have h2 := getA_of_mem I.nd (k := chS j) (v := x.2) (by rw [← hk]; exact hx)
      rw [h2] at hw
      have : x.2.2.2 = w := congrArg (fun e : Int × Int × Wg => e.2.2) (Option.some.inj hw)
      exact ⟨j, hj, rfl, hk, by rw [this]; exact hr⟩
    · rw [keys_mapVal]
      obtain ⟨w, hw, _⟩ := entry_of hl hj
      exact mem_keys_of (by rw [hw]; rfl)
  · have := ωw_le (wl := wrL ns) wr_ok i j
    omega
theorem law_ok {ns : List Nat} (hl : ns.length = 7) : LawOK ns := by
  have Z := start_of hl
  obtain ⟨f, hf, hw⟩ := tree_pos hl (k := 0) (by decide)
  have : f = 0 := by omega
  subst this
  obtain ⟨h1, h2, h3⟩ := fin_of Z hw
  refine ⟨by omega, Nat.le_trans (wr_len ns) (by omega), fun k hk => ?_, h1, h2, h3⟩
  obtain ⟨w, hw', hr⟩ := entry_of hl hk
  refine ⟨w, hw', ?_⟩
  rw [hr.sum fun j _ => ωw_nonneg _ _ _]
  exact ωw_sum wr_ok hk
theorem plain_law (script : List Int) : LawOK (nums7 script) := law_ok (nums7_len script)
end Mine
end
section
open PySem PySem.W PySem.Calls PyProof.Rows PySem.Builtin.Str
set_option linter.unusedVariables false
set_option maxRecDepth 100000
set_option maxHeartbeats 8000000
namespace Mine
def hkNames : List Str := ["isinstance", "tuple", "int", "len", "sum", "enumerate", "TICK", "EXACT_TOKEN_TYPES"]
def hkVals : List (Option Value) := [none, none, none, none, none, none, some (.str tickS 229), some (.ref 57)]
def hkObj (P : Params) : Obj := { cls := .type "dict", data := .dict (entL P tokL).toArray 48 }
/-- what the law reads of the top beside its defs -/
def hkSays (w : World) (h : Heap) : Prop := (∃ m, h.Ns mainGlobals m ∧ hkNames.map m = hkVals) ∧ h.get? 57 = some (hkObj w.params)
theorem hk_of (w : World) (s : Shared) (e : ((s.heap.isNs mainGlobals, hkNames.map (s.heap.nsMap mainGlobals)), s.heap.get? 57) = ((true, hkVals), some (hkObj w.params))) : hkSays w s.heap :=
  ⟨⟨_, .of_isNs (congrArg (·.1.1) e), congrArg (·.1.2) e⟩, congrArg (·.2) e⟩
theorem hk_keeps (w : World) (h h' : Heap) (x : hkSays w h) (k : ∀ b o, h.get? b = some o → h'.get? b = some o) : hkSays w h' :=
  let ⟨⟨m, a, b⟩, c⟩ := x; ⟨⟨m, a.keeps k, b⟩, k _ _ c⟩
def hk : Hook := ⟨(Bool × List (Option Value)) × Option Obj, fun s => ((s.heap.isNs mainGlobals, hkNames.map (s.heap.nsMap mainGlobals)), s.heap.get? 57), fun w => ((true, hkVals), some (hkObj w.params)), hkSays, hk_of, hk_keeps⟩
theorem is_of {q : Program} {Θ : Wd} {loose : List Str} {mean : ExcName → Option Value} (T : Top q loose mean Θ.mg Θ.mb Θ.hb) (j k : Nat) (name : Str) (hj : ((recsOf q)[j]?).map (fun d => (d.name, d.params, d.body, d.scope)) = some (name, stA (stAt k), stB (stAt k), stS (stAt k))) : ∃ a, Is Θ k name a := by
  cases e : (recsOf q)[j]? with
  | none => rw [e] at hj; cases hj
  | some d =>
    rw [e] at hj
    have h := Option.some.inj hj
    obtain ⟨a, o, pm, code, doc, h1, h2, h3, h4⟩ := T.fn d (List.mem_of_getElem? e)
    obtain ⟨e1, h⟩ := Prod.mk.inj h
    obtain ⟨e2, h⟩ := Prod.mk.inj h
    obtain ⟨e3, e4⟩ := Prod.mk.inj h
    replace e1 : d.name = name := e1
    replace e2 : d.params = _ := e2
    replace e3 : d.body = _ := e3
    replace e4 : d.scope = _ := e4
    rw [e1] at h1
    rw [e1, e2, e3, e4] at h3
    rw [e1] at h4
    exact ⟨a, ⟨o, pm, code, doc, h2, h3, h4⟩, gv_of h1⟩
theorem tops_of {w : World} {h : Heap} {q : Program} {loose : List Str} {mean : ExcName → Option Value} {mg mb : Str → Option Value} (Y : hkSays w h) (T : Top q loose mean mg mb h) : Tops ⟨pw, w, h, mg, mb⟩ := by
  obtain ⟨⟨m, hn, e⟩, ho⟩ := Y
  rw [hn.eq_nsMap, ← T.g.eq_nsMap] at e
  obtain ⟨e1, e⟩ := List.cons.inj e
  obtain ⟨e2, e⟩ := List.cons.inj e
  obtain ⟨e3, e⟩ := List.cons.inj e
  obtain ⟨e4, e⟩ := List.cons.inj e
  obtain ⟨e5, e⟩ := List.cons.inj e
  obtain ⟨e6, e⟩ := List.cons.inj e
  obtain ⟨e7, e⟩ := List.cons.inj e
  obtain ⟨e8, e⟩ := List.cons.inj e
  exact {
    ok := ⟨T.g, T.b, T.nolimit⟩
    none := fun x hx => by
      rcases hx with rfl | rfl | rfl | rfl | rfl | rfl
      · exact e1
      · exact e2
      · exact e3
      · exact e4
      · exact e5
      · exact e6
    boot := T.builtins
    tick := ⟨229, e7⟩
    toks := ⟨57, 48, e8, by decide, ho⟩ }
def cw.tw3535322753092078806 : Nat := 0
def cw.tw4275957567126742225 : Nat := 0
def cw.tw12959906769170374391 : Nat := 0
def cw.tw6537215679853213324 : Nat := 0
def cw.tw14761310442516060954 : Nat := 0
def cw.tw15363122929656337325 : Nat := 0
def cw.tw10456509558714857292 : Nat := 0
def cw.tw16482581780040293502 : Nat := 0
def cw.tw14788520036634372961 : Nat := 0
def cw.tw9680639695262415995 : Nat := 0
def cw.tw7313477823654153659 : Nat := 0
def cw.tw541702200365555811 : Nat := 0
def cw.tw14667547644415735818 : Nat := 0
set_option Elab.async true in
theorem cw : PySem.Challenge.rw_wf0049_01.Holds := by
  w_on
  o_law
  o_head hk
  case hw => w_witness2
  intro w s₀ s₁ mg mb G Y fa o pm cd doc dV kV ho hd hcd hD hmg hg args vals as hpre hlay hrd hwl hlo
  replace Y : hkSays w s₁.heap := Y
  refine Ground.open G ?_
  intro T B D TE TW
  clear D B TE TW ho hd hcd hD
  wrow_args hpre hlay hrd hwl hlo
  refine enter_call ?_
  w_top on
  have TT := tops_of Y T
  obtain ⟨a1, D1⟩ := is_of (Θ := ⟨pw, w, s₁.heap, mg, mb⟩) T 0 1 "add_func_stats" (by kernel_rfl)
  obtain ⟨a2, D2⟩ := is_of (Θ := ⟨pw, w, s₁.heap, mg, mb⟩) T 1 2 "add_callers" (by kernel_rfl)
  obtain ⟨a3, D3⟩ := is_of (Θ := ⟨pw, w, s₁.heap, mg, mb⟩) T 2 3 "count_calls" (by kernel_rfl)
  obtain ⟨a6, D6⟩ := is_of (Θ := ⟨pw, w, s₁.heap, mg, mb⟩) T 3 6 "_iter_escaped_chars" (by kernel_rfl)
  obtain ⟨a7, D7⟩ := is_of (Θ := ⟨pw, w, s₁.heap, mg, mb⟩) T 4 7 "_strip_quoted_realnames" (by kernel_rfl)
  obtain ⟨a8, D8⟩ := is_of (Θ := ⟨pw, w, s₁.heap, mg, mb⟩) T 5 8 "decode_rfc2231" (by kernel_rfl)
  obtain ⟨a59, D59⟩ := is_of (Θ := ⟨pw, w, s₁.heap, mg, mb⟩) T 6 59 "_law_drawn" (by kernel_rfl)
  obtain ⟨a60, D60⟩ := is_of (Θ := ⟨pw, w, s₁.heap, mg, mb⟩) T 7 60 "_law_profile" (by kernel_rfl)
  obtain ⟨a61, D61⟩ := is_of (Θ := ⟨pw, w, s₁.heap, mg, mb⟩) T 8 61 "_law_struck" (by kernel_rfl)
  obtain ⟨a62, D62⟩ := is_of (Θ := ⟨pw, w, s₁.heap, mg, mb⟩) T 9 62 "_law_between" (by kernel_rfl)
  obtain ⟨a63, D63⟩ := is_of (Θ := ⟨pw, w, s₁.heap, mg, mb⟩) T 10 63 "law" (by kernel_rfl)
  have ea : fa = a63 := by
    have e1 := D63.gv
    rw [gv_of (Θ := ⟨pw, w, s₁.heap, mg, mb⟩) (x := "law") hmg] at e1
    exact Value.ref.inj (Option.some.inj e1)
  subst ea
  clear hmg
  rename PyProof.Rows.IntsAre _ _ => hI
  rename Heap.IsList _ _ _ => hL
  rename ¬ _ < _ => hc
  refine codeAny_mono (law_run TT D1 D2 D3 D6 D7 D8 D59 D60 D61 D62 D63 (s := s₁) rfl hL hI (by omega) (plain_law _)) fun r s' ⟨e, kp, os, gb⟩ => ⟨.inl ⟨_, _, _, e, ?_, .bool true, ?_, ?_⟩, .of_keep kp, os, gb (by rw [hg]; intro y hy; simp at hy)⟩
  · exact fun _ => rfl
  · wrow_post
  · exact fun _ => ⟨.nil, fun _ h => by cases h⟩
end Mine
end
theorem PySem.Challenge.cw_wf0049_01_holds : PySem.Challenge.rw_wf0049_01.Holds :=
  Mine.cw
