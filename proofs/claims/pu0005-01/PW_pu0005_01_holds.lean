import PyProof.Rows.All
import Wide.All
import OpenK.KWalk
import KE.FramesApart
import PyProof.ExcStrAll.Exception
import Lean
import PySem.Challenge.RW_pu0005_01
set_option Elab.async false
section
set_option maxRecDepth 10000
namespace Mine
open PySem

inductive PV where
  | none | bool (b : Bool) | int (i : Int) | str (x : List Nat) | tup (l : List PV) | list (l : List PV)

mutual
def Rep (h : Heap) (U : Addr → Prop) : PV → Value → Prop
  | .none, v => v = .none
  | .bool b, v => v = .bool b
  | .int i, v => ∃ t, v = .int i t
  | .str x, v => ∃ t, v = .str ⟨x.toArray⟩ t
  | .tup l, v => ∃ a vs, v = .ref a ∧ ¬ U a ∧ h.IsTuple a (List.toArray vs) ∧ Reps h U l vs
  | .list l, v => ∃ a vs, v = .ref a ∧ ¬ U a ∧ h.IsList a (List.toArray vs) ∧ Reps h U l vs
def Reps (h : Heap) (U : Addr → Prop) : List PV → List Value → Prop
  | [], vs => vs = []
  | p :: l, vs => ∃ v r, vs = v :: r ∧ Rep h U p v ∧ Reps h U l r
end

mutual
theorem Rep.mono {h h' : Heap} {U U' : Addr → Prop} (hk : ∀ a o, ¬ U a → h.get? a = some o → h'.get? a = some o) (hu : ∀ a, U' a → U a ∨ h.get? a = none) :
    ∀ {p : PV} {v : Value}, Rep h U p v → Rep h' U' p v
  | .none, _, r => by simpa [Rep] using r
  | .bool _, _, r => by simpa [Rep] using r
  | .int _, _, r => by simpa [Rep] using r
  | .str _, _, r => by simpa [Rep] using r
  | .tup l, v, r => by
    simp only [Rep] at r ⊢
    obtain ⟨a, vs, rfl, ha, ⟨o, ho, x⟩, hr⟩ := r
    exact ⟨a, vs, rfl, fun h => (hu a h).elim ha fun e => (by rw [ho] at e; cases e), ⟨o, hk a o ha ho, x⟩, Reps.mono hk hu hr⟩
  | .list l, v, r => by
    simp only [Rep] at r ⊢
    obtain ⟨a, vs, rfl, ha, ⟨o, ho, x⟩, hr⟩ := r
    exact ⟨a, vs, rfl, fun h => (hu a h).elim ha fun e => (by rw [ho] at e; cases e), ⟨o, hk a o ha ho, x⟩, Reps.mono hk hu hr⟩
theorem Reps.mono {h h' : Heap} {U U' : Addr → Prop} (hk : ∀ a o, ¬ U a → h.get? a = some o → h'.get? a = some o) (hu : ∀ a, U' a → U a ∨ h.get? a = none) :
    ∀ {l : List PV} {vs : List Value}, Reps h U l vs → Reps h' U' l vs
  | [], _, r => by simpa [Reps] using r
  | p :: l, vs, r => by
    simp only [Reps] at r ⊢
    obtain ⟨v, r', rfl, h1, h2⟩ := r
    exact ⟨v, r', rfl, Rep.mono hk hu h1, Reps.mono hk hu h2⟩
end

theorem Rep.keep {h h' : Heap} {U : Addr → Prop} {p : PV} {v : Value} (r : Rep h U p v) (hk : ∀ a o, h.get? a = some o → h'.get? a = some o) : Rep h' U p v :=
  r.mono (fun a o _ e => hk a o e) fun _ h => .inl h
theorem Reps.keep {h h' : Heap} {U : Addr → Prop} {p : List PV} {v : List Value} (r : Reps h U p v) (hk : ∀ a o, h.get? a = some o → h'.get? a = some o) : Reps h' U p v :=
  r.mono (fun a o _ e => hk a o e) fun _ h => .inl h

theorem Reps.length {h : Heap} {U : Addr → Prop} : ∀ {l : List PV} {vs : List Value}, Reps h U l vs → vs.length = l.length
  | [], _, r => by simp only [Reps] at r; subst r; rfl
  | p :: l, vs, r => by
    simp only [Reps] at r
    obtain ⟨v, r', rfl, _, h2⟩ := r
    simp [h2.length]
theorem Reps.get {h : Heap} {U : Addr → Prop} : ∀ {l : List PV} {vs : List Value}, Reps h U l vs → ∀ {i : Nat} {p : PV}, l[i]? = some p → ∃ v, vs[i]? = some v ∧ Rep h U p v
  | [], _, _, i, p, e => by simp at e
  | q :: l, vs, r, i, p, e => by
    simp only [Reps] at r
    obtain ⟨v, r', rfl, h1, h2⟩ := r
    cases i with
    | zero => simp at e; subst e; exact ⟨v, rfl, h1⟩
    | succ i => simpa using h2.get (by simpa using e)
theorem Reps.append {h : Heap} {U : Addr → Prop} : ∀ {l l' : List PV} {vs vs' : List Value}, Reps h U l vs → Reps h U l' vs' → Reps h U (l ++ l') (vs ++ vs')
  | [], _, _, _, r, r' => by simp only [Reps] at r; subst r; simpa using r'
  | p :: l, l', vs, vs', r, r' => by
    simp only [Reps] at r
    obtain ⟨v, rr, rfl, h1, h2⟩ := r
    simp only [List.cons_append, Reps]
    exact ⟨v, _, rfl, h1, h2.append r'⟩
theorem Reps.nil {h : Heap} {U : Addr → Prop} : Reps h U [] [] := by simp [Reps]
theorem Reps.cons {h : Heap} {U : Addr → Prop} {p : PV} {l : List PV} {v : Value} {vs : List Value} (a : Rep h U p v) (b : Reps h U l vs) : Reps h U (p :: l) (v :: vs) := by
  simp only [Reps]; exact ⟨v, vs, rfl, a, b⟩
theorem Reps.of_get {h : Heap} {U : Addr → Prop} : ∀ {l : List PV} {vs : List Value}, vs.length = l.length → (∀ (i : Nat) (p : PV) (v : Value), l[i]? = some p → vs[i]? = some v → Rep h U p v) → Reps h U l vs
  | [], vs, e, _ => by simp at e; subst e; exact .nil
  | p :: l, [], e, _ => by simp at e
  | p :: l, v :: vs, e, r => .cons (r 0 p v rfl rfl) (Reps.of_get (by simpa using e) fun i q u h1 h2 => r (i + 1) q u (by simpa using h1) (by simpa using h2))
theorem Reps.take {h : Heap} {U : Addr → Prop} {l : List PV} {vs : List Value} (r : Reps h U l vs) (k : Nat) : Reps h U (l.take k) (vs.take k) := by
  refine Reps.of_get (by simp [r.length]) fun i p v h1 h2 => ?_
  rw [List.getElem?_take] at h1 h2
  split at h1
  · rename_i hi
    rw [if_pos hi] at h2
    obtain ⟨v', e, x⟩ := r.get h1
    rw [h2] at e; cases e; exact x
  · cases h1
theorem Reps.drop {h : Heap} {U : Addr → Prop} {l : List PV} {vs : List Value} (r : Reps h U l vs) (k : Nat) : Reps h U (l.drop k) (vs.drop k) := by
  refine Reps.of_get (by simp [r.length]) fun i p v h1 h2 => ?_
  rw [List.getElem?_drop] at h1 h2
  obtain ⟨v', e, x⟩ := r.get h1
  rw [h2] at e; cases e; exact x

/-! states -/
structure Ext (W : Addr → Prop) (s s' : Shared) : Prop where
  keep : ∀ b o, ¬ W b → s.heap.get? b = some o → s'.heap.get? b = some o
  gsize : s.gens.size ≤ s'.gens.size
  gens : ∀ g, g < s.gens.size → s'.gens[g]? = s.gens[g]?
  bare : PyProof.Rows.AllBare s.gens → PyProof.Rows.AllBare s'.gens
  os : s'.os = s.os
  toks : s.toks ≤ s'.toks

abbrev Ext0 := Ext fun _ => False
theorem Ext.refl {W : Addr → Prop} (s : Shared) : Ext W s s := ⟨fun _ _ _ e => e, Nat.le_refl _, fun _ _ => rfl, id, rfl, Nat.le_refl _⟩
theorem Ext.trans {W W' : Addr → Prop} {s s' s'' : Shared} (x : Ext W s s') (y : Ext W' s' s'') (hw : ∀ a, W' a → W a ∨ s.heap.get? a = none) : Ext W s s'' where
  keep := fun b o hb e => y.keep b o (fun h => (hw b h).elim hb fun e' => by rw [e] at e'; cases e') (x.keep b o hb e)
  gsize := Nat.le_trans x.gsize y.gsize
  gens := fun g hg => (y.gens g (Nat.lt_of_lt_of_le hg x.gsize)).trans (x.gens g hg)
  bare := fun h => y.bare (x.bare h)
  os := y.os.trans x.os
  toks := Nat.le_trans x.toks y.toks
theorem Ext.trans0 {W : Addr → Prop} {s s' s'' : Shared} (x : Ext W s s') (y : Ext W s' s'') : Ext W s s'' := x.trans y fun _ h => .inl h
theorem Ext.weaken {W : Addr → Prop} {s s' : Shared} (x : Ext0 s s') : Ext W s s' := ⟨fun b o _ e => x.keep b o id e, x.gsize, x.gens, x.bare, x.os, x.toks⟩
theorem Ext.wmono {W W' : Addr → Prop} {s s' : Shared} (x : Ext W s s') (h : ∀ a, W a → W' a ∨ s.heap.get? a = none) : Ext W' s s' :=
  ⟨fun b o hb e => x.keep b o (fun hw => (h b hw).elim hb fun e' => by rw [e] at e'; cases e') e, x.gsize, x.gens, x.bare, x.os, x.toks⟩
theorem Ext.of_heap {W : Addr → Prop} {s : Shared} {h' : Heap} {tk : Nat} (hk : ∀ b o, ¬ W b → s.heap.get? b = some o → h'.get? b = some o) (ht : s.toks ≤ tk) : Ext W s { s with heap := h', toks := tk } :=
  ⟨hk, Nat.le_refl _, fun _ _ => rfl, id, rfl, ht⟩
theorem Ext.of_heap0 {s : Shared} {h' : Heap} {tk : Nat} (hk : ∀ b o, s.heap.get? b = some o → h'.get? b = some o) (ht : s.toks ≤ tk) : Ext0 s { s with heap := h', toks := tk } :=
  .of_heap (fun b o _ e => hk b o e) ht
theorem Ext.tok {W : Addr → Prop} {s : Shared} {tk : Nat} (ht : s.toks ≤ tk) : Ext W s { s with toks := tk } := ⟨fun _ _ _ e => e, Nat.le_refl _, fun _ _ => rfl, id, rfl, ht⟩
theorem Ext.tok1 {W : Addr → Prop} {s : Shared} : Ext W s { s with toks := s.toks + 1 } := .tok (Nat.le_succ _)
theorem Ext.k0 {s s' : Shared} (x : Ext0 s s') : ∀ b o, s.heap.get? b = some o → s'.heap.get? b = some o := fun b o e => x.keep b o id e
theorem Ext.push {s : Shared} {o : Obj} : Ext0 s { s with heap := s.heap.push o } := .of_heap0 (fun _ _ e => Heap.get?_push_of_some _ e) (Nat.le_refl _)

structure Base where
  prog : Program
  w : World
  h₀ : Heap
  mg : Str → Option Value
  mb : Str → Option Value
structure Base.Good (B : Base) : Prop where
  g : B.h₀.Ns mainGlobals B.mg
  b : B.h₀.Ns builtinsNs B.mb
  nolimit : B.h₀.NoLimit

structure Ok (B : Base) (U : Addr → Prop) (s : Shared) : Prop where
  good : B.Good
  keep : ∀ b o, B.h₀.get? b = some o → s.heap.get? b = some o
  bare : PyProof.Rows.AllBare s.gens
  alive : ∀ a, U a → (s.heap.get? a).isSome = true
  toks : 1 ≤ s.toks
theorem Ok.ext {B : Base} {U : Addr → Prop} {s s' : Shared} (k : Ok B U s) (x : Ext0 s s') : Ok B U s' :=
  ⟨k.good, fun b o e => x.k0 b o (k.keep b o e), x.bare k.bare, fun a h => by
    obtain ⟨o, ho⟩ := Option.isSome_iff_exists.mp (k.alive a h)
    rw [x.k0 a o ho]; rfl, Nat.le_trans k.toks x.toks⟩
theorem Ok.fresh {B : Base} {U : Addr → Prop} {s : Shared} (k : Ok B U s) {a : Addr} (h : s.heap.get? a = none) : ¬ U a := fun hu => by
  have := k.alive a hu; rw [h] at this; cases this
theorem get?_size (h : Heap) : h.get? h.objs.size = none := by
  cases e : h.get? h.objs.size with
  | none => rfl
  | some o => exact absurd (Heap.lt_size e) (Nat.lt_irrefl _)
theorem get?_ge {h : Heap} {a : Addr} (ha : h.objs.size ≤ a) : h.get? a = none := by
  cases e : h.get? a with
  | none => rfl
  | some o => exact absurd (Heap.lt_size e) (Nat.not_lt.mpr ha)

structure Room (n : Nat) (b : Bool) (A : Around) : Prop where
  depth : A.depth + n ≤ 900
  units : A.units + 50 * n ≤ 9000
  hand : b = true → A.handled = none
theorem Room.lt {n : Nat} {b : Bool} {A : Around} (r : Room n b A) : A.depth < recursionLimit := by
  have := r.depth; show A.depth < 1000; omega
theorem Room.mono {n m : Nat} {b : Bool} {A : Around} (r : Room n b A) (h : m ≤ n) : Room m b A := ⟨by have := r.depth; omega, by have := r.units; omega, r.hand⟩

theorem Room.hand' {n : Nat} {A : Around} (r : Room n true A) : A.handled = none := r.hand rfl

abbrev Sto := List (Str × PV)
def RdName (env : Env) (x : Str) (v : Value) (s : Shared) : Prop :=
  ∀ s', Ext0 s s' → ∀ (M : Model) (A : Around) (Q : Value → Shared → Prop) (E : Value → Shared → Prop), Q v s' → wpAny M A (loadName env x) Q E s'
structure EnvOk (sc : Scope) (env : Env) : Prop where
  scope : env.scope = sc
  kind : sc.kind = .function
  globals : env.globals = mainGlobals
  builtins : env.builtins = builtinsNs
theorem EnvOk.kindOf {sc : Scope} {env : Env} (k : EnvOk sc env) (x : Str) : env.kindOf x = sc.names.lookup x := by unfold Env.kindOf; rw [k.scope]

structure EInv (B : Base) (env : Env) (σ : Sto) (U : Addr → Prop) (s : Shared) : Prop where
  ok : Ok B U s
  rd : ∀ x p, σ.lookup x = some p → ∃ v, Rep s.heap U p v ∧ RdName env x v s
  cel : ∀ x, env.kindOf x = some .cell → ∃ c, env.cells.lookup x = some c ∧ ∀ p, σ.lookup x = some p → ∃ v, s.heap.IsCell c (some v) ∧ Rep s.heap U p v
theorem EInv.ext {B : Base} {env : Env} {σ : Sto} {U : Addr → Prop} {s s' : Shared} (k : EInv B env σ U s) (x : Ext0 s s') : EInv B env σ U s' :=
  ⟨k.ok.ext x, fun y p h => let ⟨v, r, rd⟩ := k.rd y p h; ⟨v, r.keep x.k0, fun s'' x' => rd s'' (x.trans0 x')⟩,
   fun y h => let ⟨c, h1, h2⟩ := k.cel y h; ⟨c, h1, fun p hp => let ⟨v, a, b⟩ := h2 p hp; ⟨v, a.keeps x.k0, b.keep x.k0⟩⟩⟩

/-- what a tree of a value ends in -/
def Post (U : Addr → Prop) (s : Shared) (P : PV → Prop) (v : Value) (s' : Shared) : Prop := ∃ p, P p ∧ Rep s'.heap U p v ∧ Ext0 s s'

def EvE (B : Base) (n : Nat) (b : Bool) (sc : Scope) (σ : Sto) (e : Expr) (P : PV → Prop) : Prop :=
  ∀ A env U s E, Room n b A → EnvOk sc env → EInv B env σ U s → wpAny (model B.prog B.w) A (eval e env) (Post U s P) E s
def EvT (B : Base) (n : Nat) (b : Bool) (sc : Scope) (σ : Sto) (e : Expr) (P : Bool → Prop) : Prop :=
  ∀ A env U s E, Room n b A → EnvOk sc env → EInv B env σ U s → wpAny (model B.prog B.w) A (isTrue e env (eval e env)) (fun r s' => P r ∧ Ext0 s s') E s
/-- several expressions, one behind the other -/
def EvL (B : Base) (n : Nat) (b : Bool) (sc : Scope) (σ : Sto) (es : List Expr) (P : List PV → Prop) : Prop :=
  ∀ A env U s E (pos : Pos), Room n b A → EnvOk sc env → EInv B env σ U s → wpAny (model B.prog B.w) A (spliced (backTo pos (starEach es env))) (fun vs s' => ∃ ps, P ps ∧ Reps s'.heap U ps vs ∧ Ext0 s s') E s
/-- a tree over values -/
def OpN (B : Base) (n : Nat) (b : Bool) (f : List Value → Sem Value) (ps : List PV) (P : PV → Prop) : Prop :=
  ∀ A U s E vs, Room n b A → Ok B U s → Reps s.heap U ps vs → wpAny (model B.prog B.w) A (f vs) (Post U s P) E s
def Op2 (B : Base) (n : Nat) (b : Bool) (f : Value → Value → Sem Value) (p q : PV) (P : PV → Prop) : Prop :=
  ∀ A U s E v u, Room n b A → Ok B U s → Rep s.heap U p v → Rep s.heap U q u → wpAny (model B.prog B.w) A (f v u) (Post U s P) E s

theorem Post.mk {U : Addr → Prop} {s s' : Shared} {P : PV → Prop} {v : Value} {p : PV} (hp : P p) (r : Rep s'.heap U p v) (x : Ext0 s s') : Post U s P v s' := ⟨p, hp, r, x⟩
theorem wpAny_mono' {α : Type} {M : Model} {A : Around} {t : Sem α} {Q Q' : α → Shared → Prop} {E : Value → Shared → Prop} {s : Shared} (h : wpAny M A t Q E s) (hQ : ∀ a s, Q a s → Q' a s) : wpAny M A t Q' E s :=
  wpAny_mono h hQ fun _ _ x => x
theorem Post.step {U : Addr → Prop} {s s₁ s' : Shared} {P : PV → Prop} {v : Value} (x : Ext0 s s₁) (h : Post U s₁ P v s') : Post U s P v s' :=
  let ⟨p, a, b, c⟩ := h; ⟨p, a, b, x.trans0 c⟩

section
variable {B : Base} {n : Nat} {b : Bool} {sc : Scope} {σ : Sto}

theorem ev_weaken {e : Expr} {P P' : PV → Prop} (h : EvE B n b sc σ e P) (hp : ∀ p, P p → P' p) : EvE B n b sc σ e P' := fun A env U s E hR hE hI =>
  wpAny_mono' (h A env U s E hR hE hI) fun _ _ ⟨p, a, r, x⟩ => ⟨p, hp p a, r, x⟩

theorem ev_str {x : Str} {k : Nat} {pos : Pos} {P : PV → Prop} (h : P (.str x.cps.toList)) : EvE B n b sc σ (.Constant (.str x) k pos) P := fun A env U s E _ _ _ =>
  Calls.Constant_str ⟨_, h, by simp [Rep], .tok1⟩
theorem ev_int {i : Int} {k : Nat} {pos : Pos} {P : PV → Prop} (h : P (.int i)) : EvE B n b sc σ (.Constant (.int i) k pos) P := fun A env U s E _ _ _ =>
  wpAny_Constant_int ⟨_, h, by simp [Rep], .tok1⟩
theorem ev_bool {i : Bool} {k : Nat} {pos : Pos} {P : PV → Prop} (h : P (.bool i)) : EvE B n b sc σ (.Constant (.bool i) k pos) P := fun A env U s E _ _ _ => by
  rw [eval_Constant]
  exact wpAny_pure ⟨_, h, by simp [Rep], .refl _⟩
theorem ev_none {k : Nat} {pos : Pos} {P : PV → Prop} (h : P .none) : EvE B n b sc σ (.Constant .none k pos) P := fun A env U s E _ _ _ => by
  rw [eval_Constant]
  exact wpAny_pure ⟨_, h, by simp [Rep], .refl _⟩
theorem ev_name {x : Str} {pos : Pos} {p : PV} {P : PV → Prop} (hl : σ.lookup x = some p) (h : P p) (hd : (x == ("__debug__" : Str)) = false := by rfl) : EvE B n b sc σ (.Name x pos) P := fun A env U s E _ _ hI => by
  obtain ⟨v, r, rd⟩ := hI.rd x p hl
  exact wpAny_Name (rd s (.refl _) _ _ _ _ ⟨p, h, r, .refl _⟩) hd
theorem ev_bin {l r : Expr} {op : Operator} {pos : Pos} {P : PV → Prop} (h : EvE B n b sc σ l fun x => EvE B n b sc σ r fun y => Op2 B n b (binaryOp op) x y P) : EvE B n b sc σ (.BinOp l op r pos) P := fun A env U s E hR hE hI => by
  refine wpAny_BinOp (wpAny_mono' (h A env U s E hR hE hI) ?_)
  rintro v s₁ ⟨x, hx, rx, x₁⟩
  refine wpAny_mono' (hx A env U s₁ E hR hE (hI.ext x₁)) ?_
  rintro u s₂ ⟨y, hy, ry, x₂⟩
  exact wpAny_mono' (hy A U s₂ E v u hR (hI.ok.ext (x₁.trans0 x₂)) (rx.keep x₂.k0) ry) fun _ _ h => h.step (x₁.trans0 x₂)
theorem ev_cmp {l r : Expr} {op : CmpOp} {pos : Pos} {P : PV → Prop} (h : EvE B n b sc σ l fun x => EvE B n b sc σ r fun y => Op2 B n b (compareOp op) x y P)
    (hm : behindInMarks op r = false := by rfl) : EvE B n b sc σ (.Compare l [op] [r] pos) P := fun A env U s E hR hE hI => by
  refine wpAny_Compare1 (wpAny_mono' (h A env U s E hR hE hI) ?_) hm
  rintro v s₁ ⟨x, hx, rx, x₁⟩
  refine wpAny_mono' (hx A env U s₁ E hR hE (hI.ext x₁)) ?_
  rintro u s₂ ⟨y, hy, ry, x₂⟩
  exact wpAny_mono' (hy A U s₂ E v u hR (hI.ok.ext (x₁.trans0 x₂)) (rx.keep x₂.k0) ry) fun _ _ h => h.step (x₁.trans0 x₂)
theorem evt_cmp {l r : Expr} {op : CmpOp} {pos : Pos} {P : Bool → Prop} (h : EvE B n b sc σ l fun x => EvE B n b sc σ r fun y => Op2 B n b (compareOp op) x y fun z => ∃ c, z = .bool c ∧ P c)
    (hm : behindInMarks op r = false := by rfl) : EvT B n b sc σ (.Compare l [op] [r] pos) P := fun A env U s E hR hE hI => by
  refine wpAny_isTrue_Compare1 (wpAny_mono' (h A env U s E hR hE hI) ?_) hm
  rintro v s₁ ⟨x, hx, rx, x₁⟩
  refine wpAny_mono' (hx A env U s₁ E hR hE (hI.ext x₁)) ?_
  rintro u s₂ ⟨y, hy, ry, x₂⟩
  refine wpAny_mono' (hy A U s₂ E v u hR (hI.ok.ext (x₁.trans0 x₂)) (rx.keep x₂.k0) ry) ?_
  rintro c s₃ ⟨z, ⟨c', rfl, hc⟩, rz, x₃⟩
  simp only [Rep] at rz; subst rz
  exact wpAny_truthy_bool ⟨hc, (x₁.trans0 x₂).trans0 x₃⟩
theorem ev_ifexp {t l r : Expr} {pos : Pos} {P : PV → Prop} (h : EvT B n b sc σ t fun c => if c = true then EvE B n b sc σ l P else EvE B n b sc σ r P) : EvE B n b sc σ (.IfExp t l r pos) P := fun A env U s E hR hE hI => by
  show wpAny _ _ (do if ← isTrue t env (eval t env) then eval l env else eval r env) _ _ _
  refine wpAny_bind (wpAny_mono' (h A env U s E hR hE hI) ?_)
  rintro c s₁ ⟨hc, x₁⟩
  cases c with
  | true => exact wpAny_mono' ((if_pos rfl).mp hc A env U s₁ E hR hE (hI.ext x₁)) fun _ _ h => h.step x₁
  | false => exact wpAny_mono' ((if_neg Bool.false_ne_true).mp hc A env U s₁ E hR hE (hI.ext x₁)) fun _ _ h => h.step x₁
end
end Mine
end

section
set_option maxRecDepth 10000
set_option linter.unusedVariables false
namespace Mine
open PySem

section
variable {B : Base} {n : Nat} {b : Bool} {sc : Scope} {σ : Sto} {P : PV → Prop}

theorem rep_int {h : Heap} {U : Addr → Prop} {i : Int} {v : Value} : Rep h U (.int i) v ↔ ∃ t, v = .int i t := by simp [Rep]
theorem rep_str {h : Heap} {U : Addr → Prop} {x : List Nat} {v : Value} : Rep h U (.str x) v ↔ ∃ t, v = .str ⟨x.toArray⟩ t := by simp [Rep]
theorem rep_bool {h : Heap} {U : Addr → Prop} {x : Bool} {v : Value} : Rep h U (.bool x) v ↔ v = .bool x := by simp [Rep]
theorem rep_none {h : Heap} {U : Addr → Prop} {v : Value} : Rep h U .none v ↔ v = .none := by simp [Rep]
theorem rep_tup {h : Heap} {U : Addr → Prop} {l : List PV} {v : Value} : Rep h U (.tup l) v ↔ ∃ a vs, v = .ref a ∧ ¬ U a ∧ h.IsTuple a (List.toArray vs) ∧ Reps h U l vs := by simp only [Rep]
theorem rep_list {h : Heap} {U : Addr → Prop} {l : List PV} {v : Value} : Rep h U (.list l) v ↔ ∃ a vs, v = .ref a ∧ ¬ U a ∧ h.IsList a (List.toArray vs) ∧ Reps h U l vs := by simp only [Rep]
theorem Post.int {U : Addr → Prop} {s s' : Shared} {i : Int} {t : Tok} (h : P (.int i)) (x : Ext0 s s') : Post U s P (.int i t) s' := ⟨_, h, rep_int.mpr ⟨t, rfl⟩, x⟩
theorem Post.bool {U : Addr → Prop} {s s' : Shared} {i : Bool} (h : P (.bool i)) (x : Ext0 s s') : Post U s P (.bool i) s' := ⟨_, h, rep_bool.mpr rfl, x⟩
theorem Post.str {U : Addr → Prop} {s s' : Shared} {i : List Nat} {t : Tok} (h : P (.str i)) (x : Ext0 s s') : Post U s P (.str ⟨i.toArray⟩ t) s' := ⟨_, h, rep_str.mpr ⟨t, rfl⟩, x⟩
theorem Post.str' {U : Addr → Prop} {s s' : Shared} {i : Str} {t : Tok} (h : P (.str i.cps.toList)) (x : Ext0 s s') : Post U s P (.str i t) s' := ⟨_, h, rep_str.mpr ⟨t, by simp⟩, x⟩

/-! ints -/
theorem op_add {i j : Int} (h : P (.int (i + j))) : Op2 B n b (binaryOp .Add) (.int i) (.int j) P := fun A U s E v u _ _ hv hu => by
  obtain ⟨t, rfl⟩ := rep_int.mp hv; obtain ⟨t', rfl⟩ := rep_int.mp hu
  exact PyProof.Rows.add_int (.int h .tok1)
theorem op_sub {i j : Int} (h : P (.int (i - j))) : Op2 B n b (binaryOp .Sub) (.int i) (.int j) P := fun A U s E v u _ _ hv hu => by
  obtain ⟨t, rfl⟩ := rep_int.mp hv; obtain ⟨t', rfl⟩ := rep_int.mp hu
  exact PyProof.Rows.sub_int (.int h .tok1)
theorem op_mod {i j : Int} (hj : j ≠ 0) (h : P (.int (i.fmod j))) : Op2 B n b (binaryOp .Mod) (.int i) (.int j) P := fun A U s E v u _ _ hv hu => by
  obtain ⟨t, rfl⟩ := rep_int.mp hv; obtain ⟨t', rfl⟩ := rep_int.mp hu
  exact PyProof.Rows.mod_int' hj (.int h .tok1)
theorem op_and {i j : Int} (h : P (.int (Builtin.bitAnd i j))) : Op2 B n b (binaryOp .BitAnd) (.int i) (.int j) P := fun A U s E v u _ _ hv hu => by
  obtain ⟨t, rfl⟩ := rep_int.mp hv; obtain ⟨t', rfl⟩ := rep_int.mp hu
  exact PyProof.Rows.and_int (.int h .tok1)
theorem op_shr {i j : Int} (h0 : 0 ≤ j) (h : P (.int (i.fdiv (2 ^ j.toNat)))) : Op2 B n b (binaryOp .RShift) (.int i) (.int j) P := fun A U s E v u _ _ hv hu => by
  obtain ⟨t, rfl⟩ := rep_int.mp hv; obtain ⟨t', rfl⟩ := rep_int.mp hu
  exact PyProof.Rows.rshift_int h0 (.int h .tok1)
theorem op_iadd {i j : Int} (h : P (.int (i + j))) : Op2 B n b (inplaceOp .Add) (.int i) (.int j) P := fun A U s E v u _ _ hv hu => by
  obtain ⟨t, rfl⟩ := rep_int.mp hv; obtain ⟨t', rfl⟩ := rep_int.mp hu
  exact wpAny_iadd_int (.int h .tok1)
theorem op_isub {i j : Int} (h : P (.int (i - j))) : Op2 B n b (inplaceOp .Sub) (.int i) (.int j) P := fun A U s E v u _ _ hv hu => by
  obtain ⟨t, rfl⟩ := rep_int.mp hv; obtain ⟨t', rfl⟩ := rep_int.mp hu
  exact PyProof.Rows.isub_int (.int h .tok1)

/-! comparisons -/
theorem cmp_eqi {i j : Int} (h : P (.bool (i == j))) : Op2 B n b (compareOp .Eq) (.int i) (.int j) P := fun A U s E v u _ _ hv hu => by
  obtain ⟨t, rfl⟩ := rep_int.mp hv; obtain ⟨t', rfl⟩ := rep_int.mp hu
  exact PyProof.Rows.eq_int (.bool h (.refl _))
theorem cmp_nei {i j : Int} (h : P (.bool (i != j))) : Op2 B n b (compareOp .NotEq) (.int i) (.int j) P := fun A U s E v u _ _ hv hu => by
  obtain ⟨t, rfl⟩ := rep_int.mp hv; obtain ⟨t', rfl⟩ := rep_int.mp hu
  exact PySem.P.ne_int (.bool h (.refl _))
theorem cmp_lti {i j : Int} (h : P (.bool (decide (i < j)))) : Op2 B n b (compareOp .Lt) (.int i) (.int j) P := fun A U s E v u _ _ hv hu => by
  obtain ⟨t, rfl⟩ := rep_int.mp hv; obtain ⟨t', rfl⟩ := rep_int.mp hu
  exact PySem.P.lt_int (.bool h (.refl _))
theorem cmp_gti {i j : Int} (h : P (.bool (decide (i > j)))) : Op2 B n b (compareOp .Gt) (.int i) (.int j) P := fun A U s E v u _ _ hv hu => by
  obtain ⟨t, rfl⟩ := rep_int.mp hv; obtain ⟨t', rfl⟩ := rep_int.mp hu
  exact PySem.P.gt_int (.bool h (.refl _))
theorem cmp_gei {i j : Int} (h : P (.bool (decide (i ≥ j)))) : Op2 B n b (compareOp .GtE) (.int i) (.int j) P := fun A U s E v u _ _ hv hu => by
  obtain ⟨t, rfl⟩ := rep_int.mp hv; obtain ⟨t', rfl⟩ := rep_int.mp hu
  exact PySem.P.ge_int (.bool h (.refl _))
theorem cmp_eqs {x y : List Nat} (h : P (.bool (x == y))) : Op2 B n b (compareOp .Eq) (.str x) (.str y) P := fun A U s E v u _ _ hv hu => by
  obtain ⟨t, rfl⟩ := rep_str.mp hv; obtain ⟨t', rfl⟩ := rep_str.mp hu
  exact PySem.P.eq_str (.bool (by simpa using h) (.refl _))
theorem cmp_nes {x y : List Nat} (h : P (.bool (x != y))) : Op2 B n b (compareOp .NotEq) (.str x) (.str y) P := fun A U s E v u _ _ hv hu => by
  obtain ⟨t, rfl⟩ := rep_str.mp hv; obtain ⟨t', rfl⟩ := rep_str.mp hu
  exact PySem.P.ne_str (.bool (by simpa using h) (.refl _))
/-- the two sides of «is» that are told by value -/
def isV : PV → PV → Option Bool
  | .none, .none => some true
  | .none, .bool _ => some false
  | .none, .int _ => some false
  | .none, .str _ => some false
  | .bool _, .none => some false
  | .int _, .none => some false
  | .str _, .none => some false
  | .bool x, .bool y => some (x == y)
  | _, _ => none
theorem isV_plain {h : Heap} {U : Addr → Prop} {p q : PV} {v u : Value} {r : Bool} (hv : Rep h U p v) (hu : Rep h U q u) (e : isV p q = some r) : plainIs v u = true ∧ (v == u) = r := by
  cases p with
  | none =>
    rw [rep_none.mp hv]
    cases q with
    | none => rw [rep_none.mp hu]; simp [isV] at e; subst e; exact ⟨rfl, rfl⟩
    | bool x => rw [rep_bool.mp hu]; simp [isV] at e; subst e; exact ⟨rfl, rfl⟩
    | int x => obtain ⟨t, rfl⟩ := rep_int.mp hu; simp [isV] at e; subst e; exact ⟨rfl, rfl⟩
    | str x => obtain ⟨t, rfl⟩ := rep_str.mp hu; simp [isV] at e; subst e; exact ⟨rfl, rfl⟩
    | _ => simp [isV] at e
  | bool y =>
    rw [rep_bool.mp hv]
    cases q with
    | none => rw [rep_none.mp hu]; simp [isV] at e; subst e; exact ⟨rfl, rfl⟩
    | bool x => rw [rep_bool.mp hu]; simp [isV] at e; subst e; exact ⟨rfl, by cases x <;> cases y <;> rfl⟩
    | _ => simp [isV] at e
  | int y =>
    obtain ⟨t, rfl⟩ := rep_int.mp hv
    cases q with
    | none => rw [rep_none.mp hu]; simp [isV] at e; subst e; exact ⟨rfl, rfl⟩
    | _ => simp [isV] at e
  | str y =>
    obtain ⟨t, rfl⟩ := rep_str.mp hv
    cases q with
    | none => rw [rep_none.mp hu]; simp [isV] at e; subst e; exact ⟨rfl, rfl⟩
    | _ => simp [isV] at e
  | _ => simp [isV] at e
theorem cmp_is {p q : PV} {r : Bool} (e : isV p q = some r) (h : P (.bool r)) : Op2 B n b (compareOp .Is) p q P := fun A U s E v u _ _ hv hu => by
  obtain ⟨h1, h2⟩ := isV_plain hv hu e
  exact wpAny_is_plain h1 (by rw [h2]; exact .bool h (.refl _))
theorem cmp_isnot {p q : PV} {r : Bool} (e : isV p q = some r) (h : P (.bool (!r))) : Op2 B n b (compareOp .IsNot) p q P := fun A U s E v u _ _ hv hu => by
  obtain ⟨h1, h2⟩ := isV_plain hv hu e
  exact wpAny_isNot_plain h1 (by rw [h2]; exact .bool h (.refl _))

/-! texts -/
theorem op_adds {x y : List Nat} (hz : x.length + y.length ≤ 16777216) (h : P (.str (x ++ y))) : Op2 B n b (binaryOp .Add) (.str x) (.str y) P := fun A U s E v u _ _ hv hu => by
  obtain ⟨t, rfl⟩ := rep_str.mp hv; obtain ⟨t', rfl⟩ := rep_str.mp hu
  refine PySem.P.add_str ?_
  by_cases h1 : x = []
  · subst h1
    exact Post.str (by simpa using h) (.refl _)
  · by_cases h2 : y = []
    · subst h2
      have : ¬ ((Str.mk x.toArray).length == 0) = true := by simpa [Str.length] using h1
      rw [if_neg this]
      exact Post.str (by simpa using h) (.refl _)
    · have e1 : ¬ ((Str.mk x.toArray).length == 0) = true := by simpa [Str.length] using h1
      have e2 : ¬ ((Str.mk y.toArray).length == 0) = true := by simpa [Str.length] using h2
      rw [if_neg e1, if_neg e2]
      refine ⟨?_, ?_⟩
      · show (Str.mk x.toArray ++ Str.mk y.toArray).length ≤ sizeLine
        rw [Str.length_append]
        simpa [Str.length, sizeLine] using hz
      · refine Post.str' ?_ .tok1
        rw [Str.cps_append]; simpa using h
theorem op_iadds {x y : List Nat} (hz : x.length + y.length ≤ 16777216) (h : P (.str (x ++ y))) : Op2 B n b (inplaceOp .Add) (.str x) (.str y) P := fun A U s E v u _ _ hv hu => by
  obtain ⟨t, rfl⟩ := rep_str.mp hv; obtain ⟨t', rfl⟩ := rep_str.mp hu
  refine PySem.P.iadd_str ?_
  by_cases h1 : x = []
  · subst h1
    exact Post.str (by simpa using h) (.refl _)
  · by_cases h2 : y = []
    · subst h2
      have : ¬ ((Str.mk x.toArray).length == 0) = true := by simpa [Str.length] using h1
      rw [if_neg this]
      exact Post.str (by simpa using h) (.refl _)
    · have e1 : ¬ ((Str.mk x.toArray).length == 0) = true := by simpa [Str.length] using h1
      have e2 : ¬ ((Str.mk y.toArray).length == 0) = true := by simpa [Str.length] using h2
      rw [if_neg e1, if_neg e2]
      refine ⟨?_, ?_⟩
      · show (Str.mk x.toArray ++ Str.mk y.toArray).length ≤ sizeLine
        rw [Str.length_append]
        simpa [Str.length, sizeLine] using hz
      · refine Post.str' ?_ .tok1
        rw [Str.cps_append]; simpa using h

/-! tests -/
def truth : PV → Option Bool
  | .none => some false
  | .bool x => some x
  | .int i => some (i != 0)
  | _ => none
theorem evt_val {e : Expr} {Q : Bool → Prop} (h : EvE B n b sc σ e fun p => ∃ c, truth p = some c ∧ Q c)
    (hs : ∀ env whole, isTrue e env whole = (do let v ← whole; standAt e.pos; holding [v] (truthy v)) := by intro _ _; rfl) : EvT B n b sc σ e Q := fun A env U s E hR hE hI => by
  refine PyProof.Rows.isTrue_plain (wpAny_mono' (h A env U s E hR hE hI) ?_) (hs _ _)
  rintro v s₁ ⟨p, ⟨c, hc, hq⟩, rp, x₁⟩
  cases p with
  | none => rw [rep_none.mp rp]; simp [truth] at hc; subst hc; exact PyProof.Rows.truthy_none ⟨hq, x₁⟩
  | bool y => rw [rep_bool.mp rp]; simp [truth] at hc; subst hc; exact wpAny_truthy_bool ⟨hq, x₁⟩
  | int i => obtain ⟨t, rfl⟩ := rep_int.mp rp; simp [truth] at hc; subst hc; exact PySem.P.truthy_int ⟨hq, x₁⟩
  | _ => simp [truth] at hc
theorem evt_not {e : Expr} {pos : Pos} {Q : Bool → Prop} (h : EvT B n b sc σ e fun c => Q (!c)) : EvT B n b sc σ (.UnaryOp .Not e pos) Q := fun A env U s E hR hE hI =>
  PyProof.Rows.isTrue_not (h A env U s E hR hE hI)
theorem evt_and2 {e f : Expr} {pos : Pos} {Q : Bool → Prop} (h : EvT B n b sc σ e fun c => if c = true then EvT B n b sc σ f Q else Q false) : EvT B n b sc σ (.BoolOp .And [e, f] pos) Q := fun A env U s E hR hE hI => by
  show wpAny _ _ (do
    match BoolOp.And, ← isTrue e env (eval e env) with
    | .And, false => pure false
    | .Or, true => pure true
    | _, _ => (do
      match BoolOp.And, ← isTrue f env (eval f env) with
      | .And, false => pure false
      | .Or, true => pure true
      | _, _ => pure (BoolOp.And == .And) : Sem Bool)) _ _ _
  refine wpAny_bind (wpAny_mono' (h A env U s E hR hE hI) ?_)
  rintro c s₁ ⟨hc, x₁⟩
  cases c with
  | false => exact wpAny_pure ⟨by simpa using hc, x₁⟩
  | true =>
    rw [if_pos rfl] at hc
    refine wpAny_bind (wpAny_mono' (hc A env U s₁ E hR hE (hI.ext x₁)) ?_)
    rintro d s₂ ⟨hd, x₂⟩
    cases d <;> exact wpAny_pure ⟨hd, x₁.trans0 x₂⟩
theorem evt_or2 {e f : Expr} {pos : Pos} {Q : Bool → Prop} (h : EvT B n b sc σ e fun c => if c = true then Q true else EvT B n b sc σ f Q) : EvT B n b sc σ (.BoolOp .Or [e, f] pos) Q := fun A env U s E hR hE hI => by
  show wpAny _ _ (do
    match BoolOp.Or, ← isTrue e env (eval e env) with
    | .And, false => pure false
    | .Or, true => pure true
    | _, _ => (do
      match BoolOp.Or, ← isTrue f env (eval f env) with
      | .And, false => pure false
      | .Or, true => pure true
      | _, _ => pure (BoolOp.Or == .And) : Sem Bool)) _ _ _
  refine wpAny_bind (wpAny_mono' (h A env U s E hR hE hI) ?_)
  rintro c s₁ ⟨hc, x₁⟩
  cases c with
  | true => exact wpAny_pure ⟨by simpa using hc, x₁⟩
  | false =>
    rw [if_neg Bool.false_ne_true] at hc
    refine wpAny_bind (wpAny_mono' (hc A env U s₁ E hR hE (hI.ext x₁)) ?_)
    rintro d s₂ ⟨hd, x₂⟩
    cases d <;> exact wpAny_pure ⟨hd, x₁.trans0 x₂⟩
theorem ev_neg {e : Expr} {pos : Pos} (h : EvE B n b sc σ e fun p => ∃ i, p = .int i ∧ P (.int (-i))) : EvE B n b sc σ (.UnaryOp .USub e pos) P := fun A env U s E hR hE hI => by
  show wpAny _ _ (do let v ← eval e env; standAt pos; holding [v] (unaryOp .USub v)) _ _ _
  refine wpAny_bind (wpAny_mono' (h A env U s E hR hE hI) ?_)
  rintro v s₁ ⟨p, ⟨i, rfl, hi⟩, rp, x₁⟩
  obtain ⟨t, rfl⟩ := rep_int.mp rp
  exact wpAny_bind (wpAny_standAt (wpAny_holding (PyProof.Rows.neg_int (.int hi (x₁.trans0 .tok1)))))

/-! displays -/
theorem evl_nil {Q : List PV → Prop} (h : Q []) : EvL B n b sc σ [] Q := fun A env U s E pos _ _ _ => Calls.spliced_nil ⟨[], h, .nil, .refl _⟩
theorem evl_cons {e : Expr} {es : List Expr} {Q : List PV → Prop} (h : EvE B n b sc σ e fun p => EvL B n b sc σ es fun ps => Q (p :: ps))
    (hs : ∀ env, starEach (e :: es) env = (false, eval e env) :: starEach es env := by intro _; rfl) : EvL B n b sc σ (e :: es) Q := fun A env U s E pos hR hE hI => by
  rw [hs]
  show wpAny _ _ (spliced ((false, eval e env) :: backTo pos (starEach es env))) _ _ _
  refine Calls.spliced_cons (wpAny_mono' (h A env U s E hR hE hI) ?_)
  rintro v s₁ ⟨p, hp, rp, x₁⟩
  refine wpAny_mono' (hp A env U s₁ E pos hR hE (hI.ext x₁)) ?_
  rintro vs s₂ ⟨ps, hq, rs, x₂⟩
  exact ⟨p :: ps, hq, .cons (rp.keep x₂.k0) rs, x₁.trans0 x₂⟩
theorem ev_tuple {es : List Expr} {k : Nat} {pos : Pos} (h : EvL B n b sc σ es fun ps => ps.length ≤ 1000 ∧ P (.tup ps)) : EvE B n b sc σ (.Tuple es k pos) P := fun A env U s E hR hE hI => by
  refine PyProof.Rows.Tuple_ (wpAny_mono' (h A env U s E pos hR hE hI) ?_)
  rintro vs s₁ ⟨ps, ⟨hl, hp⟩, rs, x₁⟩
  have hz : vs.length ≤ sizeLine := by rw [rs.length]; exact Nat.le_trans hl (by decide)
  refine wpAny_newObj_type ⟨_, hp, rep_tup.mpr ⟨_, vs, rfl, (hI.ok.ext x₁).fresh (get?_size _), ⟨_, Heap.get?_push_size _ rfl, rfl, _, rfl⟩, rs.keep fun _ _ e => Heap.get?_push_of_some _ e⟩, x₁.trans0 .push⟩ (by show vs.toArray.size ≤ sizeLine; simpa using hz)
theorem ev_list {es : List Expr} {pos : Pos} (h : EvL B n b sc σ es fun ps => ps.length ≤ 1000 ∧ P (.list ps)) : EvE B n b sc σ (.List es pos) P := fun A env U s E hR hE hI => by
  refine PyProof.Rows.List_ (wpAny_mono' (h A env U s E pos hR hE hI) ?_)
  rintro vs s₁ ⟨ps, ⟨hl, hp⟩, rs, x₁⟩
  have hz : vs.length ≤ sizeLine := by rw [rs.length]; exact Nat.le_trans hl (by decide)
  refine wpAny_newObj_type ⟨_, hp, rep_list.mpr ⟨_, vs, rfl, (hI.ok.ext x₁).fresh (get?_size _), ⟨_, Heap.get?_push_size _ rfl, rfl, _, rfl⟩, rs.keep fun _ _ e => Heap.get?_push_of_some _ e⟩, x₁.trans0 .push⟩ (by show vs.toArray.size ≤ sizeLine; simpa using hz)
end
end Mine
end

section
set_option maxRecDepth 10000
set_option linter.unusedVariables false
namespace Mine
open PySem

def pyIdx {α : Type} (l : List α) (i : Int) : Option α := (seqIndex? i l.length).bind (l[·]?)
theorem pyIdx_nat {α : Type} (l : List α) (k : Nat) : pyIdx l (k : Int) = l[k]? := by
  unfold pyIdx seqIndex?
  have h0 : ¬ ((k : Int) < 0) := by omega
  simp only [h0, if_false]
  by_cases h : k < l.length
  · simp [h]
  · simp [h]
def clipI (n d : Nat) : Option Int → Nat
  | none => d
  | some i => (max 0 (min (if i < 0 then i + (n : Int) else i) (n : Int))).toNat
def pySlice {α : Type} (x : List α) (l u : Option Int) : List α := (x.drop (clipI x.length 0 l)).take (clipI x.length x.length u - clipI x.length 0 l)
theorem clip_cast (n d : Nat) (v : Option Int) : (match v with
    | none => (d : Int)
    | some i => max 0 (min (if i < 0 then i + (n : Int) else i) (n : Int))) = ((clipI n d v : Nat) : Int) := by
  cases v with
  | none => rfl
  | some i => simp only [clipI]; omega
theorem strSlice_eq (l u : Option Int) (n : Nat) : Builtin.Str.strSliceIndices l u 1 n = (List.range (clipI n n u - clipI n 0 l)).map (clipI n 0 l + ·) := by
  rw [← sliceRange_one]
  unfold Builtin.Str.strSliceIndices
  simp only [show (1 : Int) > 0 by decide, if_true]
  have h1 := clip_cast n 0 l
  have h2 := clip_cast n n u
  rw [← h1, ← h2]; rfl
theorem bounds_eq (l u : Option Int) (n : Nat) : sliceBounds l u none n = (((clipI n 0 l : Nat) : Int), ((clipI n n u : Nat) : Int), (1 : Int)) := by
  unfold sliceBounds
  simp only [Option.getD_none, show (1 : Int) > 0 by decide, if_true]
  have h1 := clip_cast n 0 l
  have h2 := clip_cast n n u
  rw [← h1, ← h2]; rfl
theorem slicePick_eq (items : List Value) (l u : Option Int) : slicePick items.toArray l u none = (pySlice items l u).toArray := by
  unfold slicePick
  rw [bounds_eq]
  simp only [sliceRange_one, pick_run]
  simp [pySlice]
theorem length_pySlice_le {α : Type} (x : List α) (l u : Option Int) : (pySlice x l u).length ≤ x.length := by
  simp only [pySlice, List.length_take, List.length_drop]; omega

section
variable {B : Base} {n : Nat} {b : Bool} {sc : Scope} {σ : Sto} {P : PV → Prop}

def SubS (B : Base) (n : Nat) (b : Bool) (x y : PV) (P : PV → Prop) : Prop :=
  ∀ A U s E v u, Room n b A → Ok B U s → Rep s.heap U x v → Rep s.heap U y u →
    ∃ T id, s.TypeIs v T ∧ typeLookup (.type T) (Str.ofString "__getitem__") = pure (some (.builtin id)) ∧ wpAny (model B.prog B.w) A (getItem v u) (Post U s P) E s
theorem ev_sub {value idx : Expr} {pos : Pos} (h : EvE B n b sc σ value fun x => EvE B n b sc σ idx fun y => SubS B n b x y P)
    (hs : ∀ o i, subscripted idx false o i = operate [o, i] (getItem o i) := by intro _ _; rfl) : EvE B n b sc σ (.Subscript value idx pos) P := fun A env U s E hR hE hI => by
  refine PyProof.Rows.Subscript_ (wpAny_mono' (h A env U s E hR hE hI) ?_)
  rintro v s₁ ⟨x, hx, rx, x₁⟩
  refine wpAny_mono' (hx A env U s₁ E hR hE (hI.ext x₁)) ?_
  rintro u s₂ ⟨y, hy, ry, x₂⟩
  obtain ⟨T, id, h1, h2, h3⟩ := hy A U s₂ E v u hR (hI.ok.ext (x₁.trans0 x₂)) (rx.keep x₂.k0) ry
  exact PyProof.Rows.tail_any h1 h2 (wpAny_mono' h3 fun _ _ h => h.step (x₁.trans0 x₂)) (hs _ _)
theorem sub_str {x : List Nat} {i : Int} {c : Nat} (h1 : -(2 ^ 63) ≤ i) (h2 : i < 2 ^ 63) (hc : pyIdx x i = some c) (h : P (.str [c])) : SubS B n b (.str x) (.int i) P := fun A U s E v u _ _ hv hu => by
  obtain ⟨t, rfl⟩ := rep_str.mp hv; obtain ⟨t', rfl⟩ := rep_int.mp hu
  refine ⟨"str", _, typeIs_str _ _ _, F.slot_str_getitem.lookup, PySem.P.getItem_str (c := c) ?_ ?_ (Post.str (i := [c]) h .tok1)⟩
  · simp only [Bool.or_eq_false_iff, decide_eq_false_iff_not]; omega
  · simpa [pyIdx, Str.length] using hc
theorem sub_list {l : List PV} {i : Int} {p : PV} (h1 : -(2 ^ 63) ≤ i) (h2 : i < 2 ^ 63) (hc : pyIdx l i = some p) (h : P p) : SubS B n b (.list l) (.int i) P := fun A U s E v u _ _ hv hu => by
  obtain ⟨a, vs, rfl, ha, hl, hr⟩ := rep_list.mp hv; obtain ⟨t', rfl⟩ := rep_int.mp hu
  obtain ⟨k, hk, hp⟩ := Option.bind_eq_some_iff.mp hc
  obtain ⟨w, hw, rw'⟩ := hr.get hp
  have hlen := hr.length
  refine ⟨"list", _, hl.typeIs, slot_list_getitem.lookup, ?_⟩
  unfold seqIndex? at hk
  by_cases hi : i < 0
  · simp only [hi, if_true] at hk
    split at hk
    · rename_i hcond
      simp only [Bool.and_eq_true, decide_eq_true_eq] at hcond
      cases hk
      refine wpAny_getItem_list_neg hl hi (by simp [hlen]; omega) h1 (x := w) ?_ ⟨p, h, rw', .refl _⟩
      simpa [hlen] using hw
    · cases hk
  · simp only [hi, if_false] at hk
    split at hk
    · cases hk
      refine wpAny_getItem_list hl (by omega) h2 (x := w) ?_ ⟨p, h, rw', .refl _⟩
      simpa using hw
    · cases hk
theorem sub_tup {l : List PV} {i : Int} {p : PV} (h1 : -(2 ^ 63) ≤ i) (h2 : i < 2 ^ 63) (hc : pyIdx l i = some p) (h : P p) : SubS B n b (.tup l) (.int i) P := fun A U s E v u _ _ hv hu => by
  obtain ⟨a, vs, rfl, ha, hl, hr⟩ := rep_tup.mp hv; obtain ⟨t', rfl⟩ := rep_int.mp hu
  obtain ⟨k, hk, hp⟩ := Option.bind_eq_some_iff.mp hc
  obtain ⟨w, hw, rw'⟩ := hr.get hp
  have hlen := hr.length
  refine ⟨"tuple", _, PyProof.Rows.IsTup.typeIs hl, PyProof.Rows.slot_tuple_getitem.lookup, PyProof.Rows.getItem_tuple hl h1 h2 (j := k) ?_ (x := w) ?_ ⟨p, h, rw', .refl _⟩⟩
  · simpa [hlen] using hk
  · simpa using hw

/-! slices -/
def EvO (B : Base) (n : Nat) (b : Bool) (sc : Scope) (σ : Sto) : Option Expr → (Option Int → Prop) → Prop
  | none, Q => Q none
  | some e, Q => EvE B n b sc σ e fun p => ∃ i, p = .int i ∧ Q (some i)
theorem evo_use {e : Option Expr} {Q : Option Int → Prop} (h : EvO B n b sc σ e Q) {A : Around} {env : Env} {U : Addr → Prop} {s : Shared} {E : Value → Shared → Prop} (hR : Room n b A) (hE : EnvOk sc env) (hI : EInv B env σ U s) :
    wpAny (model B.prog B.w) A (evalPart e env) (fun v s' => ∃ l : Option (Int × Tok), v = partValue l ∧ Q (l.map (·.1)) ∧ Ext0 s s') E s := by
  cases e with
  | none => exact wpAny_pure ⟨none, rfl, h, .refl _⟩
  | some e =>
    rw [evalPart_some]
    refine wpAny_mono' (h A env U s E hR hE hI) ?_
    rintro v s₁ ⟨p, ⟨i, rfl, hq⟩, rp, x₁⟩
    obtain ⟨t, rfl⟩ := rep_int.mp rp
    exact ⟨some (i, t), rfl, hq, x₁⟩
/-- a slice of a text or of a list -/
inductive SlS (P : PV → Prop) : PV → Option Int → Option Int → Prop
  | str {x : List Nat} {l u : Option Int} (hz : x.length ≤ 16777216) (h : P (.str (pySlice x l u))) : SlS P (.str x) l u
  | list {x : List PV} {l u : Option Int} (hz : x.length ≤ 16777216) (h : P (.list (pySlice x l u))) : SlS P (.list x) l u
theorem ev_slice {value : Expr} {lo hi : Option Expr} {p pos : Pos} (h : EvE B n b sc σ value fun x => EvO B n b sc σ lo fun l => EvO B n b sc σ hi fun u => SlS P x l u) : EvE B n b sc σ (.Subscript value (.Slice lo hi none p) pos) P := fun A env U s E hR hE hI => by
  refine PyProof.Rows.Subscript_ (wpAny_mono' (h A env U s E hR hE hI) ?_)
  rintro v s₁ ⟨x, hx, rx, x₁⟩
  refine wpAny_Slice (wpAny_mono' (evo_use hx hR hE (hI.ext x₁)) ?_)
  rintro vl s₂ ⟨l, rfl, hl, x₂⟩
  refine wpAny_mono' (evo_use hl hR hE (hI.ext (x₁.trans0 x₂))) ?_
  rintro vu s₃ ⟨u, rfl, hu, x₃⟩
  refine wpAny_of_eq (evalPart_none env) ?_
  have x₁₃ : Ext0 s s₃ := (x₁.trans0 x₂).trans0 x₃
  have rx' := rx.keep (x₂.trans0 x₃).k0
  have hok := hI.ok.ext x₁₃
  cases hu with
  | @str x _ _ hz hp =>
    obtain ⟨t, rfl⟩ := rep_str.mp rx'
    refine PyProof.Rows.tail_any (typeIs_str _ _ _) F.slot_str_getitem.lookup (wpAny_getItem_str_slice (l := l) (u := u) (st := none) ⟨_, Heap.get?_push_size _ rfl, rfl, rfl⟩ rfl ?_) (ops := [.ref _, .str _ _]) rfl
    have hpk : slicePicked ⟨x.toArray⟩ l u none = (List.range (clipI x.length x.length (u.map (·.1)) - clipI x.length 0 (l.map (·.1)))).map (clipI x.length 0 (l.map (·.1)) + ·) := by
      unfold slicePicked
      have := strSlice_eq (l.map (·.1)) (u.map (·.1)) x.length
      simpa [Str.length] using this
    have hmade : (slicePicked ⟨x.toArray⟩ l u none).filterMap (x.toArray[·]?) = pySlice x (l.map (·.1)) (u.map (·.1)) := by
      rw [hpk, pick_run]; rfl
    unfold sliceMade
    split
    · rename_i hc
      simp only [Option.map_none, Option.getD_none, beq_self_eq_true, Bool.true_and, beq_iff_eq] at hc
      have : pySlice x (l.map (·.1)) (u.map (·.1)) = x := by
        rw [hpk] at hc
        simp only [List.length_map, List.length_range, Str.length, List.size_toArray] at hc
        have h2 : clipI x.length x.length (u.map (·.1)) ≤ x.length := by cases u with | none => exact Nat.le_refl _ | some q => simp only [Option.map_some, clipI]; omega
        unfold pySlice
        by_cases h0 : x.length = 0
        · have : x = [] := by simpa using h0
          subst this; simp
        · have e1 : clipI x.length 0 (l.map (·.1)) = 0 := by omega
          have e2 : clipI x.length x.length (u.map (·.1)) = x.length := by omega
          rw [e1, e2]; simp
      rw [this] at hp
      exact Post.str hp (x₁₃.trans0 .push)
    · refine ⟨?_, ?_⟩
      · show ((slicePicked ⟨x.toArray⟩ l u none).filterMap (x.toArray[·]?)).toArray.size ≤ sizeLine
        rw [hmade]
        have := length_pySlice_le x (l.map (·.1)) (u.map (·.1))
        simp [sizeLine]; omega
      · show Post U s P (.str ⟨((slicePicked ⟨x.toArray⟩ l u none).filterMap (x.toArray[·]?)).toArray⟩ _) _
        rw [hmade]
        exact Post.str hp ((x₁₃.trans0 .push).trans0 .tok1)
  | @list x _ _ hz hp =>
    obtain ⟨a, vs, rfl, ha, hli, hr⟩ := rep_list.mp rx'
    have keep1 : ∀ b o, s₃.heap.get? b = some o → (s₃.heap.push { cls := .type "slice", data := .fields #[partValue l, partValue u, .none] }).get? b = some o := fun _ _ e => Heap.get?_push_of_some _ e
    have hli' : Heap.IsList (s₃.heap.push { cls := .type "slice", data := .fields #[partValue l, partValue u, .none] }) a vs.toArray := by
      obtain ⟨o, ho, r⟩ := hli; exact ⟨o, keep1 _ _ ho, r⟩
    have part : ∀ q : Option (Int × Tok), IsPart (partValue q) (q.map (·.1)) := fun q => by
      cases q with
      | none => exact .none
      | some q => exact .int q.1 q.2
    refine PyProof.Rows.tail_any (hli'.typeIs) slot_list_getitem.lookup (wpAny_getItem_list_slice hli' (sl := s₃.heap.objs.size) (vl := partValue l) (vu := partValue u) (vs := .none) ⟨_, Heap.get?_push_size _ rfl, rfl, rfl⟩ (part l) (part u) .none (by simp) ?_ ?_) (ops := [.ref _, .ref _]) rfl
    · rw [slicePick_eq]
      refine ⟨_, hp, rep_list.mpr ⟨_, _, rfl, (hok.ext .push).fresh (get?_size _), ⟨_, Heap.get?_push_size _ rfl, rfl, _, rfl⟩, ?_⟩, (x₁₃.trans0 .push).trans0 .push⟩
      have := ((hr.drop (clipI vs.length 0 (l.map (·.1)))).take (clipI vs.length vs.length (u.map (·.1)) - clipI vs.length 0 (l.map (·.1))))
      rw [hr.length] at this
      unfold pySlice
      rw [hr.length]
      exact (this.keep keep1).keep fun _ _ e => Heap.get?_push_of_some _ e
    · rw [List.size_toArray, hr.length]; exact hz
end
end Mine
end

section
set_option maxRecDepth 10000
set_option linter.unusedVariables false
namespace Mine
open PySem

/-- a name of the built-ins -/
def Blt (B : Base) (f : Str) (v : Value) : Prop := B.mg f = none ∧ B.mb f = some v

section
variable {B : Base} {n : Nat} {b : Bool} {sc : Scope} {σ : Sto} {P : PV → Prop}

theorem callWith_machine {M : Model} {A : Around} {E : Value → Shared → Prop} {s : Shared} {pos : Pos} {f : Value} {args : List (Bool × Sem Value)} {Q : Value → Shared → Prop} (hf : keeperOf f = pure .machine) (hplain : args.any (·.1) = false)
    (h : wpAny M A (evalArgs f true args []) (fun a s₁ => wpAny M A (call f a.pos a.kw) Q E s₁) E s) : wpAny M A (callWith pos f [] args []) Q E s := by
  unfold callWith
  refine wpAny_bind (wpAny_holding (wpAny_mono h (fun a s₁ h₁ => wpAny_bind (wpAny_standAt ?_)) fun _ _ x => x))
  simp only [hplain, List.any_nil, Bool.or_false]
  refine wpAny_bind (wpAny_of_eq hf ?_)
  exact wpAny_bind (wpAny_mono h₁ (fun r s₂ hr => wpAny_bind (wpAny_holding (wpAny_point (wpAny_pure hr)))) fun _ _ x => x)

theorem name_blt {f : Str} {p : Pos} {v : Value} {A : Around} {env : Env} {s : Shared} {U : Addr → Prop} {Q : Value → Shared → Prop} {E : Value → Shared → Prop} (hf : sc.names.lookup f = some .globalImplicit) (hb : Blt B f v) (hd : (f == ("__debug__" : Str)) = false)
    (hE : EnvOk sc env) (ok : Ok B U s) (h : Q v s) : wpAny (model B.prog B.w) A (eval (.Name f p) env) Q E s :=
  Calls.Name_function_global (by rw [hE.scope]; exact hE.kind) (by rw [hE.kindOf]; exact hf)
    (Calls.loadGlobal_builtin (mg := B.mg) (mb := B.mb) (by rw [hE.globals]; exact ok.good.g.keeps ok.keep) hb.1 (by rw [hE.builtins]; exact ok.good.b.keeps ok.keep) hb.2 h) hd
theorem name_glob {f : Str} {p : Pos} {v : Value} {A : Around} {env : Env} {s : Shared} {U : Addr → Prop} {Q : Value → Shared → Prop} {E : Value → Shared → Prop} (hf : sc.names.lookup f = some .globalImplicit) (hb : B.mg f = some v) (hd : (f == ("__debug__" : Str)) = false)
    (hE : EnvOk sc env) (ok : Ok B U s) (h : Q v s) : wpAny (model B.prog B.w) A (eval (.Name f p) env) Q E s :=
  Calls.Name_function_global (by rw [hE.scope]; exact hE.kind) (by rw [hE.kindOf]; exact hf)
    (Calls.loadGlobal_global (mg := B.mg) (by rw [hE.globals]; exact ok.good.g.keeps ok.keep) hb h) hd

theorem ev_bcall {f : Str} {v : Value} {p pos : Pos} {e : Expr} {es : List Expr} (hf : sc.names.lookup f = some .globalImplicit) (hb : Blt B f v) (hk : keeperOf v = pure .machine)
    (h : EvL B n b sc σ (e :: es) fun ps => OpN B n b (fun vs => call v vs) ps P)
    (hs : ∀ env, starEach (e :: es) env = (false, eval e env) :: starEach es env := by intro _; rfl) (hp : ∀ env pos, (backTo pos (starEach es env)).any (·.1) = false := by intro _ _; rfl)
    (hd : (f == ("__debug__" : Str)) = false := by rfl)
    (hc : ∀ env, eval (.Call (.Name f p) (e :: es) [] pos) env = (do callWith pos (← eval (.Name f p) env) [] (backTo pos (starEach (e :: es) env)) (backToKw pos (keywordEach [] env))) := by intro _; rfl) :
    EvE B n b sc σ (.Call (.Name f p) (e :: es) [] pos) P := fun A env U s E hR hE hI => by
  rw [hc]
  refine wpAny_bind (name_blt hf hb hd hE hI.ok ?_)
  show wpAny _ _ (callWith pos v [] (backTo pos (starEach (e :: es) env)) []) _ _ _
  have hh := h A env U s E pos hR hE hI
  rw [hs] at hh ⊢
  refine callWith_machine hk (by show (false || (backTo pos (starEach es env)).any (·.1)) = false; rw [hp]; rfl) (Calls.evalArgs_plain (wpAny_mono' hh ?_))
  rintro vs s₁ ⟨ps, hps, rs, x₁⟩
  exact wpAny_mono' (hps A U s₁ E vs hR (hI.ok.ext x₁) rs) fun _ _ h => h.step x₁

/-- a def of the text -/
def Fn (B : Base) (k : Nat) (b : Bool) (f : Str) (ps : List PV) (P : PV → Prop) : Prop :=
  ∃ a o fd, B.mg f = some (.ref a) ∧ B.h₀.get? a = some o ∧ o.data = .func fd ∧ ∀ A U s vs, Room k b A → Ok B U s → Reps s.heap U ps vs →
    codeAny (model B.prog B.w) A (.call (.ref a) ⟨vs, []⟩) (fun r s' => ∃ v, r = .ok (.ret v) ∧ Post U s P v s') s
theorem Fn.mono {k : Nat} {f : Str} {ps : List PV} {P P' : PV → Prop} (h : Fn B k b f ps P) (hp : ∀ p, P p → P' p) : Fn B k b f ps P' := by
  obtain ⟨a, o, fd, h1, h2, h3, h4⟩ := h
  refine ⟨a, o, fd, h1, h2, h3, fun A U s vs hR ok rs => codeAny_mono (h4 A U s vs hR ok rs) ?_⟩
  rintro r s' ⟨v, rfl, p, hq, rp, x⟩
  exact ⟨v, rfl, p, hp p hq, rp, x⟩
theorem ev_call {k : Nat} {f : Str} {p pos : Pos} {e : Expr} {es : List Expr} (hf : sc.names.lookup f = some .globalImplicit) (hk : k ≤ n)
    (h : EvL B n b sc σ (e :: es) fun ps => Fn B k b f ps P)
    (hs : ∀ env, starEach (e :: es) env = (false, eval e env) :: starEach es env := by intro _; rfl)
    (hd : (f == ("__debug__" : Str)) = false := by rfl)
    (hc : ∀ env, eval (.Call (.Name f p) (e :: es) [] pos) env = (do callWith pos (← eval (.Name f p) env) [] (backTo pos (starEach (e :: es) env)) (backToKw pos (keywordEach [] env))) := by intro _; rfl)
    (hg : ∃ a o fd, B.mg f = some (.ref a) ∧ B.h₀.get? a = some o ∧ o.data = .func fd) :
    EvE B n b sc σ (.Call (.Name f p) (e :: es) [] pos) P := fun A env U s E hR hE hI => by
  obtain ⟨a, o, fd, g1, g2, g3⟩ := hg
  rw [hc]
  refine wpAny_bind (name_glob hf g1 hd hE hI.ok ?_)
  show wpAny _ _ (callWith pos (.ref a) [] (backTo pos (starEach (e :: es) env)) []) _ _ _
  have hh := h A env U s E pos hR hE hI
  rw [hs] at hh ⊢
  refine Calls.callWith_function (o := o) (fd := fd) (Calls.evalArgs_plain (wpAny_mono' hh ?_))
  rintro vs s₁ ⟨ps, hps, rs, x₁⟩
  have ok₁ := hI.ok.ext x₁
  refine ⟨⟨ok₁.keep _ _ g2, g3⟩, ?_⟩
  obtain ⟨a', o', fd', h1, h2, h3, h4⟩ := hps
  rw [g1] at h1; cases h1
  refine wpAny_call (codeAny_mono (h4 A U s₁ vs (hR.mono hk) ok₁ rs) ?_)
  rintro r s' ⟨v, rfl, hv⟩
  exact hv.step x₁
/-! methods of a text -/
theorem ev_meth1 {o e : Expr} {name : Str} {id : String} {apos pos : Pos} (slot : Slot "str" name id) (ty : typeOf (.builtin id) = pure (.type "method_descriptor"))
    (h : EvE B n b sc σ o fun x => ∃ t, x = .str t ∧ EvE B n b sc σ e fun y => Op2 B n b (fun v u => call (.builtin id) [v, u]) (.str t) y P)
    (hbase : ∀ env, attributeBase o name env (eval o env) = eval o env := by intro _; rfl) (hs : ∀ env, starEach [e] env = [(false, eval e env)] := by intro _; rfl) (hline : (apos.endLine == pos.line) = true := by rfl) :
    EvE B n b sc σ (.Call (.Attribute o name apos) [e] [] pos) P := fun A env U s E hR hE hI => by
  refine Call_method1 (hbase env) (hs env) hline (wpAny_mono' (h A env U s E hR hE hI) ?_)
  rintro v s₁ ⟨x, ⟨t, rfl, hx⟩, rx, x₁⟩
  obtain ⟨tk, rfl⟩ := rep_str.mp rx
  refine ⟨"str", id, F.plainAttrs_str, slot, ty, typeIs_str _ _ _, (fun _ e => nomatch e), Calls.callWith_builtin rfl (Calls.evalArgs_plain (Calls.spliced_cons (wpAny_mono' (hx A env U s₁ E hR hE (hI.ext x₁)) ?_)))⟩
  rintro u s₂ ⟨y, hy, ry, x₂⟩
  refine Calls.spliced_nil ?_
  exact wpAny_mono' (hy A U s₂ E _ u hR (hI.ok.ext (x₁.trans0 x₂)) (rep_str.mpr ⟨tk, rfl⟩) ry) fun _ _ h => h.step (x₁.trans0 x₂)
theorem ev_meth2 {o e f : Expr} {name : Str} {id : String} {apos pos : Pos} (slot : Slot "str" name id) (ty : typeOf (.builtin id) = pure (.type "method_descriptor"))
    (h : EvE B n b sc σ o fun x => ∃ t, x = .str t ∧ EvE B n b sc σ e fun y => EvE B n b sc σ f fun z => OpN B n b (fun vs => call (.builtin id) vs) [.str t, y, z] P)
    (hbase : ∀ env, attributeBase o name env (eval o env) = eval o env := by intro _; rfl) (hs : ∀ env, starEach [e, f] env = [(false, eval e env), (false, eval f env)] := by intro _; rfl) (hline : (apos.endLine == pos.line) = true := by rfl) :
    EvE B n b sc σ (.Call (.Attribute o name apos) [e, f] [] pos) P := fun A env U s E hR hE hI => by
  refine Call_method2 (hbase env) (hs env) hline (wpAny_mono' (h A env U s E hR hE hI) ?_)
  rintro v s₁ ⟨x, ⟨t, rfl, hx⟩, rx, x₁⟩
  obtain ⟨tk, rfl⟩ := rep_str.mp rx
  refine ⟨"str", id, F.plainAttrs_str, slot, ty, typeIs_str _ _ _, (fun _ e => nomatch e), Calls.callWith_builtin rfl (Calls.evalArgs_plain (Calls.spliced_cons (wpAny_mono' (hx A env U s₁ E hR hE (hI.ext x₁)) ?_)))⟩
  rintro u s₂ ⟨y, hy, ry, x₂⟩
  refine Calls.spliced_cons (wpAny_mono' (hy A env U s₂ E hR hE (hI.ext (x₁.trans0 x₂))) ?_)
  rintro w s₃ ⟨z, hz, rz, x₃⟩
  refine Calls.spliced_nil ?_
  exact wpAny_mono' (hz A U s₃ E _ hR (hI.ok.ext ((x₁.trans0 x₂).trans0 x₃)) (.cons (rep_str.mpr ⟨tk, rfl⟩) (.cons (ry.keep x₃.k0) (.cons rz .nil)))) fun _ _ h => h.step ((x₁.trans0 x₂).trans0 x₃)

/-! built-ins -/
theorem reps1 {h : Heap} {U : Addr → Prop} {p : PV} {vs : List Value} (r : Reps h U [p] vs) : ∃ v, vs = [v] ∧ Rep h U p v := by
  simp only [Reps] at r
  obtain ⟨v, r', rfl, h1, rfl⟩ := r
  exact ⟨v, rfl, h1⟩
theorem bi_len_str {x : List Nat} (hz : x.length ≤ 16777216) (h : P (.int x.length)) : OpN B n b (fun vs => call (.builtin "len") vs) [.str x] P := fun A U s E vs hR ok rs => by
  obtain ⟨v, rfl, rv⟩ := reps1 rs
  obtain ⟨t, rfl⟩ := rep_str.mp rv
  exact PySem.P.len_str (by simp [Str.length]; omega) (Post.int h (.tok (by show s.toks ≤ s.toks + 1 + 1; omega)))
theorem bi_len_list {x : List PV} (hz : x.length ≤ 16777216) (h : P (.int x.length)) : OpN B n b (fun vs => call (.builtin "len") vs) [.list x] P := fun A U s E vs hR ok rs => by
  obtain ⟨v, rfl, rv⟩ := reps1 rs
  obtain ⟨a, ws, rfl, ha, hl, hr⟩ := rep_list.mp rv
  refine PyProof.Rows.len_list hl (by simp [hr.length]; omega) ?_
  rw [List.size_toArray, hr.length]
  exact Post.int h (.tok (by show s.toks ≤ s.toks + 1 + 1; omega))
theorem bi_chr {i : Int} (h0 : 0 ≤ i) (h1 : i ≤ 1114111) (h : P (.str [i.toNat])) : OpN B n b (fun vs => call (.builtin "chr") vs) [.int i] P := fun A U s E vs hR ok rs => by
  obtain ⟨v, rfl, rv⟩ := reps1 rs
  obtain ⟨t, rfl⟩ := rep_int.mp rv
  exact PyProof.Rows.chr_of_range h0 h1 (Post.str (i := [i.toNat]) h .tok1)
end
end Mine
end

section
set_option maxRecDepth 10000
set_option linter.unusedVariables false
namespace Mine
open PySem

abbrev Own := Option (Str × Addr × List PV)
def Av (V : Addr → Prop) (ow : Own) : Addr → Prop := fun a => V a ∨ ∃ x l, ow = some (x, a, l)
def MineA (env : Env) (ow : Own) : Addr → Prop := fun a => a = env.locals ∨ (∃ x, env.kindOf x = some .cell ∧ env.cells.lookup x = some a) ∨ ∃ x l, ow = some (x, a, l)

structure Inv (B : Base) (env : Env) (V : Addr → Prop) (σ : Sto) (ow : Own) (s : Shared) : Prop where
  ok : Ok B (Av V ow) s
  loc : ∃ m, s.heap.Ns env.locals m ∧ (∀ x p, σ.lookup x = some p → env.kindOf x = some .local → ∃ v, m x = some v ∧ Rep s.heap (Av V ow) p v) ∧
    (∀ x a l, ow = some (x, a, l) → env.kindOf x = some .local ∧ m x = some (.ref a) ∧ ∃ vs, s.heap.PlainList a (List.toArray vs) ∧ Reps s.heap (Av V ow) l vs)
  cel : ∀ x, env.kindOf x = some .cell → ∃ c ov, env.cells.lookup x = some c ∧ s.heap.IsCell c ov ∧ ∀ p, σ.lookup x = some p → ∃ v, ov = some v ∧ Rep s.heap (Av V ow) p v
  kinds : ∀ x p, σ.lookup x = some p → env.kindOf x = some .local ∨ env.kindOf x = some .cell
  inj : ∀ x y c, env.kindOf x = some .cell → env.kindOf y = some .cell → env.cells.lookup x = some c → env.cells.lookup y = some c → x = y
  new : ∀ a, MineA env ow a → B.h₀.get? a = none
  vout : ∀ a, V a → ¬ MineA env ow a

theorem ns_ne_cell {h : Heap} {a c : Addr} {m : Str → Option Value} {ov : Option Value} (hn : h.Ns a m) (hc : h.IsCell c ov) : a ≠ c := by
  rintro rfl
  obtain ⟨o, es, ep, ho, hd, _⟩ := hn
  obtain ⟨o', ho', hd'⟩ := hc
  rw [ho] at ho'; cases ho'
  rw [hd] at hd'; cases hd'
theorem ns_ne_list {h : Heap} {a c : Addr} {m : Str → Option Value} {vs : Array Value} (hn : h.Ns a m) (hc : h.PlainList c vs) : a ≠ c := by
  rintro rfl
  obtain ⟨o, es, ep, ho, hd, _⟩ := hn
  obtain ⟨n, ho'⟩ := hc
  rw [ho] at ho'; cases ho'; cases hd
theorem cell_ne_list {h : Heap} {a c : Addr} {ov : Option Value} {vs : Array Value} (hn : h.IsCell a ov) (hc : h.PlainList c vs) : a ≠ c := by
  rintro rfl
  obtain ⟨o, ho, hd⟩ := hn
  obtain ⟨n, ho'⟩ := hc
  rw [ho] at ho'; cases ho'; cases hd
theorem rep_mine {h h' : Heap} {U : Addr → Prop} {a : Addr} (hs : Heap.SameBut a h h') (ha : (∃ m, h.Ns a m) ∨ (∃ ov, h.IsCell a ov)) {p : PV} {v : Value} (r : Rep h U p v) : Rep h' U p v := by
  have key : ∀ {p : PV} {v : Value}, Rep h (fun c => U c ∨ c = a) p v → Rep h' U p v := fun r => r.mono (fun c o hc e => hs.extBut c o (fun e' => hc (.inr e')) e) fun c hc => .inl (.inl hc)
  refine key ?_
  -- a is no list and no tuple
  have nl : ∀ vs, ¬ h.IsList a vs := fun vs ⟨o, ho, hc, n, hd⟩ => by
    rcases ha with ⟨m, o', es, ep, ho', hd', _⟩ | ⟨ov, o', ho', hd'⟩ <;> (rw [ho] at ho'; cases ho'; rw [hd] at hd'; cases hd')
  have nt : ∀ vs, ¬ h.IsTuple a vs := fun vs ⟨o, ho, hc, n, hd⟩ => by
    rcases ha with ⟨m, o', es, ep, ho', hd', _⟩ | ⟨ov, o', ho', hd'⟩ <;> (rw [ho] at ho'; cases ho'; rw [hd] at hd'; cases hd')
  exact go nl nt r
where
  go {h : Heap} {U : Addr → Prop} {a : Addr} (nl : ∀ vs, ¬ h.IsList a vs) (nt : ∀ vs, ¬ h.IsTuple a vs) : ∀ {p : PV} {v : Value}, Rep h U p v → Rep h (fun c => U c ∨ c = a) p v
    | .none, _, r => by simpa [Rep] using r
    | .bool _, _, r => by simpa [Rep] using r
    | .int _, _, r => by simpa [Rep] using r
    | .str _, _, r => by simpa [Rep] using r
    | .tup l, v, r => by
      obtain ⟨c, vs, rfl, hc, ht, hr⟩ := rep_tup.mp r
      exact rep_tup.mpr ⟨c, vs, rfl, fun h' => h'.elim hc (fun e => nt _ (e ▸ ht)), ht, gos nl nt hr⟩
    | .list l, v, r => by
      obtain ⟨c, vs, rfl, hc, ht, hr⟩ := rep_list.mp r
      exact rep_list.mpr ⟨c, vs, rfl, fun h' => h'.elim hc (fun e => nl _ (e ▸ ht)), ht, gos nl nt hr⟩
  gos {h : Heap} {U : Addr → Prop} {a : Addr} (nl : ∀ vs, ¬ h.IsList a vs) (nt : ∀ vs, ¬ h.IsTuple a vs) : ∀ {l : List PV} {vs : List Value}, Reps h U l vs → Reps h (fun c => U c ∨ c = a) l vs
    | [], _, r => by simpa [Reps] using r
    | p :: l, vs, r => by
      simp only [Reps] at r ⊢
      obtain ⟨v, r', rfl, h1, h2⟩ := r
      exact ⟨v, r', rfl, go nl nt h1, gos nl nt h2⟩
theorem reps_mine {h h' : Heap} {U : Addr → Prop} {a : Addr} (hs : Heap.SameBut a h h') (ha : (∃ m, h.Ns a m) ∨ (∃ ov, h.IsCell a ov)) : ∀ {l : List PV} {vs : List Value}, Reps h U l vs → Reps h' U l vs
  | [], _, r => by simpa [Reps] using r
  | p :: l, vs, r => by
    simp only [Reps] at r ⊢
    obtain ⟨v, r', rfl, h1, h2⟩ := r
    exact ⟨v, r', rfl, rep_mine hs ha h1, reps_mine hs ha h2⟩

section
variable {B : Base} {n : Nat} {b : Bool} {sc : Scope} {σ : Sto} {env : Env} {V : Addr → Prop} {ow : Own} {s s' : Shared}

theorem Inv.einv (k : Inv B env V σ ow s) (hE : EnvOk sc env) : EInv B env σ (Av V ow) s where
  ok := k.ok
  rd := fun x p hx => by
    have hk : env.scope.kind = .function := by rw [hE.scope]; exact hE.kind
    rcases k.kinds x p hx with h1 | h1
    · obtain ⟨m, hn, hm, _⟩ := k.loc
      obtain ⟨v, hv, r⟩ := hm x p hx h1
      exact ⟨v, r, fun s' x' M A Q E h => wpAny_loadName_local hk h1 (hn.keeps x'.k0) hv h⟩
    · obtain ⟨c, ov, hc, hcell, hp⟩ := k.cel x h1
      obtain ⟨v, rfl, r⟩ := hp p hx
      exact ⟨v, r, fun s' x' M A Q E h => wpAny_loadName_cell hk h1 hc (hcell.keeps x'.k0) h⟩
  cel := fun x hx => by
    obtain ⟨c, ov, hc, hcell, hp⟩ := k.cel x hx
    exact ⟨c, hc, fun p hx' => let ⟨v, e, r⟩ := hp p hx'; ⟨v, e ▸ hcell, r⟩⟩
theorem Inv.ext (k : Inv B env V σ ow s) (x : Ext0 s s') : Inv B env V σ ow s' where
  ok := k.ok.ext x
  loc := by
    obtain ⟨m, hn, hm, ho⟩ := k.loc
    refine ⟨m, hn.keeps x.k0, fun y p h1 h2 => ?_, fun y a l h => ?_⟩
    · obtain ⟨v, e, r⟩ := hm y p h1 h2; exact ⟨v, e, r.keep x.k0⟩
    · obtain ⟨h1, h2, vs, ⟨nn, h3⟩, h4⟩ := ho y a l h
      exact ⟨h1, h2, vs, ⟨nn, x.k0 _ _ h3⟩, h4.keep x.k0⟩
  cel := fun y hy => by
    obtain ⟨c, ov, h1, h2, h3⟩ := k.cel y hy
    exact ⟨c, ov, h1, h2.keeps x.k0, fun p hp => let ⟨v, e, r⟩ := h3 p hp; ⟨v, e, r.keep x.k0⟩⟩
  kinds := k.kinds
  inj := k.inj
  new := k.new
  vout := k.vout
theorem Inv.alive_loc (k : Inv B env V σ ow s) : ∃ m, s.heap.Ns env.locals m := let ⟨m, h, _⟩ := k.loc; ⟨m, h⟩

/-- one address of the frame's own changed: what the rest keeps -/
theorem Inv.okSame {a : Addr} (k : Inv B env V σ ow s) (hm : MineA env ow a) {h' : Heap} {tk : Nat} (ht : s.toks ≤ tk) (hs : Heap.SameBut a s.heap h') (ha : (h'.get? a).isSome = true) : Ok B (Av V ow) { s with heap := h', toks := tk } :=
  ⟨k.ok.good, fun c o e => hs.extBut c o (fun e' => by rw [e', k.new a hm] at e; cases e) (k.ok.keep c o e), k.ok.bare, fun c hc => by
    by_cases e : c = a
    · subst e; exact ha
    · show (h'.get? c).isSome = true
      rw [hs.2 c e]; exact k.ok.alive c hc, Nat.le_trans k.ok.toks ht⟩

theorem Inv.storeLocal {x : Str} {v : Value} {p : PV} {A : Around} {E : Value → Shared → Prop} {Q : Unit → Shared → Prop} (k : Inv B env V σ ow s) (hE : EnvOk sc env) (hx : sc.names.lookup x = some .local) (hne : ∀ y a l, ow = some (y, a, l) → y ≠ x) (r : Rep s.heap (Av V ow) p v)
    (h : ∀ s', Inv B env V ((x, p) :: σ) ow s' → Ext (MineA env ow) s s' → Q () s') : wpAny (model B.prog B.w) A (storeName env x v) Q E s := by
  obtain ⟨m, hn, hm, ho⟩ := k.loc
  have hk : env.scope.kind = .function := by rw [hE.scope]; exact hE.kind
  have hxl : env.kindOf x = some .local := by rw [hE.kindOf]; exact hx
  refine wpAny_storeName_local hxl hn (fun h' hn' hs => ?_) (by rw [hk]; rfl)
  have mine : MineA env ow env.locals := .inl rfl
  have isN : (∃ m, s.heap.Ns env.locals m) ∨ (∃ ov, s.heap.IsCell env.locals ov) := .inl ⟨m, hn⟩
  refine h _ ⟨k.okSame mine (Nat.le_succ _) hs ?_, ⟨_, hn', fun y q hy hyl => ?_, fun y a l e => ?_⟩, fun y hy => ?_, fun y q hy => ?_, k.inj, k.new, k.vout⟩ (.of_heap (fun c o hc e => hs.extBut c o (fun e' => hc (e' ▸ mine)) e) (Nat.le_succ _))
  · obtain ⟨o, _, _, ho', _⟩ := hn'; rw [ho']; rfl
  · rw [List.lookup_cons] at hy
    cases hyx : y == x with
    | true => rw [hyx] at hy; cases hy; rw [beq_iff_eq.mp hyx]; exact ⟨v, by simp, rep_mine hs isN r⟩
    | false =>
      rw [hyx] at hy
      obtain ⟨u, e, r'⟩ := hm y q hy hyl
      exact ⟨u, by simp [show y ≠ x from fun e' => by rw [e'] at hyx; simp at hyx, e], rep_mine hs isN r'⟩
  · obtain ⟨h1, h2, vs, h3, h4⟩ := ho y a l e
    refine ⟨h1, by simp [hne y a l e, h2], vs, ?_, reps_mine hs isN h4⟩
    obtain ⟨nn, h3'⟩ := id h3
    exact ⟨nn, hs.extBut a _ (Ne.symm (ns_ne_list hn h3)) h3'⟩
  · obtain ⟨c, ov, h1, h2, h3⟩ := k.cel y hy
    refine ⟨c, ov, h1, h2.sameBut hs (Ne.symm (ns_ne_cell hn h2)), fun q hq => ?_⟩
    rw [List.lookup_cons] at hq
    cases hyx : y == x with
    | true => rw [beq_iff_eq.mp hyx, hxl] at hy; cases hy
    | false =>
      rw [hyx] at hq
      obtain ⟨u, e, r'⟩ := h3 q hq
      exact ⟨u, e, rep_mine hs isN r'⟩
  · rw [List.lookup_cons] at hy
    cases hyx : y == x with
    | true => rw [beq_iff_eq.mp hyx]; exact .inl hxl
    | false => rw [hyx] at hy; exact k.kinds y q hy
theorem Inv.storeCell {x : Str} {v : Value} {p : PV} {A : Around} {E : Value → Shared → Prop} {Q : Unit → Shared → Prop} (k : Inv B env V σ ow s) (hE : EnvOk sc env) (hx : sc.names.lookup x = some .cell) (r : Rep s.heap (Av V ow) p v)
    (h : ∀ s', Inv B env V ((x, p) :: σ) ow s' → Ext (MineA env ow) s s' → Q () s') : wpAny (model B.prog B.w) A (storeName env x v) Q E s := by
  obtain ⟨m, hn, hm, ho⟩ := k.loc
  have hk : env.scope.kind = .function := by rw [hE.scope]; exact hE.kind
  have hxl : env.kindOf x = some .cell := by rw [hE.kindOf]; exact hx
  obtain ⟨c, ov, hc, hcell, hcp⟩ := k.cel x hxl
  refine wpAny_storeName_cell hk hxl hc hcell fun h' hcell' hs => ?_
  have mine : MineA env ow c := .inr (.inl ⟨x, hxl, hc⟩)
  have isN : (∃ m, s.heap.Ns c m) ∨ (∃ ov, s.heap.IsCell c ov) := .inr ⟨ov, hcell⟩
  refine h _ ⟨k.okSame mine (tk := s.toks) (Nat.le_refl _) hs ?_, ⟨m, hn.sameBut hs (ns_ne_cell hn hcell), fun y q hy hyl => ?_, fun y a l e => ?_⟩, fun y hy => ?_, fun y q hy => ?_, k.inj, k.new, k.vout⟩ (.of_heap (tk := s.toks) (fun d o hd e => hs.extBut d o (fun e' => hd (e' ▸ mine)) e) (Nat.le_refl _))
  · obtain ⟨o, ho', _⟩ := hcell'; rw [ho']; rfl
  · rw [List.lookup_cons] at hy
    cases hyx : y == x with
    | true => rw [beq_iff_eq.mp hyx, hxl] at hyl; cases hyl
    | false =>
      rw [hyx] at hy
      obtain ⟨u, e, r'⟩ := hm y q hy hyl
      exact ⟨u, e, rep_mine hs isN r'⟩
  · obtain ⟨h1, h2, vs, h3, h4⟩ := ho y a l e
    refine ⟨h1, h2, vs, ?_, reps_mine hs isN h4⟩
    obtain ⟨nn, h3'⟩ := id h3
    exact ⟨nn, hs.extBut a _ (Ne.symm (cell_ne_list hcell h3)) h3'⟩
  · cases hyx : y == x with
    | true =>
      rw [beq_iff_eq.mp hyx]
      refine ⟨c, some v, hc, hcell', fun q hq => ?_⟩
      rw [List.lookup_cons, beq_self_eq_true] at hq
      cases hq
      exact ⟨v, rfl, rep_mine hs isN r⟩
    | false =>
      obtain ⟨d, od, h1, h2, h3⟩ := k.cel y hy
      have hdc : d ≠ c := fun e => by
        have := k.inj y x c hy hxl (e ▸ h1) hc
        rw [this] at hyx; simp at hyx
      refine ⟨d, od, h1, h2.sameBut hs hdc, fun q hq => ?_⟩
      rw [List.lookup_cons, hyx] at hq
      obtain ⟨u, e, r'⟩ := h3 q hq
      exact ⟨u, e, rep_mine hs isN r'⟩
  · rw [List.lookup_cons] at hy
    cases hyx : y == x with
    | true => rw [beq_iff_eq.mp hyx]; exact .inr hxl
    | false => rw [hyx] at hy; exact k.kinds y q hy

/-- a name of the frame that may be stored: local or cell, and not the owner -/
def Puts (sc : Scope) (ow : Own) (x : Str) : Prop := (sc.names.lookup x = some .local ∧ ∀ y a l, ow = some (y, a, l) → y ≠ x) ∨ sc.names.lookup x = some .cell
theorem Inv.store {x : Str} {v : Value} {p : PV} {A : Around} {E : Value → Shared → Prop} {Q : Unit → Shared → Prop} (k : Inv B env V σ ow s) (hE : EnvOk sc env) (hx : Puts sc ow x) (r : Rep s.heap (Av V ow) p v)
    (h : ∀ s', Inv B env V ((x, p) :: σ) ow s' → Ext (MineA env ow) s s' → Q () s') : wpAny (model B.prog B.w) A (storeName env x v) Q E s := by
  rcases hx with ⟨h1, h2⟩ | h1
  · exact k.storeLocal hE h1 h2 r h
  · exact k.storeCell hE h1 r h

theorem Inv.weaken {σ' : Sto} (k : Inv B env V σ ow s) (h : ∀ x p, σ'.lookup x = some p → σ.lookup x = some p) : Inv B env V σ' ow s where
  ok := k.ok
  loc := let ⟨m, a, c, d⟩ := k.loc; ⟨m, a, fun x p hx => c x p (h x p hx), d⟩
  cel := fun x hx => let ⟨c, ov, a, d, e⟩ := k.cel x hx; ⟨c, ov, a, d, fun p hp => e p (h x p hp)⟩
  kinds := fun x p hx => k.kinds x p (h x p hx)
  inj := k.inj
  new := k.new
  vout := k.vout
theorem Inv.freeze {x : Str} {a : Addr} {l : List PV} (k : Inv B env V σ (some (x, a, l)) s) : Inv B env V ((x, .list l) :: σ) none s := by
  obtain ⟨m, hn, hm, ho⟩ := k.loc
  obtain ⟨h1, h2, vs, h3, h4⟩ := ho x a l rfl
  have av : ∀ c, Av V none c → Av V (some (x, a, l)) c := fun c hc => hc.elim .inl fun ⟨_, _, e⟩ => nomatch e
  have rp : ∀ {p : PV} {v : Value}, Rep s.heap (Av V (some (x, a, l))) p v → Rep s.heap (Av V none) p v := fun r => r.mono (fun _ _ _ e => e) fun c hc => .inl (av c hc)
  have mi : ∀ c, MineA env none c → MineA env (some (x, a, l)) c := fun c hc => hc.elim .inl fun h => h.elim (fun h => .inr (.inl h)) fun ⟨_, _, e⟩ => nomatch e
  have va : ¬ V a := fun hv => k.vout a hv (.inr (.inr ⟨x, l, rfl⟩))
  refine ⟨⟨k.ok.good, k.ok.keep, k.ok.bare, fun c hc => k.ok.alive c (av c hc), k.ok.toks⟩, ⟨m, hn, fun y p hy hyl => ?_, fun _ _ _ e => nomatch e⟩, fun y hy => ?_, fun y p hy => ?_, k.inj, fun c hc => k.new c (mi c hc), fun c hc hm => k.vout c hc (mi c hm)⟩
  · rw [List.lookup_cons] at hy
    cases hyx : y == x with
    | true =>
      rw [hyx] at hy; cases hy
      refine ⟨_, (beq_iff_eq.mp hyx) ▸ h2, rep_list.mpr ⟨a, vs, rfl, (fun hc => hc.elim va (fun ⟨_, _, e⟩ => (nomatch e))), ?_, h4.mono (fun _ _ _ e => e) fun c hc => .inl (av c hc)⟩⟩
      obtain ⟨nn, e⟩ := h3
      exact ⟨_, e, rfl, nn, rfl⟩
    | false =>
      rw [hyx] at hy
      obtain ⟨v, e, r⟩ := hm y p hy hyl
      exact ⟨v, e, rp r⟩
  · obtain ⟨c, ov, g1, g2, g3⟩ := k.cel y hy
    refine ⟨c, ov, g1, g2, fun p hp => ?_⟩
    rw [List.lookup_cons] at hp
    cases hyx : y == x with
    | true => rw [beq_iff_eq.mp hyx, h1] at hy; cases hy
    | false =>
      rw [hyx] at hp
      obtain ⟨v, e, r⟩ := g3 p hp
      exact ⟨v, e, rp r⟩
  · rw [List.lookup_cons] at hy
    cases hyx : y == x with
    | true => rw [beq_iff_eq.mp hyx]; exact .inl h1
    | false => rw [hyx] at hy; exact k.kinds y p hy
/-- a new object that nothing of the frame holds is avoided -/
theorem Inv.avoid {a : Addr} (k : Inv B env V σ none s) (x : Ext0 s s') (ha : s.heap.get? a = none) (ha' : (s'.heap.get? a).isSome = true) (hl : a ≠ env.locals ∧ ∀ y c, env.kindOf y = some .cell → env.cells.lookup y = some c → a ≠ c) : Inv B env (fun c => V c ∨ c = a) σ none s' := by
  have k' := k.ext x
  have av : ∀ c, Av (fun c => V c ∨ c = a) none c → Av V none c ∨ c = a := fun c hc => hc.elim (fun h => h.elim (fun h => .inl (.inl h)) .inr) fun ⟨_, _, e⟩ => nomatch e
  have rp : ∀ {p : PV} {v : Value}, Rep s.heap (Av V none) p v → Rep s'.heap (Av (fun c => V c ∨ c = a) none) p v := fun r => r.mono (fun c o _ e => x.k0 c o e) (fun c hc => (av c hc).elim .inl (fun (e : c = a) => .inr (e ▸ ha)))
  obtain ⟨m, hn, hm, _⟩ := k.loc
  refine ⟨⟨k'.ok.good, k'.ok.keep, k'.ok.bare, fun c hc => (av c hc).elim (k'.ok.alive c) fun e => e ▸ ha', k'.ok.toks⟩, ⟨m, hn.keeps x.k0, fun y p h1 h2 => let ⟨v, e, r⟩ := hm y p h1 h2; ⟨v, e, rp r⟩, fun _ _ _ e => nomatch e⟩, fun y hy => ?_, k.kinds, k.inj, k.new, fun c hc hmi => ?_⟩
  · obtain ⟨c, ov, g1, g2, g3⟩ := k.cel y hy
    exact ⟨c, ov, g1, g2.keeps x.k0, fun p hp => let ⟨v, e, r⟩ := g3 p hp; ⟨v, e, rp r⟩⟩
  · rcases hc with hc | rfl
    · exact k.vout c hc hmi
    · rcases hmi with h | ⟨y, h1, h2⟩ | ⟨_, _, e⟩
      · exact hl.1 h
      · exact hl.2 y c h1 h2 rfl
      · cases e
theorem Inv.ownStore {x : Str} {a : Addr} {A : Around} {E : Value → Shared → Prop} {Q : Unit → Shared → Prop} (k : Inv B env (fun c => V c ∨ c = a) σ none s) (hE : EnvOk sc env) (hx : sc.names.lookup x = some .local) (hσ : σ.lookup x = none)
    (hp : s.heap.PlainList a #[]) (hva : ¬ V a) (hnew : B.h₀.get? a = none)
    (h : ∀ s', Inv B env V σ (some (x, a, [])) s' → Ext (MineA env none) s s' → Q () s') : wpAny (model B.prog B.w) A (storeName env x (.ref a)) Q E s := by
  obtain ⟨m, hn, hm, _⟩ := k.loc
  have hk : env.scope.kind = .function := by rw [hE.scope]; exact hE.kind
  have hxl : env.kindOf x = some .local := by rw [hE.kindOf]; exact hx
  refine wpAny_storeName_local hxl hn (fun h' hn' hs => ?_) (by rw [hk]; rfl)
  have mine : MineA env none env.locals := .inl rfl
  have isN : (∃ m, s.heap.Ns env.locals m) ∨ (∃ ov, s.heap.IsCell env.locals ov) := .inl ⟨m, hn⟩
  have av : ∀ c, Av V (some (x, a, [])) c → Av (fun c => V c ∨ c = a) none c := fun c hc => hc.elim (fun h => .inl (.inl h)) fun ⟨_, _, e⟩ => by cases e; exact .inl (.inr rfl)
  have rp : ∀ {p : PV} {v : Value}, Rep s.heap (Av (fun c => V c ∨ c = a) none) p v → Rep h' (Av V (some (x, a, []))) p v := fun r => (rep_mine hs isN r).mono (fun _ _ _ e => e) fun c hc => .inl (av c hc)
  have okk := k.okSame mine (Nat.le_succ s.toks) hs (by obtain ⟨o, _, _, ho', _⟩ := hn'; rw [ho']; rfl)
  have hne := ns_ne_list hn hp
  have hp' : Heap.PlainList h' a #[] := let ⟨nn, e⟩ := hp; ⟨nn, hs.extBut a _ (Ne.symm hne) e⟩
  refine h _ ⟨⟨okk.good, okk.keep, okk.bare, fun c hc => okk.alive c (av c hc), okk.toks⟩, ⟨_, hn', fun y q hy hyl => ?_, fun y c l e => ?_⟩, fun y hy => ?_, k.kinds, k.inj, fun c hc => ?_, fun c hc hmi => ?_⟩ (.of_heap (fun c o hc e => hs.extBut c o (fun e' => hc (e' ▸ mine)) e) (Nat.le_succ _))
  · obtain ⟨v, e, r⟩ := hm y q hy hyl
    have : y ≠ x := fun e' => by rw [e', hσ] at hy; cases hy
    exact ⟨v, by simp [this, e], rp r⟩
  · cases e
    exact ⟨hxl, by simp, [], by simpa using hp', .nil⟩
  · obtain ⟨c, ov, g1, g2, g3⟩ := k.cel y hy
    exact ⟨c, ov, g1, g2.sameBut hs (Ne.symm (ns_ne_cell hn g2)), fun p hp => let ⟨v, e, r⟩ := g3 p hp; ⟨v, e, rp r⟩⟩
  · rcases hc with h | h | ⟨_, _, e⟩
    · exact k.new c (.inl h)
    · exact k.new c (.inr (.inl h))
    · cases e; exact hnew
  · rcases hmi with h | h | ⟨_, _, e⟩
    · exact k.vout c (.inl hc) (.inl h)
    · exact k.vout c (.inl hc) (.inr (.inl h))
    · cases e; exact hva hc
end
end Mine
end

section
set_option maxRecDepth 10000
set_option linter.unusedVariables false
namespace Mine
open PySem

inductive Fl where
  | next | brk | cont | ret (p : PV)
def FlRep (V : Addr → Prop) (s : Shared) : Flow → Fl → Prop
  | .next, .next => True
  | .brk, .brk => True
  | .cont, .cont => True
  | .ret v, .ret p => Rep s.heap V p v
  | _, _ => False
def Grows (ow ow' : Own) (s : Shared) : Prop := ∀ x a l, ow' = some (x, a, l) → (∃ x' l', ow = some (x', a, l')) ∨ s.heap.get? a = none
def SPost (B : Base) (env : Env) (V : Addr → Prop) (ow : Own) (s : Shared) (post : Fl → Sto → Own → Prop) (f : Flow) (s' : Shared) : Prop :=
  ∃ φ σ' ow', post φ σ' ow' ∧ FlRep V s' f φ ∧ Inv B env V σ' ow' s' ∧ Ext (MineA env ow) s s' ∧ Grows ow ow' s

def StS (B : Base) (n : Nat) (b : Bool) (sc : Scope) (V : Addr → Prop) (σ : Sto) (ow : Own) (st : Stmt) (post : Fl → Sto → Own → Prop) : Prop :=
  ∀ A env s E, Room n b A → EnvOk sc env → Inv B env V σ ow s → wpAny (model B.prog B.w) A (exec st env) (SPost B env V ow s post) E s
def StL (B : Base) (n : Nat) (b : Bool) (sc : Scope) (V : Addr → Prop) (σ : Sto) (ow : Own) (sts : List Stmt) (post : Fl → Sto → Own → Prop) : Prop :=
  ∀ A env s E, Room n b A → EnvOk sc env → Inv B env V σ ow s → wpAny (model B.prog B.w) A (execs sts env) (SPost B env V ow s post) E s

theorem mine_grows {env : Env} {ow ow' : Own} {s : Shared} (g : Grows ow ow' s) : ∀ a, MineA env ow' a → MineA env ow a ∨ s.heap.get? a = none := fun a h => by
  rcases h with h | h | ⟨x, l, e⟩
  · exact .inl (.inl h)
  · exact .inl (.inr (.inl h))
  · rcases g x a l e with h | h
    · exact .inl (.inr (.inr h))
    · exact .inr h
section
variable {B : Base} {n : Nat} {b : Bool} {sc : Scope} {V : Addr → Prop} {σ : Sto} {ow : Own} {post : Fl → Sto → Own → Prop}

theorem Grows.refl (ow : Own) (s : Shared) : Grows ow ow s := fun x a l e => .inl ⟨x, l, e⟩
theorem Grows.trans {ow ow₁ ow₂ : Own} {env : Env} {s s₁ : Shared} (k : Inv B env V σ ow s) (x : Ext (MineA env ow) s s₁) (g₁ : Grows ow ow₁ s) (g₂ : Grows ow₁ ow₂ s₁) (kk : Inv B env V σ ow₁ s₁) : Grows ow ow₂ s := fun y a l e => by
  rcases g₂ y a l e with ⟨x', l', e'⟩ | h
  · exact g₁ x' a l' e'
  · cases e' : s.heap.get? a with
    | none => exact .inr rfl
    | some o =>
      by_cases hw : MineA env ow a
      · rcases hw with rfl | ⟨z, h1, h2⟩ | hw
        · obtain ⟨m, o, es, ep, ho, _⟩ := kk.alive_loc
          rw [ho] at h; cases h
        · obtain ⟨c, ov, g1, ⟨o, ho, _⟩, _⟩ := kk.cel z h1
          rw [h2] at g1; cases g1; rw [ho] at h; cases h
        · exact .inl hw
      · rw [x.keep a o hw e'] at h; cases h

/-- the store is beside the point for what Grows asks -/
theorem Grows.trans' {ow ow₁ ow₂ : Own} {σ₁ : Sto} {env : Env} {s s₁ : Shared} (x : Ext (MineA env ow) s s₁) (g₁ : Grows ow ow₁ s) (g₂ : Grows ow₁ ow₂ s₁) (kk : Inv B env V σ₁ ow₁ s₁) : Grows ow ow₂ s := fun y a l e => by
  rcases g₂ y a l e with ⟨x', l', e'⟩ | h
  · exact g₁ x' a l' e'
  · cases e' : s.heap.get? a with
    | none => exact .inr rfl
    | some o =>
      by_cases hw : MineA env ow a
      · rcases hw with rfl | ⟨z, h1, h2⟩ | hw
        · obtain ⟨m, o, es, ep, ho, _⟩ := kk.alive_loc
          rw [ho] at h; cases h
        · obtain ⟨c, ov, g1, ⟨o, ho, _⟩, _⟩ := kk.cel z h1
          rw [h2] at g1; cases g1; rw [ho] at h; cases h
        · exact .inl hw
      · rw [x.keep a o hw e'] at h; cases h

theorem SPost.step {env : Env} {ow₁ : Own} {σ₁ : Sto} {s s₁ s' : Shared} {f : Flow} (x : Ext (MineA env ow) s s₁) (g : Grows ow ow₁ s) (k : Inv B env V σ₁ ow₁ s₁) (h : SPost B env V ow₁ s₁ post f s') : SPost B env V ow s post f s' := by
  obtain ⟨φ, σ', ow', hp, hf, hi, x', g'⟩ := h
  exact ⟨φ, σ', ow', hp, hf, hi, x.trans x' (mine_grows g), g.trans' x g' k⟩

theorem stl_nil (h : post .next σ ow) : StL B n b sc V σ ow [] post := fun A env s E _ _ hI =>
  wpAny_execs_nil ⟨.next, σ, ow, h, trivial, hI, .refl _, .refl _ _⟩
theorem stl_cons {st : Stmt} {rest : List Stmt} (h : StS B n b sc V σ ow st fun φ σ' ow' => match φ with | .next => StL B n b sc V σ' ow' rest post | φ => post φ σ' ow') : StL B n b sc V σ ow (st :: rest) post := fun A env s E hR hE hI => by
  refine wpAny_execs_cons (wpAny_mono' (h A env s E hR hE hI) ?_)
  rintro f s₁ ⟨φ, σ', ow', hp, hf, hi, x, g⟩
  cases f with
  | next =>
    cases φ with
    | next => exact wpAny_mono' (hp A env s₁ E hR hE hi) fun _ _ h => h.step x g hi
    | _ => cases hf
  | brk => cases φ with | brk => exact ⟨.brk, σ', ow', hp, hf, hi, x, g⟩ | _ => cases hf
  | cont => cases φ with | cont => exact ⟨.cont, σ', ow', hp, hf, hi, x, g⟩ | _ => cases hf
  | ret v => cases φ with | ret p => exact ⟨.ret p, σ', ow', hp, hf, hi, x, g⟩ | _ => cases hf
theorem stl_freeze {x : Str} {a : Addr} {l : List PV} {sts : List Stmt} (h : StL B n b sc V ((x, .list l) :: σ) none sts post) : StL B n b sc V σ (some (x, a, l)) sts post := fun A env s E hR hE hI =>
  wpAny_mono' (h A env s E hR hE hI.freeze) fun _ _ h => h.step (.refl _) (fun _ _ _ e => by cases e) hI.freeze
/-! plain statements -/
theorem st_assign {x : Str} {px pos : Pos} {e : Expr} (hx : Puts sc ow x) (h : EvE B n b sc σ e fun p => post .next ((x, p) :: σ) ow)
    (hs : ∀ env, swapsWith e (some (.Name x px)) pos.line env = pure false := by intro _; rfl) : StS B n b sc V σ ow (.Assign [.Name x px] e pos) post := fun A env s E hR hE hI => by
  refine wpAny_Assign_Name (wpAny_mono' (h A env _ s E hR hE (hI.einv hE)) ?_) (hs env)
  rintro v s₁ ⟨p, hp, rp, x₁⟩
  have k₁ := hI.ext x₁
  exact k₁.store hE hx rp fun s₂ k₂ x₂ => ⟨.next, _, ow, hp, trivial, k₂, (Ext.weaken x₁).trans0 x₂, .refl _ _⟩
theorem st_aug {x : Str} {px pos : Pos} {op : Operator} {e : Expr} {q : PV} (hx : Puts sc ow x) (hl : σ.lookup x = some q) (h : EvE B n b sc σ e fun p => Op2 B n b (inplaceOp op) q p fun r => post .next ((x, r) :: σ) ow) :
    StS B n b sc V σ ow (.AugAssign (.Name x px) op e pos) post := fun A env s E hR hE hI => by
  obtain ⟨u, ru, rd⟩ := (hI.einv hE).rd x q hl
  refine wpAny_AugAssign_Name (rd s (.refl _) _ _ _ _ (wpAny_mono' (h A env _ s E hR hE (hI.einv hE)) ?_))
  rintro v s₁ ⟨p, hp, rp, x₁⟩
  refine wpAny_mono' (hp A _ s₁ E u v hR (hI.ok.ext x₁) (ru.keep x₁.k0) rp) ?_
  rintro w s₂ ⟨r, hr, rr, x₂⟩
  have k₂ := (hI.ext x₁).ext x₂
  exact k₂.store hE hx rr fun s₃ k₃ x₃ => ⟨.next, _, ow, hr, trivial, k₃, ((Ext.weaken x₁).trans0 (Ext.weaken x₂)).trans0 x₃, .refl _ _⟩
theorem st_return {e : Expr} {pos : Pos} (h : EvE B n b sc σ e fun p => post (.ret p) σ ow) : StS B n b sc V σ ow (.Return (some e) pos) post := fun A env s E hR hE hI => by
  refine wpAny_Return_some (wpAny_mono' (h A env _ s E hR hE (hI.einv hE)) ?_)
  rintro v s₁ ⟨p, hp, rp, x₁⟩
  exact ⟨.ret p, σ, ow, hp, rp.mono (fun _ _ _ e => e) (fun c hc => .inl (.inl hc)), hI.ext x₁, .weaken x₁, .refl _ _⟩
theorem st_break {pos : Pos} (h : post .brk σ ow) : StS B n b sc V σ ow (.Break pos) post := fun A env s E hR hE hI =>
  wpAny_Break ⟨.brk, σ, ow, h, trivial, hI, .refl _, .refl _ _⟩
theorem st_if {t : Expr} {th el : List Stmt} {pos : Pos} (h : EvT B n b sc σ t fun c => if c = true then StL B n b sc V σ ow th post else StL B n b sc V σ ow el post) : StS B n b sc V σ ow (.If t th el pos) post := fun A env s E hR hE hI => by
  refine wpAny_If (wpAny_mono' (h A env _ s E hR hE (hI.einv hE)) ?_)
  rintro c s₁ ⟨hc, x₁⟩
  have k₁ := hI.ext x₁
  cases c with
  | true => rw [if_pos rfl] at hc ⊢; exact wpAny_mono' (hc A env s₁ E hR hE k₁) fun _ _ h => h.step (.weaken x₁) (.refl _ _) k₁
  | false => rw [if_neg Bool.false_ne_true] at hc ⊢; exact wpAny_mono' (hc A env s₁ E hR hE k₁) fun _ _ h => h.step (.weaken x₁) (.refl _ _) k₁

/-! an owned list: made, grown -/
theorem newlist_own {env : Env} {s : Shared} (hE : EnvOk sc env) (hI : Inv B env V σ none s) :
    Inv B env (fun c => V c ∨ c = s.heap.objs.size) σ none { s with heap := s.heap.push { cls := .type "list", data := .seq #[] } } ∧ B.h₀.get? s.heap.objs.size = none ∧ ¬ V s.heap.objs.size := by
  have hl := hI.alive_loc
  have hV : ¬ V s.heap.objs.size := fun hv => by have := hI.ok.alive _ (.inl hv); rw [get?_size] at this; cases this
  refine ⟨hI.avoid .push (get?_size _) (by rw [Heap.get?_push_size _ rfl]; rfl) ⟨?_, fun y c h1 h2 e => ?_⟩, ?_, hV⟩
  · obtain ⟨m, hn⟩ := hl; exact Nat.ne_of_gt hn.lt
  · obtain ⟨c', ov, g1, g2, _⟩ := hI.cel y h1
    rw [h2] at g1; cases g1
    exact Nat.lt_irrefl _ (e ▸ g2.lt)
  · cases e : B.h₀.get? s.heap.objs.size with
    | none => rfl
    | some o => exact absurd (Heap.lt_size (hI.ok.keep _ _ e)) (Nat.lt_irrefl _)
theorem st_own {x : Str} {px pos lpos : Pos} (hx : sc.names.lookup x = some .local) (hσ : σ.lookup x = none) (h : ∀ a, post .next σ (some (x, a, []))) : StS B n b sc V σ none (.Assign [.Name x px] (.List [] lpos) pos) post := fun A env s E hR hE hI => by
  refine wpAny_Assign_Name (PyProof.Rows.List_ (Calls.spliced_nil (wpAny_newObj_type ?_))) rfl
  obtain ⟨k, hnew, hva⟩ := newlist_own hE hI
  refine k.ownStore hE hx hσ ⟨_, Heap.get?_push_size _ rfl⟩ hva hnew fun s₂ k₂ x₂ => ⟨.next, σ, _, h _, trivial, k₂, (Ext.weaken .push).trans0 x₂, fun y a l e => ?_⟩
  cases e
  exact .inr (get?_size _)
theorem Inv.grown {env : Env} {s : Shared} {x : Str} {a : Addr} {l l' : List PV} {vs : List Value} {h' : Heap} (k : Inv B env V σ (some (x, a, l)) s) (hs : Heap.SameBut a s.heap h') (hp : h'.PlainList a (List.toArray vs)) (r : Reps s.heap (Av V (some (x, a, l))) l' vs) (tk : Nat) (ht : s.toks ≤ tk) :
    Inv B env V σ (some (x, a, l')) { s with heap := h', toks := tk } := by
  have mine : MineA env (some (x, a, l)) a := .inr (.inr ⟨x, l, rfl⟩)
  obtain ⟨m, hn, hm, ho⟩ := k.loc
  obtain ⟨h1, h2, vs₀, h3, h4⟩ := ho x a l rfl
  have av : ∀ c, Av V (some (x, a, l')) c → Av V (some (x, a, l)) c := fun c hc => hc.imp id fun ⟨_, _, e⟩ => by cases e; exact ⟨x, l, rfl⟩
  have aA : Av V (some (x, a, l)) a := .inr ⟨x, l, rfl⟩
  have rp : ∀ {p : PV} {v : Value}, Rep s.heap (Av V (some (x, a, l))) p v → Rep h' (Av V (some (x, a, l'))) p v := fun r => r.mono (fun c o hc e => hs.extBut c o (fun e' => hc (e' ▸ aA)) e) fun c hc => .inl (av c hc)
  have okk := k.okSame mine (tk := tk) ht hs (by obtain ⟨nn, e⟩ := hp; rw [e]; rfl)
  have mi : ∀ c, MineA env (some (x, a, l')) c → MineA env (some (x, a, l)) c := fun c hc => hc.imp id fun h => h.imp id fun ⟨_, _, e⟩ => by cases e; exact ⟨x, l, rfl⟩
  refine ⟨⟨okk.good, okk.keep, okk.bare, fun c hc => okk.alive c (av c hc), okk.toks⟩, ⟨m, hn.sameBut hs (ns_ne_list hn h3), fun y q hy hyl => let ⟨v, e, r'⟩ := hm y q hy hyl; ⟨v, e, rp r'⟩, fun y c l₂ e => ?_⟩, fun y hy => ?_, k.kinds, k.inj, fun c hc => k.new c (mi c hc), fun c hc hmi => k.vout c hc (mi c hmi)⟩
  · cases e
    exact ⟨h1, h2, vs, hp, r.mono (fun c o hc e => hs.extBut c o (fun e' => hc (e' ▸ aA)) e) fun c hc => .inl (av c hc)⟩
  · obtain ⟨c, ov, g1, g2, g3⟩ := k.cel y hy
    exact ⟨c, ov, g1, g2.sameBut hs (cell_ne_list g2 h3), fun p hp => let ⟨v, e, r'⟩ := g3 p hp; ⟨v, e, rp r'⟩⟩
theorem st_append {x : Str} {a : Addr} {l : List PV} {px apos pos spos : Pos} {e : Expr} (hx : sc.names.lookup x = some .local) (hz : l.length ≤ 1000000)
    (h : EvE B n b sc σ e fun p => post .next σ (some (x, a, l ++ [p]))) (hs : ∀ env, starEach [e] env = [(false, eval e env)] := by intro _; rfl) (hline : (apos.endLine == pos.line) = true := by rfl) (hd : (x == ("__debug__" : Str)) = false := by rfl) :
    StS B n b sc V σ (some (x, a, l)) (.Expr (.Call (.Attribute (.Name x px) (Str.ofString "append") apos) [e] [] pos) spos) post := fun A env s E hR hE hI => by
  obtain ⟨m, hn, hm, ho⟩ := hI.loc
  obtain ⟨h1, h2, vs, h3, h4⟩ := ho x a l rfl
  have hk : env.scope.kind = .function := by rw [hE.scope]; exact hE.kind
  refine wpAny_Expr (Call_method1 rfl (hs env) hline (wpAny_Name (wpAny_loadName_local hk h1 hn h2 ?_) hd)) (by unfold interactive; rw [hk]; rfl) rfl
  obtain ⟨nn, h3'⟩ := id h3
  have hl : s.heap.IsList a vs.toArray := ⟨_, h3', rfl, nn, rfl⟩
  refine ⟨"list", "list.append", F.plainAttrs_list, F.slot_list_append, F.type_list_append, hl.typeIs, (fun c e => by cases e; exact ⟨_, h3', rfl⟩), Calls.callWith_builtin rfl (Calls.evalArgs_plain (Calls.spliced_cons (wpAny_mono' (h A env _ s E hR hE (hI.einv hE)) ?_)))⟩
  rintro v s₁ ⟨p, hp, rp, x₁⟩
  refine Calls.spliced_nil ?_
  have k₁ := hI.ext x₁
  have h3₁ : s₁.heap.PlainList a vs.toArray := ⟨nn, x₁.k0 _ _ h3'⟩
  have hlen : vs.length = l.length := h4.length
  refine wpAny_list_append_plain h3₁ (fun h' hp' hs' => ?_) (hsz := by rw [List.size_toArray, hlen]; exact Nat.le_trans hz (by decide))
  refine ⟨.next, σ, _, hp, trivial, k₁.grown hs' (vs := vs ++ [v]) (by simpa using hp') ((h4.keep x₁.k0).append (.cons rp .nil)) s₁.toks (Nat.le_refl _), (Ext.weaken x₁).trans0 (.of_heap (tk := s₁.toks) (fun c o hc e => hs'.extBut c o (fun e' => hc (by rw [e']; exact .inr (.inr ⟨x, l, rfl⟩))) e) (Nat.le_refl _)), fun y c l₂ e => ?_⟩
  cases e; exact .inl ⟨x, l, rfl⟩
end
end Mine
end

section
set_option maxRecDepth 10000
set_option linter.unusedVariables false
namespace Mine
open PySem

structure ExtG (W : Addr → Prop) (G : Nat → Prop) (s s' : Shared) : Prop where
  keep : ∀ b o, ¬ W b → s.heap.get? b = some o → s'.heap.get? b = some o
  gsize : s.gens.size ≤ s'.gens.size
  gens : ∀ g, ¬ G g → g < s.gens.size → s'.gens[g]? = s.gens[g]?
  bare : PyProof.Rows.AllBare s.gens → PyProof.Rows.AllBare s'.gens
  os : s'.os = s.os
  toks : s.toks ≤ s'.toks
theorem ExtG.refl {W : Addr → Prop} {G : Nat → Prop} (s : Shared) : ExtG W G s s := ⟨fun _ _ _ e => e, Nat.le_refl _, fun _ _ _ => rfl, id, rfl, Nat.le_refl _⟩
theorem Ext.toG {W W' : Addr → Prop} {G : Nat → Prop} {s s' : Shared} (x : Ext W s s') (h : ∀ a, W a → W' a) : ExtG W' G s s' := ⟨fun b o hb e => x.keep b o (fun hw => hb (h b hw)) e, x.gsize, fun g _ hg => x.gens g hg, x.bare, x.os, x.toks⟩
theorem ExtG.trans {W : Addr → Prop} {G : Nat → Prop} {s s' s'' : Shared} (x : ExtG W G s s') (y : ExtG W G s' s'') : ExtG W G s s'' :=
  ⟨fun b o hb e => y.keep b o hb (x.keep b o hb e), Nat.le_trans x.gsize y.gsize, fun g hg h => (y.gens g hg (Nat.lt_of_lt_of_le h x.gsize)).trans (x.gens g hg h), fun h => y.bare (x.bare h), y.os.trans x.os, Nat.le_trans x.toks y.toks⟩
theorem ExtG.mono {W W' : Addr → Prop} {G : Nat → Prop} {s s' : Shared} (x : ExtG W G s s') (h : ∀ a, W a → W' a ∨ s.heap.get? a = none) : ExtG W' G s s' :=
  ⟨fun b o hb e => x.keep b o (fun hw => (h b hw).elim hb fun e' => by rw [e] at e'; cases e') e, x.gsize, x.gens, x.bare, x.os, x.toks⟩
theorem ExtG.out {W : Addr → Prop} {G : Nat → Prop} {s s₀ s' : Shared} (x₀ : Ext0 s s₀) (x : ExtG W G s₀ s') {W' : Addr → Prop} (hW : ∀ a, W a → W' a ∨ s.heap.get? a = none) (hG : ∀ g, G g → s.gens.size ≤ g) : Ext W' s s' where
  keep := fun b o hb e => x.keep b o (fun hw => (hW b hw).elim hb fun e' => by rw [e] at e'; cases e') (x₀.k0 b o e)
  gsize := Nat.le_trans x₀.gsize x.gsize
  gens := fun g hg => (x.gens g (fun h => Nat.lt_irrefl _ (Nat.lt_of_lt_of_le hg (hG g h))) (Nat.lt_of_lt_of_le hg x₀.gsize)).trans (x₀.gens g hg)
  bare := fun h => x.bare (x₀.bare h)
  os := x.os.trans x₀.os
  toks := Nat.le_trans x₀.toks x.toks

structure Light (A : Around) : Prop where
  hand : A.handled = none
  depth : A.depth ≤ 950
  units : A.units ≤ 9500
theorem Room.light {n : Nat} {A : Around} (r : Room n true A) : Light A := ⟨r.hand rfl, by have := r.depth; omega, by have := r.units; omega⟩

def NonSeq (h : Heap) (a : Addr) : Prop := ∀ o xs k, h.get? a = some o → o.data ≠ .seq xs k
mutual
theorem rep_extW {h h' : Heap} {U W : Addr → Prop} (hW : ∀ a, W a → U a ∨ NonSeq h a) (hk : ∀ b o, ¬ W b → h.get? b = some o → h'.get? b = some o) : ∀ {p : PV} {v : Value}, Rep h U p v → Rep h' U p v
  | .none, _, r => by simpa [Rep] using r
  | .bool _, _, r => by simpa [Rep] using r
  | .int _, _, r => by simpa [Rep] using r
  | .str _, _, r => by simpa [Rep] using r
  | .tup l, v, r => by
    obtain ⟨c, vs, rfl, hc, ⟨o, ho, h1, n, h2⟩, hr⟩ := rep_tup.mp r
    exact rep_tup.mpr ⟨c, vs, rfl, hc, ⟨o, hk c o (fun hw => (hW c hw).elim hc fun q => q o _ n ho h2) ho, h1, n, h2⟩, reps_extW hW hk hr⟩
  | .list l, v, r => by
    obtain ⟨c, vs, rfl, hc, ⟨o, ho, h1, n, h2⟩, hr⟩ := rep_list.mp r
    exact rep_list.mpr ⟨c, vs, rfl, hc, ⟨o, hk c o (fun hw => (hW c hw).elim hc fun q => q o _ n ho h2) ho, h1, n, h2⟩, reps_extW hW hk hr⟩
theorem reps_extW {h h' : Heap} {U W : Addr → Prop} (hW : ∀ a, W a → U a ∨ NonSeq h a) (hk : ∀ b o, ¬ W b → h.get? b = some o → h'.get? b = some o) : ∀ {l : List PV} {vs : List Value}, Reps h U l vs → Reps h' U l vs
  | [], _, r => by simpa [Reps] using r
  | p :: l, vs, r => by
    simp only [Reps] at r ⊢
    obtain ⟨v, r', rfl, h1, h2⟩ := r
    exact ⟨v, r', rfl, rep_extW hW hk h1, reps_extW hW hk h2⟩
end
theorem ns_nonseq {h : Heap} {a : Addr} {m : Str → Option Value} (hn : h.Ns a m) : NonSeq h a := fun o xs k ho hd => by
  obtain ⟨o', es, ep, ho', hd', _⟩ := hn
  rw [ho] at ho'; cases ho'; rw [hd] at hd'; cases hd'
theorem cell_nonseq {h : Heap} {a : Addr} {ov : Option Value} (hn : h.IsCell a ov) : NonSeq h a := fun o xs k ho hd => by
  obtain ⟨o', ho', hd'⟩ := hn
  rw [ho] at ho'; cases ho'; rw [hd] at hd'; cases hd'
theorem fields_nonseq {h : Heap} {a : Addr} {o : Obj} {vs : Array Value} (ho : h.get? a = some o) (hd : o.data = .fields vs) : NonSeq h a := fun o' xs k ho' hd' => by
  rw [ho] at ho'; cases ho'; rw [hd] at hd'; cases hd'
theorem Inv.mine_ns {B : Base} {env : Env} {V : Addr → Prop} {σ : Sto} {ow : Own} {s : Shared} (k : Inv B env V σ ow s) : ∀ a, MineA env ow a → Av V ow a ∨ NonSeq s.heap a := fun a h => by
  rcases h with rfl | ⟨x, h1, h2⟩ | h
  · obtain ⟨m, hn⟩ := k.alive_loc; exact .inr (ns_nonseq hn)
  · obtain ⟨c, ov, g1, g2, _⟩ := k.cel x h1
    rw [h2] at g1; cases g1; exact .inr (cell_nonseq g2)
  · exact .inl (.inr h)
theorem Inv.mine_some {B : Base} {env : Env} {V : Addr → Prop} {σ : Sto} {ow : Own} {s : Shared} (k : Inv B env V σ ow s) {a : Addr} (h : MineA env ow a) : (s.heap.get? a).isSome = true := by
  rcases h with rfl | ⟨x, h1, h2⟩ | h
  · obtain ⟨m, o, _, _, ho, _⟩ := k.alive_loc; rw [ho]; rfl
  · obtain ⟨c, ov, g1, ⟨o, ho, _⟩, _⟩ := k.cel x h1
    rw [h2] at g1; cases g1; rw [ho]; rfl
  · exact k.ok.alive a (.inr h)

structure Itr (B : Base) (A : Around) (it : Value) (U : Addr → Prop) (F : Addr → Prop) (G : Nat → Prop) (items : List PV) (I : Nat → Shared → Prop) : Prop where
  stab : ∀ i s s' W, I i s → Ext W s s' → (∀ a, W a → ¬ F a ∧ (U a ∨ NonSeq s.heap a)) → I i s'
  nonseq : ∀ i s a, I i s → F a → NonSeq s.heap a
  item : ∀ i s x (Q : Option Value → Shared → Prop) E, items[i]? = some x → Ok B U s → I i s → (∀ v s', Rep s'.heap U x v → I (i + 1) s' → ExtG F G s s' → Q (some v) s') → wpAny (model B.prog B.w) A (pyNext it) Q E s
  done : ∀ s (Q : Option Value → Shared → Prop) E, Ok B U s → I items.length s → (∀ s', ExtG F G s s' → Q none s') → wpAny (model B.prog B.w) A (pyNext it) Q E s
  go : ∀ i tgt s v x (Q : Unit → Shared → Prop) E, x ∈ items → Rep s.heap U x v → I i s → Q () s → wpAny (model B.prog B.w) A (letOwnedTupleGo tgt it v) Q E s
  self : ∀ i s (Q : Value → Shared → Prop) E, I i s → Q it s → wpAny (model B.prog B.w) A (pyIter it) Q E s

def ItOk (B : Base) (U : Addr → Prop) (s : Shared) (items : List PV) (it : Value) (s' : Shared) : Prop :=
  Ext0 s s' ∧ ∃ F G, (∀ a, F a → s.heap.get? a = none ∧ (s'.heap.get? a).isSome = true) ∧ (∀ g, G g → s.gens.size ≤ g) ∧
    ∀ U' : Addr → Prop, (∀ a, U' a → U a ∨ s'.heap.get? a = none) → ∀ A, Light A → ∃ I, Itr B A it U' F G items I ∧ I 0 s'
theorem ItOk.step {B : Base} {U : Addr → Prop} {s s₁ s' : Shared} {items : List PV} {it : Value} (x : Ext0 s s₁) (h : ItOk B U s₁ items it s') : ItOk B U s items it s' := by
  obtain ⟨x', F, G, h1, h2, h3⟩ := h
  refine ⟨x.trans0 x', F, G, fun a ha => ⟨?_, (h1 a ha).2⟩, fun g hg => Nat.le_trans x.gsize (h2 g hg), h3⟩
  cases e : s.heap.get? a with
  | none => rfl
  | some o => have := (h1 a ha).1; rw [x.k0 a o e] at this; cases this

/-- what a value gives when it is walked over -/
def itemsOf : PV → Option (List PV)
  | .list l => some l
  | .tup l => some l
  | .str x => some (x.map fun c => .str [c])
  | _ => none

section
variable {B : Base} {n : Nat} {b : Bool} {sc : Scope} {σ : Sto}

theorem go_noref {M : Model} {A : Around} {E : Value → Shared → Prop} {s : Shared} {it v : Value} {tgt : Expr} {Q : Unit → Shared → Prop} (hv : ∀ a, v ≠ .ref a) (h : Q () s) : wpAny M A (letOwnedTupleGo tgt it v) Q E s := by
  unfold letOwnedTupleGo
  cases tgt <;> first
    | exact wpAny_pure h
    | (cases v <;> first | exact absurd rfl (hv _) | (cases it <;> exact wpAny_pure h))
theorem go_class {M : Model} {A : Around} {E : Value → Shared → Prop} {s : Shared} {I : Addr} {v : Value} {tgt : Expr} {o : Obj} {T : String} {vs : Array Value} {Q : Unit → Shared → Prop} (ho : s.heap.get? I = some o) (hc : o.cls = .type T) (hd : o.data = .fields vs)
    (hT : (["enumerate", "zip", "dict_itemiterator", "dict_reverseitemiterator", "odict_iterator", "itertools.zip_longest", "itertools.pairwise"] : List String).contains T = false) (h : Q () s) : wpAny M A (letOwnedTupleGo tgt (.ref I) v) Q E s := by
  have key : wpAny M A (do
      let (.ref r, .ref a) := (Value.ref I, v) | return
      let o ← load r
      match o.cls, o.data with
      | .type n, .fields vs =>
        if (["enumerate", "zip", "dict_itemiterator", "dict_reverseitemiterator", "odict_iterator", "itertools.zip_longest", "itertools.pairwise"] : List String).contains n && vs[0]? == some (rawInt a) then
          rule "for.unpacks-the-owned-tuple"
          updateField r 0 .none
      | _, _ => pure ()) Q E s := by
    cases v with
    | ref a =>
      refine wpAny_bind (wpAny_load ho ?_)
      obtain ⟨c, d, dt, sl⟩ := o
      simp only at hc hd; subst hc; subst hd
      show wpAny M A (if ((["enumerate", "zip", "dict_itemiterator", "dict_reverseitemiterator", "odict_iterator", "itertools.zip_longest", "itertools.pairwise"] : List String).contains T && vs[0]? == some (rawInt a)) = true then _ else _) Q E s
      rw [hT, Bool.false_and, if_neg Bool.false_ne_true]
      exact wpAny_pure h
    | _ => exact wpAny_pure h
  unfold letOwnedTupleGo
  cases tgt <;> first | exact wpAny_pure h | exact key

theorem itv_list {l : List PV} {A : Around} {U : Addr → Prop} {s : Shared} {v : Value} {E : Value → Shared → Prop} (r : Rep s.heap U (.list l) v) : wpAny (model B.prog B.w) A (pyIter v) (ItOk B U s l) E s := by
  obtain ⟨ax, vs, rfl, hax, hl, hr⟩ := rep_list.mp r
  refine wpAny_pyIter_list hl ⟨.push, fun a => a = s.heap.objs.size, fun _ => False, fun a e => ?_, fun _ h => h.elim, fun U' hU' A' hA' => ⟨fun i s' => s'.heap.IsListIter s.heap.objs.size ax i ∧ s'.heap.IsList ax vs.toArray ∧ Reps s'.heap U' l vs ∧ ¬ U' ax, ⟨?_, ?_, ?_, ?_, ?_, ?_⟩, ?_⟩⟩
  · subst e; exact ⟨get?_size _, by rw [Heap.get?_push_size _ rfl]; rfl⟩
  · rintro i s₁ s₂ W ⟨⟨o, h1, hc, hd⟩, ⟨o', g1, g2, n, g3⟩, h3, h4⟩ x hW
    refine ⟨⟨o, x.keep _ o (fun hw => (hW _ hw).1 rfl) h1, hc, hd⟩, ⟨o', x.keep _ o' (fun hw => (hW _ hw).2.elim h4 fun q => q _ _ _ g1 g3) g1, g2, n, g3⟩, reps_extW (fun a ha => (hW a ha).2) x.keep h3, h4⟩
  · rintro i s₁ a ⟨⟨o, h1, hc, hd⟩, _⟩ rfl; exact fields_nonseq h1 hd
  · rintro i s₁ x Q E hx ok ⟨h1, h2, h3, h4⟩ hQ
    obtain ⟨v, hv, rv⟩ := h3.get hx
    have hne : ax ≠ s.heap.objs.size := by obtain ⟨o, ho, _⟩ := hl; exact Nat.ne_of_lt (Heap.lt_size ho)
    refine wpAny_pyNext_list_item h1 h2 (x := v) (by simpa using hv) fun h' hi hs => ?_
    have kk : ∀ c o, ¬ (c = s.heap.objs.size) → s₁.heap.get? c = some o → h'.get? c = some o := fun c o hc e => hs.extBut c o hc e
    have ns : NonSeq s₁.heap s.heap.objs.size := let ⟨o, a1, a2, a3⟩ := h1; fields_nonseq a1 a3
    refine hQ v _ (rep_extW (fun a ha => .inr (ha ▸ ns)) kk rv) ⟨hi, h2.extBut hs.extBut hne, reps_extW (fun a ha => .inr (ha ▸ ns)) kk h3, h4⟩ ⟨kk, Nat.le_refl _, fun _ _ _ => rfl, id, rfl, Nat.le_refl _⟩
  · rintro s₁ Q E ok ⟨h1, h2, h3, h4⟩ hQ
    refine wpAny_pyNext_list_end hA'.hand h1 h2 (by simp [h3.length]) fun h' hs => hQ _ ⟨fun c o hc e => hs c o hc e, Nat.le_refl _, fun _ _ _ => rfl, id, rfl, Nat.le_refl _⟩
  · rintro i tgt s₁ v x Q E _ _ ⟨⟨o, h1, hc, hd⟩, _⟩ h
    exact go_class h1 hc hd (by decide) h
  · rintro i s₁ Q E ⟨h1, _⟩ h; exact wpAny_pyIter_listiter h1 h
  · refine ⟨⟨_, Heap.get?_push_size _ rfl, rfl, rfl⟩, ?_, hr.mono (fun c o _ e => Heap.get?_push_of_some _ e) fun c hc => (hU' c hc).imp id fun e => ?_, fun h => ?_⟩
    · obtain ⟨o, ho, q⟩ := hl; exact ⟨o, Heap.get?_push_of_some _ ho, q⟩
    · cases e' : s.heap.get? c with
      | none => rfl
      | some o => rw [Heap.get?_push_of_some _ e'] at e; cases e
    · rcases hU' ax h with h | h
      · exact hax h
      · obtain ⟨o, ho, _⟩ := hl; rw [Heap.get?_push_of_some _ ho] at h; cases h
theorem itv_tup {l : List PV} {A : Around} {U : Addr → Prop} {s : Shared} {v : Value} {E : Value → Shared → Prop} (r : Rep s.heap U (.tup l) v) : wpAny (model B.prog B.w) A (pyIter v) (ItOk B U s l) E s := by
  obtain ⟨ax, vs, rfl, hax, hl, hr⟩ := rep_tup.mp r
  refine wpAny_pyIter_tuple hl ⟨.push, fun a => a = s.heap.objs.size, fun _ => False, fun a e => ?_, fun _ h => h.elim, fun U' hU' A' hA' => ⟨fun i s' => s'.heap.IsTupleIter s.heap.objs.size ax i ∧ s'.heap.IsTuple ax vs.toArray ∧ Reps s'.heap U' l vs ∧ ¬ U' ax, ⟨?_, ?_, ?_, ?_, ?_, ?_⟩, ?_⟩⟩
  · subst e; exact ⟨get?_size _, by rw [Heap.get?_push_size _ rfl]; rfl⟩
  · rintro i s₁ s₂ W ⟨⟨o, h1, hc, hd⟩, ⟨o', g1, g2, n, g3⟩, h3, h4⟩ x hW
    refine ⟨⟨o, x.keep _ o (fun hw => (hW _ hw).1 rfl) h1, hc, hd⟩, ⟨o', x.keep _ o' (fun hw => (hW _ hw).2.elim h4 fun q => q _ _ _ g1 g3) g1, g2, n, g3⟩, reps_extW (fun a ha => (hW a ha).2) x.keep h3, h4⟩
  · rintro i s₁ a ⟨⟨o, h1, hc, hd⟩, _⟩ rfl; exact fields_nonseq h1 hd
  · rintro i s₁ x Q E hx ok ⟨h1, h2, h3, h4⟩ hQ
    obtain ⟨v, hv, rv⟩ := h3.get hx
    have hne : ax ≠ s.heap.objs.size := by obtain ⟨o, ho, _⟩ := hl; exact Nat.ne_of_lt (Heap.lt_size ho)
    refine wpAny_pyNext_tuple_item h1 h2 (x := v) (by simpa using hv) fun h' hi hs => ?_
    have kk : ∀ c o, ¬ (c = s.heap.objs.size) → s₁.heap.get? c = some o → h'.get? c = some o := fun c o hc e => hs.extBut c o hc e
    have ns : NonSeq s₁.heap s.heap.objs.size := let ⟨o, a1, a2, a3⟩ := h1; fields_nonseq a1 a3
    refine hQ v _ (rep_extW (fun a ha => .inr (ha ▸ ns)) kk rv) ⟨hi, h2.extBut hs.extBut hne, reps_extW (fun a ha => .inr (ha ▸ ns)) kk h3, h4⟩ ⟨kk, Nat.le_refl _, fun _ _ _ => rfl, id, rfl, Nat.le_refl _⟩
  · rintro s₁ Q E ok ⟨h1, h2, h3, h4⟩ hQ
    refine wpAny_pyNext_tuple_end hA'.hand h1 h2 (by simp [h3.length]) fun h' hs => hQ _ ⟨fun c o hc e => hs c o hc e, Nat.le_refl _, fun _ _ _ => rfl, id, rfl, Nat.le_refl _⟩
  · rintro i tgt s₁ v x Q E _ _ ⟨⟨o, h1, hc, hd⟩, _⟩ h
    exact go_class h1 hc hd (by decide) h
  · rintro i s₁ Q E ⟨h1, _⟩ h; exact wpAny_pyIter_tupleiter h1 h
  · refine ⟨⟨_, Heap.get?_push_size _ rfl, rfl, rfl⟩, ?_, hr.mono (fun c o _ e => Heap.get?_push_of_some _ e) fun c hc => (hU' c hc).imp id fun e => ?_, fun h => ?_⟩
    · obtain ⟨o, ho, q⟩ := hl; exact ⟨o, Heap.get?_push_of_some _ ho, q⟩
    · cases e' : s.heap.get? c with
      | none => rfl
      | some o => rw [Heap.get?_push_of_some _ e'] at e; cases e
    · rcases hU' ax h with h | h
      · exact hax h
      · obtain ⟨o, ho, _⟩ := hl; rw [Heap.get?_push_of_some _ ho] at h; cases h

/-- a walk that one object of fields alone carries, over scalars -/
theorem itr_walks {I₀ : Addr} {N : Nat} {Pv : Nat → Value → Prop} {St : Nat → Heap → Prop} {items : List PV} {U : Addr → Prop} {A : Around} (W : Walks B.prog B.w A I₀ [I₀] [I₀] N Pv St) (hN : N = items.length) (hns : ∀ i h, St i h → NonSeq h I₀)
    (hP : ∀ i v x, Pv i v → items[i]? = some x → (∀ h U, Rep h U x v) ∧ ∀ a, v ≠ .ref a) (hsc : ∀ x ∈ items, ∀ h U v, Rep h U x v → ∀ a, v ≠ .ref a) :
    Itr B A (.ref I₀) U (fun a => a = I₀) (fun _ => False) items (fun i s => St i s.heap) where
  stab := fun i s s' W' st x hW => W.frame i _ _ st fun c hc o e => x.keep c o (fun hw => (hW c hw).1 (by simpa using hc)) e
  nonseq := fun i s a st e => e ▸ hns i _ st
  item := fun i s x Q E hx ok st hQ => by
    have hi : i < N := hN ▸ (List.getElem?_eq_some_iff.mp hx).1
    refine wpAny_with_toks (Nat.le_refl s.toks) (W.item i s _ _ hi st fun v h' tk hv st' hk htk => ?_)
    exact hQ v _ ((hP i v x hv hx).1 _ _) st' ⟨fun c o hc e => hk c o (by simpa using hc) e, Nat.le_refl _, fun _ _ _ => rfl, id, rfl, htk⟩
  done := fun s Q E ok st hQ => by
    refine wpAny_with_toks (Nat.le_refl s.toks) (W.done s _ _ (hN ▸ st) fun h' tk hk htk => hQ _ ⟨fun c o hc e => hk c o (by simpa using hc) e, Nat.le_refl _, fun _ _ _ => rfl, id, rfl, htk⟩)
  go := fun i tgt s v x Q E hx r st h => go_noref (hsc x hx _ _ _ r) h
  self := fun i s Q E st h => W.self i s Q E st h

theorem itv_str {x : List Nat} {A : Around} {U : Addr → Prop} {s : Shared} {v : Value} {E : Value → Shared → Prop} (r : Rep s.heap U (.str x) v) : wpAny (model B.prog B.w) A (pyIter v) (ItOk B U s (x.map fun c => .str [c])) E s := by
  obtain ⟨t, rfl⟩ := rep_str.mp r
  have key : ∀ (ty : String) (o : Obj), (∀ A' : Around, A'.handled = none → Walks B.prog B.w A' s.heap.objs.size [s.heap.objs.size] [s.heap.objs.size] (Str.mk x.toArray).cps.size (SignAt ⟨x.toArray⟩) (fun i h => h.IsStrIter s.heap.objs.size ty ⟨x.toArray⟩ t i)) →
      (s.heap.push o).IsStrIter s.heap.objs.size ty ⟨x.toArray⟩ t 0 → ItOk B U s (x.map fun c => .str [c]) (.ref s.heap.objs.size) { s with heap := s.heap.push o } := fun ty o W st => by
    refine ⟨.push, fun a => a = s.heap.objs.size, fun _ => False, fun a e => ?_, fun _ h => h.elim, fun U' hU' A' hA' => ⟨_, itr_walks (W A' hA'.hand) (by simp) (fun i h ⟨o, h1, h2, h3⟩ => fields_nonseq h1 h3) ?_ ?_, st⟩⟩
    · subst e
      obtain ⟨o', h1, _⟩ := st
      exact ⟨get?_size _, by rw [h1]; rfl⟩
    · rintro i v y ⟨c, u, hc, rfl⟩ hy
      refine ⟨fun h U => ?_, fun a e => nomatch e⟩
      have hc' : x[i]? = some c := by simpa using hc
      rw [List.getElem?_map, hc'] at hy
      cases hy
      exact rep_str.mpr ⟨u, rfl⟩
    · intro y hy h U v rv a e
      obtain ⟨c, _, rfl⟩ := List.mem_map.mp hy
      obtain ⟨u, rfl⟩ := rep_str.mp rv
      cases e
  cases ha : (Str.mk x.toArray).cps.all (· < 128)
  · exact wpAny_pyIter_wide ha (key _ _ (fun A' hA => Walks.strWide hA _ _ t) ⟨_, Heap.get?_push_size _ rfl, rfl, rfl⟩)
  · exact wpAny_pyIter_ascii ha (key _ _ (fun A' hA => Walks.strAscii hA _ _ t) ⟨_, Heap.get?_push_size _ rfl, rfl, rfl⟩)
theorem itv {p : PV} {items : List PV} (hi : itemsOf p = some items) {A : Around} {U : Addr → Prop} {s : Shared} {v : Value} {E : Value → Shared → Prop} (r : Rep s.heap U p v) : wpAny (model B.prog B.w) A (pyIter v) (ItOk B U s items) E s := by
  cases p with
  | list l => simp only [itemsOf, Option.some.injEq] at hi; subst hi; exact itv_list r
  | tup l => simp only [itemsOf, Option.some.injEq] at hi; subst hi; exact itv_tup r
  | str x => simp only [itemsOf, Option.some.injEq] at hi; subst hi; exact itv_str r
  | _ => simp [itemsOf] at hi

/-- the walk over an expression -/
def ItE (B : Base) (n : Nat) (sc : Scope) (σ : Sto) (e : Expr) (K : List PV → Prop) : Prop :=
  ∀ A env U s E, Room n true A → EnvOk sc env → EInv B env σ U s → wpAny (model B.prog B.w) A (eval e env) (fun x s₁ => Ext0 s s₁ ∧ wpAny (model B.prog B.w) A (pyIter x) (fun it s₂ => ∃ items, K items ∧ ItOk B U s items it s₂) E s₁) E s
theorem it_val {e : Expr} {K : List PV → Prop} (h : EvE B n true sc σ e fun p => ∃ items, itemsOf p = some items ∧ K items) : ItE B n sc σ e K := fun A env U s E hR hE hI => by
  refine wpAny_mono' (h A env U s E hR hE hI) ?_
  rintro v s₁ ⟨p, ⟨items, hi, hk⟩, rp, x₁⟩
  exact ⟨x₁, wpAny_mono' (itv hi rp) fun it s₂ h => ⟨items, hk, h.step x₁⟩⟩
end
end Mine
end

section
set_option maxRecDepth 10000
set_option linter.unusedVariables false
namespace Mine
open PySem

def rangeL (a : Int) (k : Nat) : List PV := (List.range k).map fun (i : Nat) => .int (a + (i : Int))
theorem range_small {a b : Int} (ha : -(2 ^ 40) ≤ a ∧ a ≤ 2 ^ 40) (hb : -(2 ^ 40) ≤ b ∧ b ≤ 2 ^ 40) : Builtin.Range.small a b 1 = true := by
  unfold Builtin.Range.small
  have hs : Builtin.Range.rangeSize a b 1 = if a < b then b - a else 0 := by
    unfold Builtin.Range.rangeSize
    simp only [show (1 : Int) > 0 by decide, if_true, Int.ediv_one]
    split <;> omega
  rw [hs]
  simp only [Builtin.Range.rangeFitsLong, show (1 : Int) > 0 by decide, if_true]
  split <;> simp <;> omega

section
variable {B : Base} {n : Nat} {b : Bool} {sc : Scope} {σ : Sto} {V : Addr → Prop} {ow : Own}

theorem itv_range {a c : Int} {r : Addr} {t u w : Tok} (ha : -(2 ^ 40) ≤ a ∧ a ≤ 2 ^ 40) (hc : -(2 ^ 40) ≤ c ∧ c ≤ 2 ^ 40) {A : Around} {U : Addr → Prop} {s : Shared} {E : Value → Shared → Prop} (hr : IsRange s.heap r a c 1 t u w) :
    wpAny (model B.prog B.w) A (pyIter (.ref r)) (ItOk B U s (rangeL a (c - a).toNat)) E s := by
  have hs : Builtin.Range.rangeSize a c 1 = ((c - a).toNat : Int) := by
    unfold Builtin.Range.rangeSize
    simp only [show (1 : Int) > 0 by decide, if_true, Int.ediv_one]
    split <;> omega
  refine wpAny_pyIter_range hr (range_small ha hc) ⟨.push, fun a => a = s.heap.objs.size, fun _ => False, fun a e => ?_, fun _ h => h.elim, fun U' hU' A' hA' => ⟨_, itr_walks (Walks.range hA'.hand s.heap.objs.size a 1 (c - a).toNat) (by simp [rangeL]) (fun i h e => fields_nonseq e rfl) ?_ ?_, ?_⟩⟩
  · subst e; exact ⟨get?_size _, by rw [Heap.get?_push_size _ rfl]; rfl⟩
  · rintro i v y ⟨t, rfl⟩ hy
    refine ⟨fun h U => ?_, fun a e => nomatch e⟩
    unfold rangeL at hy
    rw [List.getElem?_map] at hy
    obtain ⟨j, hj, rfl⟩ := Option.map_eq_some_iff.mp hy
    have : j = i := by
      have := List.getElem?_eq_some_iff.mp hj
      obtain ⟨h1, h2⟩ := this
      simpa using h2.symm
    subst this
    exact rep_int.mpr ⟨t, by simp⟩
  · intro y hy h U v rv a e
    obtain ⟨c, _, rfl⟩ := List.mem_map.mp hy
    obtain ⟨u, rfl⟩ := rep_int.mp rv
    cases e
  · show IsRangeIter _ _ _ _ _
    have e : Builtin.Range.rangeSize a c 1 = ((c - a).toNat : Int) - ((0 : Nat) : Int) := by rw [hs]; simp
    rw [← e]
    have := Heap.get?_push_size s.heap (o := { cls := .type "range_iterator", data := .fields #[rawInt a, rawInt (Builtin.Range.rangeSize a c 1), rawInt 1] }) rfl
    simpa using this
theorem it_range1 {p pos : Pos} {e : Expr} {K : List PV → Prop} (hf : sc.names.lookup (Str.ofString "range") = some .globalImplicit) (hb : Blt B (Str.ofString "range") (.type "range")) (h : EvE B n true sc σ e fun q => ∃ c : Int, q = .int c ∧ -(2 ^ 40) ≤ c ∧ c ≤ 2 ^ 40 ∧ K (rangeL 0 c.toNat))
    (hs : ∀ env, starEach [e] env = [(false, eval e env)] := by intro _; rfl)
    (hc : ∀ env, eval (.Call (.Name (Str.ofString "range") p) [e] [] pos) env = (do callWith pos (← eval (.Name (Str.ofString "range") p) env) [] (backTo pos (starEach [e] env)) (backToKw pos (keywordEach [] env))) := by intro _; rfl) :
    ItE B n sc σ (.Call (.Name (Str.ofString "range") p) [e] [] pos) K := fun A env U s E hR hE hI => by
  rw [hc]
  refine wpAny_bind (name_blt hf hb (by decide) hE hI.ok ?_)
  show wpAny _ _ (callWith pos (.type "range") [] (backTo pos (starEach [e] env)) []) _ _ _
  rw [hs]
  refine callWith_machine rfl rfl (Calls.evalArgs_plain (Calls.spliced_cons (wpAny_mono' (h A env U s E hR hE hI) ?_)))
  rintro v s₁ ⟨q, ⟨c, rfl, h1, h2, hk⟩, rq, x₁⟩
  obtain ⟨t, rfl⟩ := rep_int.mp rq
  refine Calls.spliced_nil (call_range_1 ?_)
  have x₂ : Ext0 s₁ { s₁ with heap := s₁.heap.push { cls := .type "range", data := .fields #[.int 0 s₁.toks, .int c t, .int 1 (s₁.toks + 1)] }, toks := s₁.toks + 1 + 1 } := .of_heap0 (fun _ _ e => Heap.get?_push_of_some _ e) (by omega)
  refine ⟨x₁.trans0 x₂, wpAny_mono' (itv_range (a := 0) (c := c) (by omega) ⟨h1, h2⟩ (Heap.get?_push_size _ rfl)) fun it s₃ h => ⟨_, ?_, h.step (x₁.trans0 x₂)⟩⟩
  simpa using hk
/-! targets -/
def AsS (B : Base) (n : Nat) (sc : Scope) (V : Addr → Prop) (σ : Sto) (ow : Own) (tgt : Expr) (p : PV) (post : Sto → Prop) : Prop :=
  ∀ A env s E v, Room n true A → EnvOk sc env → Inv B env V σ ow s → Rep s.heap (Av V ow) p v → wpAny (model B.prog B.w) A (assign tgt env v) (fun _ s' => ∃ σ', post σ' ∧ Inv B env V σ' ow s' ∧ Ext (MineA env ow) s s') E s
theorem as_name {x : Str} {px : Pos} {p : PV} {post : Sto → Prop} (hx : Puts sc ow x) (h : post ((x, p) :: σ)) : AsS B n sc V σ ow (.Name x px) p post := fun A env s E v hR hE hI r =>
  wpAny_assign_Name (hI.store hE hx r fun s' k x => ⟨_, h, k, x⟩)
theorem as_tup2 {x y : Str} {px py pos : Pos} {k : Nat} {p q : PV} {post : Sto → Prop} (hx : Puts sc ow x) (hy : Puts sc ow y) (h : post ((y, q) :: (x, p) :: σ)) : AsS B n sc V σ ow (.Tuple [.Name x px, .Name y py] k pos) (.tup [p, q]) post := fun A env s E v hR hE hI r => by
  obtain ⟨a, vs, rfl, ha, ht, hr⟩ := rep_tup.mp r
  simp only [Reps] at hr
  obtain ⟨v1, _, rfl, r1, v2, _, rfl, r2, rfl⟩ := hr
  refine wpAny_assign_Tuple (hR.hand rfl) ht rfl rfl fun h' he => ?_
  have x₀ : Ext0 s { s with heap := h' } := .of_heap0 (tk := s.toks) (fun c o e => he c o (Nat.ne_of_lt (Heap.lt_size e)) e) (Nat.le_refl _)
  show wpAny _ _ (do holding [v2] (assign (.Name x px) env v1); do holding [] (assign (.Name y py) env v2); pure ()) _ _ _
  have k₀ := hI.ext x₀
  refine wpAny_bind (wpAny_holding (wpAny_assign_Name (k₀.store hE hx (r1.keep x₀.k0) fun s₁ k₁ x₁ => ?_)))
  refine wpAny_bind (wpAny_holding (wpAny_assign_Name (k₁.store hE hy (rep_extW k₀.mine_ns x₁.keep (r2.keep x₀.k0)) fun s₂ k₂ x₂ => wpAny_pure ?_)))
  exact ⟨_, h, k₂, ((Ext.weaken x₀).trans0 x₁).trans0 x₂⟩
theorem as_tup3 {x y z : Str} {px py pz pos : Pos} {k : Nat} {p q r : PV} {post : Sto → Prop} (hx : Puts sc ow x) (hy : Puts sc ow y) (hz : Puts sc ow z) (h : post ((z, r) :: (y, q) :: (x, p) :: σ)) : AsS B n sc V σ ow (.Tuple [.Name x px, .Name y py, .Name z pz] k pos) (.tup [p, q, r]) post := fun A env s E v hR hE hI rr => by
  obtain ⟨a, vs, rfl, ha, ht, hr⟩ := rep_tup.mp rr
  simp only [Reps] at hr
  obtain ⟨v1, _, rfl, r1, v2, _, rfl, r2, v3, _, rfl, r3, rfl⟩ := hr
  refine wpAny_assign_Tuple (hR.hand rfl) ht rfl rfl fun h' he => ?_
  have x₀ : Ext0 s { s with heap := h' } := .of_heap0 (tk := s.toks) (fun c o e => he c o (Nat.ne_of_lt (Heap.lt_size e)) e) (Nat.le_refl _)
  show wpAny _ _ (do holding [v2, v3] (assign (.Name x px) env v1); do holding [v3] (assign (.Name y py) env v2); do holding [] (assign (.Name z pz) env v3); pure ()) _ _ _
  have k₀ := hI.ext x₀
  refine wpAny_bind (wpAny_holding (wpAny_assign_Name (k₀.store hE hx (r1.keep x₀.k0) fun s₁ k₁ x₁ => ?_)))
  refine wpAny_bind (wpAny_holding (wpAny_assign_Name (k₁.store hE hy (rep_extW k₀.mine_ns x₁.keep (r2.keep x₀.k0)) fun s₂ k₂ x₂ => ?_)))
  refine wpAny_bind (wpAny_holding (wpAny_assign_Name (k₂.store hE hz (rep_extW k₁.mine_ns x₂.keep (rep_extW k₀.mine_ns x₁.keep (r3.keep x₀.k0))) fun s₃ k₃ x₃ => wpAny_pure ?_)))
  exact ⟨_, h, k₃, (((Ext.weaken x₀).trans0 x₁).trans0 x₂).trans0 x₃⟩

theorem st_unpack {elts : List Expr} {k : Nat} {tpos pos : Pos} {e : Expr} {post : Fl → Sto → Own → Prop} (h : EvE B n true sc σ e fun p => AsS B n sc V σ ow (.Tuple elts k tpos) p fun σ' => post .next σ' ow)
    (hs : ∀ env, swapsWithSole [.Tuple elts k tpos] e pos.line env = pure false := by intro _; rfl) (hw : ∀ env, EnvOk sc env → swappedStores [.Tuple elts k tpos] e env = pure none := by intro _ _; rfl) :
    StS B n true sc V σ ow (.Assign [.Tuple elts k tpos] e pos) post := fun A env s E hR hE hI => by
  refine PyProof.Rows.Assign_Tuple (wpAny_mono' (h A env _ s E hR hE (hI.einv hE)) ?_) (hs env) (hw env hE)
  rintro v s₁ ⟨p, hp, rp, x₁⟩
  refine wpAny_mono' (hp A env s₁ E v hR hE (hI.ext x₁) rp) ?_
  rintro _ s₂ ⟨σ', hq, k₂, x₂⟩
  exact ⟨.next, σ', ow, hq, trivial, k₂, (Ext.weaken x₁).trans0 x₂, .refl _ _⟩
end
end Mine
end

section
set_option maxRecDepth 10000
set_option linter.unusedVariables false
namespace Mine
open PySem

def SameO (ow ow' : Own) : Prop := ∀ a, (∃ x l, ow' = some (x, a, l)) ↔ (∃ x l, ow = some (x, a, l))
theorem SameO.none : SameO none none := fun _ => Iff.rfl
theorem SameO.refl (ow : Own) : SameO ow ow := fun _ => Iff.rfl
theorem SameO.some {x y : Str} {a : Addr} {l l' : List PV} : SameO (some (x, a, l)) (some (y, a, l')) := fun c => ⟨fun ⟨_, _, e⟩ => by cases e; exact ⟨x, l, rfl⟩, fun ⟨_, _, e⟩ => by cases e; exact ⟨y, l', rfl⟩⟩
theorem SameO.av {ow ow' : Own} (h : SameO ow ow') (V : Addr → Prop) : Av V ow' = Av V ow := funext fun a => propext (by unfold Av; rw [h a])
theorem SameO.mine {ow ow' : Own} (h : SameO ow ow') (env : Env) : MineA env ow' = MineA env ow := funext fun a => propext (by unfold MineA; rw [h a])
theorem SameO.grows {ow ow' : Own} (h : SameO ow ow') (s : Shared) : Grows ow ow' s := fun x a l e => .inl ((h a).mp ⟨x, l, e⟩)

section
variable {B : Base} {n : Nat} {b : Bool} {sc : Scope} {σ : Sto} {V : Addr → Prop} {ow : Own}

theorem Inv.extF {env : Env} {s s' : Shared} {F : Addr → Prop} {G : Nat → Prop} (k : Inv B env V σ ow s) (x : ExtG F G s s') (hF : ∀ a, F a → NonSeq s.heap a) (hm : ∀ a, F a → ¬ MineA env ow a) (hv : ∀ a, F a → ¬ V a) (hb : ∀ a, F a → B.h₀.get? a = none) : Inv B env V σ ow s' := by
  have kk : ∀ a o, MineA env ow a → s.heap.get? a = some o → s'.heap.get? a = some o := fun a o h e => x.keep a o (fun hf => hm a hf h) e
  have rp : ∀ {p : PV} {v : Value}, Rep s.heap (Av V ow) p v → Rep s'.heap (Av V ow) p v := fun r => rep_extW (fun a ha => .inr (hF a ha)) x.keep r
  have rps : ∀ {p : List PV} {v : List Value}, Reps s.heap (Av V ow) p v → Reps s'.heap (Av V ow) p v := fun r => reps_extW (fun a ha => .inr (hF a ha)) x.keep r
  obtain ⟨m, hn, hl, ho⟩ := k.loc
  refine ⟨⟨k.ok.good, fun c o e => ?_, x.bare k.ok.bare, fun c hc => ?_, Nat.le_trans k.ok.toks x.toks⟩, ⟨m, ?_, fun y p h1 h2 => let ⟨v, e, r⟩ := hl y p h1 h2; ⟨v, e, rp r⟩, fun y a l e => ?_⟩, fun y hy => ?_, k.kinds, k.inj, k.new, k.vout⟩
  · exact x.keep c o (fun hf => by rw [hb c hf] at e; cases e) (k.ok.keep c o e)
  · rcases hc with hc | ⟨y, l, e⟩
    · obtain ⟨o, ho'⟩ := Option.isSome_iff_exists.mp (k.ok.alive c (.inl hc))
      rw [x.keep c o (fun hf => hv c hf hc) ho']; rfl
    · obtain ⟨o, ho'⟩ := Option.isSome_iff_exists.mp (k.ok.alive c (.inr ⟨y, l, e⟩))
      rw [kk c o (.inr (.inr ⟨y, l, e⟩)) ho']; rfl
  · obtain ⟨o, es, ep, h1, h2⟩ := hn; exact ⟨o, es, ep, kk _ _ (.inl rfl) h1, h2⟩
  · obtain ⟨h1, h2, vs, ⟨nn, h3⟩, h4⟩ := ho y a l e
    exact ⟨h1, h2, vs, ⟨nn, kk _ _ (.inr (.inr ⟨y, l, e⟩)) h3⟩, rps h4⟩
  · obtain ⟨c, ov, h1, ⟨o, h2, h2'⟩, h3⟩ := k.cel y hy
    exact ⟨c, ov, h1, ⟨o, kk _ _ (.inr (.inl ⟨y, hy, h1⟩)) h2, h2'⟩, fun p hp => let ⟨v, e, r⟩ := h3 p hp; ⟨v, e, rp r⟩⟩

theorem h0_none {U : Addr → Prop} {s : Shared} (k : Ok B U s) {a : Addr} (h : s.heap.get? a = none) : B.h₀.get? a = none := by
  cases e : B.h₀.get? a with
  | none => rfl
  | some o => rw [k.keep a o e] at h; cases h

theorem st_for {tgt iter : Expr} {body : List Stmt} {pos : Pos} {post : Fl → Sto → Own → Prop} (J : List PV → Nat → Sto → Own → Prop)
    (hit : ItE B n sc σ iter fun items => J items 0 σ ow ∧ (∀ i σ' ow', J items i σ' ow' → SameO ow ow') ∧
      (∀ i x σ' ow', items[i]? = some x → J items i σ' ow' → AsS B n sc V σ' ow' tgt x fun σ₁ => StL B n true sc V σ₁ ow' body fun φ σ₂ ow₂ => match φ with
        | .next | .cont => J items (i + 1) σ₂ ow₂
        | .brk => post .next σ₂ ow₂
        | .ret p => post (.ret p) σ₂ ow₂) ∧
      ∀ σ' ow', J items items.length σ' ow' → post .next σ' ow')
    (hsame : ∀ φ σ₂ ow₂, post φ σ₂ ow₂ → True := by intros; trivial)
    (hs : ∀ env x, foldedSetIterable iter env x = pure x := by intro _ _; rfl) : StS B n true sc V σ ow (.For tgt iter body [] pos) post := fun A env s E hR hE hI => by
  refine wpAny_For (wpAny_mono' (hit A env _ s E hR hE (hI.einv hE)) ?_) (hs env)
  rintro xv s₁ ⟨x₁, hx⟩
  refine wpAny_mono' hx ?_
  rintro it s₂ ⟨items, ⟨j0, jsame, jstep, jend⟩, x₂, F, G, hF, hG, hIt⟩
  obtain ⟨I, IT, hI0⟩ := hIt (Av V ow) (fun a h => .inl h) A hR.light
  have k₂ := hI.ext x₂
  have hFm : ∀ a, F a → ¬ MineA env ow a := fun a ha hm => by have := hI.mine_some hm; rw [(hF a ha).1] at this; cases this
  have hFv : ∀ a, F a → ¬ V a := fun a ha hv => by have := hI.ok.alive a (.inl hv); rw [(hF a ha).1] at this; cases this
  have hFb : ∀ a, F a → B.h₀.get? a = none := fun a ha => h0_none hI.ok (hF a ha).1
  -- what the turns keep
  refine codeAny_forLoop_any (fun k s' => ∃ i σ' ow', k = items.length + 1 - i ∧ i ≤ items.length ∧ J items i σ' ow' ∧ Inv B env V σ' ow' s' ∧ I i s' ∧ ExtG (fun a => MineA env ow a ∨ F a) G s₂ s') ?_ (items.length + 1)
    ⟨0, σ, ow, rfl, Nat.zero_le _, j0, k₂, hI0, .refl _⟩
  rintro k s' ⟨i, σ', ow', rfl, hi, hj, ki, hii, xx⟩
  have so := jsame i σ' ow' hj
  have okU : Ok B (Av V ow) s' := so.av V ▸ ki.ok
  have fin : ∀ {f : Flow} {φ : Fl} {σ₃ : Sto} {ow₃ : Own} {s₃ : Shared}, post φ σ₃ ow₃ → FlRep V s₃ f φ → Inv B env V σ₃ ow₃ s₃ → ExtG (fun a => MineA env ow a ∨ F a) G s₂ s₃ → Grows ow ow₃ s → SPost B env V ow s post f s₃ := fun hp hf hk hx hg =>
    ⟨_, _, _, hp, hf, hk, ExtG.out x₂ hx (fun a ha => ha.imp id fun h => (hF a h).1) hG, hg⟩
  by_cases hlt : i < items.length
  · obtain ⟨x, hxi⟩ : ∃ x, items[i]? = some x := ⟨items[i], by simp [hlt]⟩
    refine IT.item i s' x _ _ hxi okU hii fun v s₃ rv hi₃ x₃ => ?_
    have k₃ : Inv B env V σ' ow' s₃ := ki.extF x₃ (fun a ha => IT.nonseq i s' a hii ha) (fun a ha hm => hFm a ha (so.mine env ▸ hm)) hFv hFb
    refine IT.go (i + 1) tgt s₃ v x _ _ (List.mem_of_getElem? hxi) rv hi₃ ?_
    refine wpAny_mono' (jstep i x σ' ow' hxi hj A env s₃ _ v hR hE k₃ (so.av V ▸ rv)) ?_
    rintro _ s₄ ⟨σ₄, hst, k₄, x₄⟩
    have mns : ∀ a, MineA env ow' a → ¬ F a ∧ (Av V ow a ∨ NonSeq s₃.heap a) := fun a ha => ⟨fun hf => hFm a hf (so.mine env ▸ ha), so.av V ▸ k₃.mine_ns a ha⟩
    have hi₄ : I (i + 1) s₄ := IT.stab _ _ _ _ hi₃ x₄ mns
    refine wpAny_mono' (hst A env s₄ _ hR hE k₄) ?_
    rintro f s₅ ⟨φ, σ₅, ow₅, hp, hf, k₅, x₅, g₅⟩
    have mns' : ∀ a, MineA env ow' a → ¬ F a ∧ (Av V ow a ∨ NonSeq s₄.heap a) := fun a ha => ⟨fun hf => hFm a hf (so.mine env ▸ ha), so.av V ▸ k₄.mine_ns a ha⟩
    have hi₅ : I (i + 1) s₅ := IT.stab _ _ _ _ hi₄ x₅ mns'
    have xx₅ : ExtG (fun a => MineA env ow a ∨ F a) G s₂ s₅ := ((xx.trans (x₃.mono fun a ha => .inl (.inr ha))).trans (x₄.toG fun a ha => .inl (so.mine env ▸ ha))).trans (x₅.toG fun a ha => .inl (so.mine env ▸ ha))
    have gr : Grows ow ow₅ s := fun y a l e => by
      rcases g₅ y a l e with ⟨y', l', e'⟩ | h
      · exact .inl ((so a).mp ⟨y', l', e'⟩)
      · cases e' : s.heap.get? a with
        | none => exact .inr rfl
        | some o =>
          -- an object of the start that is gone: it would be ours
          by_cases hm : MineA env ow a ∨ F a
          · rcases hm with hm | hm
            · have := k₄.mine_some (so.mine env ▸ hm : MineA env ow' a); rw [h] at this; cases this
            · rw [(hF a hm).1] at e'; cases e'
          · have h1 := x₂.k0 a o e'
            have h2 := ((xx.trans (x₃.mono fun a ha => .inl (.inr ha))).trans (x₄.toG (G := G) fun a ha => .inl (so.mine env ▸ ha))).keep a o hm h1
            rw [h] at h2; cases h2
    cases f with
    | next => cases φ with
      | next => exact ⟨items.length + 1 - (i + 1), by omega, i + 1, σ₅, ow₅, rfl, hlt, hp, k₅, hi₅, xx₅⟩
      | _ => cases hf
    | cont => cases φ with
      | cont => exact ⟨items.length + 1 - (i + 1), by omega, i + 1, σ₅, ow₅, rfl, hlt, hp, k₅, hi₅, xx₅⟩
      | _ => cases hf
    | brk => cases φ with
      | brk => exact fin (φ := .next) hp trivial k₅ xx₅ gr
      | _ => cases hf
    | ret v => cases φ with
      | ret p => exact fin (φ := .ret p) hp hf k₅ xx₅ gr
      | _ => cases hf
  · have hil : i = items.length := by omega
    subst hil
    refine IT.done s' _ _ okU hii fun s₃ x₃ => wpAny_execs_nil ?_
    have k₃ : Inv B env V σ' ow' s₃ := ki.extF x₃ (fun a ha => IT.nonseq _ s' a hii ha) (fun a ha hm => hFm a ha (so.mine env ▸ hm)) hFv hFb
    exact fin (φ := .next) (jend σ' ow' hj) trivial k₃ (xx.trans (x₃.mono fun a ha => .inl (.inr ha))) (so.grows s)

theorem st_while {test : Expr} {body : List Stmt} {pos : Pos} {post : Fl → Sto → Own → Prop} (J : Nat → Sto → Own → Prop) (k₀ : Nat) (h0 : J k₀ σ ow) (hsame : ∀ k σ' ow', J k σ' ow' → SameO ow ow')
    (hstep : ∀ k σ' ow', J k σ' ow' → EvT B n b sc σ' test fun c => if c = true then StL B n b sc V σ' ow' body fun φ σ₂ ow₂ => match φ with
        | .next | .cont => ∃ k', k' < k ∧ J k' σ₂ ow₂
        | .brk => post .next σ₂ ow₂
        | .ret p => post (.ret p) σ₂ ow₂
      else post .next σ' ow') : StS B n b sc V σ ow (.While test body [] pos) post := fun A env s E hR hE hI => by
  refine wpAny_While (codeAny_whileLoop (fun k s' => ∃ σ' ow', J k σ' ow' ∧ Inv B env V σ' ow' s' ∧ Ext (MineA env ow) s s') ?_ k₀ ⟨σ, ow, h0, hI, .refl _⟩)
  rintro k s' ⟨σ', ow', hj, ki, xx⟩
  have so := hsame k σ' ow' hj
  refine wpAny_mono' (hstep k σ' ow' hj A env _ s' _ hR hE (ki.einv hE)) ?_
  rintro c s₁ ⟨hc, x₁⟩
  have k₁ := ki.ext x₁
  have xx₁ : Ext (MineA env ow) s s₁ := xx.trans0 (.weaken x₁)
  cases c with
  | false => rw [if_neg Bool.false_ne_true] at hc ⊢; exact wpAny_execs_nil ⟨.next, σ', ow', hc, trivial, k₁, xx₁, so.grows s⟩
  | true =>
    rw [if_pos rfl] at hc ⊢
    refine wpAny_mono' (hc A env s₁ _ hR hE k₁) ?_
    rintro f s₂ ⟨φ, σ₂, ow₂, hp, hf, k₂, x₂, g₂⟩
    have xx₂ : Ext (MineA env ow) s s₂ := xx₁.trans0 (so.mine env ▸ x₂)
    have gr : Grows ow ow₂ s := (so.grows s).trans' xx₁ g₂ k₁
    cases f with
    | next => cases φ with
      | next => obtain ⟨k', hk', hj'⟩ := hp; exact ⟨k', hk', σ₂, ow₂, hj', k₂, xx₂⟩
      | _ => cases hf
    | cont => cases φ with
      | cont => obtain ⟨k', hk', hj'⟩ := hp; exact ⟨k', hk', σ₂, ow₂, hj', k₂, xx₂⟩
      | _ => cases hf
    | brk => cases φ with
      | brk => exact ⟨.next, σ₂, ow₂, hp, trivial, k₂, xx₂, gr⟩
      | _ => cases hf
    | ret v => cases φ with
      | ret p => exact ⟨.ret p, σ₂, ow₂, hp, hf, k₂, xx₂, gr⟩
      | _ => cases hf
end
end Mine
end

section
set_option maxRecDepth 10000
set_option linter.unusedVariables false
set_option linter.unusedSimpArgs false
namespace Mine
open PySem

theorem codeAny_compLoop_go {prog : Program} {w : World} {A : Around} {R : Result → Shared → Prop} {s : Shared} {elt target iter : Expr} {ifs : List Expr} {scope : Scope} {pos : Pos} {it acc : Value} {env : Env} (I : Nat → Shared → Prop)
    (turn : ∀ n s, I n s → wpAny (model prog w) A (pyNext it) (fun r s₁ => match r with
      | none => R (.ok .next) s₁
      | some v => wpAny (model prog w) A (letOwnedTupleGo target it v) (fun _ s₁' => wpAny (model prog w) A (assign target env v) (fun _ s₂ =>
          wpAny (model prog w) A (forIn ifs true fun c r => if r = true then do let ok ← isTrue c env (eval c env); pure (ForInStep.yield ok) else pure (ForInStep.yield r)) (fun ok s₃ =>
            if ok = true then wpAny (model prog w) A (eval elt env) (fun x s₄ =>
              wpAny (model prog w) A (call (.builtin "list.append") [acc, x]) (fun _ s₅ => ∃ m, m < n ∧ I m s₅) (notedBy (model prog w) A env fun e s' => R (.error e) s') s₄) (notedBy (model prog w) A env fun e s' => R (.error e) s') s₃
            else ∃ m, m < n ∧ I m s₃) (notedBy (model prog w) A env fun e s' => R (.error e) s') s₂) (notedBy (model prog w) A env fun e s' => R (.error e) s') s₁') (notedBy (model prog w) A env fun e s' => R (.error e) s') s₁) (notedBy (model prog w) A env fun e s' => R (.error e) s') s)
    (n : Nat) (h : I n s) : codeAny (model prog w) A (.compLoop (.ListComp elt [⟨target, iter, ifs, 0⟩] scope pos) 0 it acc env) R s := by
  refine codeAny_loop rfl I (fun n s hI => ?_) n h
  show wpAny _ A ((compTurn (.ListComp elt [⟨target, iter, ifs, 0⟩] scope pos) 0 it acc env).onRaise (fun x => do noteFrame x env; theTreesLotGoes x)) _ _ s
  refine wpAny_noted ?_
  rw [compTurn_list]
  refine wpAny_bind (wpAny_standAt (wpAny_bind (wpAny_mono (turn n s hI) (fun r s₁ h₁ => ?_) fun _ _ h' => h')))
  cases r with
  | none => exact wpAny_pure h₁
  | some v =>
    refine wpAny_bind (wpAny_mono h₁ (fun _ s₁' h₁' => ?_) fun _ _ h' => h')
    refine wpAny_bind (wpAny_mono h₁' (fun _ s₂ h₂ => wpAny_bind (wpAny_mono h₂ (fun ok s₃ h₃ => ?_) fun _ _ h' => h')) fun _ _ h' => h')
    cases ok with
    | false => exact wpAny_pure ⟨rfl, h₃⟩
    | true =>
      exact wpAny_bind (wpAny_bind (wpAny_mono h₃ (fun x s₄ h₄ => wpAny_bind (wpAny_mono h₄ (fun _ s₅ h₅ => wpAny_pure (wpAny_pure ⟨rfl, h₅⟩)) fun _ _ h' => h')) fun _ _ h' => h'))

/-- the cells that a comprehension takes along -/
def clOf (env : Env) : List (Str × NameKind) → List (Str × Addr) → List (Str × Addr)
  | [], acc => acc
  | (x, k) :: r, acc => clOf env r (if k == .free then (x, (env.cells.lookup x).getD 0) :: acc else acc)
theorem closureFor_eq {scope : Scope} {env : Env} (h : ∀ x, (x, NameKind.free) ∈ scope.names → (env.cells.lookup x).isSome = true) : closureFor scope env = pure (clOf env scope.names []) := by
  unfold closureFor
  have key : ∀ (names : List (Str × NameKind)) (acc : List (Str × Addr)), (∀ x, (x, NameKind.free) ∈ names → (env.cells.lookup x).isSome = true) →
      (forIn names acc fun (x : Str × NameKind) (cs : List (Str × Addr)) => match x with
        | (name, kind) => if (kind == NameKind.free) = true then (do let __do_lift ← cellOf env name; pure (ForInStep.yield ((name, __do_lift) :: cs))) else pure (ForInStep.yield cs) : Sem (List (Str × Addr))) = pure (clOf env names acc) := by
    intro names
    induction names with
    | nil => intro acc _; rfl
    | cons y r ih =>
      obtain ⟨x, k⟩ := y
      intro acc hy
      rw [List.forIn_cons]
      unfold clOf
      have hr : ∀ x, (x, NameKind.free) ∈ r → (env.cells.lookup x).isSome = true := fun x hx => hy x (List.mem_cons_of_mem _ hx)
      by_cases hk : (k == NameKind.free) = true
      · have hk' : k = .free := by simpa using hk
        subst hk'
        obtain ⟨c, hc⟩ := Option.isSome_iff_exists.mp (hy x List.mem_cons_self)
        have e : cellOf env x = pure c := by unfold cellOf; rw [hc]
        simp only [beq_self_eq_true, if_true, e, pure_bind]
        rw [ih _ hr, hc]; rfl
      · have hk' : (k == NameKind.free) = false := by simpa using hk
        simp only [hk', Bool.false_eq_true, if_false, pure_bind]
        exact ih acc hr
  exact (congrArg (fun t => t >>= pure) (key scope.names [] h)).trans rfl
theorem clOf_mem {env : Env} : ∀ (names : List (Str × NameKind)) (acc : List (Str × Addr)) {x : Str} {c : Addr}, (x, c) ∈ clOf env names acc → (x, c) ∈ acc ∨ c = (env.cells.lookup x).getD 0
  | [], acc, x, c, h => .inl h
  | (y, k) :: r, acc, x, c, h => by
    unfold clOf at h
    rcases clOf_mem r _ h with h | h
    · split at h
      · rcases List.mem_cons.mp h with e | h
        · cases e; exact .inr rfl
        · exact .inl h
      · exact .inl h
    · exact .inr h
theorem clOf_has {env : Env} : ∀ (names : List (Str × NameKind)) (acc : List (Str × Addr)) {x : Str}, (x, NameKind.free) ∈ names ∨ (acc.lookup x).isSome = true → ((clOf env names acc).lookup x).isSome = true
  | [], acc, x, h => h.elim (fun h => nomatch h) id
  | (y, k) :: r, acc, x, h => by
    unfold clOf
    refine clOf_has r _ ?_
    rcases h with h | h
    · rcases List.mem_cons.mp h with e | h
      · cases e; right; simp
      · exact .inl h
    · right
      split
      · rw [List.lookup_cons]; split
        · rfl
        · exact h
      · exact h
theorem clOf_lookup {env : Env} {names : List (Str × NameKind)} {x : Str} {c : Addr} (hx : (x, NameKind.free) ∈ names) (hc : env.cells.lookup x = some c) : (clOf env names []).lookup x = some c := by
  obtain ⟨d, hd⟩ := Option.isSome_iff_exists.mp (clOf_has (env := env) names [] (.inl hx))
  rcases clOf_mem names [] (mem_of_lookup hd) with h | h
  · cases h
  · rw [hc] at h; rw [hd, h]; rfl

def relabelS (csc sc : Scope) : Scope :=
  { csc with names := csc.names.map fun (n, k) => if (k == .free && sc.kind == .function && sc.names.lookup n == some .cell) then (n, .cell) else (n, k) }
theorem relabel_eq {csc sc : Scope} {env : Env} (hE : EnvOk sc env) : relabel csc env = relabelS csc sc := by
  unfold relabel relabelS
  have : env.scope.kind = sc.kind := by rw [hE.scope]
  simp only [hE.kindOf, this]
theorem relabel_free {sc : Scope} : ∀ {names : List (Str × NameKind)} {x : Str}, names.lookup x = some .free → sc.kind = .function → sc.names.lookup x = some .cell →
    (names.map fun (n, k) => if (k == NameKind.free && sc.kind == .function && sc.names.lookup n == some .cell) then (n, NameKind.cell) else (n, k)).lookup x = some .cell
  | [], _, h, _, _ => by simp at h
  | (n, k) :: r, x, h, hk, hx => by
    show List.lookup x ((if (k == NameKind.free && sc.kind == .function && sc.names.lookup n == some .cell) = true then (n, NameKind.cell) else (n, k)) :: _) = _
    cases hxn : x == n with
    | true =>
      simp only [List.lookup_cons, hxn] at h
      cases h
      have e := beq_iff_eq.mp hxn
      subst e
      simp [List.lookup_cons, hk, hx]
    | false =>
      simp only [List.lookup_cons, hxn] at h
      have ih := relabel_free h hk hx
      by_cases hc : (k == NameKind.free && sc.kind == .function && sc.names.lookup n == some .cell) = true
      · rw [if_pos hc]; simp only [List.lookup_cons, hxn]; exact ih
      · rw [if_neg hc]; simp only [List.lookup_cons, hxn]; exact ih
theorem relabel_cell {sc : Scope} : ∀ {names : List (Str × NameKind)} {x : Str}, (∀ y ∈ names, y.2 ≠ .cell) →
    (names.map fun (n, k) => if (k == NameKind.free && sc.kind == .function && sc.names.lookup n == some .cell) then (n, NameKind.cell) else (n, k)).lookup x = some .cell → (x, NameKind.free) ∈ names ∧ sc.names.lookup x = some .cell
  | [], _, _, h => by simp at h
  | (n, k) :: r, x, hc, h => by
    have h' : List.lookup x ((if (k == NameKind.free && sc.kind == .function && sc.names.lookup n == some .cell) = true then (n, NameKind.cell) else (n, k)) :: _) = some .cell := h
    by_cases hcc : (k == NameKind.free && sc.kind == .function && sc.names.lookup n == some .cell) = true
    · rw [if_pos hcc] at h'
      cases hxn : x == n with
      | true =>
        simp only [Bool.and_eq_true, beq_iff_eq] at hcc
        have e := beq_iff_eq.mp hxn
        subst e
        obtain ⟨⟨rfl, _⟩, h3⟩ := hcc
        exact ⟨List.mem_cons_self, h3⟩
      | false =>
        simp only [List.lookup_cons, hxn] at h'
        have := relabel_cell (fun y hy => hc y (List.mem_cons_of_mem _ hy)) h'
        exact ⟨List.mem_cons_of_mem _ this.1, this.2⟩
    · rw [if_neg hcc] at h'
      cases hxn : x == n with
      | true =>
        simp only [List.lookup_cons, hxn] at h'
        cases h'
        exact absurd rfl (hc (n, .cell) List.mem_cons_self)
      | false =>
        simp only [List.lookup_cons, hxn] at h'
        have := relabel_cell (fun y hy => hc y (List.mem_cons_of_mem _ hy)) h'
        exact ⟨List.mem_cons_of_mem _ this.1, this.2⟩

/-- what a target binds -/
def bindsT : Expr → PV → Option Sto
  | .Name x _, p => some [(x, p)]
  | .Tuple [.Name x _, .Name y _] _ _, .tup [p, q] => some [(y, q), (x, p)]
  | .Tuple [.Name x _, .Name y _, .Name z _] _ _, .tup [p, q, r] => some [(z, r), (y, q), (x, p)]
  | _, _ => none
end Mine
end

section
set_option maxRecDepth 10000
set_option linter.unusedVariables false
set_option linter.unusedSimpArgs false
namespace Mine
open PySem

section
variable {B : Base} {n : Nat} {sc csc : Scope} {σ σ' : Sto} {env : Env} {U : Addr → Prop} {s : Shared}

/-- the comprehension's own names -/
def LocOk (U : Addr → Prop) (C : Addr) (τ : Sto) (s : Shared) : Prop := ∃ m, s.heap.Ns C m ∧ ∀ y q, τ.lookup y = some q → ∃ u, m y = some u ∧ Rep s.heap U q u

theorem store_comp {cenv : Env} {y : Str} {u : Value} {q : PV} {τ : Sto} {A : Around} {E : Value → Shared → Prop} {Q : Unit → Shared → Prop} (hk : cenv.scope.kind = .function) (hy : cenv.kindOf y = some .local) (h : LocOk U cenv.locals τ s) (r : Rep s.heap U q u)
    (hQ : ∀ s', LocOk U cenv.locals ((y, q) :: τ) s' → Ext (fun a => a = cenv.locals) s s' → Q () s') : wpAny (model B.prog B.w) A (storeName cenv y u) Q E s := by
  obtain ⟨m, hn, hm⟩ := h
  refine wpAny_storeName_local hy hn (fun h' hn' hs => hQ _ ⟨_, hn', fun z p hz => ?_⟩ (.of_heap (fun c o hc e => hs.extBut c o hc e) (Nat.le_succ _))) (by rw [hk]; rfl)
  have isN : (∃ m, s.heap.Ns cenv.locals m) ∨ (∃ ov, s.heap.IsCell cenv.locals ov) := .inl ⟨m, hn⟩
  rw [List.lookup_cons] at hz
  cases hzy : z == y with
  | true => rw [hzy] at hz; cases hz; rw [beq_iff_eq.mp hzy]; exact ⟨u, by simp, rep_mine hs isN r⟩
  | false =>
    rw [hzy] at hz
    obtain ⟨w, e, rw'⟩ := hm z p hz
    exact ⟨w, by simp [show z ≠ y from fun e' => by rw [e'] at hzy; simp at hzy, e], rep_mine hs isN rw'⟩
theorem assign_comp {cenv : Env} {tgt : Expr} {x : PV} {v : Value} {τ : Sto} {A : Around} {E : Value → Shared → Prop} {Q : Unit → Shared → Prop} (hh : A.handled = none) (hk : cenv.scope.kind = .function) (hb : bindsT tgt x = some τ)
    (hl : ∀ y q, (y, q) ∈ τ → cenv.kindOf y = some .local) (h : LocOk U cenv.locals [] s) (r : Rep s.heap U x v)
    (hQ : ∀ s', LocOk U cenv.locals τ s' → Ext (fun a => a = cenv.locals) s s' → Q () s') : wpAny (model B.prog B.w) A (assign tgt cenv v) Q E s := by
  have hns : ∀ {s₁ : Shared} {τ₁ : Sto}, LocOk U cenv.locals τ₁ s₁ → ∀ a, a = cenv.locals → U a ∨ NonSeq s₁.heap a := fun ⟨m, hn, _⟩ a e => e ▸ .inr (ns_nonseq hn)
  unfold bindsT at hb
  split at hb
  · rename_i y _
    cases hb
    exact wpAny_assign_Name (store_comp hk (hl _ x (by simp)) h r hQ)
  · rename_i y py z pz k pos p q
    cases hb
    obtain ⟨a, vs, rfl, ha, ht, hr⟩ := rep_tup.mp r
    simp only [Reps] at hr
    obtain ⟨v1, _, rfl, r1, v2, _, rfl, r2, rfl⟩ := hr
    refine wpAny_assign_Tuple hh ht rfl rfl fun h' he => ?_
    have x₀ : Ext0 s { s with heap := h' } := .of_heap0 (tk := s.toks) (fun c o e => he c o (Nat.ne_of_lt (Heap.lt_size e)) e) (Nat.le_refl _)
    have h₀ : LocOk U cenv.locals [] { s with heap := h' } := let ⟨m, hn, _⟩ := h; ⟨m, hn.keeps x₀.k0, fun _ _ e => nomatch e⟩
    show wpAny _ _ (do holding [v2] (assign (.Name y py) cenv v1); do holding [] (assign (.Name z pz) cenv v2); pure ()) _ _ _
    refine wpAny_bind (wpAny_holding (wpAny_assign_Name (store_comp hk (hl y p (by simp)) h₀ (r1.keep x₀.k0) fun s₁ l₁ x₁ => ?_)))
    refine wpAny_bind (wpAny_holding (wpAny_assign_Name (store_comp hk (hl z q (by simp)) l₁ (rep_extW (hns h₀) x₁.keep (r2.keep x₀.k0)) fun s₂ l₂ x₂ => wpAny_pure ?_)))
    exact hQ s₂ l₂ (((Ext.weaken x₀).trans0 x₁).trans0 x₂)
  · rename_i y py z pz w pw k pos p q r'
    cases hb
    obtain ⟨a, vs, rfl, ha, ht, hr⟩ := rep_tup.mp r
    simp only [Reps] at hr
    obtain ⟨v1, _, rfl, r1, v2, _, rfl, r2, v3, _, rfl, r3, rfl⟩ := hr
    refine wpAny_assign_Tuple hh ht rfl rfl fun h' he => ?_
    have x₀ : Ext0 s { s with heap := h' } := .of_heap0 (tk := s.toks) (fun c o e => he c o (Nat.ne_of_lt (Heap.lt_size e)) e) (Nat.le_refl _)
    have h₀ : LocOk U cenv.locals [] { s with heap := h' } := let ⟨m, hn, _⟩ := h; ⟨m, hn.keeps x₀.k0, fun _ _ e => nomatch e⟩
    show wpAny _ _ (do holding [v2, v3] (assign (.Name y py) cenv v1); do holding [v3] (assign (.Name z pz) cenv v2); do holding [] (assign (.Name w pw) cenv v3); pure ()) _ _ _
    refine wpAny_bind (wpAny_holding (wpAny_assign_Name (store_comp hk (hl y p (by simp)) h₀ (r1.keep x₀.k0) fun s₁ l₁ x₁ => ?_)))
    refine wpAny_bind (wpAny_holding (wpAny_assign_Name (store_comp hk (hl z q (by simp)) l₁ (rep_extW (hns h₀) x₁.keep (r2.keep x₀.k0)) fun s₂ l₂ x₂ => ?_)))
    refine wpAny_bind (wpAny_holding (wpAny_assign_Name (store_comp hk (hl w r' (by simp)) l₂ (rep_extW (hns l₁) x₂.keep (rep_extW (hns h₀) x₁.keep (r3.keep x₀.k0))) fun s₃ l₃ x₃ => wpAny_pure ?_)))
    exact hQ s₃ l₃ ((((Ext.weaken x₀).trans0 x₁).trans0 x₂).trans0 x₃)
  · cases hb

theorem ExtG.thenW {F W : Addr → Prop} {G : Nat → Prop} {s s' s'' : Shared} (x : ExtG F G s s') (y : Ext W s' s'') (h : ∀ a, W a → s.heap.get? a = none) : ExtG F G s s'' :=
  ⟨fun b o hb e => y.keep b o (fun hw => by rw [h b hw] at e; cases e) (x.keep b o hb e), Nat.le_trans x.gsize y.gsize, fun g hg hl => (y.gens g (Nat.lt_of_lt_of_le hl x.gsize)).trans (x.gens g hg hl), fun h => y.bare (x.bare h), y.os.trans x.os, Nat.le_trans x.toks y.toks⟩
/-- the tests of a clause -/
def Tst (B : Base) (n : Nat) (sc : Scope) (σ : Sto) : List Expr → (Bool → Prop) → Prop
  | [], Q => Q true
  | [c], Q => EvT B n true sc σ c Q
  | _, _ => False
/-- one turn of a comprehension: what it gives, or nothing -/
def CompEl (B : Base) (n : Nat) (csc' : Scope) (σ' : Sto) (tgt elt : Expr) (ifs : List Expr) (x : PV) (r : Option PV) : Prop :=
  ∃ τ, bindsT tgt x = some τ ∧ (∀ y q, (y, q) ∈ τ → csc'.names.lookup y = some .local) ∧ Tst B n csc' (τ ++ σ') ifs fun c => if c = true then EvE B n true csc' (τ ++ σ') elt fun p => r = some p else r = none

structure CompOk (csc sc : Scope) (σ σ' : Sto) : Prop where
  cap : ∀ x p, σ'.lookup x = some p → σ.lookup x = some p ∧ csc.names.lookup x = some .free ∧ sc.names.lookup x = some .cell
  nocell : ∀ y ∈ csc.names, y.2 ≠ .cell
  free : ∀ x, (x, NameKind.free) ∈ csc.names → sc.names.lookup x = some .cell
  kind : csc.kind = .function
  names : ∀ x ∈ csc.names, x.2 = .local → csc.names.lookup x.1 = some .local

theorem comp_einv {s₀ : Shared} {C : Addr} {τ : Sto} {U' : Addr → Prop} (hE : EnvOk sc env) (hI : EInv B env σ U s₀) (ck : CompOk csc sc σ σ') (hτ : ∀ y q, (y, q) ∈ τ → (relabelS csc sc).names.lookup y = some .local)
    (hU : ∀ a, U' a → U a ∨ s₀.heap.get? a = none) (hk : ∀ b o, s₀.heap.get? b = some o → s.heap.get? b = some o)
    (ok : Ok B U' s) (hl : LocOk U' C τ s) : EInv B (compEnvC csc (clOf env csc.names []) C env) (τ ++ σ') U' s := by
  have hkd : (compEnvC csc (clOf env csc.names []) C env).scope.kind = .function := ck.kind
  have kindOf : ∀ x, (compEnvC csc (clOf env csc.names []) C env).kindOf x = (relabelS csc sc).names.lookup x := fun x => by
    unfold Env.kindOf compEnvC; rw [relabel_eq hE]
  obtain ⟨m, hn, hm⟩ := hl
  have capt : ∀ x, (x, NameKind.free) ∈ csc.names → sc.names.lookup x = some .cell → ∃ c, (clOf env csc.names []).lookup x = some c ∧ ∀ p, σ.lookup x = some p → ∃ v, s.heap.IsCell c (some v) ∧ Rep s.heap U' p v := fun x hx hx' => by
    obtain ⟨c, hc, hp⟩ := hI.cel x (by rw [hE.kindOf]; exact hx')
    refine ⟨c, clOf_lookup hx hc, fun p hp' => ?_⟩
    obtain ⟨v, hv, r⟩ := hp p hp'
    exact ⟨v, hv.keeps hk, r.mono (fun c o _ e => hk c o e) hU⟩
  have tl : ∀ x p, τ.lookup x = some p → (relabelS csc sc).names.lookup x = some .local := fun x p h => hτ x p (mem_of_lookup h)
  refine ⟨ok, fun x p hx => ?_, fun x hx => ?_⟩
  · rw [List.lookup_append] at hx
    cases ht : τ.lookup x with
    | some q =>
      rw [ht] at hx
      have e' : q = p := Option.some.inj hx
      subst e'
      obtain ⟨u, e, r⟩ := hm x q ht
      exact ⟨u, r, fun s' x' M A Q E h => wpAny_loadName_local hkd (by rw [kindOf]; exact tl x q ht) (hn.keeps x'.k0) e h⟩
    | none =>
      rw [ht] at hx
      obtain ⟨h1, h2, h3⟩ := ck.cap x p hx
      obtain ⟨c, hc, hp⟩ := capt x (mem_of_lookup h2) h3
      obtain ⟨v, hv, r⟩ := hp p h1
      exact ⟨v, r, fun s' x' M A Q E h => wpAny_loadName_cell hkd (by rw [kindOf]; exact relabel_free h2 hE.kind h3) hc (hv.keeps x'.k0) h⟩
  · rw [kindOf] at hx
    obtain ⟨h1, h2⟩ := relabel_cell ck.nocell hx
    obtain ⟨c, hc, hp⟩ := capt x h1 h2
    refine ⟨c, hc, fun p hp' => ?_⟩
    rw [List.lookup_append] at hp'
    cases ht : τ.lookup x with
    | some q => have := tl x q ht; rw [hx] at this; cases this
    | none => rw [ht] at hp'; exact hp p (ck.cap x p hp').1

theorem tests_use {cenv : Env} {csc' : Scope} {τ : Sto} {ifs : List Expr} {Q : Bool → Prop} {A : Around} {E : Value → Shared → Prop} (h : Tst B n csc' τ ifs Q) (hR : Room n true A) (hE : EnvOk csc' cenv) (hI : EInv B cenv τ U s) :
    wpAny (model B.prog B.w) A (forIn ifs true fun c r => if r = true then do let ok ← isTrue c cenv (eval c cenv); pure (ForInStep.yield ok) else pure (ForInStep.yield r)) (fun ok s' => Q ok ∧ Ext0 s s') E s := by
  unfold Tst at h
  split at h
  · exact wpAny_tests_nil ⟨h, .refl _⟩
  · exact wpAny_tests_one (h A cenv U s E hR hE hI)
  · exact h.elim

theorem comp_core {elt tgt iter : Expr} {ifs : List Expr} {pos p : Pos} {use : Option (Value → Sem Unit)} {A : Around} {E : Value → Shared → Prop} {Q : Value → Shared → Prop} (hR : Room n true A) (hE : EnvOk sc env) (hI : EInv B env σ U s) (ck : CompOk csc sc σ σ')
    (K : List PV → Prop) (hit : ItE B n sc σ iter fun items => items.length ≤ 1000000 ∧ ∃ rs : List (Option PV), rs.length = items.length ∧ (∀ (i : Nat) x r, items[i]? = some x → rs[i]? = some r → CompEl B n (relabelS csc sc) σ' tgt elt ifs x r) ∧ K (rs.filterMap id))
    (hs : ∀ x, foldedSetIterable iter env x = pure x)
    (hQ : ∀ l D C s', K l → Rep s'.heap U (.list l) (.ref D) → s.heap.get? C = none → s.heap.get? D = none → D ≠ C → (∃ m, s'.heap.Ns C m) → Ext0 s s' → compPost (model B.prog B.w) A E use Q (.ref D) C (.ok .next) s') :
    wpAny (model B.prog B.w) A (comprehension (.ListComp elt [⟨tgt, iter, ifs, 0⟩] csc pos) csc env p (newList []) false (eval iter env) use) Q E s := by
  have hclos : closureFor csc env = pure (clOf env csc.names []) := closureFor_eq fun x hx => by
    obtain ⟨c, hc, _⟩ := hI.cel x (by rw [hE.kindOf]; exact ck.free x hx)
    rw [hc]; rfl
  refine wpAny_comprehension_free rfl hs hclos ck.kind ck.names (wpAny_mono' (hit A env U s E hR hE hI) ?_)
  rintro xv s₁ ⟨x₁, hx⟩
  refine wpAny_mono' hx ?_
  rintro it s₂ ⟨items, ⟨hlen, rs, hrl, hel, hK⟩, x₂, F, G, hF, hG, hIt⟩
  have hI₂ := hI.ext x₂
  -- the list, the block's own dict
  refine wpAny_newObj_type (wpAny_newFunctionEnv ck.nocell (fun _ h => nomatch h) (fun h₃ hns₃ hsb₃ => ?_) ck.kind)
  dsimp only at hns₃ hsb₃ ⊢
  generalize hH : s₂.heap.push { cls := .type "list", dict := none, data := .seq ([] : List Value).toArray } = H at hns₃ hsb₃ ⊢
  have hC : H.objs.size = s₂.heap.objs.size + 1 := by rw [← hH, Heap.size_push]
  have hDC : s₂.heap.objs.size ≠ H.objs.size := by rw [hC]; omega
  have old : ∀ b o, s₂.heap.get? b = some o → h₃.get? b = some o := fun b o e => hsb₃.extBut b o (by rw [hC]; exact Nat.ne_of_lt (Nat.lt_succ_of_lt (Heap.lt_size e))) (Heap.get?_push_of_some _ (hH ▸ Heap.get?_push_of_some _ e))
  have hacc : h₃.PlainList s₂.heap.objs.size #[] := ⟨_, hsb₃.extBut _ _ hDC (Heap.get?_push_of_some _ (hH ▸ Heap.get?_push_size _ rfl))⟩
  have nD₂ : s₂.heap.get? s₂.heap.objs.size = none := get?_size _
  have nC₂ : s₂.heap.get? H.objs.size = none := get?_ge (by rw [hC]; omega)
  have none_of : ∀ a, s₂.heap.get? a = none → s.heap.get? a = none := fun a h => by
    cases e : s.heap.get? a with
    | none => rfl
    | some o => rw [x₂.k0 a o e] at h; cases h
  have FD : ∀ a, F a → a ≠ s₂.heap.objs.size ∧ a ≠ H.objs.size := fun a ha => ⟨(fun e => by have := (hF a ha).2; rw [e, nD₂] at this; cases this), (fun e => by have := (hF a ha).2; rw [e, nC₂] at this; cases this)⟩
  let U' : Addr → Prop := fun a => U a ∨ a = s₂.heap.objs.size
  have hU' : ∀ a, U' a → U a ∨ s₂.heap.get? a = none := fun a h => h.elim .inl (fun (e : a = _) => .inr (by rw [e]; exact nD₂))
  obtain ⟨I, IT, hI0⟩ := hIt U' hU' A hR.light
  have FN : ∀ a, F a → NonSeq s₂.heap a := fun a ha => IT.nonseq 0 s₂ a hI0 ha
  generalize hce : (newEnv csc H.objs.size env.globals (clOf env csc.names []) env.qual none Value.none (some env) builtinsNs) = ce
  have hce' : ({ ce with scope := relabel csc env } : Env) = compEnvC csc (clOf env csc.names []) H.objs.size env := by subst hce; rfl
  have hcl : ce.locals = H.objs.size := by subst hce; rfl
  rw [hce', hcl]
  -- the state when the turns begin
  have x₃ : Ext0 s₂ { s₂ with heap := h₃, toks := s₂.toks + ([] : List (Str × Value)).length } := .of_heap0 old (by simp)
  generalize hs3 : ({ s₂ with heap := h₃, toks := s₂.toks + ([] : List (Str × Value)).length } : Shared) = s₃ at x₃
  have hh₃ : s₃.heap = h₃ := by rw [← hs3]
  have I₃ : I 0 s₃ := IT.stab 0 s₂ s₃ (fun _ => False) hI0 x₃ fun _ h => h.elim
  have kE : EnvOk (relabelS csc sc) (compEnvC csc (clOf env csc.names []) H.objs.size env) := ⟨relabel_eq hE, ck.kind, hE.globals, hE.builtins⟩
  have nocF : ∀ a, F a → s.heap.get? a = none := fun a ha => (hF a ha).1
  have main : codeAny (model B.prog B.w) A (.compLoop (.ListComp elt [⟨tgt, iter, ifs, 0⟩] csc pos) 0 it (.ref s₂.heap.objs.size) (compEnvC csc (clOf env csc.names []) H.objs.size env)) (compPost (model B.prog B.w) A E use Q (.ref s₂.heap.objs.size) H.objs.size) s₃ := by
    refine codeAny_compLoop_go (fun k s' => ∃ i ys, k = items.length + 1 - i ∧ i ≤ items.length ∧ I i s' ∧ s'.heap.PlainList s₂.heap.objs.size (List.toArray ys) ∧ Reps s'.heap U' ((rs.take i).filterMap id) ys ∧ LocOk U' H.objs.size [] s' ∧ ExtG F G s₂ s') ?_ (items.length + 1)
      ⟨0, [], rfl, Nat.zero_le _, I₃, hh₃ ▸ hacc, by simpa using Reps.nil, ⟨_, hh₃ ▸ hns₃, fun _ _ e => nomatch e⟩, x₃.toG fun _ h => h.elim⟩
    rintro k s' ⟨i, ys, rfl, hi, hii, hpl, hys, hloc, xx⟩
    have kk : ∀ b o, s.heap.get? b = some o → s'.heap.get? b = some o := fun b o e => xx.keep b o (fun hf => by rw [nocF b hf] at e; cases e) (x₂.k0 b o e)
    have ok' : Ok B U' s' := ⟨hI.ok.good, fun b o e => kk b o (hI.ok.keep b o e), xx.bare (hI₂.ok.bare), fun a ha => by
      rcases ha with ha | rfl
      · obtain ⟨o, ho⟩ := Option.isSome_iff_exists.mp (hI.ok.alive a ha)
        rw [kk a o ho]; rfl
      · obtain ⟨nn, e⟩ := hpl; rw [e]; rfl, Nat.le_trans hI₂.ok.toks xx.toks⟩
    by_cases hlt : i < items.length
    · obtain ⟨x, hxi⟩ : ∃ x, items[i]? = some x := ⟨items[i], by simp [hlt]⟩
      obtain ⟨r, hri⟩ : ∃ r, rs[i]? = some r := ⟨rs[i]'(by omega), by simp [hrl, hlt]⟩
      obtain ⟨τ, hτ, hτl, hts⟩ := hel i x r hxi hri
      refine IT.item i s' x _ _ hxi ok' hii fun v s₄ rv hi₄ x₄ => ?_
      -- behind the next item
      have Fns : ∀ a, F a → U' a ∨ NonSeq s'.heap a := fun a ha => .inr (IT.nonseq i s' a hii ha)
      have kF : ∀ a o, a = s₂.heap.objs.size ∨ a = H.objs.size → s'.heap.get? a = some o → s₄.heap.get? a = some o := fun a o ha e => x₄.keep a o (fun hf => by rcases ha with ha | ha; exact (FD a hf).1 ha; exact (FD a hf).2 ha) e
      have hpl₄ : s₄.heap.PlainList s₂.heap.objs.size ys.toArray := let ⟨nn, e⟩ := hpl; ⟨nn, kF _ _ (.inl rfl) e⟩
      have hys₄ := reps_extW Fns x₄.keep hys
      have hloc₄ : LocOk U' H.objs.size [] s₄ := let ⟨m, ⟨o, es, ep, h1, h2⟩, _⟩ := hloc; ⟨m, ⟨o, es, ep, kF _ _ (.inr rfl) h1, h2⟩, fun _ _ e => nomatch e⟩
      refine IT.go (i + 1) tgt s₄ v x _ _ (List.mem_of_getElem? hxi) rv hi₄ ?_
      refine assign_comp (U := U') hR.hand' (cenv := compEnvC csc (clOf env csc.names []) H.objs.size env) ck.kind hτ (fun y q hy => by rw [kE.kindOf]; exact hτl y q hy) hloc₄ rv fun s₅ hloc₅ x₅ => ?_
      have nsC : ∀ a, a = H.objs.size → U' a ∨ NonSeq s₄.heap a := fun a e => let ⟨m, hn, _⟩ := hloc₄; e ▸ .inr (ns_nonseq hn)
      have hi₅ : I (i + 1) s₅ := IT.stab _ _ _ _ hi₄ x₅ fun a e => ⟨fun hf => (FD a hf).2 e, nsC a e⟩
      have hpl₅ : s₅.heap.PlainList s₂.heap.objs.size ys.toArray := let ⟨nn, e⟩ := hpl₄; ⟨nn, x₅.keep _ _ hDC e⟩
      have hys₅ := reps_extW nsC x₅.keep hys₄
      have xx₅ : ExtG F G s₂ s₅ := (xx.trans x₄).thenW x₅ fun a e => by rw [e]; exact nC₂
      have kk₅ : ∀ b o, s.heap.get? b = some o → s₅.heap.get? b = some o := fun b o e => xx₅.keep b o (fun hf => by rw [nocF b hf] at e; cases e) (x₂.k0 b o e)
      have ok₅ : Ok B U' s₅ := ⟨hI.ok.good, fun b o e => kk₅ b o (hI.ok.keep b o e), xx₅.bare (hI₂.ok.bare), fun a ha => by
        rcases ha with ha | rfl
        · obtain ⟨o, ho⟩ := Option.isSome_iff_exists.mp (hI.ok.alive a ha)
          rw [kk₅ a o ho]; rfl
        · obtain ⟨nn, e⟩ := hpl₅; rw [e]; rfl, Nat.le_trans hI₂.ok.toks xx₅.toks⟩
      have hU₀ : ∀ a, U' a → U a ∨ s.heap.get? a = none := fun a ha => (hU' a ha).elim .inl fun e => .inr (none_of a e)
      have ei₅ := comp_einv hE hI ck hτl hU₀ kk₅ ok₅ hloc₅
      have rstake : (rs.take (i + 1)).filterMap id = (rs.take i).filterMap id ++ r.toList := by
        rw [List.take_add_one, hri, List.filterMap_append]
        clear hts hri
        cases r <;> rfl
      refine wpAny_mono' (tests_use hts hR kE ei₅) ?_
      rintro c s₆ ⟨hc, x₆⟩
      have hi₆ : I (i + 1) s₆ := IT.stab _ _ _ _ hi₅ x₆ fun _ h => h.elim
      have loc₆ : LocOk U' H.objs.size [] s₆ := let ⟨m, hn, _⟩ := hloc₅; ⟨m, hn.keeps x₆.k0, fun _ _ e => nomatch e⟩
      have hpl₆ : s₆.heap.PlainList s₂.heap.objs.size ys.toArray := let ⟨nn, e⟩ := hpl₅; ⟨nn, x₆.k0 _ _ e⟩
      have xx₆ : ExtG F G s₂ s₆ := xx₅.thenW x₆ fun a e => e.elim
      cases c with
      | false =>
        rw [if_neg Bool.false_ne_true] at hc ⊢
        refine ⟨items.length + 1 - (i + 1), by omega, i + 1, ys, rfl, hlt, hi₆, hpl₆, ?_, loc₆, xx₆⟩
        rw [rstake, hc]; simpa using hys₅.keep x₆.k0
      | true =>
        rw [if_pos rfl] at hc ⊢
        refine wpAny_mono' (hc A _ U' s₆ _ hR kE (ei₅.ext x₆)) ?_
        rintro y s₇ ⟨p, hp, rp, x₇⟩
        have hpl₇ : s₇.heap.PlainList s₂.heap.objs.size ys.toArray := let ⟨nn, e⟩ := hpl₆; ⟨nn, x₇.k0 _ _ e⟩
        have hys₇ := (hys₅.keep x₆.k0).keep x₇.k0
        have hyl : ys.length ≤ items.length := by
          have := hys.length
          have h2 : ((rs.take i).filterMap id).length ≤ (rs.take i).length := List.length_filterMap_le _ _
          have h3 : (rs.take i).length ≤ rs.length := by simp [List.length_take]; omega
          omega
        refine wpAny_list_append_plain hpl₇ (fun h₈ hp₈ hs₈ => ?_) (hsz := by rw [List.size_toArray]; exact Nat.le_trans (Nat.le_trans hyl hlen) (by decide))
        have x₈ : Ext (fun a => a = s₂.heap.objs.size) s₇ { s₇ with heap := h₈ } := .of_heap (tk := s₇.toks) (fun c o hc e => hs₈.extBut c o hc e) (Nat.le_refl _)
        have dU : ∀ a, a = s₂.heap.objs.size → U' a ∨ NonSeq s₇.heap a := fun a e => .inl (.inr e)
        have hi₇ : I (i + 1) s₇ := IT.stab _ _ _ _ hi₆ x₇ fun _ h => h.elim
        have loc₇ : LocOk U' H.objs.size [] s₇ := let ⟨m, hn, _⟩ := loc₆; ⟨m, hn.keeps x₇.k0, fun _ _ e => nomatch e⟩
        refine ⟨items.length + 1 - (i + 1), by omega, i + 1, ys ++ [y], rfl, hlt, IT.stab _ _ _ _ hi₇ x₈ fun a e => ⟨fun hf => (FD a hf).1 e, dU a e⟩, by simpa using hp₈, ?_, ?_, (xx₆.thenW x₇ fun a e => e.elim).thenW x₈ fun a e => by rw [e]; exact nD₂⟩
        · rw [rstake, hp]
          exact (reps_extW dU x₈.keep hys₇).append (.cons (rep_extW dU x₈.keep rp) .nil)
        · obtain ⟨m, hn, _⟩ := loc₇
          exact ⟨m, hn.sameBut hs₈ (Ne.symm hDC), fun _ _ e => nomatch e⟩
    · have hil : i = items.length := by omega
      subst hil
      refine IT.done s' _ _ ok' hii fun s₄ x₄ => ?_
      have Fns : ∀ a, F a → U' a ∨ NonSeq s'.heap a := fun a ha => .inr (IT.nonseq _ s' a hii ha)
      have kF : ∀ a o, a = s₂.heap.objs.size ∨ a = H.objs.size → s'.heap.get? a = some o → s₄.heap.get? a = some o := fun a o ha e => x₄.keep a o (fun hf => by rcases ha with ha | ha; exact (FD a hf).1 ha; exact (FD a hf).2 ha) e
      have hys₄ := reps_extW Fns x₄.keep hys
      have et : (rs.take items.length) = rs := List.take_of_length_le (by omega)
      rw [et] at hys₄
      refine hQ _ _ _ s₄ hK (rep_list.mpr ⟨_, ys, rfl, (fun h => ?_), ?_, hys₄.mono (fun _ _ _ e => e) fun a h => .inl (.inl h)⟩) (none_of _ nC₂) (none_of _ nD₂) hDC ?_ ?_
      · have := hI₂.ok.alive _ h; rw [nD₂] at this; cases this
      · obtain ⟨nn, e⟩ := hpl; exact ⟨_, kF _ _ (.inl rfl) e, rfl, nn, rfl⟩
      · obtain ⟨m, ⟨o, es, ep, h1, h2⟩, _⟩ := hloc; exact ⟨m, o, es, ep, kF _ _ (.inr rfl) h1, h2⟩
      · exact (ExtG.out x₂ (xx.trans x₄) (fun a ha => .inr (nocF a ha)) hG)
  exact codeAny_compStart_list main (IT.self 0 s₃ _ _ I₃ main)
end
end Mine
end

section
set_option maxRecDepth 10000
set_option linter.unusedVariables false
set_option linter.unusedSimpArgs false
namespace Mine
open PySem

section
variable {B : Base} {n : Nat} {b : Bool} {sc csc : Scope} {σ σ' : Sto} {V : Addr → Prop} {ow : Own} {P : PV → Prop}

theorem ev_comp {elt tgt iter : Expr} {ifs : List Expr} {pos : Pos} (ck : CompOk csc sc σ σ')
    (hit : ItE B n sc σ iter fun items => items.length ≤ 1000000 ∧ ∃ rs : List (Option PV), rs.length = items.length ∧ (∀ (i : Nat) x r, items[i]? = some x → rs[i]? = some r → CompEl B n (relabelS csc sc) σ' tgt elt ifs x r) ∧ P (.list (rs.filterMap id)))
    (hs : ∀ env x, foldedSetIterable iter env x = pure x := by intro _ _; rfl) : EvE B n true sc σ (.ListComp elt [⟨tgt, iter, ifs, 0⟩] csc pos) P := fun A env U s E hR hE hI => by
  rw [eval_ListComp]
  show wpAny _ _ (comprehension (.ListComp elt [⟨tgt, iter, ifs, 0⟩] csc pos) csc env _ (newList []) false (eval iter env) none) _ _ _
  refine comp_core hR hE hI ck (fun l => P (.list l)) hit (hs env) fun l D C s' hl rp hC hD hDC ⟨m, hn⟩ x => ?_
  refine ⟨m, hn, fun h' hs' => ⟨_, hl, rep_mine hs' (.inl ⟨m, hn⟩) rp, ?_⟩⟩
  exact x.trans (.of_heap (W := fun a => a = C) (tk := s'.toks) (fun c o hc e => hs'.extBut c o hc e) (Nat.le_refl _)) fun a e => by rw [e]; exact .inr hC

theorem swaps_cell {elt : Expr} {gens : List Comprehension} {pos px : Pos} {x : Str} {l : Nat} {env : Env} (hE : EnvOk sc env) (hx : sc.names.lookup x = some .cell) : swapsWith (.ListComp elt gens csc pos) (some (.Name x px)) l env = pure false := by
  have : env.kindOf x = some .cell := by rw [hE.kindOf]; exact hx
  show (pure (env.blockKind == .function && env.kindOf x == some .local && px.line == pos.line && !(csc.names.any fun (n, k) => n == x && (k == .local || k == .cell))) : Sem Bool) = _
  rw [this, show ((some NameKind.cell : Option NameKind) == some .local) = false from rfl, Bool.and_false, Bool.false_and, Bool.false_and]
theorem swaps_local {elt : Expr} {gens : List Comprehension} {pos px : Pos} {x : Str} {l : Nat} {env : Env} (hE : EnvOk sc env) (hx : sc.names.lookup x = some .local) (hl : (px.line == pos.line) = true) (hc : (csc.names.any fun (n, k) => n == x && (k == .local || k == .cell)) = false) :
    swapsWith (.ListComp elt gens csc pos) (some (.Name x px)) l env = pure true := by
  have h1 : env.kindOf x = some .local := by rw [hE.kindOf]; exact hx
  have h2 : env.blockKind = .function := by unfold Env.blockKind; rw [hE.scope, hE.kind]; rfl
  show (pure (env.blockKind == .function && env.kindOf x == some .local && px.line == pos.line && !(csc.names.any fun (n, k) => n == x && (k == .local || k == .cell))) : Sem Bool) = _
  rw [h1, h2, hl, hc]; rfl
theorem st_assignE {x : Str} {px pos : Pos} {e : Expr} {post : Fl → Sto → Own → Prop} (hx : Puts sc ow x) (hs : ∀ env, EnvOk sc env → swapsWith e (some (.Name x px)) pos.line env = pure false) (h : EvE B n b sc σ e fun p => post .next ((x, p) :: σ) ow) :
    StS B n b sc V σ ow (.Assign [.Name x px] e pos) post := fun A env s E hR hE hI => by
  refine wpAny_Assign_Name (wpAny_mono' (h A env _ s E hR hE (hI.einv hE)) ?_) (hs env hE)
  rintro v s₁ ⟨p, hp, rp, x₁⟩
  have k₁ := hI.ext x₁
  exact k₁.store hE hx rp fun s₂ k₂ x₂ => ⟨.next, _, ow, hp, trivial, k₂, (Ext.weaken x₁).trans0 x₂, .refl _ _⟩
/-- a comprehension kept under a cell's name -/
theorem st_compC {x : Str} {px pos cpos : Pos} {elt tgt iter : Expr} {ifs : List Expr} {post : Fl → Sto → Own → Prop} (hx : sc.names.lookup x = some .cell) (ck : CompOk csc sc σ σ')
    (hit : ItE B n sc σ iter fun items => items.length ≤ 1000000 ∧ ∃ rs : List (Option PV), rs.length = items.length ∧ (∀ (i : Nat) x r, items[i]? = some x → rs[i]? = some r → CompEl B n (relabelS csc sc) σ' tgt elt ifs x r) ∧ post .next ((x, .list (rs.filterMap id)) :: σ) ow)
    (hs : ∀ env x, foldedSetIterable iter env x = pure x := by intro _ _; rfl) : StS B n true sc V σ ow (.Assign [.Name x px] (.ListComp elt [⟨tgt, iter, ifs, 0⟩] csc cpos) pos) post :=
  st_assignE (.inr hx) (fun env hE => swaps_cell hE hx) (ev_comp ck hit hs)
/-- under a local name: the stores exchanged -/
theorem st_compL {x : Str} {px pos cpos : Pos} {elt tgt iter : Expr} {ifs : List Expr} {post : Fl → Sto → Own → Prop} (hx : sc.names.lookup x = some .local) (hne : ∀ y a l, ow = some (y, a, l) → y ≠ x) (hl : (px.line == cpos.line) = true) (hc : (csc.names.any fun (n, k) => n == x && (k == .local || k == .cell)) = false) (ck : CompOk csc sc σ σ')
    (hit : ItE B n sc σ iter fun items => items.length ≤ 1000000 ∧ ∃ rs : List (Option PV), rs.length = items.length ∧ (∀ (i : Nat) x r, items[i]? = some x → rs[i]? = some r → CompEl B n (relabelS csc sc) σ' tgt elt ifs x r) ∧ post .next ((x, .list (rs.filterMap id)) :: σ) ow)
    (hs : ∀ env x, foldedSetIterable iter env x = pure x := by intro _ _; rfl) : StS B n true sc V σ ow (.Assign [.Name x px] (.ListComp elt [⟨tgt, iter, ifs, 0⟩] csc cpos) pos) post := fun A env s E hR hE hI => by
  rw [exec_Assign_Name_used x px _ pos (swaps_local hE hx hl hc)]
  refine wpAny_bind (wpAny_standAt (wpAny_bind ?_))
  show wpAny _ _ (comprehension (.ListComp elt [⟨tgt, iter, ifs, 0⟩] csc cpos) csc env _ (newList []) false (eval iter env) (some (assign (.Name x px) env)) >>= fun _ => pure ()) _ _ _
  refine wpAny_bind (comp_core hR hE (hI.einv hE) ck (fun l => post .next ((x, .list l) :: σ) ow) hit (hs env) fun l D C s' hl rp hC hD hDC ⟨m, hn⟩ x₁ => ?_)
  have k₁ := hI.ext x₁
  have notMine : ¬ MineA env ow C := fun h => by have := hI.mine_some h; rw [hC] at this; cases this
  have notV : ¬ V C := fun h => by have := hI.ok.alive C (.inl h); rw [hC] at this; cases this
  show wpAny _ _ (assign (.Name x px) env (.ref D)) _ _ _
  refine wpAny_assign_Name (k₁.store hE (.inl ⟨hx, hne⟩) rp fun s₂ k₂ x₂ => ?_)
  have hn₂ : s₂.heap.Ns C m := let ⟨o, es, ep, h1, h2⟩ := hn; ⟨o, es, ep, x₂.keep _ _ notMine h1, h2⟩
  refine ⟨m, hn₂, fun h' hs' => wpAny_pure (wpAny_pure ?_)⟩
  have x₃ : Ext (fun a => a = C) s₂ { s₂ with heap := h' } := .of_heap (tk := s₂.toks) (fun c o hc e => hs'.extBut c o hc e) (Nat.le_refl _)
  have k₃ : Inv B env V ((x, .list l) :: σ) ow { s₂ with heap := h' } := k₂.extF (F := fun a => a = C) (G := fun _ => False) (x₃.toG fun a h => h) (fun a e => by rw [e]; exact ns_nonseq hn₂) (fun a e => by rw [e]; exact notMine) (fun a e => by rw [e]; exact notV) (fun a e => by rw [e]; exact h0_none hI.ok hC)
  exact ⟨.next, _, ow, hl, trivial, k₃, ((Ext.weaken x₁).trans0 x₂).trans x₃ fun a e => by rw [e]; exact .inr hC, .refl _ _⟩

/-! lists under one roof: items that are one function of a list, and what the turns give another -/
theorem map_turns {α : Type} {L : List α} {f : α → PV} {g : α → Option PV} {R : PV → Option PV → Prop} (h : ∀ a ∈ L, R (f a) (g a)) : ∀ (i : Nat) x r, (L.map f)[i]? = some x → (L.map g)[i]? = some r → R x r := fun i x r hx hr => by
  rw [List.getElem?_map] at hx hr
  obtain ⟨a, ha, rfl⟩ := Option.map_eq_some_iff.mp hx
  rw [ha] at hr
  cases hr
  exact h a (List.mem_of_getElem? ha)
end
end Mine
end

section
set_option maxRecDepth 10000
set_option linter.unusedVariables false
set_option linter.unusedSimpArgs false
namespace Mine
open PySem

structure DefIn (B : Base) (f : Str) (params : Arguments) (body : List Stmt) (sc : Scope) : Prop where
  ex : ∃ a o pm code doc, B.mg f = some (.ref a) ∧ B.h₀.get? a = some o ∧ o.data = .func (Calls.docDef f params body sc pm code doc) ∧ B.h₀.CodeRec code f
theorem DefIn.known {B : Base} {f : Str} {params : Arguments} {body : List Stmt} {sc : Scope} (D : DefIn B f params body sc) : ∃ a o fd, B.mg f = some (.ref a) ∧ B.h₀.get? a = some o ∧ o.data = .func fd :=
  let ⟨a, o, pm, code, doc, h1, h2, h3, _⟩ := D.ex; ⟨a, o, _, h1, h2, h3⟩

section
variable {B : Base} {n : Nat} {b : Bool} {sc : Scope} {P : PV → Prop} {f : Str} {params : Arguments} {body : List Stmt}

theorem bindL_lookup (kindOf : Str → Option NameKind) : ∀ (binds : List (Str × Value)) (m : Str → Option Value) (x : Str), kindOf x = some .local → bindL kindOf binds m x = (binds.reverse.lookup x).or (m x)
  | [], m, x, _ => by simp [bindL]
  | (y, v) :: r, m, x, hx => by
    unfold bindL
    rw [bindL_lookup kindOf r _ x hx, List.reverse_cons, List.lookup_append]
    by_cases hy : kindOf y = some .local
    · rw [if_pos hy]
      by_cases e : x = y
      · subst e; simp [List.lookup_cons, Option.or_assoc]
      · have : (x == y) = false := by simpa using e
        simp [List.lookup_cons, this, e, Option.or_assoc]
    · rw [if_neg hy]
      have e : x ≠ y := fun e => hy (e ▸ hx)
      have : (x == y) = false := by simpa using e
      simp [List.lookup_cons, this]
theorem bindC_lookup (kindOf : Str → Option NameKind) : ∀ (binds : List (Str × Value)) (m : Str → Option Value) (x : Str), kindOf x ≠ some .local → bindC kindOf binds m x = (binds.reverse.lookup x).or (m x)
  | [], m, x, _ => by simp [bindC]
  | (y, v) :: r, m, x, hx => by
    unfold bindC
    rw [bindC_lookup kindOf r _ x hx, List.reverse_cons, List.lookup_append]
    by_cases hy : kindOf y = some .local
    · rw [if_pos hy]
      have e : x ≠ y := fun e => hx (e ▸ hy)
      have : (x == y) = false := by simpa using e
      simp [List.lookup_cons, this]
    · rw [if_neg hy]
      by_cases e : x = y
      · subst e; simp [List.lookup_cons, Option.or_assoc]
      · have : (x == y) = false := by simpa using e
        simp [List.lookup_cons, this, e, Option.or_assoc]
theorem zip_lookup {h : Heap} {U : Addr → Prop} : ∀ {names : List Str} {ps : List PV} {vs : List Value}, Reps h U ps vs → ∀ {x : Str} {p : PV}, (names.zip ps).lookup x = some p → ∃ v, (names.zip vs).lookup x = some v ∧ Rep h U p v
  | [], ps, vs, r, x, p, h => by simp at h
  | y :: names, [], vs, r, x, p, h => by simp at h
  | y :: names, q :: ps, vs, r, x, p, h => by
    simp only [Reps] at r
    obtain ⟨v, r', rfl, r1, r2⟩ := r
    simp only [List.zip_cons_cons, List.lookup_cons] at h ⊢
    cases hxy : x == y with
    | true => rw [hxy] at h; cases h; exact ⟨v, rfl, r1⟩
    | false => rw [hxy] at h; exact zip_lookup r2 h
theorem lookup_reverse {α : Type} : ∀ {l : List (Str × α)}, (l.map (·.1)).Nodup → ∀ x, l.reverse.lookup x = l.lookup x
  | [], _, x => rfl
  | (y, v) :: r, h, x => by
    simp only [List.map_cons, List.nodup_cons] at h
    rw [List.reverse_cons, List.lookup_append, lookup_reverse h.2 x, List.lookup_cons]
    cases hxy : x == y with
    | true =>
      have e := beq_iff_eq.mp hxy
      subst e
      have : r.lookup x = none := by
        cases hr : r.lookup x with
        | none => rfl
        | some v' => exact absurd (List.mem_map_of_mem (f := (·.1)) (mem_of_lookup hr)) h.1
      rw [this]; simp [List.lookup_cons]
    | false => simp [List.lookup_cons, hxy]
theorem zip_fst {names : List Str} {vs : List Value} (h : names.length = vs.length) : (names.zip vs).map (·.1) = names := by
  rw [List.map_fst_zip]; omega

abbrev RetP (P : PV → Prop) : Fl → Sto → Own → Prop := fun φ _ _ => ∃ p, φ = .ret p ∧ P p
theorem len1 {vs : List Value} (h : vs.length = 1) : ∃ v, vs = [v] := List.length_eq_one_iff.mp h
theorem len2 {vs : List Value} (h : vs.length = 2) : ∃ v w, vs = [v, w] := by
  cases vs with
  | nil => cases h
  | cons v r => obtain ⟨w, rfl⟩ := len1 (Nat.succ.inj h); exact ⟨v, w, rfl⟩
theorem len3 {vs : List Value} (h : vs.length = 3) : ∃ v w u, vs = [v, w, u] := by
  cases vs with
  | nil => cases h
  | cons v r => obtain ⟨w, u, rfl⟩ := len2 (Nat.succ.inj h); exact ⟨v, w, u, rfl⟩
theorem cells_keep {x : Str} : ∀ (names : List (Str × NameKind)) (n : Nat) (acc : List (Str × Addr)), (acc.lookup x).isSome = true → ((cellsFrom n names acc).lookup x).isSome = true
  | [], _, _, h => h
  | (y, k) :: r, n, acc, h => by
    unfold cellsFrom
    split
    · refine cells_keep r _ _ ?_
      rw [List.lookup_cons]
      split
      · rfl
      · exact h
    · exact cells_keep r n acc h
theorem cells_some {x : Str} : ∀ (names : List (Str × NameKind)) (n : Nat) (acc : List (Str × Addr)), names.lookup x = some .cell → ((cellsFrom n names acc).lookup x).isSome = true
  | [], _, _, h => nomatch h
  | (y, k) :: r, n, acc, h => by
    rw [List.lookup_cons] at h
    unfold cellsFrom
    cases hxy : x == y with
    | true =>
      rw [hxy] at h
      cases h
      rw [if_pos (by decide)]
      refine cells_keep r _ _ ?_
      rw [List.lookup_cons, hxy]; rfl
    | false =>
      rw [hxy] at h
      split
      · exact cells_some r _ _ h
      · exact cells_some r _ _ h
theorem fn_def {names : List Str} {ps : List PV} (D : DefIn B f params body sc) (hnd : names.Nodup) (hlen : names.length = ps.length)
    (hbind : ∀ pm code doc vs, vs.length = names.length → bindArgs (Calls.docDef f params body sc pm code doc) ⟨vs, []⟩ = pure (names.zip vs))
    (hkind : ∀ x ∈ names, sc.names.lookup x = some .local ∨ sc.names.lookup x = some .cell)
    (hk : sc.kind = .function) (hco : sc.isCoroutine = false) (hgen : sc.isGenerator = false) (hfree : ∀ x, sc.names.lookup x ≠ some .free)
    (h : ∀ V, StL B n b sc V (names.zip ps) none body (RetP P)) : Fn B (n + 1) b f ps P := by
  obtain ⟨a, o, pm, code, doc, h1, h2, h3, h4⟩ := D.ex
  refine ⟨a, o, _, h1, h2, h3, fun A U s vs hR ok rs => ?_⟩
  have hvl : vs.length = names.length := rs.length.trans hlen.symm
  have room' : A.depth < recursionLimit := hR.lt
  refine codeAny_call_function room' (ok.keep _ _ h2) h3 hco hgen rfl (h4.keeps ok.keep) ?_
  rw [hbind pm code doc vs hvl]
  refine wpAny_pure (wpAny_mono (wpAny_toks (wpAny_newFunctionEnv_cells hk (fun x hx => ?_) (Q := fun env s' => env = callEnvC (Calls.docDef f params body sc pm code doc) s.heap.objs.size a ∧ InCallC s env.locals (bindL env.kindOf (names.zip vs) fun _ => none) env.cells (bindC env.kindOf (names.zip vs) fun _ => none) s') fun env he s' x => ⟨he, x⟩)) ?_ fun _ _ e => e.2)
  · have hx1 : x.1 ∈ names := by
      have := List.mem_map_of_mem (f := (·.1)) hx
      rwa [zip_fst hvl.symm] at this
    rcases hkind x.1 hx1 with q | q
    · exact .inl q
    · exact .inr ⟨q, cells_some _ _ _ q⟩
  rintro env s₁ ⟨tk, he, ic⟩
  subst he
  generalize hen : callEnvC (Calls.docDef f params body sc pm code doc) s.heap.objs.size a = env at ic ⊢
  have henv : env.locals = s.heap.objs.size ∧ env.scope = sc ∧ env.globals = mainGlobals ∧ env.builtins = builtinsNs ∧ env.cells = cellsFrom (s.heap.objs.size + 1) sc.names [] := by subst hen; exact ⟨rfl, rfl, rfl, rfl, rfl⟩
  obtain ⟨e1, e2, e3, e4, e5⟩ := henv
  have hE : EnvOk sc env := ⟨e2, hk, e3, e4⟩
  have kk := ic.toInCall.keep
  have x₁ : Ext0 s s₁ := by
    obtain ⟨h', tk', rfl⟩ := ic.toInCall.same
    exact .of_heap0 kk tk
  have ok₁ := ok.ext x₁
  have noneL : s.heap.get? env.locals = none := by rw [e1]; exact get?_size _
  have noneC : ∀ x c, env.cells.lookup x = some c → s.heap.get? c = none := fun x c hc => by
    have := ic.above x c (mem_of_lookup hc)
    exact get?_ge (by rw [e1] at this; exact Nat.le_of_lt this)
  have mineNone : ∀ c, MineA env none c → s.heap.get? c = none := fun c hc => by
    rcases hc with rfl | ⟨x, _, hx⟩ | ⟨_, _, e⟩
    · exact noneL
    · exact noneC x c hx
    · cases e
  have avU : Av U none = U := funext fun c => propext ⟨(fun h => h.elim id (fun ⟨_, _, e⟩ => (nomatch e))), Or.inl⟩
  have rs₁ := rs.keep x₁.k0
  have inv : Inv B env U (names.zip ps) none s₁ := by
    refine ⟨(by rw [avU]; exact ok₁), ⟨_, ic.toInCall.ns, fun x p hx hxl => ?_, fun _ _ _ e => nomatch e⟩, fun x hx => ?_, fun x p hx => ?_, fun x y c hx hy g1 g2 => name_of_addr ic.apart (mem_of_lookup g1) (mem_of_lookup g2), fun c hc => h0_none ok (mineNone c hc), fun c hc hm => ?_⟩
    · obtain ⟨v, hv, rv⟩ := zip_lookup rs₁ hx
      refine ⟨v, ?_, (by rw [avU]; exact rv)⟩
      rw [bindL_lookup _ _ _ _ hxl, lookup_reverse (by rw [zip_fst hvl.symm]; exact hnd), hv]; rfl
    · have hxs : sc.names.lookup x = some .cell := by rw [← hE.kindOf]; exact hx
      obtain ⟨c, hc⟩ := Option.isSome_iff_exists.mp (cells_some (x := x) sc.names (s.heap.objs.size + 1) [] hxs)
      rw [← e5] at hc
      refine ⟨c, _, hc, ic.cell x c hc, fun p hp => ?_⟩
      obtain ⟨v, hv, rv⟩ := zip_lookup rs₁ hp
      refine ⟨v, ?_, (by rw [avU]; exact rv)⟩
      rw [bindC_lookup _ _ _ _ (by rw [hx]; decide), lookup_reverse (by rw [zip_fst hvl.symm]; exact hnd), hv]; rfl
    · have hxn : x ∈ names := by
        have := List.mem_map_of_mem (f := (·.1)) (mem_of_lookup hx)
        rwa [List.map_fst_zip (by omega)] at this
      rw [hE.kindOf]; exact hkind x hxn
    · have := ok.alive c hc
      rw [mineNone c hm] at this; cases this
  refine ⟨(ok.good.nolimit.keeps ok.keep).keeps kk, codeAny_func ?_⟩
  have hR' : Room n b (A.deeper env) := ⟨by show A.depth + 1 + n ≤ 900; have := hR.depth; omega, by show A.units + 3 + 50 * n ≤ 9000; have := hR.units; omega, hR.hand⟩
  refine wpAny_mono' (h U (A.deeper env) env s₁ _ hR' hE inv) ?_
  rintro fl s' ⟨φ, σ', ow', ⟨p, rfl, hp⟩, hf, hi, x, g⟩
  cases fl with
  | ret v => exact ⟨v, rfl, p, hp, hf, x₁.trans x fun c hc => .inr (mineNone c hc)⟩
  | _ => cases hf
end
end Mine
end

section
set_option maxRecDepth 10000
set_option linter.unusedVariables false
set_option linter.unusedSimpArgs false
namespace Mine
open PySem PySem.Builtin PySem.Builtin.Str

abbrev LS (x : List Nat) : Str := ⟨x.toArray⟩
def occG (y : List Nat) : Nat → Nat → List Nat → List Nat
  | _, _, [] => []
  | k + 1, i, _ :: r => occG y k (i + 1) r
  | 0, i, c :: r => if y.isPrefixOf (c :: r) = true then i :: occG y (y.length - 1) (i + 1) r else occG y 0 (i + 1) r

theorem isPrefix_take {y l : List Nat} : y.isPrefixOf l = true ↔ l.take y.length = y := by
  rw [List.isPrefixOf_iff_prefix, List.prefix_iff_eq_take]; exact eq_comm

theorem occ_run (x y : List Nat) (hy : 0 < y.length) (limit : Nat) : ∀ (r : List Nat) (i : Nat) (found : Array Nat) (free : Nat), x.drop i = r → i ≤ x.length →
    (forIn (List.range' i (r.length + 1)) (found, free) (StrLaws.occBody (LS x) (LS y) x.length limit)).run.fst.toList = found.toList ++ (occG y (free - i) i r).take (limit - found.size)
  | [], i, found, free, hr, hi => by
    have : x.length ≤ i := List.drop_eq_nil_iff.mp hr
    show (forIn [i] (found, free) (StrLaws.occBody (LS x) (LS y) x.length limit)).run.fst.toList = _
    rw [List.forIn_cons]
    unfold StrLaws.occBody
    rw [if_neg (fun h => by have := h.1.2; simp [Str.length] at this; omega)]
    simp [occG]
  | c :: r, i, found, free, hr, hi => by
    have hlt : i < x.length := by
      rcases Nat.lt_or_ge i x.length with h | h
      · exact h
      · rw [List.drop_eq_nil_iff.mpr h] at hr; cases hr
    have hr' : x.drop (i + 1) = r := by rw [← List.drop_drop, hr]; rfl
    show (forIn (i :: List.range' (i + 1) (r.length + 1)) (found, free) (StrLaws.occBody (LS x) (LS y) x.length limit)).run.fst.toList = _
    rw [List.forIn_cons]
    unfold StrLaws.occBody
    have hsub : subAt (LS x) (LS y) i = y.isPrefixOf (c :: r) := by
      rw [StrLaws.subAt_eq, Bool.eq_iff_iff, beq_iff_eq, isPrefix_take]
      simp [Str.length, hr]
    have hfit : y.isPrefixOf (c :: r) = true → i + y.length ≤ x.length := fun h => by
      have h1 := congrArg List.length (isPrefix_take.mp h)
      have h2 := congrArg List.length hr
      simp at h1 h2; omega
    by_cases hc : (found.size < limit ∧ free ≤ i) ∧ y.isPrefixOf (c :: r) = true
    · rw [if_pos ⟨⟨hc.1, by simpa [Str.length] using hfit hc.2⟩, by rw [hsub]; exact hc.2⟩]
      refine (occ_run x y hy limit r (i + 1) (found.push i) (i + (LS y).length) hr' hlt).trans ?_
      have e1 : free - i = 0 := by omega
      have e2 : i + (LS y).length - (i + 1) = y.length - 1 := by simp [Str.length]; omega
      rw [e1, e2]
      obtain ⟨d, hd⟩ : ∃ d, limit - found.size = d + 1 := ⟨limit - found.size - 1, by omega⟩
      have e3 : limit - (found.push i).size = d := by simp; omega
      rw [e3, hd]
      simp [occG, hc.2]
    · rw [if_neg (fun h => hc ⟨h.1.1, by rw [← hsub]; exact h.2⟩)]
      refine (occ_run x y hy limit r (i + 1) found free hr' hlt).trans ?_
      congr 1
      by_cases hf : found.size < limit
      · cases hk : free - i with
        | zero =>
          have : ¬ y.isPrefixOf (c :: r) = true := fun h => hc ⟨⟨hf, by omega⟩, h⟩
          have e : free - (i + 1) = 0 := by omega
          rw [e]
          simp [occG, this]
        | succ k =>
          have e : free - (i + 1) = k := by omega
          rw [e]
          simp [occG]
      · have e : limit - found.size = 0 := by omega
        rw [e]; simp
theorem occ_list (x y : List Nat) (hy : 0 < y.length) (limit lo : Nat) : occurrences (LS x) (LS y) lo x.length limit = (occG y 0 lo (x.drop lo)).take limit := by
  rw [StrLaws.occ_eq]
  rcases Nat.lt_or_ge x.length lo with h | h
  · have e1 : x.length + 1 - lo = 0 := by omega
    have e2 : x.drop lo = [] := List.drop_eq_nil_iff.mpr (by omega)
    rw [e1, e2]; simp [occG]
  · have e : x.length + 1 - lo = (x.drop lo).length + 1 := by simp; omega
    have := occ_run x y hy limit (x.drop lo) lo #[] lo rfl h
    rw [e]
    simpa using this
theorem occG_length (y : List Nat) : ∀ (k i : Nat) (r : List Nat), (occG y k i r).length ≤ r.length
  | _, _, [] => by simp [occG]
  | k + 1, i, _ :: r => by have := occG_length y k (i + 1) r; simp [occG]; omega
  | 0, i, c :: r => by
    have h1 := occG_length y 0 (i + 1) r
    have h2 := occG_length y (y.length - 1) (i + 1) r
    simp only [occG]; split <;> simp <;> omega
theorem occ_all (x y : List Nat) (hy : 0 < y.length) : occurrences (LS x) (LS y) 0 x.length (x.length + 1) = occG y 0 0 x := by
  rw [occ_list x y hy, List.drop_zero]
  exact List.take_of_length_le (by have := occG_length y 0 0 x; omega)

/-! find, count, in -/
def fnd (c : Nat) : Nat → List Nat → Int
  | _, [] => -1
  | i, d :: r => if d = c then (i : Int) else fnd c (i + 1) r
theorem isPre_one (c d : Nat) (r : List Nat) : ([c].isPrefixOf (d :: r) = true) ↔ d = c := by
  simp [List.isPrefixOf]; exact eq_comm
theorem occG_head (c : Nat) : ∀ (i : Nat) (r : List Nat), (match (occG [c] 0 i r).take 1 with | k :: _ => (k : Int) | [] => -1) = fnd c i r
  | _, [] => rfl
  | i, d :: r => by
    simp only [occG, fnd]
    by_cases h : d = c
    · rw [if_pos ((isPre_one c d r).mpr h), if_pos h]; rfl
    · rw [if_neg (fun e => h ((isPre_one c d r).mp e)), if_neg h]
      exact occG_head c (i + 1) r
theorem find_eq (x : List Nat) (c : Nat) : Txt.find (LS x) (LS [c]) = fnd c 0 x := by
  unfold Txt.find
  rw [show (LS x).length = x.length from by simp [Str.length], occ_list x [c] (by simp), List.drop_zero]
  exact occG_head c 0 x
theorem find3_eq (x : List Nat) (c : Nat) (k : Nat) : Txt.find3 (LS x) (LS [c]) (k : Int) = fnd c k (x.drop k) := by
  unfold Txt.find3
  have e : fromIndex (LS x).length (k : Int) = k := by unfold fromIndex; omega
  rw [e, show (LS x).length = x.length from by simp [Str.length], occ_list x [c] (by simp)]
  exact occG_head c k (x.drop k)
theorem occG_count (c : Nat) : ∀ (i : Nat) (r : List Nat), (occG [c] 0 i r).length = r.count c
  | _, [] => rfl
  | i, d :: r => by
    simp only [occG]
    by_cases h : d = c
    · rw [if_pos ((isPre_one c d r).mpr h)]
      subst h
      simp [occG_count]
    · rw [if_neg (fun e => h ((isPre_one c d r).mp e))]
      rw [occG_count c (i + 1) r, List.count_cons_of_ne h]
theorem count_eq (x : List Nat) (c : Nat) : Txt.count (LS x) (LS [c]) = ((x.count c : Nat) : Int) := by
  unfold Txt.count
  rw [show (LS x).length = x.length from by simp [Str.length], occ_all x [c] (by simp), occG_count]
def hasG (y x : List Nat) : Bool := !(occG y 0 0 x).isEmpty
theorem in_eq (x y : List Nat) (hy : 0 < y.length) : (!(occurrences (LS x) (LS y) 0 (LS x).length 1).isEmpty) = hasG y x := by
  rw [show (LS x).length = x.length from by simp [Str.length], occ_list x y hy, List.drop_zero]
  unfold hasG
  cases occG y 0 0 x <;> rfl
theorem hasG_one (c : Nat) (x : List Nat) : hasG [c] x = decide (c ∈ x) := by
  have := occG_count c 0 x
  unfold hasG
  rw [Bool.eq_iff_iff]
  simp only [Bool.not_eq_true', List.isEmpty_eq_false_iff, decide_eq_true_eq, ← List.count_pos_iff, ← this]
  exact List.length_pos_iff.symm

/-! parts -/
def consH (c : Nat) : List (List Nat) → List (List Nat)
  | [] => [[c]]
  | p :: ps => (c :: p) :: ps
def preH (q : List Nat) : List (List Nat) → List (List Nat)
  | [] => [q]
  | p :: ps => (q ++ p) :: ps
def splitG (y : List Nat) : Nat → List Nat → List (List Nat)
  | _, [] => [[]]
  | k + 1, _ :: r => splitG y k r
  | 0, c :: r => if y.isPrefixOf (c :: r) = true then [] :: splitG y (y.length - 1) r else consH c (splitG y 0 r)
theorem splitG_ne (y : List Nat) : ∀ (k : Nat) (r : List Nat), ∃ p ps, splitG y k r = p :: ps
  | _, [] => ⟨_, _, rfl⟩
  | k + 1, _ :: r => splitG_ne y k r
  | 0, c :: r => by
    obtain ⟨p, ps, e⟩ := splitG_ne y 0 r
    simp only [splitG]
    split
    · exact ⟨_, _, rfl⟩
    · rw [e]; exact ⟨_, _, rfl⟩
theorem parts_run (x y : List Nat) (hy : 0 < y.length) : ∀ (r : List Nat) (k i a : Nat), x.drop i = r → i ≤ x.length → (k = 0 ∧ a ≤ i ∨ a = i + k ∧ k ≤ r.length) →
    (StrLaws.partsFrom (LS x) y.length a (occG y k i r)).map (fun p => p.cps.toList) = preH ((x.drop a).take (i - a)) (splitG y k r)
  | [], k, i, a, hr, hi, h => by
    have h0 : x.length ≤ i := List.drop_eq_nil_iff.mp hr
    simp only [occG, splitG, preH, StrLaws.partsFrom, List.map_cons, List.map_nil, StrLaws.strSub_toList, List.append_nil]
    have : i = x.length := by omega
    rw [this]; simp [Str.length]
  | c :: r, k + 1, i, a, hr, hi, h => by
    have hlt : i < x.length := by
      rcases Nat.lt_or_ge i x.length with h | h
      · exact h
      · rw [List.drop_eq_nil_iff.mpr h] at hr; cases hr
    have hr' : x.drop (i + 1) = r := by rw [← List.drop_drop, hr]; rfl
    simp only [List.length_cons] at h
    have := parts_run x y hy r k (i + 1) a hr' hlt (by omega)
    simp only [occG, splitG]
    rw [this]
    have e1 : i - a = 0 := by omega
    have e2 : i + 1 - a = 0 := by omega
    rw [e1, e2]
  | c :: r, 0, i, a, hr, hi, h => by
    have hlt : i < x.length := by
      rcases Nat.lt_or_ge i x.length with h | h
      · exact h
      · rw [List.drop_eq_nil_iff.mpr h] at hr; cases hr
    have hr' : x.drop (i + 1) = r := by rw [← List.drop_drop, hr]; rfl
    have ha : a ≤ i := by omega
    simp only [occG, splitG]
    by_cases hp : y.isPrefixOf (c :: r) = true
    · rw [if_pos hp, if_pos hp]
      have hl := congrArg List.length (isPrefix_take.mp hp)
      simp only [List.length_take, List.length_cons] at hl
      simp only [StrLaws.partsFrom, List.map_cons, StrLaws.strSub_toList]
      have := parts_run x y hy r (y.length - 1) (i + 1) (i + y.length) hr' hlt (by omega)
      rw [this]
      have e1 : i + 1 - (i + y.length) = 0 := by omega
      obtain ⟨p, ps, e⟩ := splitG_ne y (y.length - 1) r
      rw [e1, e]
      simp [preH]
    · rw [if_neg hp, if_neg hp]
      have := parts_run x y hy r 0 (i + 1) a hr' hlt (by omega)
      rw [this]
      obtain ⟨p, ps, e⟩ := splitG_ne y 0 r
      rw [e]
      simp only [preH, consH]
      have e2 : i + 1 - a = (i - a) + 1 := by omega
      have hc : (x.drop a)[i - a]? = some c := by
        rw [List.getElem?_drop]
        have : (x.drop i)[0]? = some c := by rw [hr]; rfl
        rw [List.getElem?_drop] at this
        rw [← this]; congr 1; omega
      rw [e2, List.take_add_one, hc]
      simp

theorem preH_nil (l : List (List Nat)) (h : ∃ p ps, l = p :: ps) : preH [] l = l := by obtain ⟨p, ps, rfl⟩ := h; rfl
theorem parts_all (x y : List Nat) (hy : 0 < y.length) : (partsBetween (LS x) (occG y 0 0 x) y.length).map (fun p => p.cps.toList) = splitG y 0 x := by
  rw [StrLaws.partsBetween_eq, parts_run x y hy x 0 0 0 rfl (Nat.zero_le _) (.inl ⟨rfl, Nat.le_refl _⟩)]
  simp only [Nat.sub_self, List.take_zero]
  exact preH_nil _ (splitG_ne y 0 x)
def joinL (z : List Nat) : List (List Nat) → List Nat
  | [] => []
  | [p] => p
  | p :: q :: r => p ++ z ++ joinL z (q :: r)
theorem join_list (z : List Nat) : ∀ l : List Str, (Str.join (LS z) l).cps.toList = joinL z (l.map fun p => p.cps.toList)
  | [] => rfl
  | [p] => rfl
  | p :: q :: r => by
    show (p ++ LS z ++ Str.join (LS z) (q :: r)).cps.toList = p.cps.toList ++ z ++ joinL z ((q :: r).map fun p => p.cps.toList)
    rw [Str.cps_append, Str.cps_append, ← join_list z (q :: r)]
    simp
theorem splitG_none (y : List Nat) (x : List Nat) (hy : 0 < y.length) (h : occG y 0 0 x = []) : splitG y 0 x = [x] := by
  rw [← parts_all x y hy, h]
  simp [partsBetween, StrLaws.strSub_toList, Str.length]
def replG (y z : List Nat) : Nat → List Nat → List Nat
  | _, [] => []
  | k + 1, _ :: r => replG y z k r
  | 0, c :: r => if y.isPrefixOf (c :: r) = true then z ++ replG y z (y.length - 1) r else c :: replG y z 0 r
theorem joinL_split (y z : List Nat) : ∀ (k : Nat) (r : List Nat), joinL z (splitG y k r) = replG y z k r
  | _, [] => rfl
  | k + 1, _ :: r => joinL_split y z k r
  | 0, c :: r => by
    have h1 := joinL_split y z 0 r
    have h2 := joinL_split y z (y.length - 1) r
    simp only [splitG, replG]
    split
    · obtain ⟨p, ps, e⟩ := splitG_ne y (y.length - 1) r
      rw [← h2, e]; simp [joinL]
    · obtain ⟨p, ps, e⟩ := splitG_ne y 0 r
      rw [← h1, e]
      cases ps <;> simp [joinL, consH]
theorem replace_eq (x y z : List Nat) (hy : 0 < y.length) : (Txt.replace (LS x) (LS y) (LS z)).cps.toList = replG y z 0 x := by
  unfold Txt.replace
  have e0 : (LS x).length = x.length := by simp [Str.length]
  have e1 : (LS y).length = y.length := by simp [Str.length]
  rw [e0, e1, occ_all x y hy]
  have hb : (y.length == 0) = false := beq_eq_false_iff_ne.mpr (by omega)
  rw [hb, Bool.false_and, Bool.or_false]
  split
  · rename_i h
    have := splitG_none y x hy (by simpa using h)
    rw [← joinL_split, this]; simp [joinL]
  · rw [StrLaws.glued_eq_join, join_list, parts_all x y hy, joinL_split]
theorem split_eq (x : List Nat) (c : Nat) (hc : c < 256) : (Txt.split (LS x) (LS [c])).map (fun p => p.cps.toList) = splitG [c] 0 x := by
  unfold Txt.split
  have e0 : (LS x).length = x.length := by simp [Str.length]
  have e1 : (LS [c]).length = 1 := by simp [Str.length]
  have hk : Builtin.Str.strKind (LS [c]) = 1 := by simp [Builtin.Str.strKind, hc]
  have hx : ¬ Builtin.Str.strKind (LS x) < 1 := by unfold Builtin.Str.strKind; split <;> (try split) <;> omega
  rw [e0, e1, hk, decide_eq_false hx, Bool.or_false, occ_all x [c] (by simp)]
  split
  · rename_i h
    have : x = [] := by simpa using h
    subst this; rfl
  · split
    · rename_i h
      rw [splitG_none [c] x (by simp) (by simpa using h)]; simp
    · exact parts_all x [c] (by simp)
theorem replG_one (c : Nat) (z : List Nat) : ∀ x : List Nat, replG [c] z 0 x = x.flatMap fun d => if d = c then z else [d]
  | [] => rfl
  | d :: r => by
    simp only [replG, List.flatMap_cons]
    by_cases h : d = c
    · rw [if_pos ((isPre_one c d r).mpr h), if_pos h]
      simp [replG_one c z r]
    · rw [if_neg (fun e => h ((isPre_one c d r).mp e)), if_neg h]
      simp [replG_one c z r]

/-! rfind, rstrip, times -/
def rfnd (c : Nat) : List Nat → Int
  | [] => -1
  | d :: r => if 0 ≤ rfnd c r then rfnd c r + 1 else if d = c then 0 else -1
theorem rfnd_spec (c : Nat) : ∀ x : List Nat, (rfnd c x = -1 ∧ ∀ k : Nat, x[k]? ≠ some c) ∨ ∃ i : Nat, rfnd c x = i ∧ x[i]? = some c ∧ ∀ k : Nat, i < k → x[k]? ≠ some c
  | [] => .inl ⟨rfl, by simp⟩
  | d :: r => by
    rcases rfnd_spec c r with ⟨h1, h2⟩ | ⟨i, h1, h2, h3⟩
    · have e : rfnd c (d :: r) = if d = c then 0 else -1 := by simp only [rfnd]; rw [h1]; simp
      rw [e]
      by_cases hd : d = c
      · rw [if_pos hd]
        refine .inr ⟨0, rfl, by simp [hd], fun k hk => ?_⟩
        obtain ⟨j, rfl⟩ : ∃ j, k = j + 1 := ⟨k - 1, by omega⟩
        simpa using h2 j
      · rw [if_neg hd]
        refine .inl ⟨rfl, fun k => ?_⟩
        cases k with
        | zero => simpa using hd
        | succ j => simpa using h2 j
    · have e : rfnd c (d :: r) = ((i + 1 : Nat) : Int) := by simp only [rfnd]; rw [h1]; simp
      refine .inr ⟨i + 1, e, by simpa using h2, fun k hk => ?_⟩
      obtain ⟨j, rfl⟩ : ∃ j, k = j + 1 := ⟨k - 1, by omega⟩
      simpa using h3 j (by omega)
theorem rfind_eq (x : List Nat) (c : Nat) : Txt.rfind (LS x) (LS [c]) = rfnd c x := by
  unfold Txt.rfind
  have at1 : ∀ i, StrLaws.At (LS x) (LS [c]) (LS x).length i ↔ x[i]? = some c := fun i => by have := StrLaws.subAt_one (LS x) c i; rwa [show (LS x).cps.toList = x from rfl] at this
  rcases StrLaws.last_spec (LS x) (LS [c]) with ⟨h0, h1⟩ | ⟨i, h0, h1, h2⟩
  · rw [h0]
    rcases rfnd_spec c x with ⟨g1, _⟩ | ⟨j, _, g2, _⟩
    · exact g1.symm
    · exact absurd ((at1 j).mpr g2) (h1 j)
  · rw [h0]
    rcases rfnd_spec c x with ⟨_, g2⟩ | ⟨j, g1, g2, g3⟩
    · exact absurd ((at1 i).mp h1) (g2 i)
    · have : i = j := by
        rcases Nat.lt_trichotomy i j with h | h | h
        · exact absurd ((at1 j).mpr g2) (h2 j h)
        · exact h
        · exact absurd ((at1 i).mp h1) (g3 i h)
      rw [this]; exact g1.symm
/-- how many c stand at the end -/
def trail (c : Nat) (x : List Nat) : Nat := (x.reverse.takeWhile (· == c)).length
theorem rstrip_eq (x : List Nat) (c : Nat) : (Txt.rstripChars (LS x) (LS [c])).cps.toList = x.take (x.length - trail c x) := by
  unfold Txt.rstripChars
  rw [PyProof.Rows.stripBy_eq, StrLaws.strSub_toList]
  have : (fun d => (LS [c]).cps.contains d) = (fun d => d == c) := by funext d; rw [Bool.eq_iff_iff]; simp
  simp only [stripLo, stripHi, if_true, Bool.false_eq_true, if_false, Nat.sub_zero, List.drop_zero]
  show List.take (x.length - (List.takeWhile (fun d => (LS [c]).cps.contains d) x.reverse).length) x = _
  rw [this]; rfl
theorem trail_le (c : Nat) (x : List Nat) : trail c x ≤ x.length := by
  have := (List.takeWhile_prefix (· == c) (l := x.reverse)).length_le
  simpa [trail] using this
theorem mul_eq (c : Nat) (n : Int) : (Txt.mul (LS [c]) n).cps.toList = List.replicate n.toNat c := PyProof.Rows.mul_one_list c n
end Mine
end

section
set_option maxRecDepth 10000
set_option linter.unusedVariables false
set_option linter.unusedSimpArgs false
namespace Mine
open PySem

section
variable {B : Base} {n : Nat} {b : Bool} {sc : Scope} {σ : Sto} {P : PV → Prop}

/-! equality of what is alike -/
def flat : Nat → PV → Bool
  | _, .none => true
  | _, .bool _ => true
  | _, .int _ => true
  | _, .str _ => true
  | 0, _ => false
  | k + 1, .tup l => l.all (flat k)
  | k + 1, .list l => l.all (flat k)
theorem range_all_true (n : Nat) : (List.range n).all (fun _ => true) = true := by simp
theorem rc_list_at {h : Heap} {U : Addr → Prop} {l : List PV} {a c : Addr} {vs ws : List Value} {A : Around} {s : Shared} (hs : s.heap = h) (rv : Reps h U l vs) (rw' : Reps h U l ws)
    (ih : ∀ p ∈ l, ∀ v u, Rep h U p v → Rep h U p u → SeqAt.EqAt A s v u true) :
    ∀ j (h1 : j < vs.toArray.size) (h2 : j < ws.toArray.size), SeqAt.EqAt A s vs.toArray[j] ws.toArray[j] true := fun j h1 h2 => by
  have hj : j < l.length := by rw [← rv.length]; simpa using h1
  have hp : l[j]? = some l[j] := by simp [hj]
  obtain ⟨v, e1, r1⟩ := rv.get hp
  obtain ⟨u, e2, r2⟩ := rw'.get hp
  have g1 : vs.toArray[j] = v := by
    have := List.getElem?_eq_some_iff.mp e1
    obtain ⟨_, e⟩ := this; simpa using e
  have g2 : ws.toArray[j] = u := by
    have := List.getElem?_eq_some_iff.mp e2
    obtain ⟨_, e⟩ := this; simpa using e
  rw [g1, g2]
  exact ih l[j] (List.getElem_mem hj) v u r1 r2
theorem eqAt_same (U : Addr → Prop) : ∀ (k : Nat) (p : PV) (A : Around) (s : Shared) (v u : Value), flat k p = true → A.units + k < cLine → Rep s.heap U p v → Rep s.heap U p u → SeqAt.EqAt A s v u true := by
  intro k
  induction k with
  | zero =>
    intro p A s v u hf hu rv ru
    cases p with
    | none => rw [rep_none.mp rv, rep_none.mp ru]; exact .same _
    | bool x => rw [rep_bool.mp rv, rep_bool.mp ru]; exact .same _
    | int x => obtain ⟨t, rfl⟩ := rep_int.mp rv; obtain ⟨t', rfl⟩ := rep_int.mp ru; have := SeqAt.EqAt.int_int (A := A) (s := s) x t x t'; simpa using this
    | str x => obtain ⟨t, rfl⟩ := rep_str.mp rv; obtain ⟨t', rfl⟩ := rep_str.mp ru; have := SeqAt.EqAt.str_str (A := A) (s := s) (LS x) t (LS x) t'; simpa using this
    | _ => simp [flat] at hf
  | succ k ih =>
    intro p A s v u hf hu rv ru
    cases p with
    | none => rw [rep_none.mp rv, rep_none.mp ru]; exact .same _
    | bool x => rw [rep_bool.mp rv, rep_bool.mp ru]; exact .same _
    | int x => obtain ⟨t, rfl⟩ := rep_int.mp rv; obtain ⟨t', rfl⟩ := rep_int.mp ru; have := SeqAt.EqAt.int_int (A := A) (s := s) x t x t'; simpa using this
    | str x => obtain ⟨t, rfl⟩ := rep_str.mp rv; obtain ⟨t', rfl⟩ := rep_str.mp ru; have := SeqAt.EqAt.str_str (A := A) (s := s) (LS x) t (LS x) t'; simpa using this
    | tup l =>
      obtain ⟨a, vs, rfl, _, hl, hr⟩ := rep_tup.mp rv; obtain ⟨a', ws, rfl, _, hl', hr'⟩ := rep_tup.mp ru
      by_cases e : a = a'
      · subst e; exact .same _
      · refine .of_refs e ?_
        have := SeqAt.RcAt.tuples (e := fun _ => true) hl hl' (show A.units < cLine by omega) (rc_list_at (a := a) (c := a') rfl hr hr' fun p hp v u r1 r2 => ih p A.in1 s v u (by simp only [flat, List.all_eq_true] at hf; exact hf p hp) (by show A.units + 1 + k < cLine; omega) r1 r2)
        simpa [hr.length, hr'.length, range_all_true] using this
    | list l =>
      obtain ⟨a, vs, rfl, _, hl, hr⟩ := rep_list.mp rv; obtain ⟨a', ws, rfl, _, hl', hr'⟩ := rep_list.mp ru
      by_cases e : a = a'
      · subst e; exact .same _
      · refine .of_refs e ?_
        have := SeqAt.RcAt.lists (e := fun _ => true) hl hl' (by simp [hr.length, hr'.length]) (show A.units < cLine by omega) (rc_list_at (a := a) (c := a') rfl hr hr' fun p hp v u r1 r2 => ih p A.in1 s v u (by simp only [flat, List.all_eq_true] at hf; exact hf p hp) (by show A.units + 1 + k < cLine; omega) r1 r2)
        simpa [range_all_true] using this
theorem Room.units' {A : Around} (r : Room n b A) : A.units ≤ 9000 := by have := r.units; omega
theorem cmp_eql {l : List PV} (hf : flat 3 (.list l) = true) (h : P (.bool true)) : Op2 B n b (compareOp .Eq) (.list l) (.list l) P := fun A U s E v u hR _ rv ru => by
  obtain ⟨a, vs, rfl, _, hl, hr⟩ := rep_list.mp rv; obtain ⟨a', ws, rfl, _, hl', hr'⟩ := rep_list.mp ru
  have hu : A.units ≤ 9000 := hR.units'
  have := SeqAt.eq_listAt (prog := B.prog) (w := B.w) (E := E) (Q := Post U s P) (e := fun _ => true) hl hl' (by simp [hr.length, hr'.length]) (show A.units < 9900 by omega) (rc_list_at (a := a) (c := a') rfl hr hr' fun p hp v u r1 r2 => eqAt_same U 2 p A.in1 s v u (by simp only [flat, List.all_eq_true] at hf; exact hf p hp) (by show A.units + 1 + 2 < 9900; omega) r1 r2)
  exact this (by rw [range_all_true]; exact .bool h (.refl _))
theorem cmp_nel {l : List PV} (hf : flat 3 (.list l) = true) (h : P (.bool false)) : Op2 B n b (compareOp .NotEq) (.list l) (.list l) P := fun A U s E v u hR _ rv ru => by
  obtain ⟨a, vs, rfl, _, hl, hr⟩ := rep_list.mp rv; obtain ⟨a', ws, rfl, _, hl', hr'⟩ := rep_list.mp ru
  have hu : A.units ≤ 9000 := hR.units'
  have := SeqAt.RcNeAt.lists (e := fun _ => true) hl hl' (by simp [hr.length, hr'.length]) (show A.units < 9900 by omega) (rc_list_at (a := a) (c := a') rfl hr hr' fun p hp v u r1 r2 => eqAt_same U 2 p A.in1 s v u (by simp only [flat, List.all_eq_true] at hf; exact hf p hp) (by show A.units + 1 + 2 < 9900; omega) r1 r2)
  exact this B.prog B.w E _ (by rw [range_all_true]; exact .bool h (.refl _))
theorem cmp_neb {x y : Bool} (h : P (.bool (x != y))) : Op2 B n b (compareOp .NotEq) (.bool x) (.bool y) P := fun A U s E v u hR _ rv ru => by
  rw [rep_bool.mp rv, rep_bool.mp ru]
  exact SeqAt.RcNeAt.bool_bool x y B.prog B.w E _ (.bool h (.refl _))

/-! in -/
theorem cmp_ins {x y : List Nat} (hy : 0 < y.length) (h : P (.bool (hasG y x))) : Op2 B n b (compareOp .In) (.str y) (.str x) P := fun A U s E v u _ _ hv hu => by
  obtain ⟨t, rfl⟩ := rep_str.mp hv; obtain ⟨t', rfl⟩ := rep_str.mp hu
  exact PySem.P.in_str (by rw [in_eq x y hy]; exact .bool h (.refl _))
theorem cmp_nins {x y : List Nat} (hy : 0 < y.length) (h : P (.bool (!hasG y x))) : Op2 B n b (compareOp .NotIn) (.str y) (.str x) P := fun A U s E v u _ _ hv hu => by
  obtain ⟨t, rfl⟩ := rep_str.mp hv; obtain ⟨t', rfl⟩ := rep_str.mp hu
  exact PySem.P.notIn_str (by rw [in_eq x y hy]; exact .bool h (.refl _))
abbrev strL (l : List (List Nat)) : List PV := l.map .str
theorem reps_strs {h : Heap} {U : Addr → Prop} : ∀ {l : List (List Nat)} {vs : List Value}, Reps h U (strL l) vs → PyProof.Rows.StrsAre vs (l.map fun x => LS x)
  | [], vs, r => by simp only [List.map_nil, Reps] at r; subst r; exact .nil
  | x :: l, vs, r => by
    simp only [List.map_cons, Reps] at r
    obtain ⟨v, r', rfl, h1, h2⟩ := r
    obtain ⟨t, rfl⟩ := rep_str.mp h1
    exact .cons _ t (reps_strs h2)
theorem any_str (l : List (List Nat)) (y : List Nat) : ((l.map fun x => LS x).any (· == LS y)) = l.contains y := by
  induction l with
  | nil => rfl
  | cons x l ih =>
    rw [List.map_cons, List.any_cons, ih, List.contains_cons]
    congr 1
    rw [Bool.eq_iff_iff, beq_iff_eq, beq_iff_eq]
    exact ⟨fun e => by injection e with e; exact (by simpa using e.symm), fun e => by rw [e]⟩
theorem cmp_inl {l : List (List Nat)} {y : List Nat} (h : P (.bool (l.contains y))) : Op2 B n b (compareOp .In) (.str y) (.list (strL l)) P := fun A U s E v u _ _ hv hu => by
  obtain ⟨t, rfl⟩ := rep_str.mp hv
  obtain ⟨a, vs, rfl, _, hl, hr⟩ := rep_list.mp hu
  exact PyProof.Rows.in_list_strs hl (reps_strs hr) (by rw [any_str]; exact .bool h (.refl _))

/-! methods of a text -/
theorem toksQ {M : Model} {A : Around} {E : Value → Shared → Prop} {s : Shared} {α : Type} {t : Sem α} {Q : α → Shared → Prop} (h : wpAny M A t (fun a s' => s.toks ≤ s'.toks → Q a s') (fun _ _ => True → False) s) : wpAny M A t Q E s :=
  wpAny_mono (wpAny_toks h) (fun _ _ x => x.2 x.1) (fun _ _ x => (x.2 trivial).elim)
theorem sm_rstrip {x : List Nat} {c : Nat} (hz : x.length ≤ 16777216) (h : P (.str (x.take (x.length - trail c x)))) : Op2 B n b (fun v u => call (.builtin "str.rstrip") [v, u]) (.str x) (.str [c]) P := fun A U s E v u _ _ hv hu => by
  obtain ⟨t, rfl⟩ := rep_str.mp hv; obtain ⟨t', rfl⟩ := rep_str.mp hu
  refine toksQ (SC.rstripChars (fun t' k htk => Post.str' ?_ (.tok htk)) (by simpa [Str.length, sizeLine] using hz))
  rw [rstrip_eq]; exact h
theorem sm_count {x : List Nat} {c : Nat} (h : P (.int (x.count c : Nat))) : Op2 B n b (fun v u => call (.builtin "str.count") [v, u]) (.str x) (.str [c]) P := fun A U s E v u _ _ hv hu => by
  obtain ⟨t, rfl⟩ := rep_str.mp hv; obtain ⟨t', rfl⟩ := rep_str.mp hu
  exact SC.count (by rw [count_eq]; exact .int h .tok1)
theorem sm_find {x : List Nat} {c : Nat} (h : P (.int (fnd c 0 x))) : Op2 B n b (fun v u => call (.builtin "str.find") [v, u]) (.str x) (.str [c]) P := fun A U s E v u _ _ hv hu => by
  obtain ⟨t, rfl⟩ := rep_str.mp hv; obtain ⟨t', rfl⟩ := rep_str.mp hu
  exact SC.find (by rw [find_eq]; exact .int h .tok1)
theorem sm_rfind {x : List Nat} {c : Nat} (h : P (.int (rfnd c x))) : Op2 B n b (fun v u => call (.builtin "str.rfind") [v, u]) (.str x) (.str [c]) P := fun A U s E v u _ _ hv hu => by
  obtain ⟨t, rfl⟩ := rep_str.mp hv; obtain ⟨t', rfl⟩ := rep_str.mp hu
  exact SC.rfind (by rw [rfind_eq]; exact .int h .tok1)
theorem reps3 {h : Heap} {U : Addr → Prop} {p q r : PV} {vs : List Value} (x : Reps h U [p, q, r] vs) : ∃ v u w, vs = [v, u, w] ∧ Rep h U p v ∧ Rep h U q u ∧ Rep h U r w := by
  simp only [Reps] at x
  obtain ⟨v, _, rfl, h1, u, _, rfl, h2, w, _, rfl, h3, rfl⟩ := x
  exact ⟨v, u, w, rfl, h1, h2, h3⟩
theorem sm_find3 {x : List Nat} {c : Nat} {i : Int} (hi : 0 ≤ i) (h : P (.int (fnd c i.toNat (x.drop i.toNat)))) : OpN B n b (fun vs => call (.builtin "str.find") vs) [.str x, .str [c], .int i] P := fun A U s E vs _ _ rs => by
  obtain ⟨v, u, w, rfl, h1, h2, h3⟩ := reps3 rs
  obtain ⟨t, rfl⟩ := rep_str.mp h1; obtain ⟨t', rfl⟩ := rep_str.mp h2; obtain ⟨t3, rfl⟩ := rep_int.mp h3
  obtain ⟨k, rfl⟩ := Int.eq_ofNat_of_zero_le hi
  exact SC.find3 (by rw [find3_eq]; exact .int h .tok1)
theorem reps_of_strs {h : Heap} {U : Addr → Prop} : ∀ {l : List (Str × Tok)}, Reps h U (strL (l.map fun p => p.1.cps.toList)) (strValues l)
  | [] => .nil
  | p :: l => .cons (rep_str.mpr ⟨p.2, by simp⟩) reps_of_strs
theorem sm_split {x : List Nat} {c : Nat} (hc : c < 256) (hz : x.length ≤ 16777000) (h : P (.list (strL (splitG [c] 0 x)))) : Op2 B n b (fun v u => call (.builtin "str.split") [v, u]) (.str x) (.str [c]) P := fun A U s E v u _ ok hv hu => by
  obtain ⟨t, rfl⟩ := rep_str.mp hv; obtain ⟨t', rfl⟩ := rep_str.mp hu
  have hs := split_eq x c hc
  have fin : ∀ (l : List (Str × Tok)) (k : Nat), l.map (·.1) = Txt.split (LS x) (LS [c]) → s.toks ≤ k → Post U s P (.ref s.heap.objs.size) { s with toks := k, heap := s.heap.push { cls := .type "list", data := .seq (strValues l).toArray } } := fun l k hl hk => by
    refine ⟨_, h, rep_list.mpr ⟨_, strValues l, rfl, ok.fresh (get?_size _), ⟨_, Heap.get?_push_size _ rfl, rfl, _, rfl⟩, ?_⟩, .of_heap0 (fun _ _ e => Heap.get?_push_of_some _ e) hk⟩
    rw [← hs, ← hl, List.map_map]
    exact reps_of_strs
  have hx0 : (LS x).length ≤ sizeLine := by simp [Str.length, sizeLine]; omega
  have hparts : (Builtin.Str.partsBetween (LS x) (Builtin.Str.occurrences (LS x) (LS [c]) 0 (LS x).length ((LS x).length + 1)) (LS [c]).length).length ≤ sizeLine := by
    have h1 := StrLaws.occ_length_le (LS x) (LS [c]) 0 (LS x).length ((LS x).length + 1)
    have e0 : (LS x).length = x.length := by simp [Str.length]
    simp [Builtin.Str.partsBetween, sizeLine]
    rw [e0] at h1 ⊢
    omega
  cases h1 : (decide ((LS x).length < (LS [c]).length) || decide (Builtin.Str.strKind (LS x) < Builtin.Str.strKind (LS [c])))
  · cases hf : (Builtin.Str.occurrences (LS x) (LS [c]) 0 (LS x).length ((LS x).length + 1)).isEmpty
    · refine call_meets F.slot_str_split (typeIs_str _ _ _) F.entry_str_split (F.args_str_split_2 _ _) (meets_str_split_sep (LS x) (LS [c]) t t' h1 rfl hf hx0 hparts) ?_
      show wants _ _ _ { s with toks := _, heap := s.heap.push { cls := .type "list", data := .seq (strsFrom s.toks (Builtin.Str.partsBetween (LS x) (Builtin.Str.occurrences (LS x) (LS [c]) 0 (LS x).length ((LS x).length + 1)) (LS [c]).length)).toArray } }
      rw [strsFrom_eq]
      exact fin (numbered s.toks _) _ ((numbered_texts _ _).trans ((if_neg (ne_true_of_eq_false h1)).trans (if_neg (ne_true_of_eq_false hf))).symm) (Nat.le_add_right _ _)
    · exact call_meets F.slot_str_split (typeIs_str _ _ _) F.entry_str_split (F.args_str_split_2 _ _) (meets_str_split_not_found (LS x) (LS [c]) t t' h1 rfl hf)
        (fin [(LS x, t)] s.toks ((if_neg (ne_true_of_eq_false h1)).trans (if_pos hf)).symm (Nat.le_refl _))
  · exact call_meets F.slot_str_split (typeIs_str _ _ _) F.entry_str_split (F.args_str_split_2 _ _) (meets_str_split_cannot_occur (LS x) (LS [c]) t t' h1)
      (fin [(LS x, t)] s.toks (if_pos h1).symm (Nat.le_refl _))
theorem sm_join {z : List Nat} {l : List (List Nat)} (hz : z.length ≤ 16) (hw : (l.map List.length).sum + l.length ≤ 1000000) (h : P (.str (joinL z l))) : Op2 B n b (fun v u => call (.builtin "str.join") [v, u]) (.str z) (.list (strL l)) P := fun A U s E v u _ ok hv hu => by
  obtain ⟨t, rfl⟩ := rep_str.mp hv
  obtain ⟨a, vs, rfl, _, hl, hr⟩ := rep_list.mp hu
  have e : ((l.map fun x => LS x).map fun p => p.cps.toList) = l := by simp [List.map_map, Function.comp_def]
  have e2 : ((l.map fun x => LS x).map (·.length)) = l.map List.length := by simp [List.map_map, Function.comp_def, Str.length]
  refine toksQ (PyProof.Rows.join_listW hl (reps_strs hr) (by simpa [Str.length] using hz) (by rw [e2]; simp; omega) fun t' k htk => Post.str' ?_ (.tok htk))
  show P (.str (Builtin.Str.glued (LS z) (l.map fun x => LS x)).cps.toList)
  rw [StrLaws.glued_eq_join, join_list, e]; exact h

/-! replace: fresh texts -/
def EvS (B : Base) (n : Nat) (b : Bool) (sc : Scope) (σ : Sto) (e : Expr) (Q : List Nat → Prop) : Prop :=
  ∀ A env U s E, Room n b A → EnvOk sc env → EInv B env σ U s → wpAny (model B.prog B.w) A (eval e env) (fun v s' => ∃ x t, v = .str ⟨List.toArray x⟩ t ∧ s.toks ≤ t ∧ Q x ∧ Ext0 s s') E s
theorem evs_const {x : Str} {k : Nat} {pos : Pos} {Q : List Nat → Prop} (h : Q x.cps.toList) : EvS B n b sc σ (.Constant (.str x) k pos) Q := fun A env U s E _ _ _ =>
  Calls.Constant_str ⟨_, _, by simp, Nat.le_refl _, h, .tok1⟩
theorem ev_replace {o e : Expr} {y : Str} {k : Nat} {ypos apos pos : Pos} (hy : 0 < y.cps.toList.length)
    (h : EvE B n b sc σ o fun p => ∃ x, p = .str x ∧ EvS B n b sc σ e fun z => y.cps.toList ≠ z ∧ x.length + (x.length + 1) * z.length ≤ 16777216 ∧ P (.str (replG y.cps.toList z 0 x)))
    (hbase : ∀ env, attributeBase o (Str.ofString "replace") env (eval o env) = eval o env := by intro _; rfl) (hs : ∀ env, starEach [.Constant (.str y) k ypos, e] env = [(false, eval (.Constant (.str y) k ypos) env), (false, eval e env)] := by intro _; rfl) (hline : (apos.endLine == pos.line) = true := by rfl) :
    EvE B n b sc σ (.Call (.Attribute o (Str.ofString "replace") apos) [.Constant (.str y) k ypos, e] [] pos) P := fun A env U s E hR hE hI => by
  refine Call_method2 (hbase env) (hs env) hline (wpAny_mono' (h A env U s E hR hE hI) ?_)
  rintro v s₁ ⟨p, ⟨x, rfl, hx⟩, rx, x₁⟩
  obtain ⟨tk, rfl⟩ := rep_str.mp rx
  refine ⟨"str", _, F.plainAttrs_str, F.slot_str_replace, F.type_str_replace, typeIs_str _ _ _, (fun _ e => nomatch e), Calls.callWith_builtin rfl (Calls.evalArgs_plain (Calls.spliced_cons (Calls.Constant_str ?_)))⟩
  have x₂ : Ext0 s₁ { s₁ with toks := s₁.toks + 1 } := .tok1
  have h1 := (hI.ok.ext x₁).toks
  refine Calls.spliced_cons (wpAny_mono' (hx A env U _ E hR hE ((hI.ext x₁).ext x₂)) ?_)
  rintro u s₃ ⟨z, tz, rfl, htz, ⟨hne, hb, hp⟩, x₃⟩
  refine Calls.spliced_nil ?_
  have htz' : s₁.toks + 1 ≤ tz := htz
  have ey : y = LS y.cps.toList := by simp
  have e0 : (LS x).length = x.length := by simp [Str.length]
  have ez : (LS z).length = z.length := by simp [Str.length]
  refine toksQ (SC.replace (show s₁.toks ≠ 0 by omega) (Nat.ne_of_gt (Nat.lt_of_lt_of_le (Nat.succ_pos _) htz')) (Nat.ne_of_lt htz') ?_ (by rw [e0, ez]; exact hb) fun t' k htk => Post.str' ?_ (((x₁.trans0 x₂).trans0 x₃).trans0 (.tok htk)))
  · rw [beq_eq_false_iff_ne]
    intro e; rw [e] at hne; exact hne (by simp)
  · rw [ey, replace_eq x _ z hy]; exact hp

/-! times, lists -/
theorem op_muls {c : Nat} {i : Int} (hi : i ≤ 100000) (hlo : -(2 ^ 63 : Int) ≤ i) (h : P (.str (List.replicate i.toNat c))) : Op2 B n b (binaryOp .Mult) (.str [c]) (.int i) P := fun A U s E v u _ _ hv hu => by
  obtain ⟨t, rfl⟩ := rep_str.mp hv; obtain ⟨t', rfl⟩ := rep_int.mp hu
  refine toksQ (SB.mul (PyProof.Rows.mulOk_of 1 100000 (by simp [Str.length]) (by simpa using hi) hlo (by omega) (by omega)) fun t' k htk => Post.str' ?_ (.tok htk))
  rw [mul_eq]; exact h
theorem op_addl {x y : List PV} (hz : x.length + y.length ≤ 1000000) (h : P (.list (x ++ y))) : Op2 B n b (binaryOp .Add) (.list x) (.list y) P := fun A U s E v u _ ok hv hu => by
  obtain ⟨a, vs, rfl, _, hl, hr⟩ := rep_list.mp hv; obtain ⟨a', ws, rfl, _, hl', hr'⟩ := rep_list.mp hu
  obtain ⟨⟨cls, dd, data, sl⟩, ho, hc, k, hd⟩ := id hl
  obtain ⟨⟨cls2, dd2, data2, sl2⟩, ho2, hc2, k2, hd2⟩ := id hl'
  simp only at hc hd hc2 hd2
  subst hc hd hc2 hd2
  have e : vs.toArray ++ ws.toArray = (vs ++ ws).toArray := by simp
  refine concat_meets ⟨_, ho, rfl⟩ ⟨_, ho2, rfl⟩ noFill_list_add seq_list_add F.slot_list_add F.entry_list_add (F.args_list_add_2 _ _) (PyProof.Rows.list_addW a a' vs.toArray ws.toArray k k2 dd dd2 sl sl2 (by simp [hr.length, hr'.length, sizeLine]; omega)) ⟨ho, ho2, ?_⟩
  rw [e]
  refine ⟨_, h, rep_list.mpr ⟨_, vs ++ ws, rfl, ok.fresh (get?_size _), ⟨_, Heap.get?_push_size _ rfl, rfl, _, rfl⟩, (hr.append hr').keep fun _ _ e => Heap.get?_push_of_some _ e⟩, .push⟩
theorem reps_ints {h : Heap} {U : Addr → Prop} : ∀ {l : List Int} {vs : List Value}, Reps h U (l.map .int) vs → ∃ xs : List (Int × Tok), vs = xs.map (fun p => .int p.1 p.2) ∧ xs.map (·.1) = l
  | [], vs, r => by simp only [List.map_nil, Reps] at r; subst r; exact ⟨[], rfl, rfl⟩
  | x :: l, vs, r => by
    simp only [List.map_cons, Reps] at r
    obtain ⟨v, r', rfl, h1, h2⟩ := r
    obtain ⟨t, rfl⟩ := rep_int.mp h1
    obtain ⟨xs, rfl, rfl⟩ := reps_ints h2
    exact ⟨(x, t) :: xs, rfl, rfl⟩
theorem preSum_list : ∀ (xs : List (Int × Tok)), preSum (numAt xs.toArray) xs.length = (xs.map (·.1)).sum := by
  intro xs
  have key : ∀ k, k ≤ xs.length → preSum (numAt xs.toArray) k = ((xs.take k).map (·.1)).sum := by
    intro k
    induction k with
    | zero => intro _; simp [preSum]
    | succ k ih =>
      intro hk
      have hlt : k < xs.length := by omega
      rw [List.take_add_one, List.map_append, List.sum_append, ← ih (by omega)]
      simp [preSum, numAt, hlt]
  have := key xs.length (Nat.le_refl _)
  simpa using this
theorem bi_sum {l : List Int} (h : P (.int l.sum)) : OpN B n true (fun vs => call (.builtin "sum") vs) [.list (l.map .int)] P := fun A U s E vs hR ok rs => by
  obtain ⟨v, rfl, rv⟩ := reps1 rs
  obtain ⟨a, ws, rfl, ha, hl, hr⟩ := rep_list.mp rv
  obtain ⟨xs, rfl, rfl⟩ := reps_ints hr
  refine toksQ (sum_intListG (xs := xs.toArray) hR.hand' (by simpa [intItems] using hl) fun h' tk t' hk htk => ?_)
  refine Post.int ?_ (.of_heap0 hk htk)
  rw [List.size_toArray, preSum_list]; exact h
end
end Mine
end

section
set_option maxRecDepth 10000
set_option linter.unusedVariables false
set_option linter.unusedSimpArgs false
namespace Mine
open PySem

section
variable {M : Model} {A : Around} {R : GenEnd} {Y : Protocol} {n : Nat} {s₀ : Shared} {c : Code} {fs : List Frame} {s : Shared} {env : Env}
  {K : Flow → Sem Fin} {H : Value → Sem Fin} {gd : Bool → Bool} {lv : List Value → List Value}

theorem seg_If {test : Expr} {th el : List Stmt} {pos : Pos}
    (h : wpAny M (A.over c fs) (isTrue test env (eval test env)) (fun b s' => if b = true then Seg M A R Y n s₀ c ((execs th env).wrap K H gd lv) fs s' else Seg M A R Y n s₀ c ((execs el env).wrap K H gd lv) fs s') (fun x s' => Seg M A R Y n s₀ c (H x) fs s') s) :
    Seg M A R Y n s₀ c ((exec (.If test th el pos) env).wrap K H gd lv) fs s := by
  rw [exec_If]
  show Seg M A R Y n s₀ c (.at pos fun _ => (isTrue test env (eval test env) >>= fun b => if b = true then execs th env else execs el env).wrap K H gd lv) fs s
  refine seg_at ?_
  rw [Sem.bind_eq_wrap', Sem.wrap_wrap]
  refine seg_wrap (wpAny_mono' h fun b s' hb => ?_)
  cases b <;> exact hb
/-- the frame that a loop leaves behind -/
def loopK (env : Env) (K : Flow → Sem Fin) (H : Value → Sem Fin) (gd : Bool → Bool) (lv : List Value → List Value) (r : Result) : Sem Fin :=
  ((match r with | .ok f => (.pure f : Sem Flow) | .error e => .raise e).onRaise fun (x : Value) => do
        if (← field x 1) == Value.none then unsupported "frame.own-activation:exception-without-traceback"
        setFlight x env.frame).wrap K H gd lv
theorem seg_For {tgt iter : Expr} {body orelse : List Stmt} {pos : Pos}
    (h : wpAny M (A.over c fs) (eval iter env) (fun x s₁ => wpAny M (A.over c fs) (pyIter x) (fun it s₂ =>
      ∀ p, Seg M A R Y n s₀ (.forLoop tgt it body orelse env) (M.den (.forLoop tgt it body orelse env)) (.ret (loopK env K H gd lv) none (gd false) (lv []) c p [] :: fs) s₂)
      (fun x s' => Seg M A R Y n s₀ c (H x) fs s') s₁) (fun x s' => Seg M A R Y n s₀ c (H x) fs s') s)
    (hs : ∀ x, foldedSetIterable iter env x = pure x := by intro _; rfl) :
    Seg M A R Y n s₀ c ((exec (.For tgt iter body orelse pos) env).wrap K H gd lv) fs s := by
  rw [exec_For]
  show Seg M A R Y n s₀ c (.at pos fun _ => (eval iter env >>= fun v => foldedSetIterable iter env v >>= fun x => (standAt iter.pos >>= fun _ => (holding [x] (pyIter x) >>= fun it => runOwn (.forLoop tgt it body orelse env) env))).wrap K H gd lv) fs s
  refine seg_at ?_
  rw [Sem.bind_eq_wrap', Sem.wrap_wrap]
  refine seg_wrap (wpAny_mono' h fun x s₁ h₁ => ?_)
  rw [hs]
  show Seg M A R Y n s₀ c (.at iter.pos fun _ => (holding [x] (pyIter x) >>= fun it => runOwn (.forLoop tgt it body orelse env) env).wrap K H gd lv) fs s₁
  refine seg_at ?_
  rw [Sem.bind_eq_wrap', Sem.wrap_wrap]
  refine seg_wrap (wpAny_holding (wpAny_mono' h₁ fun it s₂ h₂ => ?_))
  exact seg_call h₂
end
section
variable {prog : Program} {w : World} {A : Around} {R : GenEnd} {Y : Protocol} {n : Nat} {s₀ : Shared} {fs : List Frame} {s : Shared} {env : Env}
def noteH (env : Env) (e : Value) : Sem Fin := (do noteFrame e env; theTreesLotGoes e : Sem Unit).wrap (fun _ => .raise e) .raise id id
def turnK (tgt : Expr) (it : Value) (body orelse : List Stmt) (env : Env) (f : Flow) : Sem Fin := match f with
  | .next | .cont => .pure (.again (.forLoop tgt it body orelse env))
  | .brk => .pure (.done .next)
  | .ret v => .pure (.done (.ret v))
theorem seg_forLoop {tgt : Expr} {it : Value} {body orelse : List Stmt}
    (h : ∀ E, wpAny (model prog w) (A.over (.forLoop tgt it body orelse env) fs) (pyNext it) (fun r s₁ => match r with
        | none => Seg (model prog w) A R Y n s₀ (.block orelse env) ((model prog w).den (.block orelse env)) fs s₁
        | some v => ∀ E, wpAny (model prog w) (A.over (.forLoop tgt it body orelse env) fs) (letOwnedTupleGo tgt it v) (fun _ s₂ => ∀ E, wpAny (model prog w) (A.over (.forLoop tgt it body orelse env) fs) (assign tgt env v) (fun _ s₃ =>
            Seg (model prog w) A R Y n s₀ (.forLoop tgt it body orelse env) ((execs body env).wrap (turnK tgt it body orelse env) (noteH env) id id) fs s₃) E s₂) E s₁) E s) :
    Seg (model prog w) A R Y n s₀ (.forLoop tgt it body orelse env) ((model prog w).den (.forLoop tgt it body orelse env)) fs s := by
  show Seg _ A R Y n s₀ _ ((forTurn tgt it body orelse env).onRaise (fun x => do noteFrame x env; theTreesLotGoes x)) fs s
  unfold forTurn
  rw [Sem.onRaise_eq_wrap]
  show Seg _ A R Y n s₀ _ (.at tgt.pos fun _ => Sem.wrap _ _ _ _ (((pyNext it).onRaise (fun _ => standAt { tgt.pos with line := 0 })) >>= _)) fs s
  refine seg_at ?_
  rw [Sem.bind_eq_wrap', Sem.wrap_wrap]
  refine seg_wrap (wpAny_onRaise (wpAny_mono (h fun x s' => Seg (model prog w) A R Y n s₀ (.forLoop tgt it body orelse env) (noteH env x) fs s') (fun r s₁ h₁ => ?_) fun x s' hx => wpAny_standAt ?_))
  · cases r with
    | none => exact seg_again rfl h₁
    | some v =>
      show Seg _ A R Y n s₀ _ (Sem.wrap _ _ _ _ (letOwnedTupleGo tgt it v >>= fun _ => assign tgt env v >>= fun _ => execs body env >>= _)) fs s₁
      rw [Sem.bind_eq_wrap', Sem.wrap_wrap]
      refine seg_wrap (wpAny_mono' (h₁ _) fun _ s₂ h₂ => ?_)
      rw [Sem.bind_eq_wrap', Sem.wrap_wrap]
      refine seg_wrap (wpAny_mono' (h₂ _) fun _ s₃ h₃ => ?_)
      rw [Sem.bind_eq_wrap', Sem.wrap_wrap]
      rw [Sem.wrap_congr (execs body env) _ _ (K' := turnK tgt it body orelse env) (H' := noteH env) (fun f => by cases f <;> rfl)
        (fun e => by first | exact Sem.bind_eq_wrap _ _ | (show (do noteFrame e env; theTreesLotGoes e : Sem Unit).bind (fun _ => .raise e) = _; rw [Sem.bind_eq_wrap]; rfl))]
      exact h₃
  · first
      | exact hx
      | (show Seg _ A R Y n s₀ _ ((do noteFrame x env; theTreesLotGoes x : Sem Unit).bind fun _ => .raise x) fs s'; rw [Sem.bind_eq_wrap]; exact hx)
theorem seg_block_nil (h : Seg (model prog w) A R Y n s₀ (.block [] env) (.pure (.done .next)) fs s) : Seg (model prog w) A R Y n s₀ (.block [] env) ((model prog w).den (.block [] env)) fs s := h
end
end Mine
end

section
set_option maxRecDepth 10000
set_option linter.unusedVariables false
set_option linter.unusedSimpArgs false
namespace Mine
open PySem

structure ExtD (S₀ : Shared) (F : Addr → Prop) (G : Nat → Prop) (s s' : Shared) : Prop where
  keep1 : ∀ b o, ¬ F b → (S₀.heap.get? b).isSome = true → s.heap.get? b = some o → s'.heap.get? b = some o
  keep2 : ∀ b o, ¬ F b → (∀ vs, o.data ≠ .fields vs) → s.heap.get? b = some o → s'.heap.get? b = some o
  live : ∀ b, (S₀.heap.get? b).isSome = true → (s.heap.get? b).isSome = true → (s'.heap.get? b).isSome = true
  gsize : s.gens.size ≤ s'.gens.size
  gens : ∀ g, ¬ G g → g < s.gens.size → s'.gens[g]? = s.gens[g]?
  bare : PyProof.Rows.AllBare s.gens → PyProof.Rows.AllBare s'.gens
  os : s'.os = s.os
  toks : s.toks ≤ s'.toks
theorem ExtD.refl {S₀ : Shared} {F : Addr → Prop} {G : Nat → Prop} (s : Shared) : ExtD S₀ F G s s := ⟨fun _ _ _ _ e => e, fun _ _ _ _ e => e, fun _ _ h => h, Nat.le_refl _, fun _ _ _ => rfl, id, rfl, Nat.le_refl _⟩
theorem ExtD.trans {S₀ : Shared} {F : Addr → Prop} {G : Nat → Prop} {s s' s'' : Shared} (x : ExtD S₀ F G s s') (y : ExtD S₀ F G s' s'') : ExtD S₀ F G s s'' :=
  ⟨fun b o h1 h2 e => y.keep1 b o h1 h2 (x.keep1 b o h1 h2 e), fun b o h1 h2 e => y.keep2 b o h1 h2 (x.keep2 b o h1 h2 e), fun b h0 h => y.live b h0 (x.live b h0 h), Nat.le_trans x.gsize y.gsize, fun g hg h => (y.gens g hg (Nat.lt_of_lt_of_le h x.gsize)).trans (x.gens g hg h), fun h => y.bare (x.bare h), y.os.trans x.os, Nat.le_trans x.toks y.toks⟩
theorem Ext.toD {S₀ : Shared} {W F : Addr → Prop} {G : Nat → Prop} {s s' : Shared} (x : Ext W s s') (h : ∀ a, W a → F a ∧ (s'.heap.get? a).isSome = true) : ExtD S₀ F G s s' :=
  ⟨fun b o hb _ e => x.keep b o (fun hw => hb (h b hw).1) e, fun b o hb _ e => x.keep b o (fun hw => hb (h b hw).1) e, fun b _ hb => by
    by_cases hw : W b
    · exact (h b hw).2
    · obtain ⟨o, ho⟩ := Option.isSome_iff_exists.mp hb
      rw [x.keep b o hw ho]; rfl, x.gsize, fun g _ hg => x.gens g hg, x.bare, x.os, x.toks⟩
theorem Ext0.toD {S₀ : Shared} {F : Addr → Prop} {G : Nat → Prop} {s s' : Shared} (x : Ext0 s s') : ExtD S₀ F G s s' := Ext.toD x fun _ h => h.elim
theorem ExtG.thenD {W F : Addr → Prop} {G : Nat → Prop} {S₀ s s' : Shared} (x : ExtG W G S₀ s) (y : ExtD S₀ F G s s') (h : ∀ a, F a → W a) : ExtG W G S₀ s' :=
  ⟨fun b o hb e => y.keep1 b o (fun hf => hb (h b hf)) (by rw [e]; rfl) (x.keep b o hb e), Nat.le_trans x.gsize y.gsize, fun g hg hl => (y.gens g hg (Nat.lt_of_lt_of_le hl x.gsize)).trans (x.gens g hg hl), fun h => y.bare (x.bare h), y.os.trans x.os, Nat.le_trans x.toks y.toks⟩

mutual
theorem rep_seqW {h h' : Heap} {U : Addr → Prop} (hk : ∀ b o xs k, o.data = .seq xs k → h.get? b = some o → h'.get? b = some o) : ∀ {p : PV} {v : Value}, Rep h U p v → Rep h' U p v
  | .none, _, r => by simpa [Rep] using r
  | .bool _, _, r => by simpa [Rep] using r
  | .int _, _, r => by simpa [Rep] using r
  | .str _, _, r => by simpa [Rep] using r
  | .tup l, v, r => by
    obtain ⟨c, vs, rfl, hc, ⟨o, ho, h1, n, h2⟩, hr⟩ := rep_tup.mp r
    exact rep_tup.mpr ⟨c, vs, rfl, hc, ⟨o, hk c o _ _ h2 ho, h1, n, h2⟩, reps_seqW hk hr⟩
  | .list l, v, r => by
    obtain ⟨c, vs, rfl, hc, ⟨o, ho, h1, n, h2⟩, hr⟩ := rep_list.mp r
    exact rep_list.mpr ⟨c, vs, rfl, hc, ⟨o, hk c o _ _ h2 ho, h1, n, h2⟩, reps_seqW hk hr⟩
theorem reps_seqW {h h' : Heap} {U : Addr → Prop} (hk : ∀ b o xs k, o.data = .seq xs k → h.get? b = some o → h'.get? b = some o) : ∀ {l : List PV} {vs : List Value}, Reps h U l vs → Reps h' U l vs
  | [], _, r => by simpa [Reps] using r
  | p :: l, vs, r => by
    simp only [Reps] at r ⊢
    obtain ⟨v, r', rfl, h1, h2⟩ := r
    exact ⟨v, r', rfl, rep_seqW hk h1, reps_seqW hk h2⟩
end

structure ItrD (B : Base) (A : Around) (it : Value) (S₀ : Shared) (F P : Addr → Prop) (G : Nat → Prop) (items : List PV) (I : Nat → Shared → Prop) : Prop where
  stab : ∀ i s s' W, I i s → Ext W s s' → (∀ a, W a → ¬ P a ∧ ((S₀.heap.get? a).isSome = true ∨ ∀ o vs, s.heap.get? a = some o → o.data ≠ .fields vs)) → I i s'
  nonseq : ∀ i s a, I i s → F a → NonSeq s.heap a
  item : ∀ i s x U (Q : Option Value → Shared → Prop) E, items[i]? = some x → Ok B U s → (∀ b, U b → (S₀.heap.get? b).isSome = true) → I i s → (∀ v s', Rep s'.heap U x v → I (i + 1) s' → ExtD S₀ F G s s' → Q (some v) s') → wpAny (model B.prog B.w) A (pyNext it) Q E s
  done : ∀ s U (Q : Option Value → Shared → Prop) E, Ok B U s → I items.length s → (∀ s', ExtD S₀ F G s s' → Q none s') → wpAny (model B.prog B.w) A (pyNext it) Q E s
  go : ∀ i tgt s v (Q : Unit → Shared → Prop) E, I i s → Q () s → wpAny (model B.prog B.w) A (letOwnedTupleGo tgt it v) Q E s
  self : ∀ i s (Q : Value → Shared → Prop) E, I i s → Q it s → wpAny (model B.prog B.w) A (pyIter it) Q E s
def GenOk (B : Base) (s : Shared) (items : List PV) (it : Value) (s' : Shared) : Prop :=
  Ext0 s s' ∧ (∃ a g, it = .ref a ∧ s'.heap.IsGen a g) ∧ ∃ F P G, (∀ a, F a → P a) ∧ (∀ a, it = .ref a → P a) ∧ (∀ a, P a → s.heap.get? a = none ∧ (s'.heap.get? a).isSome = true) ∧ (∀ g, G g → s.gens.size ≤ g) ∧
    ∀ A, Room 3 true A → ∃ I, ItrD B A it s' F P G items I ∧ I 0 s'
theorem GenOk.step {B : Base} {s s₁ s' : Shared} {items : List PV} {it : Value} (x : Ext0 s s₁) (h : GenOk B s₁ items it s') : GenOk B s items it s' := by
  obtain ⟨x', hg, F, P, G, h0, hp, h1, h2, h3⟩ := h
  refine ⟨x.trans0 x', hg, F, P, G, h0, hp, fun a ha => ⟨?_, (h1 a ha).2⟩, fun g hg => Nat.le_trans x.gsize (h2 g hg), h3⟩
  cases e : s.heap.get? a with
  | none => rfl
  | some o => have := (h1 a ha).1; rw [x.k0 a o e] at this; cases this

section
variable {B : Base} {n : Nat} {b : Bool} {sc : Scope} {σ : Sto} {V : Addr → Prop} {ow : Own}

def ItG (B : Base) (n : Nat) (sc : Scope) (σ : Sto) (e : Expr) (K : List PV → Prop) : Prop :=
  ∀ A env U s E, Room n true A → EnvOk sc env → EInv B env σ U s → wpAny (model B.prog B.w) A (eval e env) (fun x s₁ => ∃ items, K items ∧ GenOk B s items x s₁) E s

theorem Inv.extD {env : Env} {S₀ s s' : Shared} {F : Addr → Prop} {G : Nat → Prop} (k : Inv B env V σ ow s) (x : ExtD S₀ F G s s') (hF : ∀ a, F a → NonSeq s.heap a) (hm : ∀ a, MineA env ow a → ¬ F a ∧ (S₀.heap.get? a).isSome = true) (hu : ∀ a, Av V ow a → (S₀.heap.get? a).isSome = true) (hb : ∀ a o, B.h₀.get? a = some o → ¬ F a ∧ (S₀.heap.get? a).isSome = true) : Inv B env V σ ow s' := by
  have kk : ∀ a o, MineA env ow a → s.heap.get? a = some o → s'.heap.get? a = some o := fun a o h e => x.keep1 a o (hm a h).1 (hm a h).2 e
  have sq : ∀ b o xs k, o.data = .seq xs k → s.heap.get? b = some o → s'.heap.get? b = some o := fun b o xs k hd e => x.keep2 b o (fun hf => hF b hf o xs k e hd) (fun vs h => by rw [hd] at h; cases h) e
  have rp : ∀ {p : PV} {v : Value}, Rep s.heap (Av V ow) p v → Rep s'.heap (Av V ow) p v := fun r => rep_seqW sq r
  have rps : ∀ {p : List PV} {v : List Value}, Reps s.heap (Av V ow) p v → Reps s'.heap (Av V ow) p v := fun r => reps_seqW sq r
  obtain ⟨m, hn, hl, ho⟩ := k.loc
  refine ⟨⟨k.ok.good, fun c o e => x.keep1 c o (hb c o e).1 (hb c o e).2 (k.ok.keep c o e), x.bare k.ok.bare, fun c hc => x.live c (hu c hc) (k.ok.alive c hc), Nat.le_trans k.ok.toks x.toks⟩, ⟨m, ?_, fun y p h1 h2 => let ⟨v, e, r⟩ := hl y p h1 h2; ⟨v, e, rp r⟩, fun y a l e => ?_⟩, fun y hy => ?_, k.kinds, k.inj, k.new, k.vout⟩
  · obtain ⟨o, es, ep, h1, h2⟩ := hn; exact ⟨o, es, ep, kk _ _ (.inl rfl) h1, h2⟩
  · obtain ⟨h1, h2, vs, ⟨nn, h3⟩, h4⟩ := ho y a l e
    exact ⟨h1, h2, vs, ⟨nn, kk _ _ (.inr (.inr ⟨y, l, e⟩)) h3⟩, rps h4⟩
  · obtain ⟨c, ov, h1, ⟨o, h2, h2'⟩, h3⟩ := k.cel y hy
    exact ⟨c, ov, h1, ⟨o, kk _ _ (.inr (.inl ⟨y, hy, h1⟩)) h2, h2'⟩, fun p hp => let ⟨v, e, r⟩ := h3 p hp; ⟨v, e, rp r⟩⟩

theorem st_forG {tgt iter : Expr} {body : List Stmt} {pos : Pos} {post : Fl → Sto → Own → Prop} (hn : 3 ≤ n) (J : List PV → Nat → Sto → Own → Prop)
    (hit : ItG B n sc σ iter fun items => J items 0 σ ow ∧ (∀ i σ' ow', J items i σ' ow' → SameO ow ow') ∧
      (∀ i x σ' ow', items[i]? = some x → J items i σ' ow' → AsS B n sc V σ' ow' tgt x fun σ₁ => StL B n true sc V σ₁ ow' body fun φ σ₂ ow₂ => match φ with
        | .next | .cont => J items (i + 1) σ₂ ow₂
        | .brk => post .next σ₂ ow₂
        | .ret p => post (.ret p) σ₂ ow₂) ∧
      ∀ σ' ow', J items items.length σ' ow' → post .next σ' ow')
    (hs : ∀ env x, foldedSetIterable iter env x = pure x := by intro _ _; rfl) : StS B n true sc V σ ow (.For tgt iter body [] pos) post := fun A env s E hR hE hI => by
  refine wpAny_For (wpAny_mono' (hit A env _ s E hR hE (hI.einv hE)) ?_) (hs env)
  rintro it s₂ ⟨items, ⟨j0, jsame, jstep, jend⟩, x₂, ⟨ga, gg, rfl, hgen⟩, F, P, G, hFP, _, hP, hG, hIt⟩
  refine wpAny_pyIter_gen hgen ?_
  obtain ⟨I, IT, hI0⟩ := hIt A (hR.mono hn)
  have k₂ := hI.ext x₂
  have hF : ∀ a, F a → s.heap.get? a = none ∧ (s₂.heap.get? a).isSome = true := fun a ha => hP a (hFP a ha)
  have hPm : ∀ a, P a → ¬ MineA env ow a := fun a ha hm => by have := hI.mine_some hm; rw [(hP a ha).1] at this; cases this
  have hm0 : ∀ a, MineA env ow a → ¬ F a ∧ (s₂.heap.get? a).isSome = true := fun a hm => ⟨fun hf => hPm a (hFP a hf) hm, k₂.mine_some hm⟩
  have hb0 : ∀ a o, B.h₀.get? a = some o → ¬ F a ∧ (s₂.heap.get? a).isSome = true := fun a o e => ⟨(fun hf => by have := hI.ok.keep a o e; rw [(hF a hf).1] at this; cases this), (by rw [k₂.ok.keep a o e]; rfl)⟩
  refine codeAny_forLoop_any (fun k s' => ∃ i σ' ow', k = items.length + 1 - i ∧ i ≤ items.length ∧ J items i σ' ow' ∧ Inv B env V σ' ow' s' ∧ I i s' ∧ ExtG (fun a => MineA env ow a ∨ F a) G s₂ s') ?_ (items.length + 1)
    ⟨0, σ, ow, rfl, Nat.zero_le _, j0, k₂, hI0, .refl _⟩
  rintro k s' ⟨i, σ', ow', rfl, hi, hj, ki, hii, xx⟩
  have so := jsame i σ' ow' hj
  have hm' : ∀ a, MineA env ow' a → ¬ F a ∧ (s₂.heap.get? a).isSome = true := fun a hm => hm0 a (so.mine env ▸ hm)
  have hu' : ∀ a, Av V ow' a → (s₂.heap.get? a).isSome = true := fun a ha => k₂.ok.alive a (so.av V ▸ ha)
  have fin : ∀ {f : Flow} {φ : Fl} {σ₃ : Sto} {ow₃ : Own} {s₃ : Shared}, post φ σ₃ ow₃ → FlRep V s₃ f φ → Inv B env V σ₃ ow₃ s₃ → ExtG (fun a => MineA env ow a ∨ F a) G s₂ s₃ → Grows ow ow₃ s → SPost B env V ow s post f s₃ := fun hp hf hk hx hg =>
    ⟨_, _, _, hp, hf, hk, ExtG.out x₂ hx (fun a ha => ha.imp id fun h => (hF a h).1) hG, hg⟩
  by_cases hlt : i < items.length
  · obtain ⟨x, hxi⟩ : ∃ x, items[i]? = some x := ⟨items[i], by simp [hlt]⟩
    refine IT.item i s' x _ _ _ hxi ki.ok hu' hii fun v s₃ rv hi₃ x₃ => ?_
    have k₃ : Inv B env V σ' ow' s₃ := ki.extD x₃ (fun a ha => IT.nonseq i s' a hii ha) hm' hu' hb0
    refine IT.go (i + 1) tgt s₃ v _ _ hi₃ ?_
    refine wpAny_mono' (jstep i x σ' ow' hxi hj A env s₃ _ v hR hE k₃ rv) ?_
    rintro _ s₄ ⟨σ₄, hst, k₄, x₄⟩
    have mns : ∀ {s₃ : Shared} a, MineA env ow' a → ¬ P a ∧ ((s₂.heap.get? a).isSome = true ∨ ∀ o vs, s₃.heap.get? a = some o → o.data ≠ .fields vs) := fun a ha => ⟨fun hf => hPm a hf (so.mine env ▸ ha), .inl (hm' a ha).2⟩
    have hi₄ : I (i + 1) s₄ := IT.stab _ _ _ _ hi₃ x₄ mns
    refine wpAny_mono' (hst A env s₄ _ hR hE k₄) ?_
    rintro f s₅ ⟨φ, σ₅, ow₅, hp, hf, k₅, x₅, g₅⟩
    have hi₅ : I (i + 1) s₅ := IT.stab _ _ _ _ hi₄ x₅ mns
    have xx₄ : ExtG (fun a => MineA env ow a ∨ F a) G s₂ s₄ := (xx.thenD x₃ fun a ha => .inr ha).trans (x₄.toG fun a ha => .inl (so.mine env ▸ ha))
    have xx₅ : ExtG (fun a => MineA env ow a ∨ F a) G s₂ s₅ := xx₄.trans (x₅.toG fun a ha => .inl (so.mine env ▸ ha))
    have gr : Grows ow ow₅ s := fun y a l e => by
      rcases g₅ y a l e with ⟨y', l', e'⟩ | h
      · exact .inl ((so a).mp ⟨y', l', e'⟩)
      · cases e' : s.heap.get? a with
        | none => exact .inr rfl
        | some o =>
          by_cases hm : MineA env ow a ∨ F a
          · rcases hm with hm | hm
            · have := k₄.mine_some (so.mine env ▸ hm : MineA env ow' a); rw [h] at this; cases this
            · rw [(hF a hm).1] at e'; cases e'
          · have h1 := x₂.k0 a o e'
            have h2 := xx₄.keep a o hm h1
            rw [h] at h2; cases h2
    cases f with
    | next => cases φ with
      | next => exact ⟨items.length + 1 - (i + 1), by omega, i + 1, σ₅, ow₅, rfl, hlt, hp, k₅, hi₅, xx₅⟩
      | _ => cases hf
    | cont => cases φ with
      | cont => exact ⟨items.length + 1 - (i + 1), by omega, i + 1, σ₅, ow₅, rfl, hlt, hp, k₅, hi₅, xx₅⟩
      | _ => cases hf
    | brk => cases φ with
      | brk => exact fin (φ := .next) hp trivial k₅ xx₅ gr
      | _ => cases hf
    | ret v => cases φ with
      | ret p => exact fin (φ := .ret p) hp hf k₅ xx₅ gr
      | _ => cases hf
  · have hil : i = items.length := by omega
    subst hil
    refine IT.done s' _ _ _ ki.ok hii fun s₃ x₃ => wpAny_execs_nil ?_
    have k₃ : Inv B env V σ' ow' s₃ := ki.extD x₃ (fun a ha => IT.nonseq _ s' a hii ha) hm' hu' hb0
    exact fin (φ := .next) (jend σ' ow' hj) trivial k₃ (xx.thenD x₃ fun a ha => .inr ha) (so.grows s)
end

/-! a generator's own turns -/
section
variable {prog : Program} {w : World} {A : Around} {E : Value → Shared → Prop} {s : Shared}
theorem next_gen {a : Addr} {g n : Nat} {gs : GenState} {P : Nat → Shared → Shared → Prop} {Y : Protocol} {Q : Option Value → Shared → Prop} (hh : A.handled = none)
    (hl : s.heap.NoLimit) (hroom : A.depth < recursionLimit) (hg : s.heap.IsGen a g) (hgs : s.gens[g]? = some gs)
    (hgo : gs.Goes (model prog w) A.in1 (fun n s₀ r s₁ => r = .ok (.ret .none) ∧ P n s₀ s₁) Y n (.send .none) (s.setGen g .running))
    (hY : ∀ v s₁ gs', gs'.bare = true → Y (n - 1) (s.setGen g .running) v s₁ (fun r' s'' => match n with
        | 0 => False
        | m + 1 => gs'.Goes (model prog w) A.in1 (fun n s₀ r s₁ => r = .ok (.ret .none) ∧ P n s₀ s₁) Y m r' s'') → Q (some v) (s₁.setGen g gs'))
    (hP : ∀ s₁, P n (s.setGen g .running) s₁ → ∀ h', (∀ b o, s₁.heap.get? b = some o → h'.get? b = some o) → Q none { s₁.setGen g .finished with heap := h' }) :
    wpAny (model prog w) A (pyNext (.ref a)) Q E s := by
  unfold pyNext
  refine wpAny_bind (wpAny_attempt (wpAny_callSpecial?_slot (name := Str.ofString "__next__") hg.typeIs slot_gen_next (wpAny_call_entry slot_gen_next hg.typeIs entry_gen_next ?_ (args_gen_next _))))
  show wpAny _ A.in1 (Builtin.Generator.genWake (.ref a) (.send .none)) _ _ s
  unfold Builtin.Generator.genWake
  refine wpAny_bind (wpAny_holding (wpAny_genNumber hg (wpAny_bind (wpAny_genState hgs ?_))))
  cases gs with
  | running => exact hgo.elim
  | finished => exact hgo.elim
  | _ =>
    refine wpAny_bind (wpAny_roomToWake hl hroom ?_)
    refine wpAny_resumeQ hgs hgo (fun x s₁ hx => ?_) (fun v s₁ gs' hb hv => wpAny_pure ⟨v, rfl, wpAny_pure (hY v s₁ gs' hb hv)⟩)
    obtain ⟨rfl, hp⟩ := hx
    show wpAny _ A.in1 (newExc (.type "StopIteration") [] >>= _) _ _ _
    refine wpAny_bind ?_
    simp only [newExc, newTuple]
    refine wpAny_bind (wpAny_newObj_type ?_ (by size_fits))
    refine wpAny_bind (m := firstArgMember _ _) (wpAny_of_eq (a := Value.none) (by first | rfl | (simp only [firstArgMember]; rfl)) ?_)
    refine wpAny_newObj_type ?_ (by size_fits)
    simp only [raiseNew]
    refine wpAny_bind (wpAny_bind (wpAny_handled ?_))
    rw [show A.in1.handled = none from hh]
    refine wpAny_throw (wpAny_bind (wpAny_isInstance (T := "StopIteration") (b := true) ⟨_, Heap.get?_push_size _ rfl, rfl⟩ isSubtype_stop ?_))
    exact wpAny_pure (hP s₁ hp _ fun b o hb => Heap.get?_push_of_some _ (Heap.get?_push_of_some _ hb))
end
end Mine
end

section
set_option maxRecDepth 10000
set_option linter.unusedVariables false
set_option linter.unusedSimpArgs false
namespace Mine
open PySem

/-- a state that is no smaller than the first one -/
def Big (S₀ s : Shared) : Prop := ∃ a, S₀.heap.objs.size ≤ a + 1 ∧ (S₀.heap.get? a).isSome = true ∧ (s.heap.get? a).isSome = true
def Agr (S₀ : Shared) (L : Addr) (s s' : Shared) : Prop := (∀ o, s.heap.get? L = some o → s'.heap.get? L = some o) ∧ (∀ b o vs, S₀.heap.get? b = none → o.data = .fields vs → s.heap.get? b = some o → s'.heap.get? b = some o) ∧ Big S₀ s'
theorem Agr.refl {S₀ : Shared} {L : Addr} {s : Shared} (h : Big S₀ s) : Agr S₀ L s s := ⟨fun _ e => e, fun _ _ _ _ _ e => e, h⟩
theorem Agr.trans {S₀ : Shared} {L : Addr} {s s' s'' : Shared} (x : Agr S₀ L s s') (y : Agr S₀ L s' s'') : Agr S₀ L s s'' := ⟨fun o e => y.1 o (x.1 o e), fun b o vs h1 h2 e => y.2.1 b o vs h1 h2 (x.2.1 b o vs h1 h2 e), y.2.2⟩
theorem Big.of_gen {S₀ s : Shared} {a : Addr} {g : Nat} (hs : S₀.heap.objs.size ≤ a + 1) (ha : (S₀.heap.get? a).isSome = true) (h : s.heap.IsGen a g) : Big S₀ s := by
  obtain ⟨o, _, _, ho, _⟩ := h; exact ⟨a, hs, ha, by rw [ho]; rfl⟩
theorem Big.mono {S₀ s s' : Shared} {F : Addr → Prop} {G : Nat → Prop} (h : Big S₀ s) (x : ExtD S₀ F G s s') : Big S₀ s' := let ⟨a, h1, h0, h2⟩ := h; ⟨a, h1, h0, x.live a h0 h2⟩
abbrev N0 : Addr → Prop := fun _ => False
def FRep (S₀ s₀ s : Shared) (q : PV) (v : Value) : Prop := ∀ U : Addr → Prop, (∀ b, U b → (S₀.heap.get? b).isSome = true ∧ (s₀.heap.get? b).isSome = true) → Rep s.heap U q v
def Rg (S₀ : Shared) (L : Addr) (g : Nat) : GenEnd := fun n s₀ r s₁ => r = .ok (.ret .none) ∧ n = 0 ∧ ExtD S₀ (fun b => b = L) (fun j => j = g) s₀ s₁
def Yg (B : Base) (S₀ : Shared) (L : Addr) (g : Nat) (items : List PV) : Protocol := fun n s₀ v s₁ kap =>
  ∃ q, items[items.length - 1 - n]? = some q ∧ FRep S₀ s₀ s₁ q v ∧ ExtD S₀ (fun b => b = L) (fun j => j = g) s₀ s₁ ∧ (∃ m, s₁.heap.Ns L m) ∧ Ok B N0 s₁ ∧ ∀ s'', Ok B N0 s'' → Agr S₀ L s₁ s'' → kap (.send .none) s''
def GI (B : Base) (A : Around) (a : Addr) (g : Nat) (S₀ : Shared) (L : Addr) (items : List PV) (i : Nat) (s : Shared) : Prop :=
  s.heap.IsGen a g ∧ (∃ m, s.heap.Ns L m) ∧ ∃ gs, s.gens[g]? = some gs ∧ ∀ s'', Ok B N0 s'' → Agr S₀ L s s'' → gs.Goes (model B.prog B.w) A.in1 (Rg S₀ L g) (Yg B S₀ L g items) (items.length - i) (.send .none) s''

theorem setGen_get {s : Shared} {g : Nat} {x : GenState} (h : g < s.gens.size) : (s.setGen g x).gens[g]? = some x := by
  obtain ⟨y, hy⟩ : ∃ y, s.gens[g]? = some y := ⟨s.gens[g], Array.getElem?_eq_getElem h⟩
  exact setGen_self hy
theorem setGen_bare {s : Shared} {g : Nat} {x : GenState} (h : x.bare = true) (k : PyProof.Rows.AllBare s.gens) : PyProof.Rows.AllBare (s.setGen g x).gens := fun y hy => by
  have hy' : y ∈ s.gens.setIfInBounds g x := hy
  obtain ⟨i, hi, rfl⟩ := Array.mem_iff_getElem.mp hy'
  have hi' : i < s.gens.size := by rw [Array.size_setIfInBounds] at hi; exact hi
  rw [Array.getElem_setIfInBounds hi']
  split
  · exact h
  · exact k _ (Array.getElem_mem hi')
theorem setGen_extD {S₀ : Shared} {F : Addr → Prop} {g : Nat} {s : Shared} {x : GenState} (h : x.bare = true) : ExtD S₀ F (fun j => j = g) s (s.setGen g x) where
  keep1 := fun _ _ _ _ e => e
  keep2 := fun _ _ _ _ e => e
  live := fun _ _ e => e
  gsize := by show s.gens.size ≤ (s.gens.setIfInBounds g x).size; simp
  gens := fun j hj _ => by show (s.gens.setIfInBounds g x)[j]? = _; rw [Array.getElem?_setIfInBounds_ne (Ne.symm hj)]
  bare := setGen_bare h
  os := rfl
  toks := Nat.le_refl _
theorem Ok.low {B : Base} {U : Addr → Prop} {s : Shared} (k : Ok B U s) : Ok B N0 s := ⟨k.good, k.keep, k.bare, fun _ h => h.elim, k.toks⟩
theorem Ok.setGen {B : Base} {U : Addr → Prop} {s : Shared} {g : Nat} {x : GenState} (k : Ok B U s) (h : x.bare = true) : Ok B U (s.setGen g x) := ⟨k.good, k.keep, setGen_bare h k.bare, k.alive, k.toks⟩

theorem itr_gen {B : Base} {A : Around} {a : Addr} {g : Nat} {S₀ : Shared} {L : Addr} {items : List PV} (hR : Room 3 true A) (haL : a ≠ L) (haS : (S₀.heap.get? a).isSome = true) (hsz : S₀.heap.objs.size ≤ a + 1) :
    ItrD B A (.ref a) S₀ (fun b => b = L) (fun b => b = L ∨ b = a) (fun j => j = g) items (GI B A a g S₀ L items) where
  stab := fun i s s' W ⟨⟨o, nm, qn, ho, r⟩, ⟨m, o', es, ep, hn, r'⟩, gs, hgs, hgo⟩ x hW => by
    have agr : Agr S₀ L s s' := ⟨fun o e => x.keep L o (fun hw => (hW L hw).1 (.inl rfl)) e, fun b o vs h1 h2 e => x.keep b o (fun hw => (hW b hw).2.elim (fun h => by rw [h1] at h; cases h) fun h => h o vs e h2) e, ⟨a, hsz, haS, by rw [x.keep _ _ (fun hw => (hW a hw).1 (.inr rfl)) ho]; rfl⟩⟩
    refine ⟨⟨o, nm, qn, x.keep _ _ (fun hw => (hW a hw).1 (.inr rfl)) ho, r⟩, ⟨m, o', es, ep, agr.1 _ hn, r'⟩, gs, ?_, fun s'' k ag => hgo s'' k (agr.trans ag)⟩
    rw [x.gens g (by rcases Array.getElem?_eq_some_iff.mp hgs with ⟨h, _⟩; exact h)]; exact hgs
  nonseq := fun i s b ⟨_, ⟨m, hn⟩, _⟩ hb => by subst hb; exact ns_nonseq hn
  item := fun i s q U Q E hq ok hU ⟨hg, hn, gs, hgs, hgo⟩ hQ => by
    have hlt : i < items.length := by rcases List.getElem?_eq_some_iff.mp hq with ⟨h, _⟩; exact h
    obtain ⟨m, hm⟩ : ∃ m, items.length - i = m + 1 := ⟨items.length - i - 1, by omega⟩
    have hgz : g < s.gens.size := by rcases Array.getElem?_eq_some_iff.mp hgs with ⟨h, _⟩; exact h
    rw [hm] at hgo
    refine next_gen (P := fun n s₀ s₁ => n = 0 ∧ ExtD S₀ (fun b => b = L) (fun j => j = g) s₀ s₁) hR.hand' (ok.good.nolimit.keeps ok.keep) hR.lt hg hgs (hgo _ (ok.low.setGen rfl) (.refl (Big.of_gen (s := s) hsz haS hg))) (fun v s₁ gs' hb hv => ?_) (fun s₁ hp h' hk => absurd hp.1 (Nat.succ_ne_zero m))
    obtain ⟨q', hq', hr, x, hns, okN, hk⟩ := hv
    have hidx : items.length - 1 - (m + 1 - 1) = i := by omega
    rw [hidx, hq] at hq'; cases hq'
    refine hQ v _ (hr U fun b hb => ⟨hU b hb, ok.alive b hb⟩) ⟨?_, hns, gs', setGen_get (Nat.lt_of_lt_of_le (by simpa [Shared.setGen] using hgz) x.gsize), fun s'' k ag => ?_⟩ (((setGen_extD rfl).trans x).trans (setGen_extD hb))
    · obtain ⟨o, nm, qn, ho, r⟩ := hg
      exact ⟨o, nm, qn, x.keep1 a o haL haS ho, r⟩
    · have e : items.length - (i + 1) = m := by omega
      rw [e]
      exact hk s'' k ag
  done := fun s U Q E ok ⟨hg, hn, gs, hgs, hgo⟩ hQ => by
    rw [Nat.sub_self] at hgo
    refine next_gen (P := fun n s₀ s₁ => n = 0 ∧ ExtD S₀ (fun b => b = L) (fun j => j = g) s₀ s₁) hR.hand' (ok.good.nolimit.keeps ok.keep) hR.lt hg hgs (hgo _ (ok.low.setGen rfl) (.refl (Big.of_gen (s := s) hsz haS hg))) (fun v s₁ gs' hb hv => ?_) (fun s₁ hp h' hk => ?_)
    · obtain ⟨q', _, _, x, _, okN, hk⟩ := hv
      exact (hk s₁ okN (.refl ((Big.of_gen (s := s.setGen g .running) hsz haS hg).mono x))).elim
    · refine hQ _ (((setGen_extD rfl).trans hp.2).trans ((setGen_extD (x := .finished) rfl).trans ?_))
      exact Ext0.toD (.of_heap0 (tk := s₁.toks) hk (Nat.le_refl _))
  go := fun i tgt s v Q E ⟨⟨o, nm, qn, ho, hc, hd, _⟩, _⟩ hQ => go_class ho hc hd (by decide) hQ
  self := fun i s Q E ⟨hg, _⟩ hQ => wpAny_pyIter_gen hg hQ

section
variable {B : Base} {n : Nat} {b : Bool} {sc : Scope} {σ : Sto} {f : Str} {params : Arguments} {body : List Stmt}
def FnG (B : Base) (f : Str) (ps : List PV) (items : List PV) : Prop :=
  ∃ a o fd, B.mg f = some (.ref a) ∧ B.h₀.get? a = some o ∧ o.data = .func fd ∧ ∀ A U s vs, Room 3 true A → Ok B U s → Reps s.heap U ps vs →
    codeAny (model B.prog B.w) A (.call (.ref a) ⟨vs, []⟩) (fun r s' => ∃ v, r = .ok (.ret v) ∧ GenOk B s items v s') s
/-- what a generator's body has to give -/
def GBody (B : Base) (sc : Scope) (body : List Stmt) (σ : Sto) (items : List PV) : Prop :=
  ∀ A env S₀ g s, Room 2 true A → EnvOk sc env → Ok B N0 s → LocOk N0 env.locals σ s → B.h₀.get? env.locals = none → (S₀.heap.get? env.locals).isSome = true → (∀ c o, B.h₀.get? c = some o → (S₀.heap.get? c).isSome = true) → Big S₀ s →
    Seg (model B.prog B.w) A (Rg S₀ env.locals g) (Yg B S₀ env.locals g items) items.length s (.func body env) ((model B.prog B.w).den (.func body env)) [] s
theorem gen_def {p : Str} {x : List Nat} {items : List PV} (D : DefIn B f params body sc)
    (hbind : ∀ pm code doc v, bindArgs (Calls.docDef f params body sc pm code doc) ⟨[v], []⟩ = pure [(p, v)])
    (hkind : sc.names.lookup p = some .local) (hk : sc.kind = .function) (hco : sc.isCoroutine = false) (hgen : sc.isGenerator = true) (hcell : ∀ y ∈ sc.names, y.2 ≠ .cell)
    (h : GBody B sc body [(p, .str x)] items) : FnG B f [.str x] items := by
  obtain ⟨a, o, pm, code, doc, h1, h2, h3, h4⟩ := D.ex
  refine ⟨a, o, _, h1, h2, h3, fun A U s vs hR ok rs => ?_⟩
  obtain ⟨v, rfl, rv⟩ := reps1 rs
  obtain ⟨t, rfl⟩ := rep_str.mp rv
  refine codeAny_call_generator hR.lt (ok.keep _ _ h2) h3 hco hgen rfl (h4.keeps ok.keep) ?_
  rw [hbind pm code doc]
  have hx : ∀ y ∈ [(p, Value.str (LS x) t)], (Calls.docDef f params body sc pm code doc).scope.names.lookup y.1 = some .local := fun y hy => by rw [List.mem_singleton.mp hy]; exact hkind
  refine wpAny_pure (wpAny_newFunctionEnv hcell hx (fun h₃ hns hsb => ⟨?_, ?_⟩) hk)
  · exact (ok.good.nolimit.keeps ok.keep).keeps fun b o e => hsb.extBut b o (Nat.ne_of_lt (Heap.lt_size e)) (Heap.get?_push_of_some _ e)
  · dsimp only at hns hsb ⊢
    have old : ∀ b o, s.heap.get? b = some o → h₃.get? b = some o := fun b o e => hsb.extBut b o (Nat.ne_of_lt (Heap.lt_size e)) (Heap.get?_push_of_some _ e)
    have hsz : h₃.objs.size = s.heap.objs.size + 1 := by rw [hsb.1, Heap.size_push]
    generalize hen : newEnv (Calls.docDef f params body sc pm code doc).scope s.heap.objs.size (Calls.docDef f params body sc pm code doc).globals (Calls.docDef f params body sc pm code doc).closure ((Calls.docDef f params body sc pm code doc).qualname ++ ".<locals>.") (some a) (Calls.docDef f params body sc pm code doc).code none (Calls.docDef f params body sc pm code doc).builtins = env
    have e1 : env.locals = s.heap.objs.size := by subst hen; rfl
    have hE : EnvOk sc env := by subst hen; exact ⟨rfl, hk, rfl, rfl⟩
    generalize hob : ({ cls := .type "generator", data := .fields #[.int s.gens.size 0, .str (Calls.docDef f params body sc pm code doc).name (s.toks + [(p, Value.str (LS x) t)].length), .str (Calls.docDef f params body sc pm code doc).qualname (s.toks + [(p, Value.str (LS x) t)].length + 1)] } : Obj) = ob
    have x₁ : Ext0 s { heap := h₃.push ob, gens := s.gens.push (.fresh (.func body env)), drawn := s.drawn, toks := s.toks + [(p, Value.str (LS x) t)].length + 1 + 1, os := s.os } :=
      ⟨fun b o _ e => Heap.get?_push_of_some _ (old b o e), by simp, fun g hg => by rw [Array.getElem?_push_lt hg, Array.getElem?_eq_getElem hg], fun k => k.push rfl, rfl, by show s.toks ≤ s.toks + 1 + 1 + 1; omega⟩
    have hg : (h₃.push ob).IsGen h₃.objs.size s.gens.size := by subst hob; exact ⟨_, _, _, Heap.get?_push_size _ rfl, rfl, rfl, rfl⟩
    have nL : s.heap.get? s.heap.objs.size = none := get?_size _
    have hLl : ((h₃.push ob).get? s.heap.objs.size).isSome = true := by obtain ⟨o, _, _, ho, _⟩ := hns; rw [Heap.get?_push_of_some _ ho]; rfl
    have hal : ((h₃.push ob).get? h₃.objs.size).isSome = true := by obtain ⟨o, _, _, ho, _⟩ := hg; rw [ho]; rfl
    refine ⟨_, rfl, x₁, ⟨_, _, rfl, hg⟩, (fun b => b = s.heap.objs.size), (fun b => b = s.heap.objs.size ∨ b = h₃.objs.size), (fun j => j = s.gens.size), fun _ h => .inl h, (fun b e => by cases e; exact .inr rfl), (fun b hb => ?_), (fun g e => Nat.le_of_eq e.symm), fun A' hR' => ⟨_, itr_gen hR' (show h₃.objs.size ≠ s.heap.objs.size by omega) hal (by show (h₃.push ob).objs.size ≤ h₃.objs.size + 1; rw [Heap.size_push]; exact Nat.le_refl _), hg, ?_, _, Array.getElem?_push_size .., fun s'' k ag => ⟨rfl, ?_⟩⟩⟩
    · rcases hb with rfl | rfl
      · exact ⟨nL, hLl⟩
      · exact ⟨get?_ge (by omega), hal⟩
    · exact ⟨_, hns.push _⟩
    · have hR2 : Room 2 true A'.in1 := ⟨by show A'.depth + 2 ≤ 900; have := hR'.depth; omega, by show A'.units + 1 + 50 * 2 ≤ 9000; have := hR'.units; omega, hR'.hand⟩
      have := h A'.in1 env { heap := h₃.push ob, gens := s.gens.push (.fresh (.func body env)), drawn := s.drawn, toks := s.toks + [(p, Value.str (LS x) t)].length + 1 + 1, os := s.os } s.gens.size s'' hR2 hE k ?_ ?_ ?_ ?_ ag.2.2
      · rw [e1] at this; exact this
      · rw [e1]
        obtain ⟨o, es, ep, ho, r⟩ := hns
        refine ⟨_, ⟨o, es, ep, ag.1 o (Heap.get?_push_of_some _ ho), r⟩, fun y q hy => ?_⟩
        simp only [List.lookup_cons] at hy
        cases hyp : y == p with
        | false => rw [hyp] at hy; cases hy
        | true =>
          rw [hyp] at hy; cases hy
          exact ⟨.str (LS x) t, by simp [List.lookup_cons, hyp], rep_str.mpr ⟨t, rfl⟩⟩
      · rw [e1]; exact h0_none ok nL
      · rw [e1]; exact hLl
      · intro c o e; rw [x₁.k0 c o (ok.keep c o e)]; rfl
theorem it_gcall {q pos : Pos} {e : Expr} {x : List Nat} {K : List PV → Prop} {it : List Nat → List PV} (hf : sc.names.lookup f = some .globalImplicit) (hn : 3 ≤ n)
    (hF : ∀ x : List Nat, FnG B f [.str x] (it x)) (h : EvE B n true sc σ e fun p => ∃ x, p = .str x ∧ K (it x))
    (hs : ∀ env, starEach [e] env = [(false, eval e env)] := by intro _; rfl) (hd : (f == ("__debug__" : Str)) = false := by rfl)
    (hc : ∀ env, eval (.Call (.Name f q) [e] [] pos) env = (do callWith pos (← eval (.Name f q) env) [] (backTo pos (starEach [e] env)) (backToKw pos (keywordEach [] env))) := by intro _; rfl) :
    ItG B n sc σ (.Call (.Name f q) [e] [] pos) K := fun A env U s E hR hE hI => by
  obtain ⟨a, o, fd, g1, g2, g3, _⟩ := hF []
  rw [hc]
  refine wpAny_bind (name_glob hf g1 hd hE hI.ok ?_)
  show wpAny _ _ (callWith pos (.ref a) [] (backTo pos (starEach [e] env)) []) _ _ _
  rw [hs]
  refine Calls.callWith_function (o := o) (fd := fd) (Calls.evalArgs_plain (Calls.spliced_cons (wpAny_mono' (h A env U s E hR hE hI) ?_)))
  rintro v s₁ ⟨p, ⟨x, rfl, hk⟩, rp, x₁⟩
  refine Calls.spliced_nil ?_
  have ok₁ := hI.ok.ext x₁
  refine ⟨⟨ok₁.keep _ _ g2, g3⟩, ?_⟩
  obtain ⟨a', o', fd', h1, h2, h3, h4⟩ := hF x
  rw [g1] at h1; cases h1
  refine wpAny_call (codeAny_mono (h4 A U s₁ [v] (hR.mono hn) ok₁ (.cons rp .nil)) ?_)
  rintro r s' ⟨v, rfl, hv⟩
  exact ⟨_, hk, hv.step x₁⟩
end
end Mine
end

section
set_option maxRecDepth 10000
set_option linter.unusedVariables false
set_option linter.unusedSimpArgs false
namespace Mine
open PySem

def scal : PV → Bool
  | .tup _ => false
  | .list _ => false
  | _ => true
theorem rep_scal {h h' : Heap} {U U' : Addr → Prop} {p : PV} {v : Value} (hs : scal p = true) (r : Rep h U p v) : Rep h' U' p v := by
  cases p with
  | tup l => simp [scal] at hs
  | list l => simp [scal] at hs
  | none => exact rep_none.mpr (rep_none.mp r)
  | bool x => exact rep_bool.mpr (rep_bool.mp r)
  | int x => exact rep_int.mpr (rep_int.mp r)
  | str x => exact rep_str.mpr (rep_str.mp r)
structure GC (B : Base) (A : Around) (sc : Scope) (env : Env) (S₀ : Shared) : Prop where
  room : Room 2 true A
  eok : EnvOk sc env
  hL : B.h₀.get? env.locals = none
  sL : (S₀.heap.get? env.locals).isSome = true
  h0 : ∀ c o, B.h₀.get? c = some o → (S₀.heap.get? c).isSome = true
  nocell : ∀ x, sc.names.lookup x ≠ some .cell
  coro : sc.isCoroutine = false
def SOk (sc : Scope) (σ : Sto) : Prop := ∀ y q, σ.lookup y = some q → sc.names.lookup y = some .local ∧ scal q = true
theorem SOk.cons {sc : Scope} {σ : Sto} {x : Str} {p : PV} (h : SOk sc σ) (hx : sc.names.lookup x = some .local) (hp : scal p = true) : SOk sc ((x, p) :: σ) := fun y q hy => by
  simp only [List.lookup_cons] at hy
  cases hyx : y == x with
  | false => rw [hyx] at hy; exact h y q hy
  | true => rw [hyx] at hy; cases hy; rw [beq_iff_eq.mp hyx]; exact ⟨hx, hp⟩
theorem SOk.nil {sc : Scope} : SOk sc [] := fun _ _ h => nomatch h

section
variable {B : Base} {A : Around} {sc : Scope} {env : Env} {S₀ : Shared} {g : Nat} {items : List PV}
theorem GC.cellN (k : GC B A sc env S₀) (x : Str) : env.kindOf x ≠ some .cell := by rw [k.eok.kindOf]; exact k.nocell x
theorem GC.mine (k : GC B A sc env S₀) {a : Addr} (h : MineA env none a) : a = env.locals := by
  rcases h with h | ⟨x, h1, _⟩ | ⟨_, _, e⟩
  · exact h
  · exact absurd h1 (k.cellN x)
  · cases e
theorem avN0 : Av N0 none = N0 := funext fun c => propext ⟨(fun h => h.elim id (fun ⟨_, _, e⟩ => (nomatch e))), (fun h => h.elim)⟩
theorem GC.inv (k : GC B A sc env S₀) {σ : Sto} {s : Shared} (hσ : SOk sc σ) (ok : Ok B N0 s) (hl : LocOk N0 env.locals σ s) : Inv B env N0 σ none s := by
  obtain ⟨m, hn, hm⟩ := hl
  refine ⟨(by rw [avN0]; exact ok), ⟨m, hn, fun x p hx _ => ?_, fun _ _ _ e => nomatch e⟩, fun x hx => absurd hx (k.cellN x), fun x p hx => .inl (by rw [k.eok.kindOf]; exact (hσ x p hx).1), fun x y c hx _ _ _ => absurd hx (k.cellN x), fun a ha => ?_, fun a h => h.elim⟩
  · obtain ⟨u, e, r⟩ := hm x p hx
    exact ⟨u, e, by rw [avN0]; exact r⟩
  · rw [k.mine ha]; exact k.hL
theorem GC.einv (k : GC B A sc env S₀) {σ : Sto} {s : Shared} {U : Addr → Prop} (hσ : SOk sc σ) (ok : Ok B N0 s) (hl : LocOk N0 env.locals σ s) (hU : ∀ a, U a → (s.heap.get? a).isSome = true) : EInv B env σ U s := by
  have ei := (k.inv hσ ok hl).einv k.eok
  refine ⟨⟨ok.good, ok.keep, ok.bare, hU, ok.toks⟩, fun x p hx => ?_, fun x hx => absurd hx (k.cellN x)⟩
  obtain ⟨v, r, rd⟩ := ei.rd x p hx
  exact ⟨v, rep_scal (hσ x p hx).2 r, rd⟩

def GSt (B : Base) (A : Around) (sc : Scope) (env : Env) (S₀ : Shared) (g : Nat) (items : List PV) (c : Code) (fs : List Frame) (t : Sem Fin) (l : List PV) (σ : Sto) (X : Heap → Prop) : Prop :=
  ∀ s₀ s, SOk sc σ → Ok B N0 s → LocOk N0 env.locals σ s → X s.heap → ExtD S₀ (fun b => b = env.locals) (fun j => j = g) s₀ s → Big S₀ s → l <:+ items →
    Seg (model B.prog B.w) A (Rg S₀ env.locals g) (Yg B S₀ env.locals g items) l.length s₀ c t fs s
structure XS (S₀ : Shared) (L : Addr) (X : Heap → Prop) : Prop where
  ext : ∀ s s' : Shared, X s.heap → Ext (fun a => a = L) s s' → X s'.heap
  agr : ∀ s s' : Shared, X s.heap → Agr S₀ L s s' → X s'.heap
theorem XS.true {L : Addr} : XS S₀ L fun _ => True := ⟨fun _ _ _ _ => trivial, fun _ _ _ _ => trivial⟩

variable {c : Code} {fs : List Frame} {l : List PV} {σ : Sto} {X : Heap → Prop} {K : Flow → Sem Fin} {H : Value → Sem Fin} {gd : Bool → Bool} {lv : List Value → List Value}

theorem g_weaken {t : Sem Fin} {σ' : Sto} (hs : ∀ x p, σ'.lookup x = some p → σ.lookup x = some p) (h : GSt B A sc env S₀ g items c fs t l σ' X) : GSt B A sc env S₀ g items c fs t l σ X := fun s₀ s hσ ok ⟨m, hn, hm⟩ hX x hb hl =>
  h s₀ s (fun y q hy => hσ y q (hs y q hy)) ok ⟨m, hn, fun y q hy => hm y q (hs y q hy)⟩ hX x hb hl
theorem g_cons {st : Stmt} {rest : List Stmt} (h : GSt B A sc env S₀ g items c fs ((exec st env).wrap (fun f => match f with | .next => (execs rest env).wrap K H gd lv | f => K f) H gd lv) l σ X) :
    GSt B A sc env S₀ g items c fs ((execs (st :: rest) env).wrap K H gd lv) l σ X := fun s₀ s hσ ok hl hX x hb hs => seg_execs_cons (h s₀ s hσ ok hl hX x hb hs)
theorem g_nil (h : GSt B A sc env S₀ g items c fs (K .next) l σ X) : GSt B A sc env S₀ g items c fs ((execs [] env).wrap K H gd lv) l σ X := fun s₀ s hσ ok hl hX x hb hs => seg_execs_nil (h s₀ s hσ ok hl hX x hb hs)
theorem g_stmt {st : Stmt} (k : GC B A sc env S₀) (hR : Room 1 true (A.over c fs)) (hX : XS S₀ env.locals X)
    (h : StS B 1 true sc N0 σ none st fun φ σ' ow' => φ = .next ∧ ow' = none ∧ SOk sc σ' ∧ GSt B A sc env S₀ g items c fs (K .next) l σ' X) :
    GSt B A sc env S₀ g items c fs ((exec st env).wrap K H gd lv) l σ X := fun s₀ s hσ ok hl hx x hb hs => by
  refine seg_wrap (wpAny_mono' (h _ env s _ hR k.eok (k.inv hσ ok hl)) ?_)
  rintro f s₁ ⟨φ, σ', ow', ⟨rfl, rfl, hσ', hk⟩, hf, hi, x₁, _⟩
  cases f with
  | next =>
    have x₁' : Ext (fun a => a = env.locals) s s₁ := x₁.wmono fun a ha => .inl (k.mine ha)
    obtain ⟨m, hn, hm, _⟩ := hi.loc
    have xd := Ext.toD (S₀ := S₀) (F := fun a => a = env.locals) (G := fun j => j = g) x₁' fun a e => ⟨e, by rw [e]; exact hi.mine_some (.inl rfl)⟩
    refine hk s₀ s₁ hσ' (avN0 ▸ hi.ok) ⟨m, hn, fun y q hy => ?_⟩ (hX.ext s s₁ hx x₁') (x.trans xd) (hb.mono xd) hs
    obtain ⟨v, e, r⟩ := hm y q hy (by rw [k.eok.kindOf]; exact (hσ' y q hy).1)
    exact ⟨v, e, avN0 ▸ r⟩
  | _ => cases hf
theorem g_if {test : Expr} {th el : List Stmt} {pos : Pos} (k : GC B A sc env S₀) (hR : Room 1 true (A.over c fs)) (hX : XS S₀ env.locals X)
    (h : EvT B 1 true sc σ test fun b => if b = true then GSt B A sc env S₀ g items c fs ((execs th env).wrap K H gd lv) l σ X else GSt B A sc env S₀ g items c fs ((execs el env).wrap K H gd lv) l σ X) :
    GSt B A sc env S₀ g items c fs ((exec (.If test th el pos) env).wrap K H gd lv) l σ X := fun s₀ s hσ ok hl hx x hb hs => by
  refine seg_If (wpAny_mono' (h _ env N0 s _ hR k.eok (k.einv hσ ok hl fun _ h => h.elim)) ?_)
  rintro b s₁ ⟨hc, x₁⟩
  have hl₁ : LocOk N0 env.locals σ s₁ := let ⟨m, hn, hm⟩ := hl; ⟨m, hn.keeps x₁.k0, fun y q hy => let ⟨u, e, r⟩ := hm y q hy; ⟨u, e, r.keep x₁.k0⟩⟩
  have hx₁ := hX.ext s s₁ hx (.weaken x₁)
  have xd := Ext0.toD (S₀ := S₀) (F := fun a => a = env.locals) (G := fun j => j = g) x₁
  cases b with
  | true => rw [if_pos rfl] at hc ⊢; exact hc s₀ s₁ hσ (ok.ext x₁) hl₁ hx₁ (x.trans xd) (hb.mono xd) hs
  | false => rw [if_neg Bool.false_ne_true] at hc ⊢; exact hc s₀ s₁ hσ (ok.ext x₁) hl₁ hx₁ (x.trans xd) (hb.mono xd) hs
theorem suffix_get {q : PV} {l items : List PV} (h : (q :: l) <:+ items) : items[items.length - 1 - l.length]? = some q := by
  obtain ⟨p, rfl⟩ := h
  rw [List.getElem?_append_right (by simp)]
  have : (p ++ q :: l).length - 1 - l.length - p.length = 0 := by simp
  rw [this]; rfl
theorem g_yield {q : PV} {e : Expr} {ypos pos : Pos} (k : GC B A sc env S₀) (hR : Room 1 true (A.over c fs)) (hX : XS S₀ env.locals X) (hfs : splitAtGen fs = none) (hgd : gd false = false) (hfg : fs.any Frame.guarded = false)
    (he : EvE B 1 true sc σ e fun p => p = q) (h : GSt B A sc env S₀ g items c fs (K .next) l σ X) :
    GSt B A sc env S₀ g items c fs ((exec (.Expr (.Yield (some e) ypos) pos) env).wrap K H gd lv) (q :: l) σ X := fun s₀ s hσ ok hl hx x hb hs => by
  refine seg_Expr_Yield hfs hgd hfg (wpAny_mono' (he _ env (fun b => (S₀.heap.get? b).isSome = true ∧ (s₀.heap.get? b).isSome = true) s _ hR k.eok (k.einv hσ ok hl fun a ha => x.live a ha.1 ha.2)) ?_) (by rw [k.eok.scope]; exact k.coro) (by unfold interactive; rw [k.eok.scope, k.eok.kind]; rfl)
  rintro v s₁ ⟨p, rfl, rp, x₁⟩ kap hkap
  have hl₁ : LocOk N0 env.locals σ s₁ := let ⟨m, hn, hm⟩ := hl; ⟨m, hn.keeps x₁.k0, fun y q hy => let ⟨u, e, r⟩ := hm y q hy; ⟨u, e, r.keep x₁.k0⟩⟩
  have xd := Ext0.toD (S₀ := S₀) (F := fun a => a = env.locals) (G := fun j => j = g) x₁
  refine ⟨p, suffix_get hs, fun U hU => rp.mono (fun _ _ _ e => e) fun a ha => .inl (hU a ha), x.trans xd, let ⟨m, hn, _⟩ := hl₁; ⟨m, hn⟩, ok.ext x₁, fun s'' ok'' ag => hkap .none s'' ?_⟩
  refine h s'' s'' hσ ok'' ?_ (hX.agr s₁ s'' (hX.ext s s₁ hx (.weaken x₁)) ag) (.refl _) ag.2.2 ((List.suffix_cons p l).trans hs)
  obtain ⟨m, ⟨o, es, ep, ho, r⟩, hm⟩ := hl₁
  exact ⟨m, ⟨o, es, ep, ag.1 o ho, r⟩, fun y q hy => let ⟨u, e, r⟩ := hm y q hy; ⟨u, e, rep_scal (hσ y q hy).2 r⟩⟩

/-! the walk over enumerate(text) -/
def XE (S₀ : Shared) (L : Addr) (x : List Nat) (e it : Addr) (ty : String) (t : Tok) (i : Nat) (h : Heap) : Prop :=
  (∃ old, IsEnum h e it i old) ∧ h.IsStrIter it ty (LS x) t i ∧ e ≠ L ∧ it ≠ L ∧ e ≠ it ∧ S₀.heap.get? e = none ∧ S₀.heap.get? it = none
theorem XE.xs {L : Addr} {x : List Nat} {e it : Addr} {ty : String} {t : Tok} {i : Nat} : XS S₀ L (XE S₀ L x e it ty t i) where
  ext := fun s s' ⟨⟨old, h1⟩, ⟨o, h2, r⟩, a1, a2, a3, a4, a5⟩ y => ⟨⟨old, y.keep _ _ a1 h1⟩, ⟨o, y.keep _ _ a2 h2, r⟩, a1, a2, a3, a4, a5⟩
  agr := fun s s' ⟨⟨old, h1⟩, ⟨o, h2, hc, hd⟩, a1, a2, a3, a4, a5⟩ y => ⟨⟨old, y.2.1 _ _ _ a4 rfl h1⟩, ⟨o, y.2.1 _ _ _ a5 hd h2, hc, hd⟩, a1, a2, a3, a4, a5⟩
theorem draws_str {A : Around} (hh : A.handled = none) (it : Addr) (x : List Nat) (t : Tok) :
    Draws B.prog B.w A it [it] x.length (fun i v => ∃ c u, x[i]? = some c ∧ v = .str ⟨#[c]⟩ u) (fun i h => h.IsStrIter it (strIterType (LS x)) (LS x) t i) := by
  cases ha : (LS x).cps.all (· < 128)
  · have := Draws.strWide (prog := B.prog) (w := B.w) hh it (LS x) t
    have e : strIterType (LS x) = "str_iterator" := by unfold strIterType; rw [ha]; rfl
    rw [e]; simpa using this
  · have := Draws.strAscii (prog := B.prog) (w := B.w) hh it (LS x) t
    have e : strIterType (LS x) = "str_ascii_iterator" := by unfold strIterType; rw [ha]; rfl
    rw [e]; simpa using this
end
end Mine
end

section
set_option maxRecDepth 10000
set_option linter.unusedVariables false
set_option linter.unusedSimpArgs false
namespace Mine
open PySem

section
variable {B : Base} {A : Around} {sc : Scope} {env : Env} {S₀ : Shared} {g : Nat} {items : List PV}
variable {c : Code} {fs : List Frame} {l : List PV} {σ : Sto} {K : Flow → Sem Fin} {H : Value → Sem Fin} {gd : Bool → Bool} {lv : List Value → List Value}

/-- two objects of fields, both new: they may change -/
theorem extD_two {L : Addr} {e it : Addr} {s : Shared} {h' : Heap} {tk : Nat} {oe oi : Obj} {ve vi : Array Value} (he : s.heap.get? e = some oe) (hed : oe.data = .fields ve) (hi : s.heap.get? it = some oi) (hid : oi.data = .fields vi)
    (ne : S₀.heap.get? e = none) (ni : S₀.heap.get? it = none) (hk : ∀ b o, b ≠ e → b ≠ it → s.heap.get? b = some o → h'.get? b = some o) (ht : s.toks ≤ tk) : ExtD S₀ (fun b => b = L) (fun j => j = g) s { s with heap := h', toks := tk } where
  keep1 := fun b o _ hb ho => hk b o (fun q => by rw [q, ne] at hb; cases hb) (fun q => by rw [q, ni] at hb; cases hb) ho
  keep2 := fun b o _ hb ho => hk b o (fun q => by rw [q, he] at ho; cases ho; exact hb _ hed) (fun q => by rw [q, hi] at ho; cases ho; exact hb _ hid) ho
  live := fun b hb ho => by
    obtain ⟨o, ho⟩ := Option.isSome_iff_exists.mp ho
    show (h'.get? b).isSome = true
    rw [hk b o (fun q => by rw [q, ne] at hb; cases hb) (fun q => by rw [q, ni] at hb; cases hb) ho]; rfl
  gsize := Nat.le_refl _
  gens := fun _ _ _ => rfl
  bare := id
  os := rfl
  toks := ht
theorem ok_two (k : GC B A sc env S₀) {e it : Addr} {s : Shared} {h' : Heap} {tk : Nat} (ok : Ok B N0 s) (ne : S₀.heap.get? e = none) (ni : S₀.heap.get? it = none) (hk : ∀ b o, b ≠ e → b ≠ it → s.heap.get? b = some o → h'.get? b = some o) (ht : s.toks ≤ tk) : Ok B N0 { s with heap := h', toks := tk } :=
  ⟨ok.good, fun b o e' => hk b o (fun q => by have := k.h0 b o e'; rw [q, ne] at this; cases this) (fun q => by have := k.h0 b o e'; rw [q, ni] at this; cases this) (ok.keep b o e'), ok.bare, fun _ h => h.elim, Nat.le_trans ok.toks ht⟩
theorem loc_two {L e it : Addr} {s : Shared} {h' : Heap} {tk : Nat} (hσ : SOk sc σ) (hl : LocOk N0 L σ s) (h1 : e ≠ L) (h2 : it ≠ L) (hk : ∀ b o, b ≠ e → b ≠ it → s.heap.get? b = some o → h'.get? b = some o) : LocOk N0 L σ { s with heap := h', toks := tk } :=
  let ⟨m, ⟨o, es, ep, ho, r⟩, hm⟩ := hl; ⟨m, ⟨o, es, ep, hk L o (Ne.symm h1) (Ne.symm h2) ho, r⟩, fun y q hy => let ⟨u, e, r⟩ := hm y q hy; ⟨u, e, rep_scal (hσ y q hy).2 r⟩⟩

set_option maxHeartbeats 1000000 in
theorem g_forE {px ch : Str} {pp pc tpos pos q apos : Pos} {kk : Nat} {a : Expr} {body : List Stmt} {x : List Nat} (k : GC B A sc env S₀) (hR : Room 1 true (A.over c fs))
    (hRl : ∀ it p, Room 1 true (A.over (.forLoop (.Tuple [.Name px pp, .Name ch pc] kk tpos) it body [] env) (.ret (loopK env K H gd lv) none (gd false) (lv []) c p [] :: fs)))
    (hf : sc.names.lookup (Str.ofString "enumerate") = some .globalImplicit) (hb : Blt B (Str.ofString "enumerate") (.type "enumerate")) (ha : EvE B 1 true sc σ a fun p => p = .str x)
    (hpx : sc.names.lookup px = some .local) (hch : sc.names.lookup ch = some .local)
    (li : Nat → List PV) (σi : Nat → Sto) (hσi : ∀ i, SOk sc (σi i)) (h0 : l = li 0) (h0σ : ∀ y p, (σi 0).lookup y = some p → σ.lookup y = some p)
    (hturn : ∀ i d, x[i]? = some d → ∀ cl p X (K' : Flow → Sem Fin) H', XS S₀ env.locals X → Room 1 true (A.over cl (.ret (loopK env K H gd lv) none (gd false) (lv []) c p [] :: fs)) →
      GSt B A sc env S₀ g items cl (.ret (loopK env K H gd lv) none (gd false) (lv []) c p [] :: fs) (K' .next) (li (i + 1)) (σi (i + 1)) X →
      GSt B A sc env S₀ g items cl (.ret (loopK env K H gd lv) none (gd false) (lv []) c p [] :: fs) ((execs body env).wrap K' H' id id) (li i) ((ch, .str [d]) :: (px, .int i) :: σi i) X)
    (hend : GSt B A sc env S₀ g items c fs (K .next) (li x.length) (σi x.length) fun _ => True)
    (hs : ∀ env, starEach [a] env = [(false, eval a env)] := by intro _; rfl)
    (hc : ∀ env, eval (.Call (.Name (Str.ofString "enumerate") q) [a] [] apos) env = (do callWith apos (← eval (.Name (Str.ofString "enumerate") q) env) [] (backTo apos (starEach [a] env)) (backToKw apos (keywordEach [] env))) := by intro _; rfl)
    (hfold : ∀ v, foldedSetIterable (.Call (.Name (Str.ofString "enumerate") q) [a] [] apos) env v = pure v := by intro _; rfl) :
    GSt B A sc env S₀ g items c fs ((exec (.For (.Tuple [.Name px pp, .Name ch pc] kk tpos) (.Call (.Name (Str.ofString "enumerate") q) [a] [] apos) body [] pos) env).wrap K H gd lv) l σ fun _ => True := by
  -- the turns
  have loop : ∀ (p : Pos) (e it : Addr) (t : Tok) (j i : Nat), j = x.length - i → i ≤ x.length →
      GSt B A sc env S₀ g items (.forLoop (.Tuple [.Name px pp, .Name ch pc] kk tpos) (.ref e) body [] env) (.ret (loopK env K H gd lv) none (gd false) (lv []) c p [] :: fs)
        ((model B.prog B.w).den (.forLoop (.Tuple [.Name px pp, .Name ch pc] kk tpos) (.ref e) body [] env)) (li i) (σi i) (XE S₀ env.locals x e it (strIterType (LS x)) t i) := by
    intro p e it t j
    induction j with
    | zero =>
      intro i hj hi
      have : i = x.length := by omega
      subst this
      intro s₀ s hσ ok hl hx x₀ hbg hsf
      obtain ⟨⟨old, h1⟩, h2, a1, a2, a3, a4, a5⟩ := hx
      obtain ⟨oi, h2', h2c, h2d⟩ := id h2
      refine seg_forLoop fun E => wpAny_with_toks (Nat.le_refl s.toks) (wpAny_pyNext_enum_endD (draws_str (B := B) (A := (A.over (.forLoop (.Tuple [.Name px pp, .Name ch pc] kk tpos) (.ref e) body [] env) (.ret (loopK env K H gd lv) none (gd false) (lv []) c p [] :: fs)).in1) (hRl (.ref e) p).hand' it x t) h1 h2 fun h' hk htk => ?_)
      have hk2 : ∀ b o, b ≠ e → b ≠ it → s.heap.get? b = some o → h'.get? b = some o := fun b o _ hb e => hk b o hb e
      refine seg_block_nil (seg_leaf (.ok .next) ?_)
      have xd := extD_two (g := g) (L := env.locals) (tk := s.toks) h1 rfl h2' h2d a4 a5 hk2 (Nat.le_refl _)
      exact hend s₀ _ hσ (ok_two k ok a4 a5 hk2 (Nat.le_refl _)) (loc_two hσ hl a1 a2 hk2) trivial (x₀.trans xd) (hbg.mono xd) hsf
    | succ j ih =>
      intro i hj hi
      have hlt : i < x.length := by omega
      have hd : x[i]? = some x[i] := by simp [hlt]
      have nxt := ih (i + 1) (by omega) hlt
      intro s₀ s hσ ok hl hx x₀ hbg hsf
      obtain ⟨⟨old, h1⟩, h2, a1, a2, a3, a4, a5⟩ := hx
      obtain ⟨oi, h2', h2c, h2d⟩ := id h2
      refine seg_forLoop fun E => wpAny_with_toks (Nat.le_refl s.toks) (wpAny_pyNext_enum_itemD (draws_str (B := B) (A := (A.over (.forLoop (.Tuple [.Name px pp, .Name ch pc] kk tpos) (.ref e) body [] env) (.ret (loopK env K H gd lv) none (gd false) (lv []) c p [] :: fs)).in1) (hRl (.ref e) p).hand' it x t) h1 h2 hlt a3 (by simpa using a3) fun v h' tk hv ho hst hT hsz hk htk => ?_)
      intro E
      refine wpAny_letOwnedTupleGo_enum ho fun h'' he'' hs'' => ?_
      intro E
      obtain ⟨d, u, hdd, rfl⟩ := hv
      rw [hd] at hdd; cases hdd
      have hTe : s.heap.objs.size ≠ e := Nat.ne_of_gt (Heap.lt_size h1)
      have hk2 : ∀ b o, b ≠ e → b ≠ it → s.heap.get? b = some o → h''.get? b = some o := fun b o hb hb' q => hs''.extBut b o hb (hk b o hb hb' q)
      have xd := extD_two (g := g) (L := env.locals) (tk := tk + 1) h1 rfl h2' h2d a4 a5 hk2 htk
      have ok₂ := ok_two k ok a4 a5 hk2 htk
      have hl₂ := loc_two (tk := tk + 1) hσ hl a1 a2 hk2
      have hT₂ : h''.IsTuple s.heap.objs.size (List.toArray [.int i tk, .str ⟨#[x[i]]⟩ u]) := ⟨_, hs''.extBut _ _ hTe hT, rfl, _, rfl⟩
      have X₂ : XE S₀ env.locals x e it (strIterType (LS x)) t (i + 1) h'' := ⟨⟨_, he''⟩, hst.extBut hs''.extBut (Ne.symm a3), a1, a2, a3, a4, a5⟩
      refine wpAny_mono' (as_tup2 (B := B) (n := 1) (V := N0) (ow := none) (σ := σi i) (p := .int i) (q := .str [x[i]]) (post := fun σ' => σ' = (ch, .str [x[i]]) :: (px, .int i) :: σi i) (.inl ⟨hpx, fun _ _ _ e => nomatch e⟩) (.inl ⟨hch, fun _ _ _ e => nomatch e⟩) rfl
        _ env _ _ (.ref s.heap.objs.size) (hRl (.ref e) p) k.eok (k.inv (hσi i) ok₂ hl₂) (by rw [avN0]; exact rep_tup.mpr ⟨_, _, rfl, id, hT₂, .cons (rep_int.mpr ⟨tk, rfl⟩) (.cons (rep_str.mpr ⟨u, rfl⟩) .nil)⟩)) ?_
      rintro _ s₃ ⟨σ', rfl, k₃, x₃⟩
      have x₃' : Ext (fun b => b = env.locals) { s with heap := h'', toks := tk + 1 } s₃ := x₃.wmono fun b hb => .inl (k.mine hb)
      have xd₃ := Ext.toD (S₀ := S₀) (F := fun b => b = env.locals) (G := fun j => j = g) x₃' fun b e => ⟨e, by rw [e]; exact k₃.mine_some (.inl rfl)⟩
      have hσ' : SOk sc ((ch, .str [x[i]]) :: (px, .int i) :: σi i) := ((hσi i).cons hpx rfl).cons hch rfl
      obtain ⟨m, hn, hm, _⟩ := k₃.loc
      refine hturn i x[i] hd _ p _ (turnK (.Tuple [.Name px pp, .Name ch pc] kk tpos) (.ref e) body [] env) (noteH env) XE.xs (hRl (.ref e) p) ?_ s₀ s₃ hσ' (avN0 ▸ k₃.ok) ⟨m, hn, fun y q hy => ?_⟩ (XE.xs.ext _ _ X₂ x₃') ((x₀.trans xd).trans xd₃) ((hbg.mono xd).mono xd₃) hsf
      · exact fun s₀ s hσ ok hl hx x₀ hbg hsf => seg_again rfl (nxt s₀ s hσ ok hl hx x₀ hbg hsf)
      · obtain ⟨v, e, r⟩ := hm y q hy (by rw [k.eok.kindOf]; exact (hσ' y q hy).1)
        exact ⟨v, e, avN0 ▸ r⟩
  intro s₀ s hσ ok hl hx x₀ hbg hsf
  refine seg_For ?_ hfold
  rw [hc]
  refine wpAny_bind (name_blt hf hb (by decide) k.eok ok ?_)
  show wpAny _ _ (callWith apos (.type "enumerate") [] (backTo apos (starEach [a] env)) []) _ _ _
  rw [hs]
  refine callWith_machine rfl rfl (Calls.evalArgs_plain (Calls.spliced_cons (wpAny_mono' (ha _ env N0 s _ hR k.eok (k.einv hσ ok hl fun _ h => h.elim)) ?_)))
  rintro v s₁ ⟨p, rfl, rp, x₁⟩
  obtain ⟨t, rfl⟩ := rep_str.mp rp
  refine Calls.spliced_nil (call_enumerate_str fun h' he hit hsz hk => wpAny_pyIter_enum he fun p => ?_)
  have x₂ : Ext0 s₁ { s₁ with heap := h' } := .of_heap0 (tk := s₁.toks) hk (Nat.le_refl _)
  have x₁₂ := x₁.trans0 x₂
  have xd := Ext0.toD (S₀ := S₀) (F := fun b => b = env.locals) (G := fun j => j = g) x₁₂
  have hbg₁ : Big S₀ s₁ := hbg.mono (Ext0.toD (F := fun _ => False) (G := fun _ => False) x₁)
  obtain ⟨ba, hb1, _, hb2⟩ := hbg₁
  obtain ⟨bo, hbo⟩ := Option.isSome_iff_exists.mp hb2
  have hsz0 : S₀.heap.objs.size ≤ s₁.heap.objs.size := Nat.le_trans hb1 (Heap.lt_size hbo)
  have hl₂ : LocOk N0 env.locals (σi 0) { s₁ with heap := h' } := let ⟨m, hn, hm⟩ := hl; ⟨m, hn.keeps x₁₂.k0, fun y q hy => let ⟨u, e, r⟩ := hm y q (h0σ y q hy); ⟨u, e, r.keep x₁₂.k0⟩⟩
  have hLlt : env.locals < s₁.heap.objs.size := by obtain ⟨m, hn, _⟩ := hl; exact (hn.keeps x₁.k0).lt
  subst h0
  refine loop p _ _ t x.length 0 (by simp) (Nat.zero_le _) s₀ _ (hσi 0) (ok.ext x₁₂) hl₂ ⟨⟨_, he⟩, hit, ?_, ?_, ?_, ?_, ?_⟩ (x₀.trans xd) (hbg.mono xd) hsf
  · exact Nat.ne_of_gt (Nat.lt_succ_of_lt hLlt)
  · exact Nat.ne_of_gt hLlt
  · exact Nat.succ_ne_self _
  · exact get?_ge (by omega)
  · exact get?_ge (by omega)
end
end Mine
end

section
set_option maxRecDepth 100000
set_option linter.unusedVariables false
set_option linter.unusedSimpArgs false
namespace Mine
open PySem

def flatTup (q : PV) : Prop := ∃ l, q = .tup l ∧ ∀ p ∈ l, scal p = true
theorem reps_scal {h h' : Heap} {U U' : Addr → Prop} : ∀ {l : List PV} {vs : List Value}, (∀ p ∈ l, scal p = true) → Reps h U l vs → Reps h' U' l vs
  | [], vs, _, r => by simpa [Reps] using r
  | p :: l, vs, hs, r => by
    simp only [Reps] at r ⊢
    obtain ⟨v, r', rfl, h1, h2⟩ := r
    exact ⟨v, r', rfl, rep_scal (hs p (by simp)) h1, reps_scal (fun q hq => hs q (by simp [hq])) h2⟩
theorem rep_flat {h h' : Heap} {U : Addr → Prop} {S : Addr} {o : Obj} (ho : h.get? S = some o) (hc : o.cls = .type "list") (hk : ∀ b o, b ≠ S → h.get? b = some o → h'.get? b = some o) {q : PV} {v : Value} (hq : flatTup q) (r : Rep h U q v) : Rep h' U q v := by
  obtain ⟨l, rfl, hl⟩ := hq
  obtain ⟨a, vs, rfl, ha, ⟨o', h1, h2, n, h3⟩, hr⟩ := rep_tup.mp r
  have hne : a ≠ S := fun e => by rw [e, ho] at h1; cases h1; rw [hc] at h2; exact absurd h2 (by decide)
  exact rep_tup.mpr ⟨a, vs, rfl, ha, ⟨o', hk a o' hne h1, h2, n, h3⟩, reps_scal hl hr⟩
theorem reps_flat {h h' : Heap} {U : Addr → Prop} {S : Addr} {o : Obj} (ho : h.get? S = some o) (hc : o.cls = .type "list") (hk : ∀ b o, b ≠ S → h.get? b = some o → h'.get? b = some o) : ∀ {l : List PV} {vs : List Value}, (∀ q ∈ l, flatTup q) → Reps h U l vs → Reps h' U l vs
  | [], vs, _, r => by simpa [Reps] using r
  | p :: l, vs, hs, r => by
    simp only [Reps] at r ⊢
    obtain ⟨v, r', rfl, h1, h2⟩ := r
    exact ⟨v, r', rfl, rep_flat ho hc hk (hs p (by simp)) h1, reps_flat ho hc hk (fun q hq => hs q (by simp [hq])) h2⟩

section
variable {B : Base} {A : Around} {S₀ : Shared} {F P : Addr → Prop} {G : Nat → Prop} {items : List PV} {I : Addr} {Iv : Nat → Shared → Prop} {U : Addr → Prop} {S : Addr} {R : Result → Shared → Prop} {res : Value}
structure LG (B : Base) (S₀ : Shared) (F P : Addr → Prop) (items : List PV) (U : Addr → Prop) (S : Addr) : Prop where
  fp : ∀ a, F a → P a
  nS : S₀.heap.get? S = none
  pS : ¬ P S
  h0 : ∀ c o, B.h₀.get? c = some o → ¬ F c ∧ (S₀.heap.get? c).isSome = true
  u0 : ∀ a, U a → (S₀.heap.get? a).isSome = true
  flat : ∀ q ∈ items, flatTup q
  len : items.length ≤ 100000
theorem lg_upd (K : LG B S₀ F P items U S) {s : Shared} {f : Array Value → Array Value} {acc : Array Value} {c : Nat} {tk : Nat} (ht : s.toks ≤ tk) (hS : s.heap.get? S = some { cls := .type "list", dict := none, data := .seq acc c, slots := #[] }) :
    Ext (fun a => a = S) s { s with heap := s.heap.update S (Obj.mapSeq f), toks := tk } ∧ (Ok B U s → Ok B U { s with heap := s.heap.update S (Obj.mapSeq f), toks := tk }) := by
  have hk : ∀ b o, b ≠ S → s.heap.get? b = some o → (s.heap.update S (Obj.mapSeq f)).get? b = some o := fun b o hb e => (Heap.get?_update_other _ _ (Ne.symm hb)).trans e
  refine ⟨.of_heap (fun b o hb e => hk b o hb e) ht, fun ok => ⟨ok.good, fun b o e => hk b o (fun q => by have := (K.h0 b o e).2; rw [q, K.nS] at this; cases this) (ok.keep b o e), ok.bare, fun a ha => ?_, Nat.le_trans ok.toks ht⟩⟩
  obtain ⟨o, ho⟩ := Option.isSome_iff_exists.mp (ok.alive a ha)
  show ((s.heap.update S (Obj.mapSeq f)).get? a).isSome = true
  rw [hk a o (fun q => by have := K.u0 a ha; rw [q, K.nS] at this; cases this) ho]; rfl
theorem lg_okD (K : LG B S₀ F P items U S) {s s' : Shared} (x : ExtD S₀ F G s s') (ok : Ok B U s) : Ok B U s' :=
  ⟨ok.good, fun b o e => x.keep1 b o (K.h0 b o e).1 (K.h0 b o e).2 (ok.keep b o e), x.bare ok.bare, fun a ha => x.live a (K.u0 a ha) (ok.alive a ha), Nat.le_trans ok.toks x.toks⟩
theorem lg_loop (IT : ItrD B A.in1 (.ref I) S₀ F P G items Iv) (K : LG B S₀ F P items U S)
    (hR : ∀ s' acc' c', s'.heap.get? S = some { cls := .type "list", dict := none, data := .seq acc' c', slots := #[] } → Reps s'.heap U items acc'.toList → ExtG (fun a => F a ∨ a = S) G S₀ s' → R (.ok (.ret res)) s') :
    ∀ (k i : Nat) (s : Shared) (acc : Array Value) (c : Nat), items.length - i = k → i ≤ items.length → Iv i s → s.heap.get? S = some { cls := .type "list", dict := none, data := .seq acc c, slots := #[] } → Reps s.heap U (items.take i) acc.toList → Ok B U s → ExtG (fun a => F a ∨ a = S) G S₀ s →
    codeAny (model B.prog B.w) A (.builtin "list.extend.loop" ⟨[.ref S, .ref I, res], []⟩) R s := by
  have hFS : ¬ F S := fun h => K.pS (K.fp S h)
  intro k
  induction k with
  | zero =>
    intro i s acc c hk hi hst hS hacc ok xx
    have hin : i = items.length := by omega
    subst hin
    refine codeAny_builtin PySem.F.entry_extend_loop ?_
    rw [Around.under_plainId PySem.F.plain_extend_loop _]
    show wpAny _ A.in1 (pyNext (.ref I) >>= _) _ _ s
    refine wpAny_bind (IT.done s U _ _ ok hst fun s' x => ?_)
    have hS' := x.keep2 S _ hFS (by intro vs h; cases h) hS
    rw [List.take_length] at hacc
    refine wpAny_pure (hR s' acc c hS' ?_ (xx.thenD x fun a h => .inl h))
    exact reps_seqW (fun b o xs k hd e => x.keep2 b o (fun hf => IT.nonseq _ s b hst hf o xs k e hd) (fun vs h => by rw [hd] at h; cases h) e) hacc
  | succ k ih =>
    intro i s acc c hk hi hst hS hacc ok xx
    have hlt : i < items.length := by omega
    have hq : items[i]? = some items[i] := by simp [hlt]
    refine codeAny_builtin PySem.F.entry_extend_loop ?_
    rw [Around.under_plainId PySem.F.plain_extend_loop _]
    show wpAny _ A.in1 (pyNext (.ref I) >>= _) _ _ s
    refine wpAny_bind (IT.item i s _ U _ _ hq ok K.u0 hst fun v s' rv hst' x => ?_)
    have hS' := x.keep2 S _ hFS (by intro vs h; cases h) hS
    have hacc' := reps_seqW (U := U) (fun b o xs k hd e => x.keep2 b o (fun hf => IT.nonseq _ s b hst hf o xs k e hd) (fun vs h => by rw [hd] at h; cases h) e) hacc
    have hsz : acc.size = i := by have := hacc.length; simp at this; omega
    show wpAny _ A.in1 (updateSeq S (·.push v) >>= _) _ _ _
    refine wpAny_bind ?_
    have hlen := K.len
    obtain ⟨x', okf⟩ := lg_upd K (s := s') (f := (·.push v)) (tk := s'.toks) (Nat.le_refl _) hS'
    refine wpAny_updateSeq hS' rfl (wpAny_pure ⟨plainId_quiet PySem.F.plain_extend_loop _, ih (i + 1) _ (acc.push v) _ (by omega) hlt ?_ (Heap.get?_update_self _ hS' rfl) ?_ (okf (lg_okD K x ok)) ?_⟩)
      (by rw [hsz]; simp [sizeLine]; omega) (by show (acc.push v).size ≤ sizeLine + 1; rw [Array.size_push, hsz]; simp [sizeLine]; omega)
    · refine IT.stab _ _ _ _ hst' x' fun a e => ⟨by rw [e]; exact K.pS, .inr fun o vs ho hd => ?_⟩
      rw [e, hS'] at ho; cases ho; cases hd
    · have hk2 : ∀ b o, b ≠ S → s'.heap.get? b = some o → (s'.heap.update S (Obj.mapSeq (·.push v))).get? b = some o := fun b o hb e => (Heap.get?_update_other _ _ (Ne.symm hb)).trans e
      rw [List.take_add_one, hq, Array.toList_push]
      have h1 : ∀ q ∈ items.take i, flatTup q := fun q hq => K.flat q (List.mem_of_mem_take hq)
      exact (reps_flat hS' rfl hk2 h1 hacc').append (.cons (rep_flat hS' rfl hk2 (K.flat _ (List.getElem_mem hlt)) rv) .nil)
    · exact (xx.thenD x fun a h => .inl h).trans (x'.toG fun a h => .inr h)

variable {E : Value → Shared → Prop} {Q : Value → Shared → Prop} {s : Shared}
theorem list_gen {g : Nat} (IT : ItrD B A.in1.in1 (.ref I) S₀ F P G items Iv) (hgen : S₀.heap.IsGen I g) (hI : P I) (K : LG B S₀ F P items U S₀.heap.objs.size) (hst : Iv 0 S₀) (ok : Ok B U S₀)
    (hQ : ∀ s', Rep s'.heap U (.list items) (.ref S₀.heap.objs.size) → ExtG (fun a => F a ∨ a = S₀.heap.objs.size) G S₀ s' → Q (.ref S₀.heap.objs.size) s') :
    wpAny (model B.prog B.w) A (call (.type "list") [.ref I]) Q E S₀ := by
  refine callType_codes (Q₁ := fun obj s₁ => obj = .ref S₀.heap.objs.size ∧ s₁ = { S₀ with heap := S₀.heap.push { cls := .type "list", data := .seq #[] } }) PySem.F.called_list (PySem.F.typeCall_list_1 _) PySem.F.entry_list_init
    (code_list_new _ ⟨rfl, rfl⟩) fun obj s₁ h₁ => ?_
  obtain ⟨rfl, rfl⟩ := h₁
  have hS : (S₀.heap.push { cls := .type "list", data := .seq #[] }).get? S₀.heap.objs.size = some { cls := .type "list", data := .seq #[] } := Heap.get?_push_size _ rfl
  have x₁ : Ext0 S₀ { S₀ with heap := S₀.heap.push { cls := .type "list", data := .seq #[] } } := .push
  have hSI : S₀.heap.objs.size ≠ I := fun e => by obtain ⟨o, _, _, ho, _⟩ := hgen; rw [← e, get?_size] at ho; cases ho
  have hg₁ := hgen.keeps x₁.k0
  have hst₁ : Iv 0 { S₀ with heap := S₀.heap.push { cls := .type "list", data := .seq #[] } } := IT.stab 0 S₀ _ (fun _ => False) hst x₁ fun _ h => h.elim
  have ok₁ := ok.ext x₁
  have xx₁ : ExtG (fun a => F a ∨ a = S₀.heap.objs.size) G S₀ { S₀ with heap := S₀.heap.push { cls := .type "list", data := .seq #[] } } := x₁.toG fun _ h => h.elim
  generalize hs1 : ({ S₀ with heap := S₀.heap.push { cls := .type "list", data := .seq #[] } } : Shared) = s₁ at hg₁ hst₁ ok₁ xx₁ ⊢
  replace hS : s₁.heap.get? S₀.heap.objs.size = some { cls := .type "list", dict := none, data := .seq #[] 0, slots := #[] } := by rw [← hs1]; exact hS
  refine ⟨⟨_, hS, rfl⟩, PySem.F.args_list_init_2 _ _, ?_⟩
  -- a change of the new list alone
  have step : ∀ {s : Shared} {f : Array Value → Array Value} {acc : Array Value} {c : Nat}, s.heap.IsGen I g → Iv 0 s → Ok B U s → ExtG (fun a => F a ∨ a = S₀.heap.objs.size) G S₀ s → s.heap.get? S₀.heap.objs.size = some { cls := .type "list", dict := none, data := .seq acc c, slots := #[] } →
      (s.heap.update S₀.heap.objs.size (Obj.mapSeq f)).IsGen I g ∧ Iv 0 { s with heap := s.heap.update S₀.heap.objs.size (Obj.mapSeq f), toks := s.toks } ∧ Ok B U { s with heap := s.heap.update S₀.heap.objs.size (Obj.mapSeq f), toks := s.toks } ∧ ExtG (fun a => F a ∨ a = S₀.heap.objs.size) G S₀ { s with heap := s.heap.update S₀.heap.objs.size (Obj.mapSeq f), toks := s.toks } := by
    intro s f acc c hg hi ok xx hS
    obtain ⟨x', okf⟩ := lg_upd K (f := f) (tk := s.toks) (Nat.le_refl _) hS
    refine ⟨?_, IT.stab _ _ _ _ hi x' fun a e => ⟨by rw [e]; exact K.pS, .inr fun o vs ho hd => by rw [e, hS] at ho; cases ho; cases hd⟩, okf ok, xx.trans (x'.toG fun a h => .inr h)⟩
    obtain ⟨o, nm, qn, ho, r⟩ := hg
    exact ⟨o, nm, qn, x'.keep _ _ (Ne.symm hSI) ho, r⟩
  show wpAny _ A.in1.in1 (do let old ← Builtin.List.listItems (.ref S₀.heap.objs.size); Builtin.List.listUpdate (.ref S₀.heap.objs.size) (fun _ => #[]); letGo old.toList.reverse; Builtin.List.listExtendWith (.ref S₀.heap.objs.size) (.ref I) .none) _ _ s₁
  refine wpAny_bind ?_
  unfold Builtin.List.listItems
  refine wpAny_bind (wpAny_seqItems hS rfl (wpAny_pure ?_))
  show wpAny _ A.in1.in1 (updateSeq S₀.heap.objs.size (fun _ => #[]) >>= fun _ => letGo (#[] : Array Value).toList.reverse >>= fun _ => Builtin.List.listExtendWith (.ref S₀.heap.objs.size) (.ref I) .none) _ _ s₁
  refine wpAny_bind (wpAny_updateSeq hS rfl ?_)
  have hS₂ := Heap.get?_update_self (Obj.mapSeq (fun _ => (#[] : Array Value))) hS rfl
  obtain ⟨hg₂, hi₂, ok₂, xx₂⟩ := step (f := fun _ => #[]) hg₁ hst₁ ok₁ xx₁ hS
  refine wpAny_bind (wpAny_letGo ?_)
  unfold Builtin.List.listExtendWith
  refine wpAny_bind (wpAny_typeOf (Heap.IsGen.typeIs (s := { s₁ with heap := s₁.heap.update S₀.heap.objs.size (Obj.mapSeq fun _ => #[]) }) hg₂) ?_)
  have h1 : Builtin.List.listSameRef (.ref S₀.heap.objs.size) (.ref I) = false := by simp [Builtin.List.listSameRef, hSI]
  have h2 : (Value.type "generator" == Value.type "list") = false := by decide
  have h3 : (Value.type "generator" == Value.type "tuple") = false := by decide
  simp only [h1, h2, h3, Bool.or_false, Bool.false_eq_true, if_false]
  refine wpAny_bind (wpAny_pyIter_gen hg₂ ?_)
  refine wpAny_bind (wpAny_holding ?_)
  unfold Builtin.List.listLengthHint
  refine wpAny_bind (wpAny_specialOf (Heap.IsGen.typeIs (s := { s₁ with heap := s₁.heap.update S₀.heap.objs.size (Obj.mapSeq fun _ => #[]) }) hg₂) PySem.F.gen_no_len ?_)
  show wpAny _ A.in1.in1 (specialOf (Value.ref I) (Str.ofString "__length_hint__") >>= _) _ _ _
  refine wpAny_bind (wpAny_specialOf (Heap.IsGen.typeIs (s := { s₁ with heap := s₁.heap.update S₀.heap.objs.size (Obj.mapSeq fun _ => #[]) }) hg₂) PySem.F.gen_no_hint ?_)
  refine wpAny_pure ?_
  show wpAny _ A.in1.in1 (rule "list.extend.makes-room" >>= fun _ => Builtin.List.listTouch (.ref S₀.heap.objs.size) >>= fun _ =>
    again (.builtin "list.extend.loop" ⟨[.ref S₀.heap.objs.size, .ref I, .none], []⟩)) _ _ _
  refine wpAny_bind (wpAny_rule ?_)
  refine wpAny_bind ?_
  show wpAny _ A.in1.in1 (updateSeq S₀.heap.objs.size (·.push .none) >>= fun _ => updateSeq S₀.heap.objs.size (·.pop)) _ _ _
  refine wpAny_bind (wpAny_updateSeq hS₂ rfl ?_)
  obtain ⟨hg₃, hi₃, ok₃, xx₃⟩ := step (f := (·.push Value.none)) hg₂ hi₂ ok₂ xx₂ hS₂
  have hS₃ := Heap.get?_update_self (Obj.mapSeq (·.push Value.none)) hS₂ rfl
  refine wpAny_updateSeq (hz := by seq_fits) hS₃ rfl ?_
  obtain ⟨hg₄, hi₄, ok₄, xx₄⟩ := step (f := (·.pop)) hg₃ hi₃ ok₃ xx₃ hS₃
  have hS₄ := Heap.get?_update_self (Obj.mapSeq (·.pop)) hS₃ rfl
  refine wpAny_pure ⟨plainId_quiet PySem.F.plain_extend_loop _, lg_loop (A := A.in1) IT K (fun s' acc' c' hS' hacc xx' => ?_) items.length 0 _ _ _ (by simp) (Nat.zero_le _) hi₄ hS₄ (by simpa using Reps.nil) ok₄ xx₄⟩
  refine ⟨rfl, hQ s' (rep_list.mpr ⟨_, acc'.toList, rfl, fun h => ?_, ⟨_, hS', rfl, c', by simp⟩, hacc⟩) xx'⟩
  have := K.u0 _ h; rw [K.nS] at this; cases this
end

section
variable {B : Base} {n : Nat} {sc : Scope} {σ : Sto} {P : PV → Prop}
theorem ev_listgen {p pos : Pos} {e : Expr} (hn : 4 ≤ n) (hf : sc.names.lookup (Str.ofString "list") = some .globalImplicit) (hb : Blt B (Str.ofString "list") (.type "list"))
    (h : ItG B n sc σ e fun items => (∀ q ∈ items, flatTup q) ∧ items.length ≤ 100000 ∧ P (.list items))
    (hs : ∀ env, starEach [e] env = [(false, eval e env)] := by intro _; rfl)
    (hc : ∀ env, eval (.Call (.Name (Str.ofString "list") p) [e] [] pos) env = (do callWith pos (← eval (.Name (Str.ofString "list") p) env) [] (backTo pos (starEach [e] env)) (backToKw pos (keywordEach [] env))) := by intro _; rfl) :
    EvE B n true sc σ (.Call (.Name (Str.ofString "list") p) [e] [] pos) P := fun A env U s E hR hE hI => by
  rw [hc]
  refine wpAny_bind (name_blt hf hb (by decide) hE hI.ok ?_)
  show wpAny _ _ (callWith pos (.type "list") [] (backTo pos (starEach [e] env)) []) _ _ _
  rw [hs]
  refine callWith_machine rfl rfl (Calls.evalArgs_plain (Calls.spliced_cons (wpAny_mono' (h A env U s E hR hE hI) ?_)))
  rintro v s₁ ⟨items, ⟨hfl, hlen, hp⟩, x₁, ⟨a, g, rfl, hgen⟩, F, PP, G, hFP, hI', hP, hG, hIt⟩
  refine Calls.spliced_nil ?_
  have hR2 : Room 3 true A.in1.in1 := ⟨by show A.depth + 3 ≤ 900; have := hR.depth; omega, by show A.units + 1 + 1 + 50 * 3 ≤ 9000; have := hR.units; omega, hR.hand⟩
  obtain ⟨Iv, IT, hi0⟩ := hIt A.in1.in1 hR2
  have ok₁ := hI.ok.ext x₁
  have nS : s₁.heap.get? s₁.heap.objs.size = none := get?_size _
  have K : LG B s₁ F PP items U s₁.heap.objs.size := ⟨hFP, nS, (fun h => by have := (hP _ h).2; rw [nS] at this; cases this), fun c o e => ⟨(fun hf => by have := hI.ok.keep c o e; rw [(hP c (hFP c hf)).1] at this; cases this), by rw [ok₁.keep c o e]; rfl⟩, fun a ha => ok₁.alive a ha, hfl, hlen⟩
  refine list_gen IT hgen (hI' a rfl) K hi0 ok₁ fun s' rep xx => ⟨_, hp, rep, ?_⟩
  exact ExtG.out x₁ xx (fun b hb => .inr (by
    rcases hb with hb | rfl
    · exact (hP b (hFP b hb)).1
    · cases e : s.heap.get? s₁.heap.objs.size with
      | none => rfl
      | some o => rw [x₁.k0 _ o e] at nS; cases nS)) hG
end
end Mine
end

section
set_option maxRecDepth 100000
set_option linter.unusedVariables false
set_option linter.unusedSimpArgs false
namespace Mine
open PySem

section
variable {B : Base} {n : Nat} {b : Bool} {sc : Scope} {σ : Sto} {V : Addr → Prop} {ow : Own} {env : Env} {s : Shared} {post : Fl → Sto → Own → Prop}

theorem Inv.ownAgain {x : Str} {a : Addr} {l : List PV} {A : Around} {E : Value → Shared → Prop} {Q : Unit → Shared → Prop} (k : Inv B env V σ (some (x, a, l)) s) (hE : EnvOk sc env)
    (h : ∀ s', Inv B env V σ (some (x, a, l)) s' → Ext (MineA env (some (x, a, l))) s s' → Q () s') : wpAny (model B.prog B.w) A (storeName env x (.ref a)) Q E s := by
  obtain ⟨m, hn, hm, ho⟩ := k.loc
  obtain ⟨hxl, hxm, _⟩ := ho x a l rfl
  have hk : env.scope.kind = .function := by rw [hE.scope]; exact hE.kind
  refine wpAny_storeName_local hxl hn (fun h' hn' hs => ?_) (by rw [hk]; rfl)
  have mine : MineA env (some (x, a, l)) env.locals := .inl rfl
  have isN : (∃ m, s.heap.Ns env.locals m) ∨ (∃ ov, s.heap.IsCell env.locals ov) := .inl ⟨m, hn⟩
  have same : ∀ y, (if y = x then some (Value.ref a) else m y) = m y := fun y => by
    by_cases e : y = x
    · rw [if_pos e, e, hxm]
    · rw [if_neg e]
  refine h _ ⟨k.okSame mine (Nat.le_succ _) hs ?_, ⟨_, hn', fun y q hy hyl => ?_, fun y a' l' e => ?_⟩, fun y hy => ?_, k.kinds, k.inj, k.new, k.vout⟩ (.of_heap (fun c o hc e => hs.extBut c o (fun e' => hc (e' ▸ mine)) e) (Nat.le_succ _))
  · obtain ⟨o, _, _, ho', _⟩ := hn'; rw [ho']; rfl
  · obtain ⟨u, e, r'⟩ := hm y q hy hyl
    exact ⟨u, by rw [← e]; exact same y, rep_mine hs isN r'⟩
  · obtain ⟨h1, h2, vs, h3, h4⟩ := ho y a' l' e
    refine ⟨h1, by rw [← h2]; exact same y, vs, ?_, reps_mine hs isN h4⟩
    obtain ⟨nn, h3'⟩ := id h3
    exact ⟨nn, hs.extBut a' _ (Ne.symm (ns_ne_list hn h3)) h3'⟩
  · obtain ⟨c, ov, h1, h2, h3⟩ := k.cel y hy
    exact ⟨c, ov, h1, h2.sameBut hs (Ne.symm (ns_ne_cell hn h2)), fun q hq => let ⟨u, e, r'⟩ := h3 q hq; ⟨u, e, rep_mine hs isN r'⟩⟩

theorem list_iaddW (l c : Addr) (items items2 : Array Value) (k k2 : Nat) (dd2 : Option Addr) (sl2 : Array (Option Value)) (h0 : ¬(!items.isEmpty && Builtin.List.listTooLong (items.size + items2.size)) = true) (h1 : items.size ≤ sizeLine) (h2 : items.size + items2.size ≤ sizeLine + 1) :
    Meets (Builtin.«list.__iadd__» ⟨[.ref l, .ref c], []⟩) (fun _ R s => s.heap.get? l = some { cls := .type "list", dict := none, data := .seq items k, slots := #[] } ∧ s.heap.get? c = some { cls := .type "list", dict := dd2, data := .seq items2 k2, slots := sl2 } ∧ R (.ok (.ret (Value.ref l))) { s with heap := s.heap.update l (Obj.mapSeq fun x => x ++ items2), toks := s.toks }) :=
  .of_wp fun prog w A R s h => by
    obtain ⟨hp, g, d, tk, os⟩ := s; obtain ⟨hl, hb, h⟩ := h; have f1 := AutoSeq1.idx_int; have f3 := AutoSeq1.sub_list_list
    have hz' : (items ++ items2).size ≤ sizeLine + 1 := by rw [Array.size_append]; exact h2
    wp_walk using (wpAny_updateSeq hl rfl (hz := h1) (_hz' := hz')), AutoSeq1.wpAny_loadPart' hl, AutoSeq1.wpAny_loadPart' hb; exact ⟨_, rfl, h⟩
theorem fills_list_iadd : fillsInplaceSlot (.type "list") "add" (Operator.Add == .Add) = pure false := by
  unfold fillsInplaceSlot
  show (typeLookup (.type "list") (dunderI "add") >>= fun fi => pure (fi.isSome && !isSeqSlot fi)) = pure false
  rw [F.slot_list_iadd.lookup]
  show (pure ((some (Value.builtin "list.__iadd__")).isSome && !isSeqSlot (some (.builtin "list.__iadd__"))) : Sem Bool) = pure false
  rw [show isSeqSlot (some (.builtin "list.__iadd__")) = true by decide +kernel]; rfl
theorem seq_list_iadd : seqSlot? (.type "list") (dunderI "add") = pure (some (.builtin "list.__iadd__")) := seqSlot_of F.slot_list_iadd.lookup (by decide +kernel)
theorem iadd_lists {A : Around} {E : Value → Shared → Prop} {Q : Value → Shared → Prop} {l c : Addr} {items items2 : Array Value} {k : Nat} (hl : s.heap.get? l = some { cls := .type "list", dict := none, data := .seq items k, slots := #[] }) (hc : s.heap.IsList c items2)
    (hz : items.size + items2.size ≤ 1000000) (h : Q (.ref l) { s with heap := s.heap.update l (Obj.mapSeq fun x => x ++ items2), toks := s.toks }) : wpAny (model B.prog B.w) A (inplaceOp .Add (.ref l) (.ref c)) Q E s := by
  obtain ⟨⟨cls2, dd2, data2, sl2⟩, ho2, hc2, k2, hd2⟩ := id hc
  simp only at hc2 hd2
  subst hc2 hd2
  have tl : s.TypeIs (.ref l) "list" := ⟨_, hl, rfl⟩
  have tc : s.TypeIs (.ref c) "list" := ⟨_, ho2, rfl⟩
  unfold inplaceOp
  refine wpAny_holding ?_
  refine wpAny_bind (wpAny_typeOf tl (wpAny_bind (wpAny_of_eq fills_list_iadd ?_)))
  show wpAny _ A (if false = true then _ else _) Q E s
  rw [if_neg Bool.false_ne_true]
  refine wpAny_bind (wpAny_binaryOp1_none (nm := "add") tl tc noFill_list_add ?_)
  refine wpAny_bind (wpAny_of_eq seq_list_iadd ?_)
  refine wpAny_bind (wpAny_rule (call_meets F.slot_list_iadd tl F.entry_list_iadd (F.args_list_iadd_2 _ _) (list_iaddW l c items items2 k k2 dd2 sl2 ?_ ?_ ?_) ⟨hl, ho2, h⟩))
  · simp [Builtin.List.listTooLong, sizeLine]; intro _; omega
  · simp [sizeLine]; omega
  · simp [sizeLine]; omega
theorem st_iaddL {x : Str} {a : Addr} {l : List PV} {px pos : Pos} {e : Expr} (hx : sc.names.lookup x = some .local) (hz : l.length ≤ 100000)
    (h : EvE B n b sc σ e fun p => ∃ l', p = .list l' ∧ l'.length ≤ 100000 ∧ post .next σ (some (x, a, l ++ l'))) :
    StS B n b sc V σ (some (x, a, l)) (.AugAssign (.Name x px) .Add e pos) post := fun A env s E hR hE hI => by
  obtain ⟨m, hn, hm, ho⟩ := hI.loc
  obtain ⟨h1, h2, vs, h3, h4⟩ := ho x a l rfl
  have hk : env.scope.kind = .function := by rw [hE.scope]; exact hE.kind
  refine wpAny_AugAssign_Name (wpAny_loadName_local hk h1 hn h2 (wpAny_mono' (h A env _ s E hR hE (hI.einv hE)) ?_))
  rintro v s₁ ⟨p, ⟨l', rfl, hl', hp⟩, rp, x₁⟩
  obtain ⟨c, ws, rfl, hc, hlc, hrc⟩ := rep_list.mp rp
  have k₁ := hI.ext x₁
  obtain ⟨nn, h3'⟩ := id h3
  have h3₁ := x₁.k0 _ _ h3'
  have hlen : vs.length = l.length := h4.length
  have hlen' : ws.length = l'.length := hrc.length
  refine iadd_lists h3₁ hlc (by simp [hlen, hlen']; omega) ?_
  have hs' : Heap.SameBut a s₁.heap (s₁.heap.update a (Obj.mapSeq fun x => x ++ ws.toArray)) := Heap.SameBut.update ..
  have hp' : (s₁.heap.update a (Obj.mapSeq fun x => x ++ ws.toArray)).PlainList a (vs ++ ws).toArray := by
    have := Heap.get?_update_self (Obj.mapSeq fun x => x ++ ws.toArray) h3₁ rfl
    have e : vs.toArray ++ ws.toArray = (vs ++ ws).toArray := by simp
    rw [← e]
    exact ⟨_, this⟩
  have k₂ := k₁.grown hs' hp' ((h4.keep x₁.k0).append hrc) s₁.toks (Nat.le_refl _)
  have xg : Ext (MineA env (some (x, a, l))) s₁ { s₁ with heap := s₁.heap.update a (Obj.mapSeq fun x => x ++ ws.toArray), toks := s₁.toks } := .of_heap (tk := s₁.toks) (fun c o hc e => hs'.extBut c o (fun e' => hc (by rw [e']; exact .inr (.inr ⟨x, l, rfl⟩))) e) (Nat.le_refl _)
  refine k₂.ownAgain hE fun s₃ k₃ x₃ => ⟨.next, σ, _, hp, trivial, k₃, ((Ext.weaken x₁).trans0 xg).trans x₃ fun c hc => .inl (hc.imp id fun h => h.imp id fun ⟨_, _, e⟩ => by cases e; exact ⟨x, l, rfl⟩), fun y c l₂ e => ?_⟩
  cases e; exact .inl ⟨x, l, rfl⟩
end
end Mine
end

section
set_option maxRecDepth 100000
set_option linter.unusedVariables false
set_option linter.unusedSimpArgs false
namespace Mine
open PySem

section
variable {B : Base} {n : Nat} {b : Bool} {sc : Scope} {σ : Sto} {V : Addr → Prop} {ow : Own} {env : Env} {s : Shared} {post : Fl → Sto → Own → Prop}

theorem blockF (hE : EnvOk sc env) : env.blockKind = .function := by unfold Env.blockKind; rw [hE.scope, hE.kind]; rfl
def isStar : Expr → Bool
  | .Starred .. => true
  | _ => false
theorem swapped2 {x y : Str} {px py tpos vpos : Pos} {k kk : Nat} {v w : Expr} (hE : EnvOk sc env) (hx : sc.names.lookup x = some .local) (hy : sc.names.lookup y = some .local) (hl : (py.line == px.line) = true) (hxy : ([x, y] : List Str).eraseDups.length = 2)
    (hst : [v, w].any isStar = false) (hf : [v, w].all (foldedForSure 8) = false) (hc : [v, w].all (constantsAlone 8) = false) :
    swappedStores [.Tuple [.Name x px, .Name y py] k tpos] (.Tuple [v, w] kk vpos) env = pure (some [x, y]) := by
  have h1 : env.kindOf x = some .local := by rw [hE.kindOf]; exact hx
  have h2 : env.kindOf y = some .local := by rw [hE.kindOf]; exact hy
  have e : ([.Name x px, .Name y py] : List Expr).filterMap (fun | .Name id pos => if env.kindOf id == some .local && pos.line == ((([.Name x px, .Name y py] : List Expr).head?.map (·.pos.line)).getD 0) then some id else none | _ => none) = [x, y] := by
    have hl' : (py.line == ((([.Name x px, .Name y py] : List Expr).head?.map (·.pos.line)).getD 0)) = true := hl
    have hl0 : (px.line == ((([.Name x px, .Name y py] : List Expr).head?.map (·.pos.line)).getD 0)) = true := beq_self_eq_true px.line
    simp only [List.filterMap_cons, List.filterMap_nil, h1, h2, hl', hl0]
    rfl
  show (if (!([Expr.Name x px, Expr.Name y py].length == 2 || [Expr.Name x px, Expr.Name y py].length == 3) || [v, w].length != [Expr.Name x px, Expr.Name y py].length || env.blockKind != .function) = true then pure none else
    if [v, w].any isStar = true then pure none else
    let names := ([.Name x px, .Name y py] : List Expr).filterMap (fun | .Name id pos => if env.kindOf id == some .local && pos.line == ((([.Name x px, .Name y py] : List Expr).head?.map (·.pos.line)).getD 0) then some id else none | _ => none)
    if (names.length != [Expr.Name x px, Expr.Name y py].length || names.eraseDups.length != names.length) = true then pure none else
    if [v, w].all (foldedForSure 8) = true then pure none else
    if [v, w].all (constantsAlone 8) = true then (do unsupported "assign.tuple-of-constant-expressions:order-of-the-stores"; pure (some names)) else pure (some names) : Sem (Option (List Str))) = _
  rw [e, blockF hE, hst, hf, hc]
  simp only [hxy]
  rfl
/-- a tuple of constants: no exchange -/
theorem swapped_const {ts vs : List Expr} {k kk : Nat} {tpos vpos : Pos} (hf : vs.all (foldedForSure 8) = true) : swappedStores [.Tuple ts k tpos] (.Tuple vs kk vpos) env = pure none := by
  unfold swappedStores
  simp only
  split
  · rfl
  · split
    · rfl
    · split
      · rfl
      · first | rfl | (rw [hf]; rfl)

/-! a tuple that starts with a new list -/
theorem st_own2 {x y : Str} {px py tpos vpos lpos pos : Pos} {k kk : Nat} {e : Expr} (hx : sc.names.lookup x = some .local) (hy : sc.names.lookup y = some .local) (hxy : (x == y) = false) (hσ : σ.lookup x = none)
    (h : EvE B n true sc σ e fun p => ∀ a, post .next ((y, p) :: σ) (some (x, a, [])))
    (hs : ∀ env, swapsWithSole [.Tuple [.Name x px, .Name y py] k tpos] (.Tuple [.List [] lpos, e] kk vpos) pos.line env = pure false := by intro _; rfl)
    (hst : ∀ env, starEach [.List [] lpos, e] env = [(false, eval (.List [] lpos) env), (false, eval e env)] := by intro _; rfl)
    (hw : ∀ env, EnvOk sc env → swappedStores [.Tuple [.Name x px, .Name y py] k tpos] (.Tuple [.List [] lpos, e] kk vpos) env = pure (some [x, y])) :
    StS B n true sc V σ none (.Assign [.Tuple [.Name x px, .Name y py] k tpos] (.Tuple [.List [] lpos, e] kk vpos) pos) post := fun A env s E hR hE hI => by
  refine PyProof.Rows.Assign_Tuple_swapped (PyProof.Rows.Tuple_ ?_) (hs env) (hw env hE)
  rw [hst env]
  refine Calls.spliced_cons (PyProof.Rows.List_ (Calls.spliced_nil (wpAny_newObj_type ?_)))
  obtain ⟨k₁, hnew, hva⟩ := newlist_own hE hI
  have hD : (s.heap.push { cls := .type "list", data := .seq #[] }).PlainList s.heap.objs.size #[] := ⟨_, Heap.get?_push_size _ rfl⟩
  generalize hs1 : ({ s with heap := s.heap.push { cls := .type "list", data := .seq #[] } } : Shared) = s₁ at k₁
  have x₁ : Ext0 s s₁ := by rw [← hs1]; exact .push
  have hD₁ : s₁.heap.PlainList s.heap.objs.size #[] := by rw [← hs1]; exact hD
  have goal : wpAny (model B.prog B.w) A (spliced [(false, eval e env)]) (fun vs s₂ => wpAny (model B.prog B.w) A (newTuple (Value.ref s.heap.objs.size :: vs)) (fun v s₃ => wpAny (model B.prog B.w) A (unpackItems v [x, y].length none) (fun items s₄ => wpAny (model B.prog B.w) A (assignInOrder ([x, y].reverse.map fun n => bindName env n) items.reverse) (fun _ => SPost B env V none s post .next) E s₄) E s₃) E s₂) E s₁ := by
    refine Calls.spliced_cons (wpAny_mono' (h A env _ s₁ E hR hE (k₁.einv hE)) ?_)
    rintro v s₂ ⟨p, hp, rp, x₂⟩
    refine Calls.spliced_nil (wpAny_newObj_type ?_ (by show 2 ≤ sizeLine; decide))
    have x₃ : Ext0 s₂ { s₂ with heap := s₂.heap.push { cls := .type "tuple", data := .seq [Value.ref s.heap.objs.size, v].toArray } } := .push
    refine wpAny_unpackItems_tuple (hR.hand rfl) (t := s₂.heap.objs.size) (items := [Value.ref s.heap.objs.size, v].toArray) ⟨_, Heap.get?_push_size _ rfl, rfl, _, rfl⟩ fun h' he => ?_
    have x₄ : Ext0 { s₂ with heap := s₂.heap.push { cls := .type "tuple", data := .seq [Value.ref s.heap.objs.size, v].toArray } } { s₂ with heap := h' } := .of_heap0 (tk := s₂.toks) (fun c o e => he c o (Nat.ne_of_lt (Heap.lt_size e)) e) (Nat.le_refl _)
    have k₄ := ((k₁.ext x₂).ext x₃).ext x₄
    show wpAny _ _ (do holding [Value.ref s.heap.objs.size] (bindName env y v); do holding [] (bindName env x (Value.ref s.heap.objs.size)); pure ()) _ _ _
    have x₁₄ := (x₂.trans0 x₃).trans0 x₄
    refine wpAny_bind (wpAny_holding (wpAny_bindName (k₄.store hE (.inl ⟨hy, fun _ _ _ e => nomatch e⟩) (rp.keep (x₃.trans0 x₄).k0) fun s₅ k₅ x₅ => ?_)))
    have hD₅ : s₅.heap.PlainList s.heap.objs.size #[] := by
      obtain ⟨nn, e⟩ := hD₁
      exact ⟨nn, x₅.keep _ _ (k₄.vout _ (.inr rfl)) (x₁₄.k0 _ _ e)⟩
    have hσ' : ((y, p) :: σ).lookup x = none := by rw [List.lookup_cons, hxy]; exact hσ
    refine wpAny_bind (wpAny_holding (wpAny_bindName (k₅.ownStore hE hx hσ' hD₅ hva hnew fun s₆ k₆ x₆ => wpAny_pure ?_)))
    refine ⟨.next, _, _, hp _, trivial, k₆, ((Ext.weaken (x₁.trans0 x₁₄)).trans0 x₅).trans0 x₆, fun y a l e => ?_⟩
    cases e; exact .inr (get?_size _)
  exact hs1 ▸ goal
end
end Mine
end

section
set_option maxRecDepth 100000
set_option linter.unusedVariables false
set_option linter.unusedSimpArgs false
namespace Mine
open PySem PySem.W

structure ExcCls (B : Base) (f : Str) (C : Addr) : Prop where
  ex : ∃ nm q N bs bm hdct sn sub ab col dd k0 k1 k2 k3 k5 mN, B.mg f = some (.ref C) ∧ B.h₀.get? C = some (excClassObj nm q C N bs bm hdct sn sub ab col dd k0 k1 k2 k3 k5 "Exception.__new__") ∧ B.h₀.Ns N mN ∧ mN "__init__" = none ∧
    OwnTail B.h₀ [.type "Exception", .type "BaseException", .type "object"] bm
  str : ∀ M, Looks M B.h₀ (typeLookup (.ref C) (Str.ofString "__str__")) (some (.builtin "BaseException.__str__"))

section
variable {B : Base} {f : Str} {C e t0 : Addr} {A : Around} {E : Value → Shared → Prop} {s : Shared} {oe : Obj} {vs : Array Value} {m : Str} {tk : Tok}

theorem check_str_own (X : ExcCls B f C) {M : Model} {Q : Unit → Shared → Prop} (hk : ∀ b o, B.h₀.get? b = some o → s.heap.get? b = some o) (he : s.heap.get? e = some oe) (hc : oe.cls = .ref C) (hq : Q () s) :
    wpAny M A (checkBuiltinCall "BaseException.__str__" ⟨[.ref e], []⟩) Q E s := by
  obtain ⟨nm, q, N, bs, bm, hdct, sn, sub, ab, col, dd, k0, k1, k2, k3, k5, mN, h1, h2, h3, h4, T⟩ := X.ex
  obtain ⟨h, g, d, t, os⟩ := s
  have hC := hk _ _ h2
  have hkd : builtinKind "BaseException.__str__" = some .slot := by decide +kernel
  have hsplit : splitId "BaseException.__str__" = some ("BaseException", "__str__") := by decide +kernel
  have hcB : (Value.ref C :: bm).contains (.type "BaseException") = true := by rw [List.contains_cons, T.hasType rfl]; rfl
  have ha := F.args_bexc_str (.ref e)
  simp only [checkBuiltinCall, hkd, hsplit]
  refine wpAny_bind ?_
  unfold isInstance
  repeat (first | (with_reducible refine wpAny_loadPart_at he ?_; rw [hc]) | (with_reducible refine wpAny_isSubtype_exc hC ?_; rw [hcB]) | wp_step)
  exact hq
theorem strOf_own (X : ExcCls B f C) {prog : Program} {w : World} {Q : Value → Shared → Prop} (hk : ∀ b o, B.h₀.get? b = some o → s.heap.get? b = some o) (he : s.heap.get? e = some oe) (hc : oe.cls = .ref C) (hd : oe.data = .fields vs) (h0 : vs[0]? = some (.ref t0))
    (ht : s.heap.TupAt t0 [.str m tk]) (hu : A.units < cLine) (hq : Q (.str m tk) s) : wpAny (model prog w) A (Builtin.Str.strOf (.ref e)) Q E s := by
  unfold Builtin.Str.strOf
  rw [show Builtin.Str.isExactStr (.ref e) = false from rfl]
  refine wpAny_bind (m := cRoomFor _ _) (wpAny_cRoomFor hu ?_)
  refine wpAny_bind ?_
  unfold callSpecial? specialOf
  refine wpAny_bind (wpAny_bind ?_)
  show wpAny _ A (typeOf (.ref e)) _ _ s
  have hty : ∀ {Q : Value → Shared → Prop}, Q (.ref C) s → wpAny (model prog w) A (typeOf (.ref e)) Q E s := fun {Q} h => by
    obtain ⟨hh, g, d, t, os⟩ := s
    repeat (first | (with_reducible refine wpAny_loadPart_at he ?_; rw [hc]) | wp_step)
    exact h
  refine hty ((X.str (model prog w)) A _ E s hk ?_)
  refine wpAny_holding (wpAny_bind (wpAny_of_eq (F.excStr_Exception.str.bind (.ref e)) (wpAny_bind ?_)))
  refine wpAny_call (codeAny_call_builtin F.excStr_Exception.str.plain F.entry_bexc_str (check_str_own X hk he hc ?_))
  obtain ⟨ot, kk, hto, _, htd⟩ := ht
  unfold Builtin.«BaseException.__str__»
  have args : ∀ {A : Around} {Q : Value × List Value → Shared → Prop} {E : Value → Shared → Prop}, Q (.ref t0, [.str m tk]) s → wpAny (model prog w) A (Builtin.BaseException.bexcArgs (.ref e)) Q E s := fun {A Q E} h => by
    unfold Builtin.BaseException.bexcArgs
    exact wpAny_bind (wpAny_field he hd h0 (wpAny_bind (wpAny_seqItems hto htd (wpAny_pure h))))
  repeat (first | with_reducible refine args ?_ | wp_step)
  exact hq
theorem str_own (X : ExcCls B f C) {Q : Value → Shared → Prop} (hk : ∀ b o, B.h₀.get? b = some o → s.heap.get? b = some o) (he : s.heap.get? e = some oe) (hc : oe.cls = .ref C) (hd : oe.data = .fields vs) (h0 : vs[0]? = some (.ref t0))
    (ht : s.heap.TupAt t0 [.str m tk]) (hu : A.units + 2 < cLine) (hq : Q (.str m tk) s) : wpAny (model B.prog B.w) A (call (.type "str") [.ref e]) Q E s :=
  callType_new F.called_str (by decide) (F.typeCall_str_1 _) (F.newCall_str_1 _) (fun obj => F.args_object_init_2 obj _) F.entry_str_new
    (meets_str_new (S := fun A' R s' => A'.units + 1 < cLine ∧ (∀ b o, B.h₀.get? b = some o → s'.heap.get? b = some o) ∧ s'.heap.get? e = some oe ∧ s'.heap.TupAt t0 [.str m tk] ∧ R (.ok (.ret (.str m tk))) s')
      fun _ _ A' _ _ h => strOf_own (A := A'.in1) X h.2.1 h.2.2.1 hc hd h0 h.2.2.2.1 h.1 h.2.2.2.2)
    ⟨(show A.units + 1 + 1 < cLine from hu), hk, he, ht, typeIs_str _ _ _, hq⟩
end
end Mine
end

section
set_option maxRecDepth 100000
set_option linter.unusedVariables false
set_option linter.unusedSimpArgs false
namespace Mine
open PySem PySem.W

/-- what holds of two states, the heap left aside -/
structure Gk (s s' : Shared) : Prop where
  gsize : s.gens.size ≤ s'.gens.size
  gens : ∀ g, g < s.gens.size → s'.gens[g]? = s.gens[g]?
  bare : PyProof.Rows.AllBare s.gens → PyProof.Rows.AllBare s'.gens
  os : s'.os = s.os
  toks : s.toks ≤ s'.toks
theorem Ext.gk {W : Addr → Prop} {s s' : Shared} (x : Ext W s s') : Gk s s' := ⟨x.gsize, x.gens, x.bare, x.os, x.toks⟩
theorem Gk.trans {s s' s'' : Shared} (x : Gk s s') (y : Gk s' s'') : Gk s s'' := ⟨Nat.le_trans x.gsize y.gsize, fun g hg => (y.gens g (Nat.lt_of_lt_of_le hg x.gsize)).trans (x.gens g hg), fun h => y.bare (x.bare h), y.os.trans x.os, Nat.le_trans x.toks y.toks⟩
theorem Gk.heap {s : Shared} {h' : Heap} {k : Nat} (hk : s.toks ≤ k) : Gk s { s with heap := h', toks := k } := ⟨Nat.le_refl _, fun _ _ => rfl, id, rfl, hk⟩
theorem Gk.heap0 {s : Shared} {h' : Heap} : Gk s { s with heap := h' } := .heap (k := s.toks) (Nat.le_refl _)

def RFn (B : Base) (f : Str) (C : Addr) (y : List Nat) : Prop :=
  ∃ a o fd, B.mg f = some (.ref a) ∧ B.h₀.get? a = some o ∧ o.data = .func fd ∧ ∀ A outer base s v, Room 3 true A → A.frames = some outer → Ok B N0 s → Rep s.heap N0 (.str y) v → Heap.StaysIn base s.heap → s.heap.FunFrames base outer →
    codeAny (model B.prog B.w) A (.call (.ref a) ⟨[v], []⟩) (fun r s' => ∃ e t tk, r = .error (.ref e) ∧ Heap.FlyingW base outer e (.ref C) (.ref t) s'.heap ∧ s'.heap.TupAt t [.str (LS y) tk] ∧ s.heap.UpToSlots s'.heap ∧ Gk s s') s

section
variable {B : Base} {f p en : Str} {C : Addr} {params : Arguments} {sc : Scope} {y : List Nat}
theorem gc_new {A : Around} {env : Env} {s : Shared} (hR : Room 2 true A) (hE : EnvOk sc env) (hL : B.h₀.get? env.locals = none) (ok : Ok B N0 s) (al : (s.heap.get? env.locals).isSome = true) (hcell : ∀ x, sc.names.lookup x ≠ some .cell) (hco : sc.isCoroutine = false) : GC B A sc env s :=
  ⟨hR, hE, hL, al, fun c o e => by rw [ok.keep c o e]; rfl, hcell, hco⟩
theorem fn_raise {test : Expr} {r1 el rest : List Stmt} {np pp cpos rpos ipos : Pos} (D : DefIn B f params (.If test (.Raise (some (.Call (.Name en np) [.Name p pp] [] cpos)) none rpos :: r1) el ipos :: rest) sc) (X : ExcCls B en C)
    (hbind : ∀ pm code doc v, bindArgs (Calls.docDef f params (.If test (.Raise (some (.Call (.Name en np) [.Name p pp] [] cpos)) none rpos :: r1) el ipos :: rest) sc pm code doc) ⟨[v], []⟩ = pure [(p, v)])
    (hkind : sc.names.lookup p = some .local) (hk : sc.kind = .function) (hco : sc.isCoroutine = false) (hgen : sc.isGenerator = false) (hcell : ∀ x ∈ sc.names, x.2 ≠ .cell) (hcell' : ∀ x, sc.names.lookup x ≠ some .cell)
    (hen : sc.names.lookup en = some .globalImplicit) (hpd : (p == ("__debug__" : Str)) = false) (hed : (en == ("__debug__" : Str)) = false)
    (ht : EvT B 2 true sc [(p, .str y)] test fun c => c = true) : RFn B f C y := by
  obtain ⟨a, o, pm, code, doc, h1, h2, h3, h4⟩ := D.ex
  obtain ⟨nm, q, N, bs, bm, hdct, sn, sub, ab, col, dd, k0, k1, k2, k3, k5, mN, e1, e2, e3, e4, T⟩ := X.ex
  refine ⟨a, o, _, h1, h2, h3, fun A outer base s v hR hfr ok rv hkb hff => ?_⟩
  obtain ⟨t, rfl⟩ := rep_str.mp rv
  refine codeAny_call_function hR.lt (ok.keep _ _ h2) h3 hco hgen rfl (h4.keeps ok.keep) ?_
  rw [hbind pm code doc]
  refine wpAny_pure (wpAny_newFunctionEnv hcell (fun z hz => by rw [List.mem_singleton.mp hz]; exact hkind) (fun h₃ hns hsb => ?_) hk)
  have old : ∀ b o, s.heap.get? b = some o → h₃.get? b = some o := fun b o e => hsb.extBut b o (Nat.ne_of_lt (Heap.lt_size e)) (Heap.get?_push_of_some _ e)
  generalize hen' : newEnv (Calls.docDef f params (.If test (.Raise (some (.Call (.Name en np) [.Name p pp] [] cpos)) none rpos :: r1) el ipos :: rest) sc pm code doc).scope s.heap.objs.size (Calls.docDef f params (.If test (.Raise (some (.Call (.Name en np) [.Name p pp] [] cpos)) none rpos :: r1) el ipos :: rest) sc pm code doc).globals (Calls.docDef f params (.If test (.Raise (some (.Call (.Name en np) [.Name p pp] [] cpos)) none rpos :: r1) el ipos :: rest) sc pm code doc).closure ((Calls.docDef f params (.If test (.Raise (some (.Call (.Name en np) [.Name p pp] [] cpos)) none rpos :: r1) el ipos :: rest) sc pm code doc).qualname ++ ".<locals>.") (some a) (Calls.docDef f params (.If test (.Raise (some (.Call (.Name en np) [.Name p pp] [] cpos)) none rpos :: r1) el ipos :: rest) sc pm code doc).code none (Calls.docDef f params (.If test (.Raise (some (.Call (.Name en np) [.Name p pp] [] cpos)) none rpos :: r1) el ipos :: rest) sc pm code doc).builtins = env
  have hE : EnvOk sc env := by subst hen'; exact ⟨rfl, hk, rfl, rfl⟩
  have hloc : env.locals = s.heap.objs.size := by subst hen'; rfl
  have hframe : env.frame = some env.locals := by subst hen'; rfl
  have x₁ : Ext0 s { s with heap := h₃, toks := s.toks + [(p, Value.str (LS y) t)].length } := .of_heap0 old (Nat.le_succ _)
  have ok₁ := ok.ext x₁
  generalize hs1 : ({ s with heap := h₃, toks := s.toks + [(p, Value.str (LS y) t)].length } : Shared) = s₁ at x₁ ok₁
  have hns₁ : s₁.heap.Ns env.locals (fun z => [(p, Value.str (LS y) t)].reverse.lookup z) := by rw [← hs1, hloc]; exact hns
  have hL0 : B.h₀.get? env.locals = none := by rw [hloc]; exact h0_none ok (get?_size _)
  have loc₁ : LocOk N0 env.locals [(p, .str y)] s₁ := ⟨_, hns₁, fun z q hz => by
    simp only [List.lookup_cons] at hz
    cases hzp : z == p with
    | false => rw [hzp] at hz; cases hz
    | true => rw [hzp] at hz; cases hz; exact ⟨.str (LS y) t, by simp [List.lookup_cons, hzp], rep_str.mpr ⟨t, rfl⟩⟩⟩
  have hR2 : Room 2 true (A.deeper env) := ⟨by show A.depth + 1 + 2 ≤ 900; have := hR.depth; omega, by show A.units + 3 + 50 * 2 ≤ 9000; have := hR.units; omega, hR.hand⟩
  have gc : GC B (A.deeper env) sc env s₁ := gc_new hR2 hE hL0 ok₁ (by obtain ⟨o, _, _, ho, _⟩ := hns₁; rw [ho]; rfl) hcell' hco
  have hσ : SOk sc [(p, .str y)] := SOk.nil.cons hkind rfl
  refine ⟨(ok.good.nolimit.keeps ok.keep).keeps x₁.k0, codeAny_func ?_⟩
  have hfrE : (A.deeper env).frames = some (env :: outer) := Around.frames_deeper hfr
  refine wpAny_execs_cons (wpAny_If (wpAny_mono' (ht (A.deeper env) env N0 s₁ _ hR2 hE (gc.einv hσ ok₁ loc₁ fun _ h => h.elim)) ?_))
  rintro c s₂ ⟨rfl, x₂⟩
  rw [if_pos rfl]
  have ok₂ := ok₁.ext x₂
  have loc₂ : LocOk N0 env.locals [(p, .str y)] s₂ := let ⟨m, hn, hm⟩ := loc₁; ⟨m, hn.keeps x₂.k0, fun z q hz => let ⟨u, e, r⟩ := hm z q hz; ⟨u, e, r.keep x₂.k0⟩⟩
  refine wpAny_execs_cons (wpAny_Raise_call_subT (mN := mN) (nm := nm) (q := q) (N := N) (bs := bs) (bm := bm) (hdct := hdct) (sn := sn) (sub := sub) (ab := ab) (col := col) (dd := dd) (k0 := k0) (k1 := k1) (k2 := k2) (k3 := k3) (k5 := k5) F.excBase_Exception (T.hasType rfl) hR2.hand' rfl e4 (name_glob hen e1 hed hE ok₂ ⟨rfl, ?_⟩))
  obtain ⟨v, rv, rd⟩ := (gc.einv hσ ok₂ loc₂ (U := N0) fun _ h => h.elim).rd p (.str y) (by simp)
  obtain ⟨t', rfl⟩ := rep_str.mp rv
  refine Calls.evalArgs_plain (Calls.spliced_cons (wpAny_Name (rd s₂ (.refl _) _ _ _ _ (Calls.spliced_nil ?_)) hpd))
  refine ⟨rfl, by show 1 ≤ sizeLine; decide, ok₂.keep _ _ e2, e3.keeps ok₂.keep, T.keeps ok₂.keep, fun h' e hx => ?_⟩
  have x₀₂ := x₁.trans0 x₂
  have hkb₂ : Heap.StaysIn base s₂.heap := fun b o e => x₀₂.k0 b o (hkb b o e)
  have hff₂ : s₂.heap.FunFrames base (env :: outer) := by
    obtain ⟨m, hn, _⟩ := loc₂
    refine .cons (by rw [hE.scope, hk]; decide) hframe hn ?_ (hff.of_keeps fun b o e _ => ⟨o, x₀₂.k0 b o e, rfl⟩)
    rw [hloc]; exact hkb.fresh
  refine wpAny_leaves_madeW hfrE hframe hkb₂ hff₂ hx fun h'' tt hfl htup hbt hup => ?_
  refine ⟨e, tt, t', rfl, hfl, htup, ?_, x₀₂.gk.trans .heap0⟩
  exact (Heap.UpToSlots.of_keeps fun b o e => hx.keeps b o (x₀₂.k0 b o e)).trans hup
end
end Mine
end

section
set_option maxRecDepth 100000
set_option linter.unusedVariables false
set_option linter.unusedSimpArgs false
namespace Mine
open PySem PySem.W

section
variable {B : Base} {sc : Scope} {V : Addr → Prop} {σ : Sto} {ow : Own}
theorem Inv.slots {env : Env} {s s' : Shared} (k : Inv B env V σ ow s) (x : Ext (fun a => a = env.locals) s s') (hL : ∀ o, s.heap.get? env.locals = some o → ∃ sl, s'.heap.get? env.locals = some { o with slots := sl }) : Inv B env V σ ow s' := by
  obtain ⟨m, hn, hm, ho⟩ := k.loc
  have mine : MineA env ow env.locals := .inl rfl
  have ns : ∀ a, a = env.locals → Av V ow a ∨ NonSeq s.heap a := fun a e => e ▸ .inr (ns_nonseq hn)
  have rp : ∀ {p : PV} {v : Value}, Rep s.heap (Av V ow) p v → Rep s'.heap (Av V ow) p v := fun r => rep_extW ns x.keep r
  have rps : ∀ {p : List PV} {v : List Value}, Reps s.heap (Av V ow) p v → Reps s'.heap (Av V ow) p v := fun r => reps_extW ns x.keep r
  have ownL : ∀ y a l, ow = some (y, a, l) → a ≠ env.locals := fun y a l e q => by
    obtain ⟨_, _, vs, h3, _⟩ := ho y a l e
    exact ns_ne_list hn h3 q.symm
  refine ⟨⟨k.ok.good, fun c o e => x.keep c o (fun q => by have := k.new _ mine; rw [← q, e] at this; cases this) (k.ok.keep c o e), x.bare k.ok.bare, fun c hc => ?_, Nat.le_trans k.ok.toks x.toks⟩, ⟨m, ?_, fun y p h1 h2 => let ⟨v, e, r⟩ := hm y p h1 h2; ⟨v, e, rp r⟩, fun y a l e => ?_⟩, fun y hy => ?_, k.kinds, k.inj, k.new, k.vout⟩
  · obtain ⟨o, ho'⟩ := Option.isSome_iff_exists.mp (k.ok.alive c hc)
    rw [x.keep c o (fun q => ?_) ho']; rfl
    rcases hc with hc | ⟨y, l, e⟩
    · exact k.vout c hc (q ▸ mine)
    · exact ownL y c l e q
  · obtain ⟨o, es, ep, h1, h2⟩ := hn
    obtain ⟨sl, h1'⟩ := hL o h1
    exact ⟨_, es, ep, h1', h2⟩
  · obtain ⟨h1, h2, vs, ⟨nn, h3⟩, h4⟩ := ho y a l e
    exact ⟨h1, h2, vs, ⟨nn, x.keep _ _ (ownL y a l e) h3⟩, rps h4⟩
  · obtain ⟨c, ov, h1, h2, h3⟩ := k.cel y hy
    have hne := ns_ne_cell hn h2
    obtain ⟨o, h2, h2'⟩ := h2
    exact ⟨c, ov, h1, ⟨o, x.keep _ _ (Ne.symm hne) h2, h2'⟩, fun p hp => let ⟨v, e, r⟩ := h3 p hp; ⟨v, e, rp r⟩⟩
end

abbrev RefR (B : Base) (env : Env) (V : Addr → Prop) (σ : Sto) (ow : Own) (s : Shared) : Result → Shared → Prop := fun r s' => r = .ok (.ret (.bool true)) ∧ Inv B env V σ ow s' ∧ Ext (fun a => a = env.locals) s s'
def RefFn (B : Base) (f : Str) (x : List Nat) : Prop :=
  ∃ a o fd, B.mg f = some (.ref a) ∧ B.h₀.get? a = some o ∧ o.data = .func fd ∧ ∀ A env sc V σ ow s v, Room 9 true A → A.frames = some [env] → EnvOk sc env → env.frame = some env.locals → Inv B env V σ ow s → Rep s.heap (Av V ow) (.str x) v →
    codeAny (model B.prog B.w) A (.call (.ref a) ⟨[v], []⟩) (RefR B env V σ ow s) s

section
variable {B : Base} {f tx rn pf en : Str} {C : Addr} {params : Arguments} {sc : Scope} {x y : List Nat}
set_option maxHeartbeats 2000000 in
theorem fn_refused {a1 c1 e2 : Expr} {p1 p2 p3 p4 p5 p6 p7 p8 p9 p10 p11 p12 : Pos} {rest body : List Stmt}
    (hbody : body = .Try [.Expr (.Call (.Name pf p1) [a1] [] p2) p3] [.ExceptHandler (some (.Name en p4)) (some rn) [.Return (some (.BoolOp .And [.Compare (.Call (.Name (Str.ofString "str") p5) [.Name rn p6] [] p7) [.Eq] [c1] p8, e2] p9)) p10] p11] [] [] p12 :: rest)
    (D : DefIn B f params body sc) (X : ExcCls B en C) (RF : RFn B pf C y) (hstr : Blt B (Str.ofString "str") (.type "str"))
    (hbind : ∀ pm code doc v, bindArgs (Calls.docDef f params body sc pm code doc) ⟨[v], []⟩ = pure [(tx, v)])
    (hkind : sc.names.lookup tx = some .local) (hrn : sc.names.lookup rn = some .local) (hne : (tx == rn) = false) (hk : sc.kind = .function) (hco : sc.isCoroutine = false) (hgen : sc.isGenerator = false) (hcell : ∀ x ∈ sc.names, x.2 ≠ .cell) (hcell' : ∀ x, sc.names.lookup x ≠ some .cell)
    (hen : sc.names.lookup en = some .globalImplicit) (hpf : sc.names.lookup pf = some .globalImplicit) (hst : sc.names.lookup (Str.ofString "str") = some .globalImplicit) (hed : (en == ("__debug__" : Str)) = false) (hpd : (pf == ("__debug__" : Str)) = false) (hrd : (rn == ("__debug__" : Str)) = false)
    (h1 : EvE B 7 true sc [(tx, .str x)] a1 fun p => p = .str y) (hc1 : EvE B 7 false sc [(tx, .str x)] c1 fun p => p = .str y) (he2 : EvE B 7 false sc [(tx, .str x)] e2 fun p => p = .bool true)
    (hs1 : ∀ env, starEach [a1] env = [(false, eval a1 env)] := by intro _; rfl) (hm : behindInMarks .Eq c1 = false := by rfl) : RefFn B f x := by
  obtain ⟨a, o, pm, code, doc, d1, d2, d3, d4⟩ := D.ex
  obtain ⟨nm, q, N, bs, bm, hdct, sn, sub, ab, col, dd, k0, k1, k2, k3, k5, mN, e1, e2', e3, e4, T⟩ := X.ex
  refine ⟨a, o, _, d1, d2, d3, fun A env sc' V σ ow s v hR hfr hE hframe hI rv => ?_⟩
  obtain ⟨t, rfl⟩ := rep_str.mp rv
  have ok := hI.ok.low
  refine codeAny_call_function hR.lt (ok.keep _ _ d2) d3 hco hgen rfl (d4.keeps ok.keep) ?_
  rw [hbind pm code doc]
  refine wpAny_pure (wpAny_newFunctionEnv hcell (fun z hz => by rw [List.mem_singleton.mp hz]; exact hkind) (fun h₃ hns hsb => ?_) hk)
  have old : ∀ b o, s.heap.get? b = some o → h₃.get? b = some o := fun b o e => hsb.extBut b o (Nat.ne_of_lt (Heap.lt_size e)) (Heap.get?_push_of_some _ e)
  generalize hen' : newEnv (Calls.docDef f params body sc pm code doc).scope s.heap.objs.size (Calls.docDef f params body sc pm code doc).globals (Calls.docDef f params body sc pm code doc).closure ((Calls.docDef f params body sc pm code doc).qualname ++ ".<locals>.") (some a) (Calls.docDef f params body sc pm code doc).code none (Calls.docDef f params body sc pm code doc).builtins = er
  have hEr : EnvOk sc er := by subst hen'; exact ⟨rfl, hk, rfl, rfl⟩
  have hloc : er.locals = s.heap.objs.size := by subst hen'; rfl
  have hfrR : er.frame = some er.locals := by subst hen'; rfl
  have x₁ : Ext0 s { s with heap := h₃, toks := s.toks + [(tx, Value.str (LS x) t)].length } := .of_heap0 old (Nat.le_succ _)
  have ok₁ := ok.ext x₁
  generalize hs1' : ({ s with heap := h₃, toks := s.toks + [(tx, Value.str (LS x) t)].length } : Shared) = s₁ at x₁ ok₁
  have hns₁ : s₁.heap.Ns er.locals (fun z => [(tx, Value.str (LS x) t)].reverse.lookup z) := by rw [← hs1', hloc]; exact hns
  have hL0 : B.h₀.get? er.locals = none := by rw [hloc]; exact h0_none ok (get?_size _)
  have hσ : SOk sc [(tx, .str x)] := SOk.nil.cons hkind rfl
  have hkr : er.scope.kind = .function := by rw [hEr.scope]; exact hk
  have locOf : ∀ {s' : Shared} {m : Str → Option Value}, s'.heap.Ns er.locals m → m tx = some (.str (LS x) t) → LocOk N0 er.locals [(tx, .str x)] s' := fun hn hm => ⟨_, hn, fun z q hz => by
    simp only [List.lookup_cons] at hz
    cases hzp : z == tx with
    | false => rw [hzp] at hz; cases hz
    | true => rw [hzp] at hz; cases hz; rw [beq_iff_eq.mp hzp]; exact ⟨.str (LS x) t, hm, rep_str.mpr ⟨t, rfl⟩⟩⟩
  have loc₁ : LocOk N0 er.locals [(tx, .str x)] s₁ := locOf hns₁ (by simp)
  have hR8 : Room 8 true (A.deeper er) := ⟨by show A.depth + 1 + 8 ≤ 900; have := hR.depth; omega, by show A.units + 3 + 50 * 8 ≤ 9000; have := hR.units; omega, hR.hand⟩
  have gc : GC B (A.deeper er) sc er s₁ := gc_new (hR8.mono (by omega)) hEr hL0 ok₁ (by obtain ⟨o, _, _, ho, _⟩ := hns₁; rw [ho]; rfl) hcell' hco
  refine ⟨(ok.good.nolimit.keeps ok.keep).keeps x₁.k0, codeAny_func ?_⟩
  have hfrE : (A.deeper er).frames = some [er, env] := Around.frames_deeper hfr
  -- what is not the caller's own frame
  obtain ⟨mL, hnL⟩ := hI.alive_loc
  have hbS : ∀ {h : Heap}, (∀ b o, b ≠ env.locals → s.heap.get? b = some o → h.get? b = some o) → Heap.StaysIn (PyProof.Rows.TI.gone s.heap [env.locals]) h := fun hk b o e => by
    obtain ⟨hb, e'⟩ := PyProof.Rows.TI.gone_some e
    exact hk b o (fun q => hb (by simp [q])) e'
  have hSb : ∀ {h : Heap}, Heap.StaysIn (PyProof.Rows.TI.gone s.heap [env.locals]) h → ∀ b o, b ≠ env.locals → s.heap.get? b = some o → h.get? b = some o := fun hk b o hb e =>
    hk b o ((PyProof.Rows.TI.gone_get (by simpa using hb)).trans e)
  have bL : (PyProof.Rows.TI.gone s.heap [env.locals]).get? env.locals = none := PyProof.Rows.TI.gone_none (by simp)
  have bLr : (PyProof.Rows.TI.gone s.heap [env.locals]).get? er.locals = none := by
    cases e : (PyProof.Rows.TI.gone s.heap [env.locals]).get? er.locals with
    | none => rfl
    | some o => have := (PyProof.Rows.TI.gone_some e).2; rw [hloc, get?_size] at this; cases this
  generalize PyProof.Rows.TI.gone s.heap [env.locals] = base at hbS hSb bL bLr
  have hoK : ∀ {s' : Shared}, Heap.StaysIn base s'.heap → Gk s s' → Ok B N0 s' := fun hk g => ⟨ok.good, fun b o e => hSb hk b o (fun q => by have := hI.new _ (.inl rfl); rw [← q, e] at this; cases this) (ok.keep b o e), g.bare ok.bare, fun _ h => h.elim, Nat.le_trans ok.toks g.toks⟩
  have hff₁ : ∀ {s' : Shared} {m : Str → Option Value}, s'.heap.Ns er.locals m → s.heap.UpToSlots s'.heap → s'.heap.FunFrames base [er, env] := fun hn hu =>
    .cons (by rw [hEr.scope, hk]; decide) hfrR hn bLr (.cons (by rw [hE.scope, hE.kind]; decide) hframe (hu.ns hnL) bL trivial)
  subst hbody
  refine wpAny_execs_cons (wpAny_Try_except (wpAny_execs_cons (wpAny_Expr ?_ (by unfold interactive; rw [hkr]; rfl) rfl)))
  show wpAny _ _ (do callWith p2 (← eval (.Name pf p1) er) [] (backTo p2 (starEach [a1] er)) (backToKw p2 (keywordEach [] er))) _ _ _
  obtain ⟨pa, po, pfd, r1, r2, r3, r4⟩ := RF
  refine wpAny_bind (name_glob hpf r1 hpd hEr ok₁ ?_)
  show wpAny _ _ (callWith p2 (.ref pa) [] (backTo p2 (starEach [a1] er)) []) _ _ _
  rw [hs1]
  refine Calls.callWith_function (o := po) (fd := pfd) (Calls.evalArgs_plain (Calls.spliced_cons (wpAny_mono' (h1 (A.deeper er) er N0 s₁ _ (hR8.mono (by omega)) hEr (gc.einv hσ ok₁ loc₁ fun _ h => h.elim)) ?_)))
  rintro v s₂ ⟨pp, rfl, rp, x₂⟩
  have ok₂ := ok₁.ext x₂
  have x₀₂ := x₁.trans0 x₂
  refine Calls.spliced_nil ⟨⟨ok₂.keep _ _ r2, r3⟩, wpAny_call (codeAny_mono (r4 (A.deeper er) [er, env] base s₂ v (hR8.mono (by omega)) hfrE ok₂ rp (hbS fun b o _ e => x₀₂.k0 b o e) (hff₁ (hns₁.keeps x₂.k0) (.of_keeps x₀₂.k0))) ?_)⟩
  rintro r s₃ ⟨e, t0, tk, rfl, hfl, htup, hup, hgk⟩
  have up₃ : s.heap.UpToSlots s₃.heap := (Heap.UpToSlots.of_keeps x₀₂.k0).trans hup
  have ns₃ := hup.ns (hns₁.keeps x₂.k0)
  have gk₃ : Gk s s₃ := x₀₂.gk.trans hgk
  refine wpAny_looks_onW hfrE hfrR hfl fun h₄ held₄ up₄ => wpAny_landsW held₄ fun h₅ fl₅ up₅ => ?_
  have up₅' : s₃.heap.UpToSlots h₅ := up₄.trans up₅
  have fl5 := fl₅.2.2.2
  obtain ⟨oe, vs, T1, oT, ts, ho, ⟨hcls, hv0⟩, hd, hv1, hbT, hTe, hT, hdT, hts3⟩ := id fl5
  refine wpAny_handleBy_cons (codeAny_handlers_test ?_) (by intro q; cases q)
  have gk₅ : Gk s { s₃ with heap := h₅ } := gk₃.trans .heap0
  have ok₅ : Ok B N0 { s₃ with heap := h₅ } := hoK fl₅.1 gk₅
  refine name_glob hen e1 hed hEr ok₅ ?_
  refine wpAny_excMatches_sub_self (ok₅.keep _ _ e2') ho hcls (T.hasType rfl) ?_
  refine codeAny_handlers_suite_as ?_
  refine wpAny_setFlight_noneW (fl := .none) fl₅.1 fl₅.2.2.1 fl5 fun h₆ st₆ ff₆ tr₆ k₆ => ?_
  have ns₅ := up₅'.ns ns₃
  have ns₆ : h₆.Ns er.locals (fun z => [(tx, Value.str (LS x) t)].reverse.lookup z) := by
    obtain ⟨o, es, ep, q1, q2, q3⟩ := ns₅
    exact ⟨o, es, ep, k₆ _ _ q1 (fun vs q => by rw [q2] at q; cases q), q2, q3⟩
  refine wpAny_storeName_local (by rw [hEr.kindOf]; exact hrn) ns₆ (fun h₇ ns₇ sb₇ => ?_) (by rw [hkr]; rfl)
  obtain ⟨oe6, vs6, T6, oT6, ts6, ho6, ⟨hcls6, hv06⟩, hd6, hv16, hbT6, hTe6, hT6, hdT6, hts6⟩ := id tr₆
  have heL : e ≠ er.locals := fun q => by
    obtain ⟨o, es, ep, q1, q2, _⟩ := ns₆
    rw [← q, ho6] at q1; cases q1; rw [hd6] at q2; cases q2
  have htL : t0 ≠ er.locals := fun q => by
    obtain ⟨o, es, ep, q1, q2, _⟩ := ns₅
    obtain ⟨ot, kt, z1, z2, z3⟩ := htup.of_slots up₅'
    rw [← q, z1] at q1; cases q1; rw [z3] at q2; cases q2
  have st₇ : Heap.StaysIn base h₇ := fun b o eb => sb₇.extBut b o (fun q => by rw [q, bLr] at eb; cases eb) (st₆ b o eb)
  have ho7 := sb₇.extBut e _ heL ho6
  have htup7 : h₇.TupAt t0 [.str (LS y) tk] := by
    obtain ⟨ot, kt, z1, z2, z3⟩ := htup.of_slots up₅'
    exact ⟨ot, kt, sb₇.extBut _ _ htL (k₆ _ _ z1 (fun vs q => by rw [z3] at q; cases q)), z2, z3⟩
  have hLL : env.locals ≠ er.locals := fun q => by
    obtain ⟨o, _, _, q1, _⟩ := hnL
    rw [q, hloc, get?_size] at q1; cases q1
  have lw7 : ∀ o, s.heap.get? env.locals = some o → ∃ sl, h₇.get? env.locals = some { o with slots := sl } := fun o ho => by
    have hdn : ∀ vs, o.data ≠ .fields vs := fun vs q => by
      obtain ⟨o', es, ep, q1, q2, _⟩ := hnL
      rw [ho] at q1; cases q1; rw [q2] at q; cases q
    obtain ⟨sl, z⟩ := (up₃.trans up₅') env.locals o ho hdn
    exact ⟨sl, sb₇.extBut _ _ hLL (k₆ _ _ z hdn)⟩
  generalize hs7 : ({ heap := h₇, gens := s₃.gens, drawn := s₃.drawn, toks := s₃.toks + 1, os := s₃.os } : Shared) = s₇
  have hh7 : s₇.heap = h₇ := by rw [← hs7]
  have gk₇ : Gk s s₇ := by rw [← hs7]; exact gk₃.trans (.heap (Nat.le_succ _))
  have ok₇ : Ok B N0 s₇ := hoK (by rw [hh7]; exact st₇) gk₇
  have ns7 : s₇.heap.Ns er.locals (fun z => if z = rn then some (.ref e) else [(tx, Value.str (LS x) t)].reverse.lookup z) := by rw [hh7]; exact ns₇
  have htr : tx ≠ rn := fun q => by rw [q] at hne; simp at hne
  have loc₇ : LocOk N0 er.locals [(tx, .str x)] s₇ := locOf ns7 (by simp [htr])
  have hRm : Room 7 false ((A.deeper er).mark (some (.ref e))) := ⟨by have := hR8.depth; show (A.deeper er).depth + 7 ≤ 900; omega, by have := hR8.units; show (A.deeper er).units + 50 * 7 ≤ 9000; omega, fun h => by cases h⟩
  refine wpAny_execs_cons (wpAny_Return_some ?_)
  show wpAny _ _ (do
    let v ← eval (.Compare (.Call (.Name (Str.ofString "str") p5) [.Name rn p6] [] p7) [.Eq] [c1] p8) er
    standAt p9
    let t ← holding [v] (truthy v)
    match BoolOp.And, t with
    | .And, false | .Or, true => pure v
    | _, _ => eval e2 er) _ _ _
  refine wpAny_bind (wpAny_Compare1 ?_ hm)
  show wpAny _ _ (do callWith p7 (← eval (.Name (Str.ofString "str") p5) er) [] (backTo p7 (starEach [.Name rn p6] er)) (backToKw p7 (keywordEach [] er))) _ _ _
  refine wpAny_bind (name_blt hst hstr (by decide) hEr ok₇ ?_)
  refine callWith_machine rfl rfl (Calls.evalArgs_plain (Calls.spliced_cons (wpAny_Name (wpAny_loadName_local hkr (by rw [hEr.kindOf]; exact hrn) ns7 (show (if rn = rn then some (Value.ref e) else [(tx, Value.str (LS x) t)].reverse.lookup rn) = some (.ref e) from if_pos rfl) (Calls.spliced_nil ?_)) hrd)))
  refine str_own X ok₇.keep (by rw [hh7]; exact ho7) hcls6 hd6 hv06 (by rw [hh7]; exact htup7) (by have := hR8.units; show (A.deeper er).units + 2 < 9900; omega) ?_
  refine wpAny_mono' (hc1 _ er N0 s₇ _ hRm hEr (gc.einv hσ ok₇ loc₇ fun _ h => h.elim)) ?_
  rintro v8 s₈ ⟨_, rfl, rp8, x₈⟩
  obtain ⟨t8, rfl⟩ := rep_str.mp rp8
  refine PySem.P.eq_str ?_
  refine wpAny_bind (wpAny_standAt (wpAny_bind (wpAny_holding (wpAny_truthy_bool ?_))))
  rw [show ((LS y).cps.toList == (Str.mk y.toArray).cps.toList) = true by simp]
  have ok₈ := ok₇.ext x₈
  have loc₈ : LocOk N0 er.locals [(tx, .str x)] s₈ := let ⟨m, hn, hm⟩ := loc₇; ⟨m, hn.keeps x₈.k0, fun z q hz => let ⟨u, e, r⟩ := hm z q hz; ⟨u, e, r.keep x₈.k0⟩⟩
  refine wpAny_mono' (he2 _ er N0 s₈ _ hRm hEr (gc.einv hσ ok₈ loc₈ fun _ h => h.elim)) ?_
  rintro v9 s₉ ⟨_, rfl, rp9, x₉⟩
  rw [rep_bool.mp rp9]
  have x₇₉ := x₈.trans0 x₉
  -- the name goes
  refine wpAny_nameGoes (by rw [hEr.kindOf]; exact hrn) (ns7.keeps x₇₉.k0) (by rw [hkr]; rfl) fun h' m' hn' hs' => ?_
  have xL : Ext (fun a => a = env.locals) s { s₉ with heap := h', toks := s₉.toks + 1 } := by
    have g := (gk₇.trans x₇₉.gk).trans (Gk.heap (s := s₉) (h' := h') (k := s₉.toks + 1) (Nat.le_succ _))
    refine ⟨fun b o hb eb => ?_, g.gsize, g.gens, g.bare, g.os, g.toks⟩
    refine hs'.extBut b o (fun q => ?_) (x₇₉.k0 b o (by rw [hh7]; exact hSb st₇ b o hb eb))
    rw [q, hloc, get?_size] at eb; cases eb
  refine ⟨rfl, hI.slots xL fun o ho => ?_, xL⟩
  obtain ⟨sl, z⟩ := lw7 o ho
  exact ⟨sl, hs'.extBut _ _ hLL (x₇₉.k0 _ _ (by rw [hh7]; exact z))⟩
end
end Mine
end

section
set_option maxRecDepth 100000
set_option linter.unusedVariables false
set_option linter.unusedSimpArgs false
namespace Mine
open PySem PySem.W

/-- a statement of the frame that is called first -/
def StT (B : Base) (n : Nat) (sc : Scope) (V : Addr → Prop) (σ : Sto) (ow : Own) (st : Stmt) (post : Fl → Sto → Own → Prop) : Prop :=
  ∀ A env s E, Room n true A → A.frames = some [env] → env.frame = some env.locals → EnvOk sc env → Inv B env V σ ow s → wpAny (model B.prog B.w) A (exec st env) (SPost B env V ow s post) E s
def StTL (B : Base) (n : Nat) (sc : Scope) (V : Addr → Prop) (σ : Sto) (ow : Own) (sts : List Stmt) (post : Fl → Sto → Own → Prop) : Prop :=
  ∀ A env s E, Room n true A → A.frames = some [env] → env.frame = some env.locals → EnvOk sc env → Inv B env V σ ow s → wpAny (model B.prog B.w) A (execs sts env) (SPost B env V ow s post) E s
def EvTT (B : Base) (n : Nat) (sc : Scope) (V : Addr → Prop) (σ : Sto) (ow : Own) (e : Expr) (P : Bool → Prop) : Prop :=
  ∀ A env s E, Room n true A → A.frames = some [env] → env.frame = some env.locals → EnvOk sc env → Inv B env V σ ow s → wpAny (model B.prog B.w) A (isTrue e env (eval e env)) (fun r s' => P r ∧ Inv B env V σ ow s' ∧ Ext (MineA env ow) s s') E s

section
variable {B : Base} {n : Nat} {sc : Scope} {V : Addr → Prop} {σ : Sto} {ow : Own} {post : Fl → Sto → Own → Prop}
theorem stT_of {st : Stmt} (h : StS B n true sc V σ ow st post) : StT B n sc V σ ow st post := fun A env s E hR _ _ hE hI => h A env s E hR hE hI
theorem stTL_of {sts : List Stmt} (h : StL B n true sc V σ ow sts post) : StTL B n sc V σ ow sts post := fun A env s E hR _ _ hE hI => h A env s E hR hE hI
theorem stTL_nil (h : post .next σ ow) : StTL B n sc V σ ow [] post := stTL_of (stl_nil h)
theorem stTL_cons {st : Stmt} {rest : List Stmt} (h : StT B n sc V σ ow st fun φ σ' ow' => match φ with | .next => StTL B n sc V σ' ow' rest post | φ => post φ σ' ow') : StTL B n sc V σ ow (st :: rest) post := fun A env s E hR hfr hf hE hI => by
  refine wpAny_execs_cons (wpAny_mono' (h A env s E hR hfr hf hE hI) ?_)
  rintro f s₁ ⟨φ, σ', ow', hp, hfl, hi, x, g⟩
  cases f with
  | next =>
    cases φ with
    | next => exact wpAny_mono' (hp A env s₁ E hR hfr hf hE hi) fun _ _ h => h.step x g hi
    | _ => cases hfl
  | brk => cases φ with | brk => exact ⟨.brk, σ', ow', hp, hfl, hi, x, g⟩ | _ => cases hfl
  | cont => cases φ with | cont => exact ⟨.cont, σ', ow', hp, hfl, hi, x, g⟩ | _ => cases hfl
  | ret v => cases φ with | ret p => exact ⟨.ret p, σ', ow', hp, hfl, hi, x, g⟩ | _ => cases hfl
theorem stTL_weaken {σ' : Sto} {sts : List Stmt} (hs : ∀ x p, σ'.lookup x = some p → σ.lookup x = some p) (h : StTL B n sc V σ' ow sts post) : StTL B n sc V σ ow sts post := fun A env s E hR hfr hf hE hI => h A env s E hR hfr hf hE (hI.weaken hs)
theorem ett_ev {e : Expr} {P : Bool → Prop} (h : EvT B n true sc σ e P) : EvTT B n sc V σ ow e P := fun A env s E hR hfr hf hE hI =>
  wpAny_mono' (h A env _ s E hR hE (hI.einv hE)) fun _ _ ⟨hp, x⟩ => ⟨hp, hI.ext x, .weaken x⟩
theorem ett_not {e : Expr} {pos : Pos} {Q : Bool → Prop} (h : EvTT B n sc V σ ow e fun c => Q (!c)) : EvTT B n sc V σ ow (.UnaryOp .Not e pos) Q := fun A env s E hR hfr hf hE hI =>
  PyProof.Rows.isTrue_not (h A env s E hR hfr hf hE hI)
theorem ett_ref {f : Str} {p pos : Pos} {e : Expr} {P : Bool → Prop} (hn : 9 ≤ n) (hf : sc.names.lookup f = some .globalImplicit) (hg : ∃ a o fd, B.mg f = some (.ref a) ∧ B.h₀.get? a = some o ∧ o.data = .func fd)
    (h : EvE B n true sc σ e fun q => ∃ x, q = .str x ∧ RefFn B f x) (hP : P true) (hs : ∀ env, starEach [e] env = [(false, eval e env)] := by intro _; rfl) (hd : (f == ("__debug__" : Str)) = false := by rfl)
    (hc : ∀ env, eval (.Call (.Name f p) [e] [] pos) env = (do callWith pos (← eval (.Name f p) env) [] (backTo pos (starEach [e] env)) (backToKw pos (keywordEach [] env))) := by intro _; rfl)
    (ht : ∀ env whole, isTrue (.Call (.Name f p) [e] [] pos) env whole = (do let v ← whole; standAt (Expr.Call (.Name f p) [e] [] pos).pos; holding [v] (truthy v)) := by intro _ _; rfl) :
    EvTT B n sc V σ ow (.Call (.Name f p) [e] [] pos) P := fun A env s E hR hfr hframe hE hI => by
  obtain ⟨a, o, fd, g1, g2, g3⟩ := hg
  refine PyProof.Rows.isTrue_plain ?_ (ht _ _)
  rw [hc]
  refine wpAny_bind (name_glob hf g1 hd hE hI.ok ?_)
  show wpAny _ _ (callWith pos (.ref a) [] (backTo pos (starEach [e] env)) []) _ _ _
  rw [hs]
  refine Calls.callWith_function (o := o) (fd := fd) (Calls.evalArgs_plain (Calls.spliced_cons (wpAny_mono' (h A env _ s E hR hE (hI.einv hE)) ?_)))
  rintro v s₁ ⟨q, ⟨x, rfl, a', o', fd', h1, h2, h3, h4⟩, rq, x₁⟩
  rw [g1] at h1; cases h1
  have k₁ := hI.ext x₁
  refine Calls.spliced_nil ⟨⟨k₁.ok.keep _ _ g2, g3⟩, wpAny_call (codeAny_mono (h4 A env sc V σ ow s₁ v (hR.mono hn) hfr hE hframe k₁ rq) ?_)⟩
  rintro r s' ⟨rfl, k', x'⟩
  exact wpAny_truthy_bool ⟨hP, k', (Ext.weaken x₁).trans0 (x'.wmono fun b e => .inl (.inl e))⟩
theorem stT_if {t : Expr} {th el : List Stmt} {pos : Pos} (h : EvTT B n sc V σ ow t fun c => if c = true then StTL B n sc V σ ow th post else StTL B n sc V σ ow el post) : StT B n sc V σ ow (.If t th el pos) post := fun A env s E hR hfr hf hE hI => by
  refine wpAny_If (wpAny_mono' (h A env s E hR hfr hf hE hI) ?_)
  rintro c s₁ ⟨hc, k₁, x₁⟩
  cases c with
  | true => rw [if_pos rfl] at hc ⊢; exact wpAny_mono' (hc A env s₁ E hR hfr hf hE k₁) fun _ _ h => h.step x₁ (.refl _ _) k₁
  | false => rw [if_neg Bool.false_ne_true] at hc ⊢; exact wpAny_mono' (hc A env s₁ E hR hfr hf hE k₁) fun _ _ h => h.step x₁ (.refl _ _) k₁

theorem stT_for {tgt iter : Expr} {body : List Stmt} {pos : Pos} (J : List PV → Nat → Sto → Own → Prop)
    (hit : ItE B n sc σ iter fun items => J items 0 σ ow ∧ (∀ i σ' ow', J items i σ' ow' → SameO ow ow') ∧
      (∀ i x σ' ow', items[i]? = some x → J items i σ' ow' → AsS B n sc V σ' ow' tgt x fun σ₁ => StTL B n sc V σ₁ ow' body fun φ σ₂ ow₂ => match φ with
        | .next | .cont => J items (i + 1) σ₂ ow₂
        | .brk => post .next σ₂ ow₂
        | .ret p => post (.ret p) σ₂ ow₂) ∧
      ∀ σ' ow', J items items.length σ' ow' → post .next σ' ow')
    (hs : ∀ env x, foldedSetIterable iter env x = pure x := by intro _ _; rfl) : StT B n sc V σ ow (.For tgt iter body [] pos) post := fun A env s E hR hfr hframe hE hI => by
  refine wpAny_For (wpAny_mono' (hit A env _ s E hR hE (hI.einv hE)) ?_) (hs env)
  rintro xv s₁ ⟨x₁, hx⟩
  refine wpAny_mono' hx ?_
  rintro it s₂ ⟨items, ⟨j0, jsame, jstep, jend⟩, x₂, F, G, hF, hG, hIt⟩
  obtain ⟨I, IT, hI0⟩ := hIt (Av V ow) (fun a h => .inl h) A hR.light
  have k₂ := hI.ext x₂
  have hFm : ∀ a, F a → ¬ MineA env ow a := fun a ha hm => by have := hI.mine_some hm; rw [(hF a ha).1] at this; cases this
  have hFv : ∀ a, F a → ¬ V a := fun a ha hv => by have := hI.ok.alive a (.inl hv); rw [(hF a ha).1] at this; cases this
  have hFb : ∀ a, F a → B.h₀.get? a = none := fun a ha => h0_none hI.ok (hF a ha).1
  refine codeAny_forLoop_any (fun k s' => ∃ i σ' ow', k = items.length + 1 - i ∧ i ≤ items.length ∧ J items i σ' ow' ∧ Inv B env V σ' ow' s' ∧ I i s' ∧ ExtG (fun a => MineA env ow a ∨ F a) G s₂ s') ?_ (items.length + 1)
    ⟨0, σ, ow, rfl, Nat.zero_le _, j0, k₂, hI0, .refl _⟩
  rintro k s' ⟨i, σ', ow', rfl, hi, hj, ki, hii, xx⟩
  have so := jsame i σ' ow' hj
  have okU : Ok B (Av V ow) s' := so.av V ▸ ki.ok
  have fin : ∀ {f : Flow} {φ : Fl} {σ₃ : Sto} {ow₃ : Own} {s₃ : Shared}, post φ σ₃ ow₃ → FlRep V s₃ f φ → Inv B env V σ₃ ow₃ s₃ → ExtG (fun a => MineA env ow a ∨ F a) G s₂ s₃ → Grows ow ow₃ s → SPost B env V ow s post f s₃ := fun hp hf hk hx hg =>
    ⟨_, _, _, hp, hf, hk, ExtG.out x₂ hx (fun a ha => ha.imp id fun h => (hF a h).1) hG, hg⟩
  by_cases hlt : i < items.length
  · obtain ⟨x, hxi⟩ : ∃ x, items[i]? = some x := ⟨items[i], by simp [hlt]⟩
    refine IT.item i s' x _ _ hxi okU hii fun v s₃ rv hi₃ x₃ => ?_
    have k₃ : Inv B env V σ' ow' s₃ := ki.extF x₃ (fun a ha => IT.nonseq i s' a hii ha) (fun a ha hm => hFm a ha (so.mine env ▸ hm)) hFv hFb
    refine IT.go (i + 1) tgt s₃ v x _ _ (List.mem_of_getElem? hxi) rv hi₃ ?_
    refine wpAny_mono' (jstep i x σ' ow' hxi hj A env s₃ _ v hR hE k₃ (so.av V ▸ rv)) ?_
    rintro _ s₄ ⟨σ₄, hst, k₄, x₄⟩
    have mns : ∀ a, MineA env ow' a → ¬ F a ∧ (Av V ow a ∨ NonSeq s₃.heap a) := fun a ha => ⟨fun hf => hFm a hf (so.mine env ▸ ha), so.av V ▸ k₃.mine_ns a ha⟩
    have hi₄ : I (i + 1) s₄ := IT.stab _ _ _ _ hi₃ x₄ mns
    refine wpAny_mono' (hst A env s₄ _ hR hfr hframe hE k₄) ?_
    rintro f s₅ ⟨φ, σ₅, ow₅, hp, hf, k₅, x₅, g₅⟩
    have mns' : ∀ a, MineA env ow' a → ¬ F a ∧ (Av V ow a ∨ NonSeq s₄.heap a) := fun a ha => ⟨fun hf => hFm a hf (so.mine env ▸ ha), so.av V ▸ k₄.mine_ns a ha⟩
    have hi₅ : I (i + 1) s₅ := IT.stab _ _ _ _ hi₄ x₅ mns'
    have xx₄ : ExtG (fun a => MineA env ow a ∨ F a) G s₂ s₄ := (xx.trans (x₃.mono fun a ha => .inl (.inr ha))).trans (x₄.toG fun a ha => .inl (so.mine env ▸ ha))
    have xx₅ : ExtG (fun a => MineA env ow a ∨ F a) G s₂ s₅ := xx₄.trans (x₅.toG fun a ha => .inl (so.mine env ▸ ha))
    have gr : Grows ow ow₅ s := fun y a l e => by
      rcases g₅ y a l e with ⟨y', l', e'⟩ | h
      · exact .inl ((so a).mp ⟨y', l', e'⟩)
      · cases e' : s.heap.get? a with
        | none => exact .inr rfl
        | some o =>
          by_cases hm : MineA env ow a ∨ F a
          · rcases hm with hm | hm
            · have := k₄.mine_some (so.mine env ▸ hm : MineA env ow' a); rw [h] at this; cases this
            · rw [(hF a hm).1] at e'; cases e'
          · have h2 := xx₄.keep a o hm (x₂.k0 a o e')
            rw [h] at h2; cases h2
    cases f with
    | next => cases φ with
      | next => exact ⟨items.length + 1 - (i + 1), by omega, i + 1, σ₅, ow₅, rfl, hlt, hp, k₅, hi₅, xx₅⟩
      | _ => cases hf
    | cont => cases φ with
      | cont => exact ⟨items.length + 1 - (i + 1), by omega, i + 1, σ₅, ow₅, rfl, hlt, hp, k₅, hi₅, xx₅⟩
      | _ => cases hf
    | brk => cases φ with
      | brk => exact fin (φ := .next) hp trivial k₅ xx₅ gr
      | _ => cases hf
    | ret v => cases φ with
      | ret p => exact fin (φ := .ret p) hp hf k₅ xx₅ gr
      | _ => cases hf
  · have hil : i = items.length := by omega
    subst hil
    refine IT.done s' _ _ okU hii fun s₃ x₃ => wpAny_execs_nil ?_
    have k₃ : Inv B env V σ' ow' s₃ := ki.extF x₃ (fun a ha => IT.nonseq _ s' a hii ha) (fun a ha hm => hFm a ha (so.mine env ▸ hm)) hFv hFb
    exact fin (φ := .next) (jend σ' ow' hj) trivial k₃ (xx.trans (x₃.mono fun a ha => .inl (.inr ha))) (so.grows s)
end
end Mine
end

section
set_option maxRecDepth 100000
set_option linter.unusedVariables false
set_option linter.unusedSimpArgs false
namespace Mine
open PySem PySem.W

/-! the four functions of the project, on lists of code points -/
def prsL : List Nat → List Nat
  | [] => []
  | 34 :: 34 :: r => 34 :: prsL r
  | 34 :: _ => []
  | c :: r => c :: prsL r
def prs (x : List Nat) : List Nat := if (x.drop 3).take 2 = [32, 34] then prsL (x.drop 5) else []
def escG : Nat → Bool → List Nat → List (Nat × List Nat)
  | i, true, [] => [(i - 1, [92])]
  | _, false, [] => []
  | i, true, c :: r => (i, [92, c]) :: escG (i + 1) false r
  | i, false, c :: r => if c = 92 then escG (i + 1) true r else (i, [c]) :: escG (i + 1) false r
def escPV (p : Nat × List Nat) : PV := .tup [.int p.1, .str p.2]
def escL (x : List Nat) : List PV := (escG 0 false x).map escPV
abbrev StripSt := Nat × Option Nat × List (List Nat)
def stripStep (x : List Nat) (st : StripSt) (p : Nat × List Nat) : StripSt :=
  if p.2 = [34] then match st.2.1 with
    | none => (st.1, some p.1, st.2.2)
    | some q => (p.1 + 1, none, if st.1 = q then st.2.2 else st.2.2 ++ [(x.drop st.1).take (q - st.1)])
  else st
def stripEnd (x : List Nat) (st : StripSt) : List Nat := joinL [] (if st.1 < x.length then st.2.2 ++ [x.drop st.1] else st.2.2)
def strip (x : List Nat) : List Nat := if 34 ∈ x then stripEnd x ((escG 0 false x).foldl (stripStep x) (0, none, [])) else x
def chkG : Int → List (Nat × List Nat) → Bool
  | o, [] => o == 0
  | o, (_, u) :: r => if u = [40] then chkG (o + 1) r else if u = [41] then (if o - 1 < 0 then false else chkG (o - 1) r) else chkG o r
def chk (x : List Nat) : Bool := chkG 0 (escG 0 false (strip x))

theorem prsL_at (x : List Nat) (i : Nat) (c : Nat) (h : x[i]? = some c) : prsL (x.drop i) = if c = 34 then (if x[i + 1]? = some 34 then 34 :: prsL (x.drop (i + 2)) else []) else c :: prsL (x.drop (i + 1)) := by
  have hlt : i < x.length := by rcases List.getElem?_eq_some_iff.mp h with ⟨h, _⟩; exact h
  have e : x.drop i = c :: x.drop (i + 1) := by
    rw [List.drop_eq_getElem_cons hlt]
    rcases List.getElem?_eq_some_iff.mp h with ⟨_, h⟩; rw [h]
  rw [e]
  by_cases hc : c = 34
  · subst hc
    rw [if_pos rfl]
    cases hd : x.drop (i + 1) with
    | nil =>
      have : x[i + 1]? = none := by rw [List.getElem?_eq_none_iff]; exact List.drop_eq_nil_iff.mp hd
      rw [this]; simp [prsL]
    | cons d r =>
      have h1 : x[i + 1]? = some d := by
        have : (x.drop (i + 1))[0]? = some d := by rw [hd]; rfl
        simpa [List.getElem?_drop] using this
      have h2 : x.drop (i + 2) = r := by
        have : (x.drop (i + 1)).drop 1 = r := by rw [hd]; rfl
        simpa [List.drop_drop] using this
      rw [h1, h2]
      by_cases hd' : d = 34
      · subst hd'; simp [prsL]
      · rw [if_neg (by simpa using hd')]
        unfold prsL
        split <;> simp_all
  · rw [if_neg hc]
    conv => lhs; unfold prsL
    split <;> simp_all

def ebAt (x : List Nat) : Nat → Bool
  | 0 => false
  | i + 1 => if ebAt x i = true then false else x[i]? == some 92
theorem escG_at (x : List Nat) (i d : Nat) (h : x[i]? = some d) : escG i (ebAt x i) (x.drop i) =
    if ebAt x i = true then (i, [92, d]) :: escG (i + 1) (ebAt x (i + 1)) (x.drop (i + 1)) else if d = 92 then escG (i + 1) (ebAt x (i + 1)) (x.drop (i + 1)) else (i, [d]) :: escG (i + 1) (ebAt x (i + 1)) (x.drop (i + 1)) := by
  have hlt : i < x.length := by rcases List.getElem?_eq_some_iff.mp h with ⟨h, _⟩; exact h
  have e : x.drop i = d :: x.drop (i + 1) := by
    rw [List.drop_eq_getElem_cons hlt]
    rcases List.getElem?_eq_some_iff.mp h with ⟨_, h⟩; rw [h]
  rw [e]
  cases hb : ebAt x i with
  | true =>
    have : ebAt x (i + 1) = false := by simp [ebAt, hb]
    rw [this, if_pos rfl]; rfl
  | false =>
    have : ebAt x (i + 1) = decide (d = 92) := by simp [ebAt, hb, h]; rfl
    rw [this, if_neg (by simp)]
    by_cases hd : d = 92
    · subst hd; simp [escG]
    · simp [escG, hd]
theorem escG_len (x : List Nat) : ∀ (i : Nat) (b : Bool), (escG i b x).length ≤ x.length + 1 := by
  induction x with
  | nil => intro i b; cases b <;> simp [escG]
  | cons c r ih =>
    intro i b
    cases b with
    | true => simp [escG]; have := ih (i + 1) false; omega
    | false =>
      simp only [escG]
      split
      · have := ih (i + 1) true; simp; omega
      · have := ih (i + 1) false; simp; omega
theorem clip_nat (n d k : Nat) : clipI n d (some (k : Int)) = min k n := by simp only [clipI]; omega
theorem slice_to {α : Type} (x : List α) (k : Nat) : pySlice x none (some (k : Int)) = x.take k := by
  unfold pySlice
  rw [clip_nat, show clipI x.length 0 none = 0 from rfl, List.drop_zero, Nat.sub_zero, ← List.take_eq_take_min]
theorem slice_from {α : Type} (x : List α) (k : Nat) : pySlice x (some (k : Int)) none = x.drop k := by
  unfold pySlice
  rw [clip_nat, show clipI x.length x.length none = x.length from rfl, List.take_of_length_le (by rw [List.length_drop]; exact Nat.le_refl _)]
  rcases Nat.le_total k x.length with h | h
  · rw [Nat.min_eq_left h]
  · rw [Nat.min_eq_right h, List.drop_length, List.drop_eq_nil_of_le h]
theorem slice_mid {α : Type} (x : List α) (a b : Nat) : pySlice x (some (a : Int)) (some (b : Int)) = (x.drop a).take (b - a) := by
  unfold pySlice
  rw [clip_nat, clip_nat]
  rcases Nat.le_total a x.length with h | h
  · rw [Nat.min_eq_left h, List.take_eq_take_min (i := b - a), List.length_drop]
    congr 1; omega
  · rw [Nat.min_eq_right h, List.drop_length, List.drop_eq_nil_of_le h]; simp
theorem slice_last {α : Type} (x : List α) : pySlice x none (some (-1 : Int)) = x.take (x.length - 1) := by
  simp only [pySlice, clipI, List.drop_zero, Nat.sub_zero]
  congr 1; omega
theorem look_eq {x : Str} {p : PV} {σ : Sto} : ((x, p) :: σ).lookup x = some p := by simp
theorem look_ne {x y : Str} {p q : PV} {σ : Sto} (h : (x == y) = false) (l : σ.lookup x = some p) : ((y, q) :: σ).lookup x = some p := by rw [List.lookup_cons, h]; exact l
theorem sto_sub {τ σ : Sto} (h : ∀ q ∈ τ, σ.lookup q.1 = some q.2) : ∀ y p, τ.lookup y = some p → σ.lookup y = some p := fun y p e => h (y, p) (mem_of_lookup e)
theorem sto3 {a b c : Str × PV} {σ : Sto} (h1 : σ.lookup a.1 = some a.2) (h2 : σ.lookup b.1 = some b.2) (h3 : σ.lookup c.1 = some c.2) : ∀ y p, List.lookup y [a, b, c] = some p → σ.lookup y = some p := sto_sub fun q hq => by
  simp only [List.mem_cons, List.not_mem_nil, or_false] at hq
  rcases hq with rfl | rfl | rfl <;> assumption
theorem putsL {sc : Scope} {x : Str} (h : sc.names.lookup x = some .local) : Puts sc none x := .inl ⟨h, fun _ _ _ e => nomatch e⟩
theorem putsO {sc : Scope} {x y : Str} {a : Addr} {l : List PV} (h : sc.names.lookup x = some .local) (hn : (y == x) = false) : Puts sc (some (y, a, l)) x := .inl ⟨h, fun _ _ _ e => by cases e; exact fun e => by rw [e] at hn; simp at hn⟩
theorem putsC {sc : Scope} {x : Str} {ow : Own} (h : sc.names.lookup x = some .cell) : Puts sc ow x := .inr h
end Mine
end

section
set_option maxRecDepth 100000
set_option linter.unusedVariables false
set_option linter.unusedSimpArgs false
namespace Mine
open PySem PySem.W
def stF (x : List Nat) (i : Nat) : StripSt := ((escG 0 false x).take i).foldl (stripStep x) (0, none, [])
theorem stF_succ (x : List Nat) (i : Nat) (q : Nat × List Nat) (h : (escG 0 false x)[i]? = some q) : stF x (i + 1) = stripStep x (stF x i) q := by
  unfold stF; rw [List.take_add_one, h]; simp
theorem stF_all (x : List Nat) (i : Nat) (h : (escG 0 false x).length ≤ i) : stF x i = (escG 0 false x).foldl (stripStep x) (0, none, []) := by
  unfold stF; rw [List.take_of_length_le h]
theorem stF_bd (x : List Nat) : ∀ i, (stF x i).2.2.length ≤ i ∧ ∀ y ∈ (stF x i).2.2, y.length ≤ x.length
  | 0 => by simp [stF]
  | i + 1 => by
    obtain ⟨h1, h2⟩ := stF_bd x i
    cases hq : (escG 0 false x)[i]? with
    | none =>
      have : (escG 0 false x).length ≤ i := List.getElem?_eq_none_iff.mp hq
      rw [stF_all x (i + 1) (by omega), ← stF_all x i this]
      exact ⟨by omega, h2⟩
    | some q =>
      rw [stF_succ x i q hq]
      unfold stripStep
      split
      · split
        · exact ⟨by simpa using Nat.le_succ_of_le h1, h2⟩
        · simp only
          split
          · exact ⟨by omega, h2⟩
          · refine ⟨by simp; omega, fun y hy => ?_⟩
            rcases List.mem_append.mp hy with hy | hy
            · exact h2 y hy
            · rw [List.mem_singleton.mp hy]; simp; omega
      · exact ⟨by omega, h2⟩
theorem escL_get {x : List Nat} {i : Nat} {p : PV} (h : (escL x)[i]? = some p) : ∃ q, (escG 0 false x)[i]? = some q ∧ p = escPV q := by
  unfold escL at h
  rw [List.getElem?_map] at h
  obtain ⟨q, h1, rfl⟩ := Option.map_eq_some_iff.mp h
  exact ⟨q, h1, rfl⟩
theorem escL_length (x : List Nat) : (escL x).length = (escG 0 false x).length := by simp [escL]
theorem sum_le (l : List (List Nat)) (b : Nat) (h : ∀ y ∈ l, y.length ≤ b) : (l.map List.length).sum ≤ l.length * b := by
  induction l with
  | nil => simp
  | cons a l ih =>
    have h1 := h a (by simp)
    have h2 := ih fun y hy => h y (by simp [hy])
    simp only [List.map_cons, List.sum_cons, List.length_cons, Nat.add_mul, Nat.one_mul]; omega
def optPV : Option Nat → PV
  | none => .none
  | some i => .int i
theorem chkG_drop (x : List (Nat × List Nat)) (i : Nat) (q : Nat × List Nat) (h : x[i]? = some q) (o : Int) : chkG o (x.drop i) = if q.2 = [40] then chkG (o + 1) (x.drop (i + 1)) else if q.2 = [41] then (if o - 1 < 0 then false else chkG (o - 1) (x.drop (i + 1))) else chkG o (x.drop (i + 1)) := by
  have hlt : i < x.length := by rcases List.getElem?_eq_some_iff.mp h with ⟨h, _⟩; exact h
  have e : x.drop i = q :: x.drop (i + 1) := by
    rw [List.drop_eq_getElem_cons hlt]
    rcases List.getElem?_eq_some_iff.mp h with ⟨_, h⟩; rw [h]
  rw [e]; obtain ⟨a, u⟩ := q; rfl
end Mine
end

section
set_option maxRecDepth 100000
set_option linter.unusedVariables false
set_option linter.unusedSimpArgs false
namespace Mine
open PySem PySem.W
def qm1 (c : Nat) : List Nat := if c = 92 then [92, 92] else if c = 34 then [92, 34] else [c]
def qf1 (c : Nat) : List Nat := if c = 34 then [34, 34] else [c]
def q1 (w : Nat) (t : List Nat) : List Nat := if w = 109 then t.flatMap qm1 else t.flatMap qf1
def quoted (x ways : List Nat) : List Nat := ways.foldl (fun t w => q1 w t) x
theorem qm_eq (x : List Nat) : replG [34] [92, 34] 0 (replG [92] [92, 92] 0 x) = x.flatMap qm1 := by
  rw [replG_one, replG_one, List.flatMap_assoc]
  congr 1; funext c
  unfold qm1
  by_cases h : c = 92
  · subst h; rfl
  · rw [if_neg h, if_neg h]; simp
theorem qf_eq (x : List Nat) : replG [34] [34, 34] 0 x = x.flatMap qf1 := by rw [replG_one]; rfl
theorem qm_len (x : List Nat) : (x.flatMap qm1).length ≤ 2 * x.length := by
  induction x with
  | nil => simp
  | cons c r ih =>
    have : (qm1 c).length ≤ 2 := by unfold qm1; split <;> (try split) <;> simp
    simp only [List.flatMap_cons, List.length_append, List.length_cons]; omega
theorem qf_len (x : List Nat) : (x.flatMap qf1).length ≤ 2 * x.length := by
  induction x with
  | nil => simp
  | cons c r ih =>
    have : (qf1 c).length ≤ 2 := by unfold qf1; split <;> simp
    simp only [List.flatMap_cons, List.length_append, List.length_cons]; omega
theorem q1_len (w : Nat) (x : List Nat) : (q1 w x).length ≤ 2 * x.length := by
  unfold q1; split
  · exact qm_len x
  · exact qf_len x
theorem quoted_take (x ways : List Nat) (i : Nat) (c : Nat) (h : ways[i]? = some c) : quoted x (ways.take (i + 1)) = q1 c (quoted x (ways.take i)) := by
  unfold quoted; rw [List.take_add_one, h]; simp
theorem quoted_len (x : List Nat) : ∀ ways : List Nat, (quoted x ways).length ≤ x.length * 2 ^ ways.length := by
  intro ways
  induction ways generalizing x with
  | nil => simp [quoted]
  | cons w r ih =>
    have h1 := ih (q1 w x)
    have h2 := q1_len w x
    have h3 : (q1 w x).length * 2 ^ r.length ≤ (2 * x.length) * 2 ^ r.length := Nat.mul_le_mul_right _ h2
    show (quoted (q1 w x) r).length ≤ x.length * 2 ^ (r.length + 1)
    rw [Nat.pow_succ]
    calc (quoted (q1 w x) r).length ≤ (2 * x.length) * 2 ^ r.length := Nat.le_trans h1 h3
      _ = x.length * (2 ^ r.length * 2) := by rw [Nat.mul_comm 2 x.length, Nat.mul_assoc, Nat.mul_comm 2]
def signC (k r : Nat) : Nat := if r < 2 then 34 else if r < 4 then 92 else if r = 4 then 40 else if r = 5 then 41 else 97 + k
def signL (k : Nat) (x : Int) : List Nat := [signC k (x.fmod 8).toNat]
/-- taking out pairs of round brackets -/
def out2 (b : List Nat) : List Nat := replG [40, 41] [] 0 b
def closeN : Nat → List Nat → Bool
  | 0, b => b == []
  | n + 1, b => if hasG [40, 41] b = true then closeN n (out2 b) else b == []
theorem repl_le (y : List Nat) : ∀ (k : Nat) (b : List Nat), (replG y [] k b).length ≤ b.length
  | _, [] => by simp [replG]
  | k + 1, _ :: r => by simp only [replG, List.length_cons]; have := repl_le y k r; omega
  | 0, c :: r => by
    have h1 := repl_le y 0 r
    have h2 := repl_le y (y.length - 1) r
    simp only [replG]; split <;> simp <;> omega
theorem repl_lt (y : List Nat) (hy : 0 < y.length) : ∀ (i : Nat) (b : List Nat), occG y 0 i b ≠ [] → (replG y [] 0 b).length < b.length
  | i, [], h => by simp [occG] at h
  | i, c :: r, h => by
    simp only [occG] at h
    simp only [replG]
    split
    · rename_i hp
      have := repl_le y (y.length - 1) r
      simp; omega
    · rename_i hp
      rw [if_neg hp] at h
      have := repl_lt y hy (i + 1) r h
      simp; omega
theorem out2_lt (b : List Nat) (h : hasG [40, 41] b = true) : (out2 b).length < b.length := repl_lt [40, 41] (by decide) 0 b (by unfold hasG at h; intro e; rw [e] at h; simp at h)
theorem closeN_enough : ∀ (n m : Nat) (b : List Nat), b.length ≤ n → b.length ≤ m → closeN n b = closeN m b := by
  intro n
  induction n with
  | zero =>
    intro m b h1 h2
    have : b = [] := by simpa using h1
    subst this
    cases m <;> rfl
  | succ n ih =>
    intro m b h1 h2
    cases m with
    | zero => have : b = [] := by simpa using h2
              subst this; rfl
    | succ m =>
      simp only [closeN]
      split
      · rename_i hh
        have := out2_lt b hh
        exact ih m (out2 b) (by omega) (by omega)
      · rfl
def closed (b : List Nat) : Bool := closeN b.length b
theorem closed_step (b : List Nat) (h : hasG [40, 41] b = true) : closed b = closed (out2 b) := by
  unfold closed
  have hl := out2_lt b h
  cases hb : b.length with
  | zero => omega
  | succ n => simp only [closeN, if_pos h]; exact closeN_enough _ _ _ (by omega) (by omega)
theorem closed_end (b : List Nat) (h : hasG [40, 41] b = false) : closed b = (b == []) := by
  unfold closed
  cases hb : b.length with
  | zero => rfl
  | succ n => simp only [closeN, h]; simp
end Mine
end

section
set_option maxRecDepth 100000
set_option linter.unusedVariables false
set_option linter.unusedSimpArgs false
namespace Mine
open PySem PySem.W
def unit1 (c : Nat) : List Nat := if c = 34 ∨ c = 92 then [92, c] else [c]
def pairStep (st : Int × List PV) (c : Nat) : Int × List PV := (st.1 + ((unit1 c).length : Nat), st.2 ++ [.tup [.int (st.1 + ((unit1 c).length : Nat)), .str (unit1 c)]])
def pairF (x : List Nat) (i : Nat) : Int × List PV := (x.take i).foldl pairStep (-1, [])
def pairsL (x : List Nat) : List PV := (x.foldl pairStep (-1, [])).2
theorem pairF_succ (x : List Nat) (i c : Nat) (h : x[i]? = some c) : pairF x (i + 1) = pairStep (pairF x i) c := by
  unfold pairF; rw [List.take_add_one, h]; simp
theorem pairF_all (x : List Nat) : (pairF x x.length).2 = pairsL x := by unfold pairF pairsL; rw [List.take_length]
theorem pairF_len (x : List Nat) : ∀ i, (pairF x i).2.length ≤ i
  | 0 => by simp [pairF]
  | i + 1 => by
    have := pairF_len x i
    cases h : x[i]? with
    | none =>
      have hl : x.length ≤ i := List.getElem?_eq_none_iff.mp h
      have e : pairF x (i + 1) = pairF x i := by unfold pairF; rw [List.take_of_length_le (by omega), List.take_of_length_le hl]
      rw [e]; omega
    | some c => rw [pairF_succ x i c h]; simp [pairStep]; omega
theorem mem_two (c : Nat) : hasG [c] [34, 92] = decide (c = 34 ∨ c = 92) := by rw [hasG_one]; simp
def keptB (x : List Nat) (k : Nat) : Bool := (x[k]? != some 92) || (trail 92 (x.take k) % 2 == 1)
def unitAt (x : List Nat) (k : Nat) : PV := .tup [.int k, .str (List.replicate (trail 92 (x.take k) % 2) 92 ++ (x[k]?).toList)]
def unitsL (x : List Nat) : List PV := ((List.range x.length).filter (keptB x)).map (unitAt x)
theorem filt_map {α : Type} (p : α → Bool) (f : α → PV) : ∀ l : List α, (l.map fun a => if p a = true then some (f a) else none).filterMap id = (l.filter p).map f
  | [] => rfl
  | a :: l => by
    have ih := filt_map p f l
    rw [List.map_cons]
    by_cases h : p a = true
    · rw [if_pos h, List.filter_cons_of_pos h]; simpa using ih
    · rw [if_neg h, List.filter_cons_of_neg h]; simpa using ih
theorem some_map {α : Type} (f : α → PV) (l : List α) : (l.map fun a => some (f a)).filterMap id = l.map f := by
  induction l with
  | nil => rfl
  | cons a l ih => simpa using ih
theorem compOk_of {csc sc : Scope} {σ σ' : Sto} (hcap : ∀ q ∈ σ', σ.lookup q.1 = some q.2 ∧ csc.names.lookup q.1 = some .free ∧ sc.names.lookup q.1 = some .cell)
    (hall : (csc.names.all fun q => (q.2 != .cell) && (q.2 != .free || sc.names.lookup q.1 == some .cell) && (q.2 != .local || csc.names.lookup q.1 == some .local)) = true) (hk : csc.kind = .function) : CompOk csc sc σ σ' where
  cap := fun x p h => hcap (x, p) (mem_of_lookup h)
  nocell := fun y hy e => by have := List.all_eq_true.mp hall y hy; rw [e] at this; simp at this
  free := fun x hx => by have := List.all_eq_true.mp hall _ hx; simpa using this
  kind := hk
  names := fun x hx e => by have := List.all_eq_true.mp hall x hx; rw [e] at this; simpa using this
theorem cap0 {csc sc : Scope} {σ : Sto} : ∀ q ∈ ([] : Sto), σ.lookup q.1 = some q.2 ∧ csc.names.lookup q.1 = some .free ∧ sc.names.lookup q.1 = some .cell := fun q h => nomatch h
theorem cap1 {csc sc : Scope} {σ : Sto} {x : Str} {p : PV} (h : σ.lookup x = some p) (h1 : csc.names.lookup x = some .free) (h2 : sc.names.lookup x = some .cell) : ∀ q ∈ ([(x, p)] : Sto), σ.lookup q.1 = some q.2 ∧ csc.names.lookup q.1 = some .free ∧ sc.names.lookup q.1 = some .cell := fun q hq => by
  rw [List.mem_singleton.mp hq]; exact ⟨h, h1, h2⟩
theorem cap2 {csc sc : Scope} {σ : Sto} {x y : Str} {p r : PV} (h : σ.lookup x = some p) (h1 : csc.names.lookup x = some .free) (h2 : sc.names.lookup x = some .cell) (g : σ.lookup y = some r) (g1 : csc.names.lookup y = some .free) (g2 : sc.names.lookup y = some .cell) : ∀ q ∈ ([(x, p), (y, r)] : Sto), σ.lookup q.1 = some q.2 ∧ csc.names.lookup q.1 = some .free ∧ sc.names.lookup q.1 = some .cell := fun q hq => by
  simp only [List.mem_cons, List.not_mem_nil, or_false] at hq
  rcases hq with rfl | rfl
  · exact ⟨h, h1, h2⟩
  · exact ⟨g, g1, g2⟩
theorem loc1 {sc : Scope} {x : Str} {p : PV} (h : sc.names.lookup x = some .local) : ∀ y q, (y, q) ∈ [(x, p)] → sc.names.lookup y = some .local := fun y q hq => by
  have := List.mem_singleton.mp hq; cases this; exact h
theorem compEl0 {B : Base} {n : Nat} {csc : Scope} {σ' τ : Sto} {tgt elt : Expr} {x : PV} {r : Option PV} (h1 : bindsT tgt x = some τ) (h2 : ∀ y q, (y, q) ∈ τ → csc.names.lookup y = some .local) (h3 : EvE B n true csc (τ ++ σ') elt fun p => r = some p) : CompEl B n csc σ' tgt elt [] x r :=
  ⟨τ, h1, h2, (if_pos rfl : (if true = true then EvE B n true csc (τ ++ σ') elt fun p => r = some p else r = none) = _) ▸ h3⟩
theorem flat_esc (x : List Nat) : flat 3 (.list (escL x)) = true := by
  show (escL x).all (flat 2) = true
  rw [List.all_eq_true]
  intro p hp
  unfold escL at hp
  obtain ⟨q, _, rfl⟩ := List.mem_map.mp hp
  rfl
theorem flatTup_esc (x : List Nat) : ∀ q ∈ escL x, flatTup q := fun p hp => by
  unfold escL at hp
  obtain ⟨q, _, rfl⟩ := List.mem_map.mp hp
  exact ⟨_, rfl, by intro p hp; simp at hp; rcases hp with rfl | rfl <;> rfl⟩
theorem escL_le (x : List Nat) (h : x.length ≤ 90000) : (escL x).length ≤ 100000 := by rw [escL_length]; have := escG_len x 0 false; omega
end Mine
end

section
set_option maxRecDepth 100000
set_option linter.unusedVariables false
set_option linter.unusedSimpArgs false
namespace Mine
open PySem PySem.W
theorem prsL_len : ∀ x : List Nat, (prsL x).length ≤ x.length := by
  intro x
  induction x using prsL.induct with
  | case1 => simp [prsL]
  | case2 r ih => simp only [prsL, List.length_cons]; omega
  | case3 r h => simp [prsL]
  | case4 c r h1 h2 ih =>
    have : prsL (c :: r) = c :: prsL r := by
      conv => lhs; unfold prsL
      split <;> simp_all
    rw [this]; simp only [List.length_cons]; omega
theorem fnd_bd (c : Nat) : ∀ (i : Nat) (r : List Nat), fnd c i r = -1 ∨ ((i : Int) ≤ fnd c i r ∧ fnd c i r < i + r.length)
  | _, [] => .inl rfl
  | i, d :: r => by
    simp only [fnd]
    by_cases h : d = c
    · rw [if_pos h]; right; simp; omega
    · rw [if_neg h]
      rcases fnd_bd c (i + 1) r with h | ⟨h1, h2⟩
      · exact .inl h
      · right; simp at h1 h2 ⊢; omega
def nameAt (x : List Nat) (p : Nat) : List Nat := prs ([50, 53, 55, 32] ++ x.drop p)
def nextAt (x : List Nat) (p : Nat) : Int := fnd 34 (p + (nameAt x p).length + (nameAt x p).count 34 + 2) (x.drop (p + (nameAt x p).length + (nameAt x p).count 34 + 2))
def pick (lets : List (List Nat)) (name : List Nat) : List (List Nat) := (name.filter fun c => lets.contains [c]).map fun c => [c]
def insL (x : List Nat) (lets : List (List Nat)) : Nat → Int → List (List Nat)
  | 0, _ => []
  | n + 1, p => if 0 ≤ p then pick lets (nameAt x p.toNat) ++ insL x lets n (nextAt x p.toNat) else []
def inside (x : List Nat) (lets : List (List Nat)) : List (List Nat) := insL x lets (x.length + 1) (fnd 34 0 x)
theorem pick_len (lets : List (List Nat)) (name : List Nat) : (pick lets name).length ≤ name.length := by unfold pick; simp [List.length_filter_le]
theorem nameAt_len (x : List Nat) (p : Nat) (h : p ≤ x.length) : (nameAt x p).length ≤ x.length - p := by
  unfold nameAt prs
  split
  · have := prsL_len ((([50, 53, 55, 32] : List Nat) ++ x.drop p).drop 5); simp at this ⊢; omega
  · simp
end Mine
end

section
set_option maxRecDepth 100000
set_option linter.unusedVariables false
set_option linter.unusedSimpArgs false
namespace Mine
open PySem PySem.W
def headL (ways : List Nat) : List Nat := ways.take (rfnd 109 ways + 1).toNat
def marksL (ways : List Nat) : List (List Nat) := ((splitG [34] 0 (quoted [34] (headL ways))).take ((splitG [34] 0 (quoted [34] (headL ways))).length - 1)).map (· ++ [34])
def markF (ways : List Nat) (st : List Nat × Bool) (mark : List Nat) : List Nat × Bool := (st.1 ++ (if st.2 = true then [] else mark), st.2 != (ways != headL ways))
abbrev SeenSt := List Nat × List Nat × Bool
def seenStep (x ways : List Nat) (st : SeenSt) (k : Nat) : SeenSt :=
  if x[k]? = some 34 then
    if headL ways = [] ∧ trail 92 (x.take k) % 2 = 0 then (st.1, st.2.1, st.2.2 != (ways == []))
    else let r := (marksL ways).foldl (markF ways) (st.1, st.2.2); (r.1, st.2.1, r.2)
  else if st.2.2 = true then st
  else (st.1 ++ quoted (x[k]?).toList ways, (if (x[k]? = some 40 ∨ x[k]? = some 41) ∧ (headL ways ≠ [] ∨ trail 92 (x.take k) % 2 = 0) then st.2.1 ++ (x[k]?).toList else st.2.1), st.2.2)
def seenF (x ways : List Nat) (i : Nat) : SeenSt := (List.range i).foldl (seenStep x ways) ([], [], false)
def seen (x ways : List Nat) : SeenSt := seenF x ways x.length
theorem seenF_succ (x ways : List Nat) (i : Nat) : seenF x ways (i + 1) = seenStep x ways (seenF x ways i) i := by
  unfold seenF; rw [List.range_succ]; simp
theorem rfnd_ge (c : Nat) (x : List Nat) : -1 ≤ rfnd c x := by
  rcases rfnd_spec c x with ⟨h, _⟩ | ⟨i, h, _⟩
  · omega
  · omega
theorem splitG_len (y : List Nat) : ∀ (k : Nat) (x : List Nat), (splitG y k x).length ≤ x.length + 1 ∧ ∀ p ∈ splitG y k x, p.length ≤ x.length
  | _, [] => by simp [splitG]
  | k + 1, _ :: r => by
    obtain ⟨h1, h2⟩ := splitG_len y k r
    simp only [splitG, List.length_cons]
    exact ⟨by omega, fun p hp => by have := h2 p hp; omega⟩
  | 0, c :: r => by
    obtain ⟨h1, h2⟩ := splitG_len y 0 r
    obtain ⟨g1, g2⟩ := splitG_len y (y.length - 1) r
    simp only [splitG]
    split
    · refine ⟨by simp; omega, fun p hp => ?_⟩
      rcases List.mem_cons.mp hp with rfl | hp
      · simp
      · have := g2 p hp; simp; omega
    · obtain ⟨q, qs, e⟩ := splitG_ne y 0 r
      rw [e] at h1 h2 ⊢
      simp only [consH]
      refine ⟨by simp at h1 ⊢; omega, fun p hp => ?_⟩
      rcases List.mem_cons.mp hp with rfl | hp
      · have := h2 q (by simp); simp; omega
      · have := h2 p (by simp [hp]); simp; omega
theorem headL_len (ways : List Nat) (h : ways.length ≤ 3) : (headL ways).length ≤ 3 := by unfold headL; simp; omega
theorem marks_bd (ways : List Nat) (h : ways.length ≤ 3) : (marksL ways).length ≤ 9 ∧ ∀ m ∈ marksL ways, m.length ≤ 9 := by
  have h1 := quoted_len [34] (headL ways)
  have h2 : 2 ^ (headL ways).length ≤ 2 ^ 3 := Nat.pow_le_pow_right (by decide) (headL_len ways h)
  have h3 : (quoted [34] (headL ways)).length ≤ 8 := by simp at h1; omega
  obtain ⟨g1, g2⟩ := splitG_len [34] 0 (quoted [34] (headL ways))
  unfold marksL
  refine ⟨by simp; omega, fun m hm => ?_⟩
  obtain ⟨p, hp, rfl⟩ := List.mem_map.mp hm
  have := g2 p (List.mem_of_mem_take hp)
  simp; omega
theorem evt_weaken {B : Base} {n : Nat} {b : Bool} {sc : Scope} {σ : Sto} {e : Expr} {P P' : Bool → Prop} (h : EvT B n b sc σ e P) (hp : ∀ c, P c → P' c) : EvT B n b sc σ e P' := fun A env U s E hR hE hI =>
  wpAny_mono' (h A env U s E hR hE hI) fun _ _ ⟨a, x⟩ => ⟨hp _ a, x⟩
theorem rangeL_get {n i : Nat} {p : PV} (h : (rangeL 0 n)[i]? = some p) : i < n ∧ p = .int (i : Int) := by
  unfold rangeL at h
  rw [List.getElem?_map] at h
  obtain ⟨j, hj, rfl⟩ := Option.map_eq_some_iff.mp h
  rcases List.getElem?_eq_some_iff.mp hj with ⟨h1, h2⟩
  simp at h1 h2; subst h2; exact ⟨h1, by simp⟩
theorem evt_and3 {B : Base} {n : Nat} {b : Bool} {sc : Scope} {σ : Sto} {e f g : Expr} {pos : Pos} {Q : Bool → Prop} (h : EvT B n b sc σ e fun c => if c = true then EvT B n b sc σ f (fun c => if c = true then EvT B n b sc σ g Q else Q false) else Q false) : EvT B n b sc σ (.BoolOp .And [e, f, g] pos) Q := fun A env U s E hR hE hI => by
  show wpAny _ _ (do
    match BoolOp.And, ← isTrue e env (eval e env) with
    | .And, false => pure false
    | .Or, true => pure true
    | _, _ => (do
      match BoolOp.And, ← isTrue f env (eval f env) with
      | .And, false => pure false
      | .Or, true => pure true
      | _, _ => (do
        match BoolOp.And, ← isTrue g env (eval g env) with
        | .And, false => pure false
        | .Or, true => pure true
        | _, _ => pure (BoolOp.And == .And) : Sem Bool) : Sem Bool)) _ _ _
  refine wpAny_bind (wpAny_mono' (h A env U s E hR hE hI) ?_)
  rintro c s₁ ⟨hc, x₁⟩
  cases c with
  | false => exact wpAny_pure ⟨by simpa using hc, x₁⟩
  | true =>
    rw [if_pos rfl] at hc
    refine wpAny_bind (wpAny_mono' (hc A env U s₁ E hR hE (hI.ext x₁)) ?_)
    rintro d s₂ ⟨hd, x₂⟩
    cases d with
    | false => exact wpAny_pure ⟨by simpa using hd, x₁.trans0 x₂⟩
    | true =>
      rw [if_pos rfl] at hd
      refine wpAny_bind (wpAny_mono' (hd A env U s₂ E hR hE (hI.ext (x₁.trans0 x₂))) ?_)
      rintro d s₃ ⟨hd, x₃⟩
      cases d <;> exact wpAny_pure ⟨hd, (x₁.trans0 x₂).trans0 x₃⟩
theorem markF_len (ways : List Nat) (b : Nat) : ∀ (ms : List (List Nat)) (st : List Nat × Bool), (∀ m ∈ ms, m.length ≤ b) → (ms.foldl (markF ways) st).1.length ≤ st.1.length + ms.length * b
  | [], st, _ => by simp
  | m :: ms, st, h => by
    have ih := markF_len ways b ms (markF ways st m) fun q hq => h q (by simp [hq])
    have h0 := h m (by simp)
    have : (markF ways st m).1.length ≤ st.1.length + b := by unfold markF; simp; split <;> (try simp) <;> omega
    simp only [List.foldl_cons, List.length_cons, Nat.add_mul, Nat.one_mul]; omega
theorem seenF_bd (x ways : List Nat) (h : ways.length ≤ 3) : ∀ i, (seenF x ways i).1.length ≤ 100 * i ∧ (seenF x ways i).2.1.length ≤ i
  | 0 => by simp [seenF]
  | i + 1 => by
    obtain ⟨h1, h2⟩ := seenF_bd x ways h i
    rw [seenF_succ]
    obtain ⟨m1, m2⟩ := marks_bd ways h
    unfold seenStep
    split
    · split
      · exact ⟨by simp; omega, by simp; omega⟩
      · have := markF_len ways 9 (marksL ways) ((seenF x ways i).1, (seenF x ways i).2.2) m2
        have h4 : (marksL ways).length * 9 ≤ 9 * 9 := Nat.mul_le_mul_right _ m1
        simp at this
        exact ⟨by simp; omega, by simp; omega⟩
    · split
      · exact ⟨by omega, by omega⟩
      · have hq := quoted_len (x[i]?).toList ways
        have hp : 2 ^ ways.length ≤ 2 ^ 3 := Nat.pow_le_pow_right (by decide) h
        have ho : (x[i]?).toList.length ≤ 1 := by cases x[i]? <;> simp
        have : (x[i]?).toList.length * 2 ^ ways.length ≤ 1 * 2 ^ 3 := Nat.mul_le_mul ho hp
        refine ⟨by simp; omega, ?_⟩
        simp only
        split
        · simp; omega
        · omega
end Mine
end

section
set_option maxRecDepth 100000
set_option linter.unusedVariables false
set_option linter.unusedSimpArgs false
namespace Mine
open PySem PySem.W
def fillL : List Int := [6, 2, 0, 4, 0, 6, 5]
def numsL (script : List Int) : List Int := script.take 10 ++ fillL.drop (script.take 10).length
def signAt (nums : List Int) (k : Nat) : List Nat := signL k (nums.getD k 0)
def textOf (nums : List Int) : List Nat := joinL [] ((List.range nums.length).map (signAt nums)) ++ [122]
def wayAt (total : Int) (k : Nat) : List Nat := if Builtin.bitAnd (total.fdiv (2 ^ k)) 1 ≠ 0 then [109] else [102]
def waysOf (total : Int) : List Nat := joinL [] ((List.range 3).map (wayAt total))
def abcL : List Nat := [97, 98, 99, 100, 101, 102, 103, 104, 105, 106, 122]
def lettersOf (x : List Nat) : List (List Nat) := (x.filter fun c => decide (c ∈ abcL)).map fun c => [c]
def oddB (x : List Nat) (k : Nat) : Bool := (lettersOf x).contains (x[k]?).toList && ((x.take k).count 34 % 2 == 1)
def oddOf (x : List Nat) : List (List Nat) := ((List.range x.length).filter (oddB x)).map fun k => (x[k]?).toList
def sightOf (x some' : List Nat) : List Nat := strip (quoted x some' ++ [34, 121])
def sightsOf (x : List Nat) : List (List Nat) := [sightOf x [], sightOf x [102], sightOf x [109, 102]]
/-- what the law asks of a text and three ways -/
structure Facts (x ways : List Nat) : Prop where
  units : escL (x ++ [92]) = unitsL x ++ [.tup [.int x.length, .str [92]]]
  plain : strip (replG [34] [] 0 x) = replG [34] [] 0 x
  offf : ∀ d, d < 3 → ways[d]? = some 102 → prs ([50, 53, 55, 32, 34] ++ quoted x (ways.take (d + 1)) ++ [34]) = quoted x (ways.take d)
  offm : ∀ d, d < 3 → ways[d]? = some 109 → escL (quoted x (ways.take (d + 1))) = pairsL (quoted x (ways.take d))
  sight : ∀ d, d ≤ 3 → strip (quoted x (ways.take d) ++ [34, 121]) = (seen x (ways.take d)).1 ++ (if (seen x (ways.take d)).2.2 = true then [121] else [34, 121])
  check : ∀ d, d ≤ 3 → chk (quoted x (ways.take d) ++ [34, 121]) = closed (seen x (ways.take d)).2.1
  ins : ∀ d, d ≤ 3 → inside (quoted x (ways.take d)) (lettersOf x) = if 102 ∈ ways.take d then [] else oddOf x
  head : ∀ d, d ≤ 3 → (quoted x (ways.take d)).head? ≠ some 55
  three : ∀ l ∈ lettersOf x, ((sightsOf x).filter fun s => hasG l s).length % 2 ≠ 0
  last : Mine.inside x (lettersOf x) = (lettersOf x).filter fun l => !hasG l (sightOf x [109, 102])
end Mine
end

section
set_option maxRecDepth 100000
set_option linter.unusedVariables false
set_option linter.unusedSimpArgs false
namespace Mine
open PySem PySem.W

/-! the automaton: escape flag, hidden flag, what is left, the brackets that count -/
abbrev AutS := Bool × Bool × List Nat × List Nat
def stepC (s : AutS) (c : Nat) : AutS :=
  if s.1 = true then (false, s.2.1, if s.2.1 = true then s.2.2.1 else s.2.2.1 ++ [c], s.2.2.2)
  else if c = 92 then (true, s.2.1, if s.2.1 = true then s.2.2.1 else s.2.2.1 ++ [c], s.2.2.2)
  else if c = 34 then (false, !s.2.1, s.2.2.1, s.2.2.2)
  else (false, s.2.1, if s.2.1 = true then s.2.2.1 else s.2.2.1 ++ [c], if s.2.1 = true then s.2.2.2 else if c = 40 ∨ c = 41 then s.2.2.2 ++ [c] else s.2.2.2)
def runC (e h : Bool) (s : List Nat) : AutS := s.foldl stepC (e, h, [], [])
theorem stepC_acc (e h : Bool) (l b : List Nat) (c : Nat) : stepC (e, h, l, b) c = ((stepC (e, h, [], []) c).1, (stepC (e, h, [], []) c).2.1, l ++ (stepC (e, h, [], []) c).2.2.1, b ++ (stepC (e, h, [], []) c).2.2.2) := by
  cases e <;> cases h <;> simp only [stepC] <;> (repeat' split) <;> simp_all
theorem foldC_acc (s : List Nat) : ∀ (e h : Bool) (l b : List Nat), s.foldl stepC (e, h, l, b) = ((runC e h s).1, (runC e h s).2.1, l ++ (runC e h s).2.2.1, b ++ (runC e h s).2.2.2) := by
  induction s with
  | nil => intro e h l b; simp [runC]
  | cons c r ih =>
    intro e h l b
    have hr : runC e h (c :: r) = r.foldl stepC (stepC (e, h, [], []) c) := rfl
    rw [hr, List.foldl_cons, stepC_acc e h l b c]
    generalize stepC (e, h, [], []) c = q
    obtain ⟨e', h', l', b'⟩ := q
    simp only
    rw [ih e' h' (l ++ l') (b ++ b'), ih e' h' l' b']
    simp
theorem runC_append (e h : Bool) (s t : List Nat) : runC e h (s ++ t) = ((runC (runC e h s).1 (runC e h s).2.1 t).1, (runC (runC e h s).1 (runC e h s).2.1 t).2.1, (runC e h s).2.2.1 ++ (runC (runC e h s).1 (runC e h s).2.1 t).2.2.1, (runC e h s).2.2.2 ++ (runC (runC e h s).1 (runC e h s).2.1 t).2.2.2) := by
  unfold runC
  rw [List.foldl_append]
  exact foldC_acc t _ _ _ _

/-! strip by the automaton -/
theorem joinL_nil : ∀ l : List (List Nat), joinL [] l = l.flatten
  | [] => rfl
  | [p] => by simp [joinL]
  | p :: q :: r => by
    show p ++ [] ++ joinL [] (q :: r) = _
    rw [joinL_nil (q :: r)]; simp
theorem take_more {x : List Nat} {a i : Nat} {c : Nat} (h : x[i]? = some c) (ha : a ≤ i) : (x.drop a).take (i + 1 - a) = (x.drop a).take (i - a) ++ [c] := by
  have e : i + 1 - a = (i - a) + 1 := by omega
  rw [e, List.take_add_one, List.getElem?_drop]
  have : a + (i - a) = i := by omega
  rw [this, h]; rfl
theorem strip_run (x : List Nat) : ∀ (o : List Nat) (i : Nat) (b : Bool) (start : Nat) (op : Option Nat) (res : List (List Nat)) (acc br : List Nat), x.drop i = o ++ [34, 121] → start ≤ i →
    (op = none → acc = res.flatten ++ (x.drop start).take (i - start)) → (∀ q, op = some q → start ≤ q ∧ q < i ∧ acc = res.flatten ++ (x.drop start).take (q - start)) →
    (o.foldl stepC (b, op.isSome, acc, br)).1 = false →
    stripEnd x ((escG i b (o ++ [34, 121])).foldl (stripStep x) (start, op, res)) = (o.foldl stepC (b, op.isSome, acc, br)).2.2.1 ++ (if (o.foldl stepC (b, op.isSome, acc, br)).2.1 = true then [121] else [34, 121]) := by
  intro o
  induction o with
  | nil =>
    intro i b start op res acc br hd hs h1 h2 hb
    simp only [List.foldl_nil] at hb ⊢
    subst hb
    have hl : x.length = i + 2 := by have := congrArg List.length hd; simp at this; omega
    have hd1 : x.drop (i + 1) = [121] := by
      have : (x.drop i).drop 1 = [121] := by rw [hd]; rfl
      simpa [List.drop_drop] using this
    have hsp : ∀ a, a ≤ i → x.drop a = (x.drop a).take (i - a) ++ [34, 121] := fun a ha => by
      conv => lhs; rw [← List.take_append_drop (i - a) (x.drop a)]
      rw [List.drop_drop, show a + (i - a) = i by omega, hd]; rfl
    cases op with
    | none =>
      simp only [List.nil_append, escG, Option.isSome_none, if_false, show ¬ ((34 : Nat) = 92) by decide, show ¬ ((121 : Nat) = 92) by decide, List.foldl_cons, List.foldl_nil, stripStep]
      simp only [if_true, show ¬ (([121] : List Nat) = [34]) by decide, if_false, stripEnd, joinL_nil]
      rw [if_pos (by omega), h1 rfl]
      have := hsp start hs
      simp
      exact this
    | some q =>
      obtain ⟨hq1, hq2, hq3⟩ := h2 q rfl
      simp only [List.nil_append, escG, Option.isSome_some, if_false, show ¬ ((34 : Nat) = 92) by decide, show ¬ ((121 : Nat) = 92) by decide, List.foldl_cons, List.foldl_nil, stripStep]
      simp only [if_true, show ¬ (([121] : List Nat) = [34]) by decide, if_false, stripEnd, joinL_nil]
      rw [if_pos (by omega), hq3, hd1]
      by_cases he : start = q
      · subst he; simp
      · simp [he]
  | cons c r ih =>
    intro i b start op res acc br hd hs h1 h2 hb
    have hxi : x[i]? = some c := by
      have : (x.drop i)[0]? = some c := by rw [hd]; rfl
      simpa using this
    have hd1 : x.drop (i + 1) = r ++ [34, 121] := by
      have : (x.drop i).drop 1 = r ++ [34, 121] := by rw [hd]; rfl
      simpa [List.drop_drop] using this
    simp only [List.foldl_cons] at hb ⊢
    have keep : ∀ b' br', (r.foldl stepC (b', op.isSome, if op.isSome = true then acc else acc ++ [c], br')).1 = false → stripEnd x ((escG (i + 1) b' (r ++ [34, 121])).foldl (stripStep x) (start, op, res)) = (r.foldl stepC (b', op.isSome, if op.isSome = true then acc else acc ++ [c], br')).2.2.1 ++ (if (r.foldl stepC (b', op.isSome, if op.isSome = true then acc else acc ++ [c], br')).2.1 = true then [121] else [34, 121]) := fun b' br' hb' =>
      ih (i + 1) b' start op res _ br' hd1 (by omega) (fun e => by
        subst e
        rw [take_more hxi hs, h1 rfl]; simp) (fun q e => by
        subst e
        obtain ⟨g1, g2, g3⟩ := h2 q rfl
        exact ⟨g1, by omega, by simpa using g3⟩) hb'
    cases b with
    | true =>
      simp only [stepC, if_true] at hb ⊢
      rw [show escG i true (c :: r ++ [34, 121]) = (i, [92, c]) :: escG (i + 1) false (r ++ [34, 121]) from rfl, List.foldl_cons, show stripStep x (start, op, res) (i, [92, c]) = (start, op, res) by simp [stripStep]]
      exact keep false br hb
    | false =>
      by_cases h92 : c = 92
      · subst h92
        simp only [stepC, if_true, Bool.false_eq_true, if_false] at hb ⊢
        rw [show escG i false (92 :: r ++ [34, 121]) = escG (i + 1) true (r ++ [34, 121]) by simp [escG]]
        exact keep true br hb
      · rw [show escG i false (c :: r ++ [34, 121]) = (i, [c]) :: escG (i + 1) false (r ++ [34, 121]) by simp [escG, h92], List.foldl_cons]
        by_cases h34 : c = 34
        · subst h34
          simp only [stepC, if_true, Bool.false_eq_true, if_false, show ¬ ((34 : Nat) = 92) by decide] at hb ⊢
          cases op with
          | none =>
            rw [show stripStep x (start, none, res) (i, [34]) = (start, some i, res) by simp [stripStep]]
            exact ih (i + 1) false start (some i) res acc br hd1 (by omega) (fun e => nomatch e) (fun q e => by cases e; exact ⟨hs, by omega, h1 rfl⟩) hb
          | some q =>
            obtain ⟨g1, g2, g3⟩ := h2 q rfl
            rw [show stripStep x (start, some q, res) (i, [34]) = (i + 1, none, if start = q then res else res ++ [(x.drop start).take (q - start)]) by simp [stripStep]]
            refine ih (i + 1) false (i + 1) none _ acc br hd1 (by omega) (fun _ => ?_) (fun q e => nomatch e) hb
            rw [g3, Nat.sub_self]
            by_cases he : start = q
            · subst he; simp
            · simp [he]
        · rw [show stripStep x (start, op, res) (i, [c]) = (start, op, res) by simp [stripStep, h34]]
          simp only [stepC, if_neg h92, if_neg h34, Bool.false_eq_true, if_false] at hb ⊢
          exact keep false _ hb
theorem strip_eq (o : List Nat) (h : (runC false false o).1 = false) : strip (o ++ [34, 121]) = (runC false false o).2.2.1 ++ (if (runC false false o).2.1 = true then [121] else [34, 121]) := by
  unfold strip
  rw [if_pos (by simp)]
  exact strip_run (o ++ [34, 121]) o 0 false 0 none [] [] [] (by simp) (Nat.le_refl _) (fun _ => by simp) (fun q e => nomatch e) h

/-! brackets -/
def stepB (s : Bool × List Nat) (c : Nat) : Bool × List Nat :=
  if s.1 = true then (false, s.2) else if c = 92 then (true, s.2) else if c = 40 ∨ c = 41 then (false, s.2 ++ [c]) else (false, s.2)
theorem runC_leftG (s : List Nat) : ∀ q : AutS, q.2.2.1.foldl stepB (false, []) = (if q.2.1 = true then false else q.1, q.2.2.2) → (s.foldl stepC q).2.2.1.foldl stepB (false, []) = (if (s.foldl stepC q).2.1 = true then false else (s.foldl stepC q).1, (s.foldl stepC q).2.2.2) := by
  induction s with
  | nil => exact fun q h => h
  | cons c r ih =>
    intro q h
    refine ih (stepC q c) ?_
    obtain ⟨e, h', l, b⟩ := q
    simp only at h
    cases e <;> cases h' <;> simp only [stepC] <;> (repeat' split) <;> simp_all [stepB]
theorem runC_left (s : List Nat) : ((runC false false s).2.2.1).foldl stepB (false, []) = (if (runC false false s).2.1 = true then false else (runC false false s).1, (runC false false s).2.2.2) := runC_leftG s _ rfl
def bal : Int → List Nat → Bool
  | o, [] => o == 0
  | o, c :: r => if c = 40 then bal (o + 1) r else if c = 41 then (if o - 1 < 0 then false else bal (o - 1) r) else bal o r
theorem stepB_acc (s : List Nat) : ∀ (e : Bool) (b : List Nat), (s.foldl stepB (e, b)).2 = b ++ (s.foldl stepB (e, [])).2 := by
  induction s with
  | nil => intro e b; simp
  | cons c r ih =>
    intro e b
    simp only [List.foldl_cons]
    have : ∃ e' b', ∀ b, stepB (e, b) c = (e', b ++ b') := by
      cases e
      · by_cases h : c = 92
        · exact ⟨true, [], fun b => by simp [stepB, h]⟩
        · by_cases h2 : c = 40 ∨ c = 41
          · exact ⟨false, [c], fun b => by simp [stepB, h, h2]⟩
          · exact ⟨false, [], fun b => by simp [stepB, h, h2]⟩
      · exact ⟨false, [], fun b => by simp [stepB]⟩
    obtain ⟨e', b', hb⟩ := this
    rw [hb b, hb [], ih e' (b ++ b'), ih e' ([] ++ b')]; simp
theorem chkG_bal (s : List Nat) : ∀ (i : Nat) (e : Bool) (o : Int), chkG o (escG i e s) = bal o (s.foldl stepB (e, [])).2 := by
  induction s with
  | nil => intro i e o; cases e <;> simp [escG, chkG, bal]
  | cons c r ih =>
    intro i e o
    simp only [List.foldl_cons]
    cases e with
    | true =>
      simp only [escG, chkG, stepB, if_true]
      rw [if_neg (by simp), if_neg (by simp)]; exact ih _ _ _
    | false =>
      by_cases h : c = 92
      · subst h; simp only [escG, stepB, if_true, Bool.false_eq_true, if_false]; exact ih _ _ _
      · simp only [escG, if_neg h, chkG, stepB, Bool.false_eq_true, if_false]
        by_cases h40 : c = 40
        · subst h40
          simp only [true_or, if_true]
          rw [stepB_acc r false ([] ++ [40])]; simp only [List.nil_append, List.singleton_append, bal, if_true]; exact ih _ _ _
        · by_cases h41 : c = 41
          · subst h41
            simp only [or_true, if_true, show ¬ (([41] : List Nat) = [40]) by decide, if_false]
            rw [stepB_acc r false ([] ++ [41])]; simp only [List.nil_append, List.singleton_append, bal, if_true, show ¬ ((41 : Nat) = 40) by decide, if_false]
            split
            · rfl
            · exact ih _ _ _
          · rw [if_neg (by simpa using h40), if_neg (by simpa using h41), if_neg (by omega)]; exact ih _ _ _
theorem chk_eq (o : List Nat) (h : (runC false false o).1 = false) : chk (o ++ [34, 121]) = bal 0 (runC false false o).2.2.2 := by
  unfold chk
  rw [strip_eq o h, chkG_bal, List.foldl_append, runC_left o]
  cases hh : (runC false false o).2.1 <;> simp [stepB, h]

/-! bal and the taking out of pairs -/
theorem bal_out : ∀ (b : List Nat) (o : Int), 0 ≤ o → bal o (replG [40, 41] [] 0 b) = bal o b
  | [], o, _ => rfl
  | c :: r, o, ho => by
    simp only [replG]
    split
    · rename_i hp
      cases r with
      | nil => simp [List.isPrefixOf] at hp
      | cons d r' =>
        simp [List.isPrefixOf] at hp
        obtain ⟨rfl, rfl⟩ := hp
        show bal o ([] ++ replG [40, 41] [] 1 (41 :: r')) = _
        rw [show replG [40, 41] [] 1 (41 :: r') = replG [40, 41] [] 0 r' from rfl, List.nil_append, bal_out r' o ho]
        simp only [bal, if_true, show ¬ ((41 : Nat) = 40) by decide, if_false]
        rw [if_neg (by omega), show o + 1 - 1 = o by omega]
    · simp only [bal]
      split
      · exact bal_out r (o + 1) (by omega)
      · split
        · split
          · rfl
          · exact bal_out r (o - 1) (by omega)
        · exact bal_out r o ho
def isBr (b : List Nat) : Prop := ∀ c ∈ b, c = 40 ∨ c = 41
theorem repl_br : ∀ (b : List Nat) (k : Nat), isBr b → isBr (replG [40, 41] [] k b)
  | [], k, _ => by intro c hc; cases k <;> simp [replG] at hc
  | c :: r, k + 1, h => by show isBr (replG [40, 41] [] k r); exact repl_br r k fun d hd => h d (by simp [hd])
  | c :: r, 0, h => by
    have hr : isBr r := fun d hd => h d (by simp [hd])
    simp only [replG]
    split
    · intro d hd; exact repl_br r _ hr d (by simpa using hd)
    · intro d hd
      rcases List.mem_cons.mp hd with rfl | hd
      · exact h _ (by simp)
      · exact repl_br r 0 hr d hd
/-- no pair within: closing ones, then opening ones -/
theorem bal_ups : ∀ (b : List Nat) (o : Int), 0 ≤ o → isBr b → (∀ c ∈ b, c = 40) → bal o b = decide (o + b.length = 0)
  | [], o, _, _, _ => by simp [bal]; rfl
  | c :: r, o, ho, hb, h => by
    have hc := h c (by simp)
    subst hc
    simp only [bal, if_true]
    rw [bal_ups r (o + 1) (by omega) (fun d hd => hb d (by simp [hd])) (fun d hd => h d (by simp [hd]))]
    simp only [List.length_cons]
    congr 1; simp; omega
theorem no_pair : ∀ (b : List Nat), isBr b → (∀ i, occG [40, 41] 0 i b = []) → b.head? = some 40 → ∀ c ∈ b, c = 40
  | [], _, _, _ => by simp
  | [c], _, _, h => by intro d hd; simp at h hd; rw [hd, h]
  | c :: d :: r, hb, ho, h => by
    simp at h; subst h
    have hd : d = 40 := by
      rcases hb d (by simp) with h | h
      · exact h
      · subst h
        have := ho 0
        simp [occG, List.isPrefixOf] at this
    subst hd
    have := no_pair (40 :: r) (fun e he => hb e (by simp at he ⊢; rcases he with h | h <;> simp [h])) (fun i => by
      cases i with
      | zero =>
        have h1 := ho 0
        rw [occG, if_neg (by simp [List.isPrefixOf])] at h1
        have : ∀ j k : Nat, ∀ l : List Nat, occG [40, 41] 0 j l = [] → occG [40, 41] 0 k l = [] := by
          intro j k l
          induction l generalizing j k with
          | nil => intro _; simp [occG]
          | cons a l ih =>
            simp only [occG]
            split
            · intro h; simp at h
            · exact ih _ _
        exact this _ _ _ h1
      | succ j =>
        have h1 := ho j
        rw [occG, if_neg (by simp [List.isPrefixOf])] at h1
        exact h1) rfl
    intro e he
    rcases List.mem_cons.mp he with rfl | he
    · rfl
    · exact this e he
theorem bal_end (b : List Nat) (hb : isBr b) (h : hasG [40, 41] b = false) : bal 0 b = (b == []) := by
  have ho : ∀ i, occG [40, 41] 0 i b = [] := by
    have h0 : occG [40, 41] 0 0 b = [] := by unfold hasG at h; simpa using h
    have : ∀ j k : Nat, ∀ l : List Nat, occG [40, 41] 0 j l = [] → occG [40, 41] 0 k l = [] := by
      intro j k l
      induction l generalizing j k with
      | nil => intro _; simp [occG]
      | cons a l ih =>
        simp only [occG]
        split
        · intro h; simp at h
        · exact ih _ _
    exact fun i => this 0 i b h0
  cases b with
  | nil => rfl
  | cons c r =>
    rcases hb c (by simp) with rfl | rfl
    · rw [bal_ups _ 0 (by omega) hb (no_pair _ hb ho rfl)]
      simp; omega
    · simp [bal]
theorem closed_bal : ∀ (n : Nat) (b : List Nat), b.length ≤ n → isBr b → closed b = bal 0 b := by
  intro n
  induction n with
  | zero => intro b hn _; have : b = [] := by simpa using hn
            subst this; rfl
  | succ n ih =>
    intro b hn hb
    cases h : hasG [40, 41] b with
    | true =>
      have := out2_lt b h
      rw [closed_step b h, ih (out2 b) (by omega) (repl_br b 0 hb)]
      exact bal_out b 0 (by omega)
    | false => rw [closed_end b h, bal_end b hb h]
end Mine
end

section
set_option maxRecDepth 100000
set_option linter.unusedVariables false
set_option linter.unusedSimpArgs false
namespace Mine
open PySem PySem.W

def W15 : List (List Nat) := [[], [102], [109], [102, 102], [102, 109], [109, 102], [109, 109], [102, 102, 102], [102, 102, 109], [102, 109, 102], [102, 109, 109], [109, 102, 102], [109, 102, 109], [109, 109, 102], [109, 109, 109]]
def qs (w : List Nat) (c : Nat) : List Nat := quoted [c] w
theorem quoted_flat (w : List Nat) : ∀ x : List Nat, quoted x w = x.flatMap (qs w) := by
  induction w with
  | nil => intro x; induction x with
    | nil => rfl
    | cons c r ih => simpa [quoted, qs] using ih
  | cons a w ih =>
    intro x
    have e : ∀ y, quoted y (a :: w) = quoted (q1 a y) w := fun y => rfl
    have hq : ∀ y : List Nat, q1 a y = y.flatMap fun c => q1 a [c] := fun y => by unfold q1; split <;> simp
    rw [e, ih, hq x, List.flatMap_assoc]
    congr 1; funext c
    rw [← ih]; rfl
theorem qs_other (w : List Nat) (c : Nat) (h1 : c ≠ 34) (h2 : c ≠ 92) : qs w c = [c] := by
  unfold qs
  induction w with
  | nil => rfl
  | cons a w ih =>
    show quoted (q1 a [c]) w = [c]
    have : q1 a [c] = [c] := by unfold q1; split <;> simp [qm1, qf1, h1, h2]
    rw [this]; exact ih
def eW (w : List Nat) (p : Bool) : Bool := if headL w = [] then p else false
/-- a step of _law_seen: hidden, left, brackets -/
def seenOut (w : List Nat) (p h : Bool) (c : Nat) : Bool × List Nat × List Nat :=
  if c = 34 then if headL w = [] ∧ p = false then (h != (w == []), [], []) else (((marksL w).foldl (markF w) ([], h)).2, ((marksL w).foldl (markF w) ([], h)).1, [])
  else if h = true then (h, [], []) else (h, qs w c, if (c = 40 ∨ c = 41) ∧ (headL w ≠ [] ∨ p = false) then [c] else [])
def nextP (p : Bool) (c : Nat) : Bool := if c = 92 then !p else false
theorem fact_two : ∀ w ∈ W15, ∀ c ∈ [34, 92], ∀ p h : Bool, runC (eW w p) h (qs w c) = (eW w (nextP p c), (seenOut w p h c).1, (seenOut w p h c).2.1, (seenOut w p h c).2.2) := by decide +kernel
theorem fact_two_br : ∀ w ∈ W15, ∀ c ∈ [34, 92], ∀ p h : Bool, ((seenOut w p h c).2.1.all fun d => d == 34 || d == 92) = true := by decide +kernel
theorem fact_head : ∀ w ∈ W15, ∀ c ∈ [34, 92], (qs w c).head? ≠ some 55 ∧ (qs w c) ≠ [] := by decide +kernel
theorem fact_all (w : List Nat) (hw : w ∈ W15) (c : Nat) (p h : Bool) : runC (eW w p) h (qs w c) = (eW w (nextP p c), (seenOut w p h c).1, (seenOut w p h c).2.1, (seenOut w p h c).2.2) := by
  by_cases h1 : c = 34
  · exact fact_two w hw c (by simp [h1]) p h
  · by_cases h2 : c = 92
    · exact fact_two w hw c (by simp [h2]) p h
    · have hp : eW w (nextP p c) = false := by unfold eW nextP; rw [if_neg h2]; simp
      rw [hp]
      simp only [seenOut, if_neg h1, qs_other w c h1 h2]
      unfold eW
      by_cases hh : headL w = [] <;> cases p <;> cases h <;> simp [runC, stepC, hh, h1, h2]
theorem markF_acc (w : List Nat) (ms : List (List Nat)) : ∀ (l : List Nat) (h : Bool), ms.foldl (markF w) (l, h) = (l ++ (ms.foldl (markF w) ([], h)).1, (ms.foldl (markF w) ([], h)).2) := by
  induction ms with
  | nil => intro l h; simp
  | cons m ms ih =>
    intro l h
    simp only [List.foldl_cons]
    have e : ∀ l, markF w (l, h) m = (l ++ (if h = true then [] else m), h != (w != headL w)) := fun l => rfl
    rw [e, e, ih (l ++ _), ih ([] ++ _)]; simp
def parB (x : List Nat) (k : Nat) : Bool := trail 92 (x.take k) % 2 == 1
theorem trail_snoc (x : List Nat) (c : Nat) : trail 92 (x ++ [c]) = if c = 92 then trail 92 x + 1 else 0 := by
  unfold trail
  rw [List.reverse_append]
  by_cases h : c = 92
  · subst h; simp
  · simp [h]
theorem par_succ (x : List Nat) (k c : Nat) (h : x[k]? = some c) : parB x (k + 1) = nextP (parB x k) c := by
  unfold parB nextP
  rw [List.take_add_one, h, show (some c).toList = [c] from rfl, trail_snoc]
  by_cases hc : c = 92
  · rw [if_pos hc, if_pos hc]
    have := Nat.mod_two_eq_zero_or_one (trail 92 (x.take k))
    rcases this with h | h <;> rw [h] <;> simp <;> omega
  · rw [if_neg hc, if_neg hc]; rfl
theorem seenStep_eq (x w : List Nat) (st : SeenSt) (k c : Nat) (hc : x[k]? = some c) : seenStep x w st k = (st.1 ++ (seenOut w (parB x k) st.2.2 c).2.1, st.2.1 ++ (seenOut w (parB x k) st.2.2 c).2.2, (seenOut w (parB x k) st.2.2 c).1) := by
  obtain ⟨l, b, h⟩ := st
  have hpar : (trail 92 (x.take k) % 2 = 0) ↔ parB x k = false := by unfold parB; have := Nat.mod_two_eq_zero_or_one (trail 92 (x.take k)); rcases this with h | h <;> rw [h] <;> simp
  unfold seenStep seenOut
  simp only [hc, Option.some.injEq, hpar, Option.toList_some]
  by_cases h34 : c = 34
  · simp only [if_pos h34]
    by_cases hh : headL w = [] ∧ parB x k = false
    · simp only [if_pos hh]; simp
    · simp only [if_neg hh]
      rw [markF_acc w (marksL w) l h]; simp
  · simp only [if_neg h34]
    cases h with
    | true => simp
    | false =>
      simp only [Bool.false_eq_true, if_false]
      split <;> simp_all [qs]
/-- the two run side by side -/
theorem side (x w : List Nat) (hw : w ∈ W15) : ∀ i, i ≤ x.length → runC false false ((x.take i).flatMap (qs w)) = (eW w (parB x i), (seenF x w i).2.2, (seenF x w i).1, (seenF x w i).2.1)
  | 0, _ => by
    have : eW w (parB x 0) = false := by unfold eW parB; simp [trail]
    rw [this]; rfl
  | i + 1, hi => by
    have ih := side x w hw i (by omega)
    have hx : x[i]? = some x[i] := by simp [show i < x.length by omega]
    rw [List.take_add_one, hx, List.flatMap_append, runC_append, ih, seenF_succ, seenStep_eq x w _ i _ hx, par_succ x i _ hx]
    simp only [Option.toList_some, List.flatMap_cons, List.flatMap_nil, List.append_nil]
    rw [fact_all w hw]
theorem seen_br (x w : List Nat) : isBr (seen x w).2.1 := by
  have : ∀ i, i ≤ x.length → isBr (seenF x w i).2.1 := by
    intro i
    induction i with
    | zero => intro _ c hc; simp [seenF] at hc
    | succ i ih =>
      intro hi
      have hx : x[i]? = some x[i] := by simp [show i < x.length by omega]
      rw [seenF_succ, seenStep_eq x w _ i _ hx]
      intro c hc
      rcases List.mem_append.mp hc with hc | hc
      · exact ih (by omega) c hc
      · unfold seenOut at hc
        split at hc
        · split at hc <;> simp at hc
        · split at hc
          · simp at hc
          · simp only at hc
            split at hc
            · rename_i h; rw [List.mem_singleton.mp hc]; exact h.1
            · simp at hc
  exact this x.length (Nat.le_refl _)
theorem sight_eq (x w : List Nat) (hw : w ∈ W15) (he : parB x x.length = false) : strip (quoted x w ++ [34, 121]) = (seen x w).1 ++ (if (seen x w).2.2 = true then [121] else [34, 121]) := by
  have h := side x w hw x.length (Nat.le_refl _)
  rw [List.take_length, ← quoted_flat] at h
  have h0 : (runC false false (quoted x w)).1 = false := by rw [h, he]; unfold eW; split <;> rfl
  rw [strip_eq _ h0, h]; rfl
theorem check_eq (x w : List Nat) (hw : w ∈ W15) (he : parB x x.length = false) : chk (quoted x w ++ [34, 121]) = closed (seen x w).2.1 := by
  have h := side x w hw x.length (Nat.le_refl _)
  rw [List.take_length, ← quoted_flat] at h
  have h0 : (runC false false (quoted x w)).1 = false := by rw [h, he]; unfold eW; split <;> rfl
  rw [chk_eq _ h0, h, closed_bal _ _ (Nat.le_refl _) (seen_br x w)]; rfl
end Mine
end

section
set_option maxRecDepth 100000
set_option linter.unusedVariables false
set_option linter.unusedSimpArgs false
namespace Mine
open PySem PySem.W

/-! what comes off -/
theorem prsL_f : ∀ y : List Nat, prsL (y.flatMap qf1 ++ [34]) = y
  | [] => by simp [prsL]
  | c :: r => by
    have ih := prsL_f r
    by_cases h : c = 34
    · subst h
      rw [List.flatMap_cons, show qf1 34 = [34, 34] from rfl]
      show 34 :: prsL (r.flatMap qf1 ++ [34]) = _
      rw [ih]
    · rw [List.flatMap_cons, show qf1 c = [c] by simp [qf1, h]]
      have : prsL (c :: (r.flatMap qf1 ++ [34])) = c :: prsL (r.flatMap qf1 ++ [34]) := by
        have := prsL_at (c :: (r.flatMap qf1 ++ [34])) 0 c rfl
        rw [if_neg h] at this; simpa using this
      show prsL (c :: (r.flatMap qf1 ++ [34])) = _
      rw [this, ih]
theorem offf_eq (x ways : List Nat) (d : Nat) (h : ways[d]? = some 102) : prs ([50, 53, 55, 32, 34] ++ quoted x (ways.take (d + 1)) ++ [34]) = quoted x (ways.take d) := by
  rw [quoted_take x ways d 102 h]
  show prs ([50, 53, 55, 32, 34] ++ (quoted x (ways.take d)).flatMap qf1 ++ [34]) = _
  generalize quoted x (ways.take d) = y
  unfold prs
  rw [if_pos (by simp)]
  simpa using prsL_f y
theorem offm_run : ∀ (y : List Nat) (i : Nat) (acc : List PV), (escG i false (y.flatMap qm1)).map escPV = (y.foldl pairStep ((i : Int) - 1, acc)).2.drop acc.length ∧ acc = (y.foldl pairStep ((i : Int) - 1, acc)).2.take acc.length
  | [], i, acc => by simp [escG]
  | c :: r, i, acc => by
    rw [List.flatMap_cons, List.foldl_cons]
    by_cases h : c = 34 ∨ c = 92
    · have hu : unit1 c = [92, c] := by unfold unit1; rw [if_pos h]
      have hq : qm1 c = [92, c] := by rcases h with rfl | rfl <;> rfl
      have hp : pairStep ((i : Int) - 1, acc) c = (((i + 2 : Nat) : Int) - 1, acc ++ [PV.tup [.int ((i : Int) + 1), .str [92, c]]]) := by
        unfold pairStep; rw [hu]; simp only [List.length_cons, List.length_nil]
        have : (i : Int) - 1 + ((0 + 1 + 1 : Nat) : Int) = (i : Int) + 1 := by omega
        rw [this]
        have : ((i + 2 : Nat) : Int) - 1 = (i : Int) + 1 := by omega
        rw [this]
      obtain ⟨h1, h2⟩ := offm_run r (i + 2) (acc ++ [PV.tup [.int ((i : Int) + 1), .str [92, c]]])
      rw [hp, hq]
      have he : escG i false ([92, c] ++ r.flatMap qm1) = (i + 1, [92, c]) :: escG (i + 2) false (r.flatMap qm1) := by
        simp [escG]
      rw [he, List.map_cons, h1]
      generalize (r.foldl pairStep (((i + 2 : Nat) : Int) - 1, acc ++ [PV.tup [.int ((i : Int) + 1), .str [92, c]]])).2 = L at h1 h2 ⊢
      have hL : L = (acc ++ [PV.tup [.int ((i : Int) + 1), .str [92, c]]]) ++ L.drop (acc ++ [PV.tup [.int ((i : Int) + 1), .str [92, c]]]).length := by
        conv => lhs; rw [← List.take_append_drop (acc ++ [PV.tup [.int ((i : Int) + 1), .str [92, c]]]).length L]
        rw [← h2]
      generalize L.drop (acc ++ [PV.tup [.int ((i : Int) + 1), .str [92, c]]]).length = T at hL ⊢
      subst hL
      simp [escPV]
    · have hu : unit1 c = [c] := by unfold unit1; rw [if_neg h]
      have hq : qm1 c = [c] := by unfold qm1; rw [if_neg (by omega), if_neg (by omega)]
      have hp : pairStep ((i : Int) - 1, acc) c = (((i + 1 : Nat) : Int) - 1, acc ++ [PV.tup [.int (i : Int), .str [c]]]) := by
        unfold pairStep; rw [hu]; simp only [List.length_cons, List.length_nil]
        have : (i : Int) - 1 + ((0 + 1 : Nat) : Int) = (i : Int) := by omega
        rw [this]
        have : ((i + 1 : Nat) : Int) - 1 = (i : Int) := by omega
        rw [this]
      obtain ⟨h1, h2⟩ := offm_run r (i + 1) (acc ++ [PV.tup [.int (i : Int), .str [c]]])
      rw [hp, hq]
      have he : escG i false ([c] ++ r.flatMap qm1) = (i, [c]) :: escG (i + 1) false (r.flatMap qm1) := by
        simp [escG, show ¬ c = 92 by omega]
      rw [he, List.map_cons, h1]
      generalize (r.foldl pairStep (((i + 1 : Nat) : Int) - 1, acc ++ [PV.tup [.int (i : Int), .str [c]]])).2 = L at h1 h2 ⊢
      have hL : L = (acc ++ [PV.tup [.int (i : Int), .str [c]]]) ++ L.drop (acc ++ [PV.tup [.int (i : Int), .str [c]]]).length := by
        conv => lhs; rw [← List.take_append_drop (acc ++ [PV.tup [.int (i : Int), .str [c]]]).length L]
        rw [← h2]
      generalize L.drop (acc ++ [PV.tup [.int (i : Int), .str [c]]]).length = T at hL ⊢
      subst hL
      simp [escPV]
theorem offm_eq (x ways : List Nat) (d : Nat) (h : ways[d]? = some 109) : escL (quoted x (ways.take (d + 1))) = pairsL (quoted x (ways.take d)) := by
  rw [quoted_take x ways d 109 h]
  show escL ((quoted x (ways.take d)).flatMap qm1) = _
  generalize quoted x (ways.take d) = y
  have := (offm_run y 0 []).1
  unfold escL pairsL
  simpa using this

/-! units -/
theorem units_run (x : List Nat) : ∀ i, i ≤ x.length → ∀ t, escG 0 false (x ++ t) = (((List.range i).filter (keptB x)).map fun k => (k, List.replicate (trail 92 (x.take k) % 2) 92 ++ (x[k]?).toList)) ++ escG i (parB x i) (x.drop i ++ t)
  | 0, _, t => by simp [parB, trail]
  | i + 1, hi, t => by
    have ih := units_run x i (by omega) t
    have hx : x[i]? = some x[i] := by simp [show i < x.length by omega]
    rw [ih, List.range_succ, List.filter_append, List.map_append, List.append_assoc]
    congr 1
    rw [List.drop_eq_getElem_cons (show i < x.length by omega), par_succ x i _ hx]
    generalize hc : x[i] = c at hx ⊢
    have hk : keptB x i = (c != 92 || parB x i) := by
      unfold keptB parB; rw [hx]; rfl
    have h2 := Nat.mod_two_eq_zero_or_one (trail 92 (x.take i))
    cases hp : parB x i with
    | true =>
      have ht : trail 92 (x.take i) % 2 = 1 := by unfold parB at hp; simpa using hp
      rw [List.filter_cons_of_pos (by rw [hk, hp]; simp), List.filter_nil]
      simp only [List.map_cons, List.map_nil, List.cons_append, List.nil_append, escG, ht, hx, nextP]
      simp
    | false =>
      have ht : trail 92 (x.take i) % 2 = 0 := by unfold parB at hp; simp at hp; omega
      by_cases h92 : c = 92
      · rw [List.filter_cons_of_neg (by rw [hk, hp, h92]; simp), List.filter_nil]
        subst h92
        simp [escG, nextP]
      · rw [List.filter_cons_of_pos (by rw [hk, hp]; simpa using h92), List.filter_nil]
        simp only [List.map_cons, List.map_nil, List.cons_append, List.nil_append, escG, ht, hx, nextP, if_neg h92]
        simp
theorem units_eq (x : List Nat) (he : parB x x.length = false) : escL (x ++ [92]) = unitsL x ++ [.tup [.int x.length, .str [92]]] := by
  unfold escL
  rw [units_run x x.length (Nat.le_refl _) [92], he, List.drop_length, List.nil_append]
  have : escG x.length false [92] = [(x.length, [92])] := by simp [escG]
  rw [this, List.map_append]
  congr 1
  unfold unitsL
  rw [List.map_map]; rfl
theorem plain_eq (x : List Nat) : strip (replG [34] [] 0 x) = replG [34] [] 0 x := by
  unfold strip
  rw [if_neg]
  rw [replG_one]
  intro h
  obtain ⟨c, _, hc⟩ := List.mem_flatMap.mp h
  split at hc
  · simp at hc
  · rename_i hn; rw [List.mem_singleton] at hc; exact hn hc.symm

/-! the names along a text -/
def oddS : Bool → List Nat → List Nat
  | _, [] => []
  | b, c :: r => if c = 34 then oddS (!b) r else if b = true then c :: oddS b r else oddS b r
def odd2 (n : Nat) : Bool := n % 2 == 1
theorem odd2_succ (n : Nat) : odd2 (n + 1) = !odd2 n := by
  unfold odd2; rcases Nat.mod_two_eq_zero_or_one n with h | h
  · rw [h, show (n + 1) % 2 = 1 by omega]; rfl
  · rw [h, show (n + 1) % 2 = 0 by omega]; rfl
theorem oddS_append : ∀ (b : Bool) (s t : List Nat), oddS b (s ++ t) = oddS b s ++ oddS (b != odd2 (s.count 34)) t
  | b, [], t => by simp [oddS, odd2]
  | b, c :: r, t => by
    by_cases h : c = 34
    · subst h
      simp only [List.cons_append, oddS, if_true, List.count_cons_self, odd2_succ]
      rw [oddS_append]; congr 2; cases b <;> cases odd2 (r.count 34) <;> rfl
    · simp only [List.cons_append, oddS, if_neg h]
      rw [List.count_cons_of_ne h, oddS_append]
      split <;> simp
theorem oddS_none : ∀ s : List Nat, 34 ∉ s → oddS false s = []
  | [], _ => rfl
  | c :: r, h => by
    simp at h
    simp only [oddS, if_neg (Ne.symm h.1)]
    simpa using oddS_none r h.2
theorem pick_append (lets : List (List Nat)) (s t : List Nat) : pick lets (s ++ t) = pick lets s ++ pick lets t := by unfold pick; simp
theorem pick_cons34 (lets : List (List Nat)) (h : [34] ∉ lets) (s : List Nat) : pick lets (34 :: s) = pick lets s := by
  unfold pick; rw [List.filter_cons_of_neg (by simpa using h)]
theorem prsL_odd (lets : List (List Nat)) (h : [34] ∉ lets) : ∀ s : List Nat, pick lets (oddS true s) = pick lets (prsL s) ++ pick lets (oddS false (s.drop ((prsL s).length + (prsL s).count 34 + 1))) := by
  intro s
  induction s using prsL.induct with
  | case1 => simp [prsL, oddS, pick]
  | case2 r ih =>
    rw [show prsL (34 :: 34 :: r) = 34 :: prsL r from rfl, pick_cons34 lets h]
    rw [show oddS true (34 :: 34 :: r) = oddS true r by simp [oddS], ih]
    rw [List.count_cons_self, List.length_cons, show (prsL r).length + 1 + ((prsL r).count 34 + 1) + 1 = ((prsL r).length + (prsL r).count 34 + 1) + 2 by omega]
    rfl
  | case3 r hr =>
    have : prsL (34 :: r) = [] := by
      unfold prsL
      split <;> simp_all
    rw [this]; simp [oddS, pick]
  | case4 c r h1 h2 ih =>
    have hc : c ≠ 34 := h2
    have : prsL (c :: r) = c :: prsL r := by
      conv => lhs; unfold prsL
      split <;> simp_all
    rw [this, List.count_cons_of_ne hc, List.length_cons]
    rw [show oddS true (c :: r) = c :: oddS true r by simp [oddS, hc]]
    rw [show (prsL r).length + 1 + (prsL r).count 34 + 1 = ((prsL r).length + (prsL r).count 34 + 1) + 1 by omega, List.drop_succ_cons]
    rw [show c :: oddS true r = [c] ++ oddS true r from rfl, show c :: prsL r = [c] ++ prsL r from rfl, pick_append, pick_append, ih, List.append_assoc]
theorem fnd_split (c : Nat) : ∀ (i : Nat) (r : List Nat), (fnd c i r = -1 ∧ c ∉ r) ∨ ∃ a t, r = a ++ c :: t ∧ c ∉ a ∧ fnd c i r = ((i + a.length : Nat) : Int)
  | i, [] => .inl ⟨rfl, by simp⟩
  | i, d :: r => by
    simp only [fnd]
    by_cases h : d = c
    · rw [if_pos h]
      exact .inr ⟨[], r, by simp [h], by simp, by simp⟩
    · rw [if_neg h]
      rcases fnd_split c (i + 1) r with ⟨h1, h2⟩ | ⟨a, t, h1, h2, h3⟩
      · exact .inl ⟨h1, by simp [h2, Ne.symm h]⟩
      · refine .inr ⟨d :: a, t, by simp [h1], by simp [h2, Ne.symm h], ?_⟩
        rw [h3, List.length_cons]; congr 1; omega
theorem insL_odd (x : List Nat) (lets : List (List Nat)) (h : [34] ∉ lets) : ∀ (n k : Nat), x.length < n + k → insL x lets n (fnd 34 k (x.drop k)) = pick lets (oddS false (x.drop k))
  | 0, k, hk => by
    rw [List.drop_eq_nil_of_le (by omega)]
    simp [insL, oddS, pick]
  | n + 1, k, hk => by
    rcases fnd_split 34 k (x.drop k) with ⟨h1, h2⟩ | ⟨a, t, h1, h2, h3⟩
    · rw [h1, oddS_none _ h2]
      simp [insL, pick]
    · rw [h3]
      simp only [insL]
      rw [if_pos (by omega), Int.toNat_natCast]
      have hd : x.drop (k + a.length) = 34 :: t := by
        have : (x.drop k).drop a.length = 34 :: t := by rw [h1]; simp
        simpa [List.drop_drop] using this
      have hn : nameAt x (k + a.length) = prsL t := by
        unfold nameAt prs; rw [hd, if_pos (by simp)]; rfl
      have hnx : nextAt x (k + a.length) = fnd 34 (k + a.length + (prsL t).length + (prsL t).count 34 + 2) (x.drop (k + a.length + (prsL t).length + (prsL t).count 34 + 2)) := by
        unfold nextAt; rw [hn]
      rw [hnx, hn, insL_odd x lets h n _ (by omega), h1, oddS_append, oddS_none a h2, show odd2 (a.count 34) = false by rw [List.count_eq_zero_of_not_mem h2]; rfl]
      have ht : x.drop (k + a.length + (prsL t).length + (prsL t).count 34 + 2) = t.drop ((prsL t).length + (prsL t).count 34 + 1) := by
        have e : k + a.length + (prsL t).length + (prsL t).count 34 + 2 = (k + a.length) + (((prsL t).length + (prsL t).count 34 + 1) + 1) := by omega
        rw [e, ← List.drop_drop, hd, List.drop_succ_cons]
      rw [ht, ← prsL_odd lets h t]
      simp [oddS]
theorem inside_odd (x : List Nat) (lets : List (List Nat)) (h : [34] ∉ lets) : inside x lets = pick lets (oddS false x) := by
  have := insL_odd x lets h (x.length + 1) 0 (by omega)
  simpa [inside] using this
end Mine
end

section
set_option maxRecDepth 100000
set_option linter.unusedVariables false
set_option linter.unusedSimpArgs false
namespace Mine
open PySem PySem.W

theorem fact_odd : ∀ w ∈ W15, ∀ c ∈ [34, 92], ∀ b : Bool, ((oddS b (qs w c)).all fun d => d == 34 || d == 92) = true := by decide +kernel
theorem fact_cnt : ∀ w ∈ W15, odd2 ((qs w 34).count 34) = !decide (102 ∈ w) ∧ odd2 ((qs w 92).count 34) = false := by decide +kernel
theorem pick_none (lets : List (List Nat)) (h1 : [34] ∉ lets) (h2 : [92] ∉ lets) (s : List Nat) (h : (s.all fun d => d == 34 || d == 92) = true) : pick lets s = [] := by
  unfold pick
  rw [List.filter_eq_nil_iff.mpr]
  · rfl
  · intro c hc
    have := List.all_eq_true.mp h c hc
    simp at this
    rcases this with rfl | rfl <;> simpa
theorem ins_flat (lets : List (List Nat)) (h1 : [34] ∉ lets) (h2 : [92] ∉ lets) (w : List Nat) (hw : w ∈ W15) : ∀ (x : List Nat) (b : Bool), (102 ∈ w → b = false) → pick lets (oddS b (x.flatMap (qs w))) = if 102 ∈ w then [] else pick lets (oddS b x)
  | [], b, hb => by simp [oddS, pick]
  | c :: r, b, hb => by
    rw [List.flatMap_cons, oddS_append, pick_append]
    obtain ⟨g1, g2⟩ := fact_cnt w hw
    by_cases h34 : c = 34
    · subst h34
      rw [pick_none lets h1 h2 _ (fact_odd w hw 34 (by simp) b), g1, List.nil_append]
      by_cases hf : 102 ∈ w
      · rw [if_pos hf]
        have := ins_flat lets h1 h2 w hw r false (fun _ => rfl)
        rw [if_pos hf] at this
        rw [hb hf]; simpa [hf] using this
      · rw [if_neg hf]
        have := ins_flat lets h1 h2 w hw r (!b) (fun h => absurd h hf)
        rw [if_neg hf] at this
        simpa [hf, oddS] using this
    · by_cases h92 : c = 92
      · subst h92
        rw [pick_none lets h1 h2 _ (fact_odd w hw 92 (by simp) b), g2, List.nil_append, Bool.bne_false, ins_flat lets h1 h2 w hw r b hb]
        by_cases hf : 102 ∈ w
        · rw [if_pos hf, if_pos hf]
        · rw [if_neg hf, if_neg hf]
          cases b
          · simp [oddS]
          · rw [show oddS true (92 :: r) = [92] ++ oddS true r by simp [oddS], pick_append, pick_none lets h1 h2 [92] rfl]; rfl
      · rw [qs_other w c h34 h92, show odd2 (List.count 34 [c]) = false by rw [List.count_eq_zero_of_not_mem (by simpa using Ne.symm h34)]; rfl, Bool.bne_false, ins_flat lets h1 h2 w hw r b hb]
        by_cases hf : 102 ∈ w
        · rw [if_pos hf, if_pos hf, hb hf]; simp [oddS, h34, pick]
        · rw [if_neg hf, if_neg hf]
          cases b
          · simp [oddS, h34, pick]
          · rw [show oddS true (c :: r) = [c] ++ oddS true r by simp [oddS, h34], pick_append]; simp [oddS, h34]
theorem odd_run (x : List Nat) : ∀ i, i ≤ x.length → ((List.range i).filter (oddB x)).map (fun k => (x[k]?).toList) = pick (lettersOf x) (oddS false (x.take i))
  | 0, _ => rfl
  | i + 1, hi => by
    have ih := odd_run x i (by omega)
    have hx : x[i]? = some x[i] := by simp [show i < x.length by omega]
    rw [List.range_succ, List.filter_append, List.map_append, ih, List.take_add_one, hx, oddS_append, pick_append]
    congr 1
    simp only [Option.toList_some]
    generalize hc : x[i] = c at hx ⊢
    have hb : oddB x i = ((lettersOf x).contains [c] && odd2 ((x.take i).count 34)) := by unfold oddB odd2; rw [hx]; rfl
    have h34 : [34] ∉ lettersOf x := by
      unfold lettersOf; intro h
      obtain ⟨d, hd, e⟩ := List.mem_map.mp h
      simp at e; subst e
      have := (List.mem_filter.mp hd).2
      simp [abcL] at this
    cases ho : odd2 ((x.take i).count 34) with
    | false =>
      rw [List.filter_cons_of_neg (by rw [hb, ho]; simp)]
      by_cases hcc : c = 34 <;> simp [oddS, pick, hcc]
    | true =>
      by_cases hcc : c = 34
      · subst hcc
        rw [List.filter_cons_of_neg (by rw [hb]; simp [h34])]
        simp [oddS, pick]
      · by_cases hl : [c] ∈ lettersOf x
        · rw [List.filter_cons_of_pos (by rw [hb, ho]; simpa using hl)]
          simp [oddS, pick, hcc, hl, hx]
        · rw [List.filter_cons_of_neg (by rw [hb]; simp [hl])]
          simp [oddS, pick, hcc, hl]
theorem letters_not (x : List Nat) : [34] ∉ lettersOf x ∧ [92] ∉ lettersOf x := by
  constructor <;> (unfold lettersOf; intro h; obtain ⟨d, hd, e⟩ := List.mem_map.mp h; simp at e; subst e; have := (List.mem_filter.mp hd).2; simp [abcL] at this)
theorem ins_eq (x w : List Nat) (hw : w ∈ W15) : inside (quoted x w) (lettersOf x) = if 102 ∈ w then [] else oddOf x := by
  obtain ⟨h1, h2⟩ := letters_not x
  rw [inside_odd _ _ h1, quoted_flat, ins_flat _ h1 h2 w hw x false (fun _ => rfl)]
  have := odd_run x x.length (Nat.le_refl _)
  rw [List.take_length] at this
  unfold oddOf
  rw [this]

/-! the sights -/
def hidF (x w : List Nat) (i : Nat) : Bool := (seenF x w i).2.2
theorem hid_succ (x w : List Nat) (i c : Nat) (h : x[i]? = some c) : hidF x w (i + 1) = (seenOut w (parB x i) (hidF x w i) c).1 := by
  unfold hidF; rw [seenF_succ, seenStep_eq x w _ i c h]
theorem three_fact : ∀ p h0 h1 : Bool, ((seenOut [] p h0 34).1 != (seenOut [102] p h1 34).1) = (seenOut [109, 102] p (h0 != h1) 34).1 := by decide +kernel
theorem mf_fact : ∀ p h : Bool, (seenOut [109, 102] p h 34).1 = !h := by decide +kernel
theorem hid_three (x : List Nat) : ∀ i, i ≤ x.length → (hidF x [] i != hidF x [102] i) = hidF x [109, 102] i ∧ hidF x [109, 102] i = odd2 ((x.take i).count 34)
  | 0, _ => by constructor <;> rfl
  | i + 1, hi => by
    obtain ⟨ih1, ih2⟩ := hid_three x i (by omega)
    have hx : x[i]? = some x[i] := by simp [show i < x.length by omega]
    rw [hid_succ x _ i _ hx, hid_succ x _ i _ hx, hid_succ x _ i _ hx, List.take_add_one, hx, ← ih1]
    simp only [Option.toList_some, List.count_append]
    by_cases h34 : x[i] = 34
    · rw [h34]
      refine ⟨three_fact _ _ _, ?_⟩
      rw [mf_fact, ih1, ih2]; simp [odd2_succ]
    · have hs : ∀ w h, (seenOut w (parB x i) h x[i]).1 = h := fun w h => by
        unfold seenOut; rw [if_neg h34]; split <;> rfl
      rw [hs, hs, hs]
      refine ⟨rfl, ?_⟩
      rw [ih1, ih2, List.count_eq_zero_of_not_mem (a := 34) (l := [x[i]]) (by simpa using Ne.symm h34)]; rfl
theorem out_mem (w : List Nat) (hw : w ∈ W15) (c : Nat) (h1 : c ≠ 34) (h2 : c ≠ 92) (d : Nat) (p h : Bool) : c ∈ (seenOut w p h d).2.1 ↔ d = c ∧ h = false := by
  by_cases hq : d = 34 ∨ d = 92
  · have hall := fact_two_br w hw d (by simpa using hq) p h
    constructor
    · intro hm
      have := List.all_eq_true.mp hall c hm
      simp at this; omega
    · rintro ⟨e, _⟩; omega
  · unfold seenOut
    rw [if_neg (by omega), qs_other w _ (by omega) (by omega)]
    cases h
    · rw [if_neg Bool.false_ne_true]
      show c ∈ [d] ↔ _
      rw [List.mem_singleton]
      exact ⟨fun e => ⟨e.symm, rfl⟩, fun e => e.1.symm⟩
    · rw [if_pos rfl]
      exact ⟨fun e => absurd e List.not_mem_nil, fun e => nomatch e.2⟩
theorem left_mem (x w : List Nat) (hw : w ∈ W15) (c : Nat) (h1 : c ≠ 34) (h2 : c ≠ 92) : ∀ i, i ≤ x.length → (c ∈ (seenF x w i).1 ↔ ∃ j, j < i ∧ x[j]? = some c ∧ hidF x w j = false)
  | 0, _ => by simp [seenF]
  | i + 1, hi => by
    have ih := left_mem x w hw c h1 h2 i (by omega)
    have hx : x[i]? = some x[i] := by simp [show i < x.length by omega]
    rw [seenF_succ, seenStep_eq x w _ i _ hx, List.mem_append, ih]
    have hout : c ∈ (seenOut w (parB x i) (seenF x w i).2.2 x[i]).2.1 ↔ x[i] = c ∧ hidF x w i = false := out_mem w hw c h1 h2 _ _ _
    rw [hout]
    constructor
    · rintro (⟨j, hj, e, g⟩ | ⟨e, g⟩)
      · exact ⟨j, by omega, e, g⟩
      · exact ⟨i, by omega, by rw [hx, e], g⟩
    · rintro ⟨j, hj, e, g⟩
      by_cases hji : j = i
      · subst hji; right; rw [hx] at e; exact ⟨by simpa using e, g⟩
      · left; exact ⟨j, by omega, e, g⟩
theorem abc_not {c : Nat} (h : c ∈ abcL) : c ≠ 34 ∧ c ≠ 92 ∧ c ≠ 121 := by
  refine ⟨?_, ?_, ?_⟩ <;> (rintro rfl; simp [abcL] at h)
/-- the texts of the law -/
structure Txt (x : List Nat) : Prop where
  uniq : ∀ (i j c : Nat), c ∈ abcL → x[i]? = some c → x[j]? = some c → i = j
  par : parB x x.length = false
  head : ∃ c r, x = c :: r ∧ c ≠ 55
theorem sight_mem {x : List Nat} (T : Txt x) (w : List Nat) (hw : w ∈ W15) {i c : Nat} (hc : c ∈ abcL) (hi : x[i]? = some c) : hasG [c] (sightOf x w) = !hidF x w i := by
  obtain ⟨h1, h2, h3⟩ := abc_not hc
  rw [hasG_one]
  unfold sightOf
  rw [sight_eq x w hw T.par]
  have hm : c ∈ (seen x w).1 ↔ hidF x w i = false := by
    unfold seen
    rw [left_mem x w hw c h1 h2 x.length (Nat.le_refl _)]
    constructor
    · rintro ⟨j, hj, e, g⟩; rw [T.uniq i j c hc hi e]; exact g
    · intro g
      have : i < x.length := by rcases List.getElem?_eq_some_iff.mp hi with ⟨h, _⟩; exact h
      exact ⟨i, this, hi, g⟩
  have ht : c ∉ (if (seen x w).2.2 = true then [121] else [34, 121] : List Nat) := by split <;> simp [h1, h3]
  have : c ∈ (seen x w).1 ++ (if (seen x w).2.2 = true then [121] else [34, 121] : List Nat) ↔ hidF x w i = false := by
    rw [List.mem_append, hm]; exact ⟨fun h => h.elim id (fun h => absurd h ht), .inl⟩
  rw [Bool.eq_iff_iff, decide_eq_true_eq, this]
  cases hidF x w i <;> simp
theorem letters_at {x : List Nat} {l : List Nat} (h : l ∈ lettersOf x) : ∃ (i : Nat) (c : Nat), l = [c] ∧ c ∈ abcL ∧ x[i]? = some c := by
  unfold lettersOf at h
  obtain ⟨c, hc, rfl⟩ := List.mem_map.mp h
  obtain ⟨h1, h2⟩ := List.mem_filter.mp hc
  obtain ⟨i, hi, e⟩ := List.getElem_of_mem h1
  exact ⟨i, c, rfl, by simpa using h2, by simp [hi, e]⟩
theorem three_eq {x : List Nat} (T : Txt x) : ∀ l ∈ lettersOf x, ((sightsOf x).filter fun s => hasG l s).length % 2 ≠ 0 := by
  intro l hl
  obtain ⟨i, c, rfl, hc, hi⟩ := letters_at hl
  have hlt : i < x.length := by rcases List.getElem?_eq_some_iff.mp hi with ⟨h, _⟩; exact h
  have h3 := (hid_three x i (by omega)).1
  have e0 := sight_mem T [] (by simp [W15]) hc hi
  have e1 := sight_mem T [102] (by simp [W15]) hc hi
  have e2 := sight_mem T [109, 102] (by simp [W15]) hc hi
  unfold sightsOf
  simp only [List.filter_cons, List.filter_nil, e0, e1, e2, ← h3]
  cases hidF x [] i <;> cases hidF x [102] i <;> simp
theorem last_eq {x : List Nat} (T : Txt x) : inside x (lettersOf x) = (lettersOf x).filter fun l => !hasG l (sightOf x [109, 102]) := by
  obtain ⟨h1, h2⟩ := letters_not x
  rw [inside_odd _ _ h1]
  have key : ∀ i, i ≤ x.length → (oddS false (x.take i)).filter (fun c => (lettersOf x).contains [c]) = ((x.take i).filter fun c => decide (c ∈ abcL)).filter fun c => !hasG [c] (sightOf x [109, 102]) := by
    intro i
    induction i with
    | zero => intro _; rfl
    | succ i ih =>
      intro hi
      have hx : x[i]? = some x[i] := by simp [show i < x.length by omega]
      rw [List.take_add_one, hx, oddS_append, List.filter_append, List.filter_append, List.filter_append, ih (by omega)]
      congr 1
      simp only [Option.toList_some]
      generalize hc : x[i] = c at hx ⊢
      have hh := (hid_three x i (by omega)).2
      by_cases hab : c ∈ abcL
      · obtain ⟨g1, g2, g3⟩ := abc_not hab
        have hlet : [c] ∈ lettersOf x := by
          unfold lettersOf
          exact List.mem_map.mpr ⟨c, List.mem_filter.mpr ⟨List.mem_of_getElem? hx, by simpa using hab⟩, rfl⟩
        have hs := sight_mem T [109, 102] (by simp [W15]) hab hx
        rw [hh] at hs
        cases ho : odd2 ((x.take i).count 34) with
        | true => rw [ho] at hs; simp [oddS, g1, hlet, hab, hs]
        | false => rw [ho] at hs; simp [oddS, g1, hab, hs]
      · have hlet : [c] ∉ lettersOf x := by
          intro h
          obtain ⟨j, d, e, hd, _⟩ := letters_at h
          simp at e; rw [e] at hab; exact hab hd
        have : ∀ b, (oddS b [c]).filter (fun c => (lettersOf x).contains [c]) = [] := by
          intro b
          rw [List.filter_eq_nil_iff]
          intro d hd
          have : d = c := by
            simp only [oddS] at hd
            split at hd
            · simp at hd
            · split at hd <;> simp at hd; exact hd
          rw [this]; simpa using hlet
        rw [this]; simp [hab]
  have := key x.length (Nat.le_refl _)
  rw [List.take_length] at this
  unfold pick
  rw [this]
  unfold lettersOf
  rw [List.filter_map]
  rfl
theorem quoted_head (w : List Nat) (hw : w ∈ W15) {x : List Nat} (T : Txt x) : (quoted x w).head? ≠ some 55 := by
  obtain ⟨c, r, rfl, hc⟩ := T.head
  rw [quoted_flat, List.flatMap_cons]
  by_cases h : c = 34 ∨ c = 92
  · obtain ⟨h1, h2⟩ := fact_head w hw c (by simpa using h)
    cases hq : qs w c with
    | nil => exact absurd hq h2
    | cons d t => rw [hq] at h1; simpa using h1
  · rw [qs_other w c (by omega) (by omega)]; simpa using hc
theorem take_fact : ∀ a ∈ [102, 109], ∀ b ∈ [102, 109], ∀ c ∈ [102, 109], ∀ d ∈ [0, 1, 2, 3], List.take d [a, b, c] ∈ W15 := by decide
theorem take_W15 {ways : List Nat} (hl : ways.length = 3) (hw : ∀ c ∈ ways, c = 102 ∨ c = 109) (d : Nat) (hd : d ≤ 3) : ways.take d ∈ W15 := by
  match ways, hl with
  | [a, b, c], _ =>
  have key : ∀ e ∈ [a, b, c], e ∈ [102, 109] := fun e he => by simpa using hw e he
  exact take_fact a (key a (by simp)) b (key b (by simp)) c (key c (by simp)) d (by simp; omega)
theorem facts_of {x ways : List Nat} (T : Txt x) (hl : ways.length = 3) (hw : ∀ c ∈ ways, c = 102 ∨ c = 109) : Facts x ways where
  units := units_eq x T.par
  plain := plain_eq x
  offf := fun d _ h => offf_eq x ways d h
  offm := fun d _ h => offm_eq x ways d h
  sight := fun d hd => sight_eq x _ (take_W15 hl hw d hd) T.par
  check := fun d hd => check_eq x _ (take_W15 hl hw d hd) T.par
  ins := fun d hd => ins_eq x _ (take_W15 hl hw d hd)
  head := fun d hd => quoted_head _ (take_W15 hl hw d hd) T
  three := three_eq T
  last := last_eq T
end Mine
end

section
set_option maxRecDepth 100000
set_option linter.unusedVariables false
set_option linter.unusedSimpArgs false
namespace Mine
open PySem PySem.W

theorem flat_single : ∀ (L : List Nat) (f : Nat → Nat), (L.map fun k => [f k]).flatten = L.map f
  | [], _ => rfl
  | a :: L, f => by simp [flat_single L f]
theorem numsL_len (script : List Int) : 7 ≤ (numsL script).length ∧ (numsL script).length ≤ 10 := by
  unfold numsL; simp [fillL]; omega
def sgn (nums : List Int) (k : Nat) : Nat := signC k ((nums.getD k 0).fmod 8).toNat
theorem textOf_eq (nums : List Int) : textOf nums = (List.range nums.length).map (sgn nums) ++ [122] := by
  unfold textOf
  rw [joinL_nil]
  congr 1
  exact flat_single _ _
theorem textOf_len (script : List Int) : (textOf (numsL script)).length ≤ 11 := by
  rw [textOf_eq]; have := (numsL_len script).2; simp; omega
theorem sgn_cases (nums : List Int) (k : Nat) : sgn nums k = 34 ∨ sgn nums k = 92 ∨ sgn nums k = 40 ∨ sgn nums k = 41 ∨ sgn nums k = 97 + k := by
  unfold sgn signC
  split
  · exact .inl rfl
  · split
    · exact .inr (.inl rfl)
    · split
      · exact .inr (.inr (.inl rfl))
      · split
        · exact .inr (.inr (.inr (.inl rfl)))
        · exact .inr (.inr (.inr (.inr rfl)))
theorem text_at (nums : List Int) (i c : Nat) (h : (textOf nums)[i]? = some c) : (i < nums.length ∧ c = sgn nums i) ∨ (i = nums.length ∧ c = 122) := by
  rw [textOf_eq] at h
  by_cases hi : i < nums.length
  · rw [List.getElem?_append_left (by simpa using hi), List.getElem?_map] at h
    simp [hi] at h
    exact .inl ⟨hi, h.symm⟩
  · rw [List.getElem?_append_right (by simpa using hi)] at h
    simp only [List.length_map, List.length_range] at h
    by_cases he : i - nums.length = 0
    · rw [he] at h; simp at h; exact .inr ⟨by omega, h.symm⟩
    · rw [List.getElem?_eq_none (by simp; omega)] at h; cases h
theorem text_txt (nums : List Int) (h1 : 7 ≤ nums.length) (h2 : nums.length ≤ 10) : Txt (textOf nums) where
  uniq := fun i j c hc hi hj => by
    have key : ∀ i, (textOf nums)[i]? = some c → (i < nums.length ∧ c = 97 + i) ∨ (i = nums.length ∧ c = 122) := fun i h => by
      rcases text_at nums i c h with ⟨h1, h2⟩ | h
      · rcases sgn_cases nums i with h | h | h | h | h <;> rw [h] at h2
        · subst h2; simp [abcL] at hc
        · subst h2; simp [abcL] at hc
        · subst h2; simp [abcL] at hc
        · subst h2; simp [abcL] at hc
        · exact .inl ⟨h1, h2⟩
      · exact .inr h
    have a := key i hi
    have b := key j hj
    omega
  par := by
    unfold parB
    rw [List.take_length, textOf_eq, trail_snoc]; rfl
  head := by
    rw [textOf_eq]
    obtain ⟨n, hn⟩ : ∃ n, nums.length = n + 1 := ⟨nums.length - 1, by omega⟩
    rw [hn, List.range_succ_eq_map]
    refine ⟨sgn nums 0, _, rfl, ?_⟩
    rcases sgn_cases nums 0 with h | h | h | h | h <;> rw [h] <;> decide
theorem waysOf_ok (T : Int) : (waysOf T).length = 3 ∧ ∀ c ∈ waysOf T, c = 102 ∨ c = 109 := by
  unfold waysOf
  rw [joinL_nil]
  have hw : ∀ k, wayAt T k = [109] ∨ wayAt T k = [102] := fun k => by unfold wayAt; split <;> simp
  rw [show List.range 3 = [0, 1, 2] from rfl]
  rcases hw 0 with h0 | h0 <;> rcases hw 1 with h1 | h1 <;> rcases hw 2 with h2 | h2 <;> simp [h0, h1, h2]
theorem facts_all (script : List Int) : Facts (textOf (numsL script)) (waysOf ((numsL script).sum + 3)) :=
  facts_of (text_txt _ (numsL_len script).1 (numsL_len script).2) (waysOf_ok _).1 (waysOf_ok _).2
end Mine
end

section
open PySem PySem.W PyProof.Rows
set_option maxRecDepth 100000
set_option linter.unusedVariables false
namespace Mine
noncomputable def rc (k : Nat) : DefRec := (recsOf PySem.Challenge.pw_pu0005_01).getD k ⟨default, default, default, default, default⟩
noncomputable abbrev DI (B : Base) (k : Nat) : Prop := DefIn B (rc k).name (rc k).params (rc k).body (rc k).scope
theorem nofree {l : List (Str × NameKind)} (h : (l.all fun p => p.2 != .free) = true) : ∀ x, l.lookup x ≠ some .free := fun x e => by
  have := List.all_eq_true.mp h _ (mem_of_lookup e)
  simp at this
abbrev JParse (x : List Nat) (k : Nat) (σ : Sto) (ow : Own) : Prop := ow = none ∧ ∃ (i : Nat) (acc : List Nat), i ≤ x.length ∧ k = x.length - i ∧ σ.lookup (Str.ofString "resp") = some (.str x) ∧ σ.lookup (Str.ofString "dirname") = some (.str acc) ∧ σ.lookup (Str.ofString "i") = some (.int i) ∧ σ.lookup (Str.ofString "n") = some (.int x.length) ∧ acc ++ prsL (x.drop i) = prsL (x.drop 5) ∧ acc.length ≤ i
set_option maxHeartbeats 4000000 in
theorem con_parse {B : Base} {b : Bool} (D : DI B 3) (hl : Blt B (Str.ofString "len") (.builtin "len")) {x : List Nat} (hx : x.length ≤ 100000) (h3 : x.take 3 = [50, 53, 55]) {P : PV → Prop} (h : P (.str (prs x))) : Fn B 4 b (Str.ofString "parse257") [.str x] P := by
  refine fn_def (n := 3) (names := [Str.ofString "resp"]) D (by simp) rfl (fun pm code doc vs hv => ?_) (by decide) rfl rfl rfl (nofree rfl) fun V => ?_
  · obtain ⟨v, rfl⟩ := len1 hv; rfl
  · conv => arg 8; whnf
    refine stl_cons (st_if (evt_cmp (ev_slice (ev_name rfl (ev_int ⟨3, rfl, .str (by omega) (ev_str (cmp_nes ⟨_, rfl, ?_⟩))⟩)))))
    rw [show pySlice x none (some (3 : Int)) = x.take 3 from slice_to x 3, h3, if_neg (by decide)]
    refine stl_nil (stl_cons (st_if (evt_cmp (ev_slice (ev_name rfl (ev_int ⟨3, rfl, ev_int ⟨5, rfl, .str (by omega) (ev_str (cmp_nes ⟨_, rfl, ?_⟩))⟩⟩))))))
    rw [show pySlice x (some (3 : Int)) (some (5 : Int)) = (x.drop 3).take 2 from slice_mid x 3 5, show (Str.ofString " \"").cps.toList = [32, 34] from rfl]
    by_cases h5 : (x.drop 3).take 2 = [32, 34]
    · rw [h5, if_neg (by decide)]
      have hlen : 5 ≤ x.length := by have := congrArg List.length h5; simp at this; omega
      have hprs : prs x = prsL (x.drop 5) := by unfold prs; rw [if_pos h5]
      refine stl_nil (stl_cons (st_assign (putsL rfl) (ev_str ?_)))
      refine stl_cons (st_assign (putsL rfl) (ev_int ?_))
      refine stl_cons (st_assign (putsL rfl) (ev_bcall rfl hl rfl (evl_cons (ev_name rfl (evl_nil (bi_len_str (by omega) ?_))))))
      refine stl_cons (st_while (JParse x)
        (x.length - 5) ⟨rfl, 5, [], hlen, rfl, rfl, rfl, rfl, rfl, rfl, by simp⟩ (fun k σ' ow' ⟨e, _⟩ => e ▸ SameO.none) (fun k σ' ow' hJ => ?_))
      obtain ⟨rfl, i, acc, hi, hk, l1, l2, l3, l4, hacc, hal⟩ := hJ
      refine evt_cmp (ev_name l3 (ev_name l4 (cmp_lti ⟨_, rfl, ?_⟩)))
      by_cases hlt : i < x.length
      · rw [if_pos (by simpa using hlt)]
        have hxi : x[i]? = some x[i] := by simp [hlt]
        have hat := prsL_at x i x[i] hxi
        refine stl_cons (st_assign (putsL rfl) (ev_sub (ev_name l1 (ev_name l3 (sub_str (c := x[i]) (by omega) (by omega) (by rw [pyIdx_nat]; exact hxi) ?_)))))
        refine stl_cons (st_assign (putsL rfl) (ev_bin (ev_name (look_ne rfl l3) (ev_int (op_add ?_)))))
        refine stl_cons (st_if (evt_cmp (ev_name (look_ne rfl look_eq) (ev_str (cmp_eqs ⟨_, rfl, ?_⟩)))))
        rw [show (Str.ofString "\"").cps.toList = [34] from rfl]
        by_cases hq : x[i] = 34
        · rw [hq, if_pos (by decide)]
          rw [hq, if_pos rfl] at hat
          refine stl_cons (st_if (evt_or2 (evt_cmp (ev_name look_eq (ev_name (look_ne rfl (look_ne rfl l4)) (cmp_gei ⟨_, rfl, ?_⟩))))))
          by_cases hge : x.length ≤ i + 1
          · rw [if_pos (by simp; omega), if_pos rfl]
            refine stl_cons (st_break ?_)
            rw [if_neg (by rw [List.getElem?_eq_none (by omega)]; simp)] at hat
            refine stl_cons (st_return (ev_name (look_ne rfl (look_ne rfl l2)) ⟨_, rfl, ?_⟩))
            rw [hat, List.append_nil] at hacc
            rw [hacc, ← hprs]; exact h
          · rw [if_neg (by simp; omega)]
            have hlt2 : i + 1 < x.length := by omega
            have hx2 : x[i + 1]? = some x[i + 1] := by simp [hlt2]
            refine evt_cmp (ev_sub (ev_name (look_ne rfl (look_ne rfl l1)) (ev_name look_eq (sub_str (c := x[i + 1]) (by omega) (by omega) (by rw [show ((i : Int) + 1) = ((i + 1 : Nat) : Int) by omega, pyIdx_nat]; exact hx2) (ev_str (cmp_nes ⟨_, rfl, ?_⟩))))))
            rw [show (Str.ofString "\"").cps.toList = [34] from rfl]
            by_cases hq2 : x[i + 1] = 34
            · rw [hq2, if_neg (by decide)]
              rw [hx2, hq2, if_pos rfl] at hat
              refine stl_nil (stl_cons (st_assign (putsL rfl) (ev_bin (ev_name look_eq (ev_int (op_add ?_))))))
              refine stl_nil (stl_cons (st_assign (putsL rfl) (ev_bin (ev_name (look_ne rfl (look_ne rfl (look_ne rfl l2))) (ev_name (look_ne rfl (look_ne rfl look_eq)) (op_adds (by simp; omega) ?_))))))
              refine stl_nil ⟨x.length - (i + 2), by omega, rfl, i + 2, acc ++ [34], by omega, rfl, look_ne rfl (look_ne rfl (look_ne rfl (look_ne rfl l1))), look_eq, look_ne rfl (by rw [show ((i : Int) + 1 + 1) = ((i + 2 : Nat) : Int) by omega]; exact look_eq), look_ne rfl (look_ne rfl (look_ne rfl (look_ne rfl l4))), ?_, by simp; omega⟩
              rw [hat] at hacc
              simpa using hacc
            · rw [if_pos (by simpa using hq2)]
              refine stl_cons (st_break ?_)
              rw [hx2, if_neg (by simpa using hq2)] at hat
              refine stl_cons (st_return (ev_name (look_ne rfl (look_ne rfl l2)) ⟨_, rfl, ?_⟩))
              rw [hat, List.append_nil] at hacc
              rw [hacc, ← hprs]; exact h
        · rw [if_neg (by simpa using hq)]
          rw [if_neg hq] at hat
          refine stl_nil (stl_cons (st_assign (putsL rfl) (ev_bin (ev_name (look_ne rfl (look_ne rfl l2)) (ev_name (look_ne rfl look_eq) (op_adds (by simp; omega) ?_))))))
          refine stl_nil ⟨x.length - (i + 1), by omega, rfl, i + 1, acc ++ [x[i]], by omega, rfl, look_ne rfl (look_ne rfl (look_ne rfl l1)), look_eq, look_ne rfl (by rw [show ((i : Int) + 1) = ((i + 1 : Nat) : Int) by omega]; exact look_eq), look_ne rfl (look_ne rfl (look_ne rfl l4)), ?_, by simp; omega⟩
          rw [hat] at hacc
          simpa using hacc
      · rw [if_neg (by simpa using hlt)]
        refine stl_cons (st_return (ev_name l2 ⟨_, rfl, ?_⟩))
        rw [List.drop_eq_nil_of_le (by omega)] at hacc
        rw [show acc = prsL (x.drop 5) by simpa [prsL] using hacc, ← hprs]; exact h
    · rw [if_pos (by simpa using h5)]
      refine stl_cons (st_return (ev_str ⟨_, rfl, ?_⟩))
      have : prs x = [] := by unfold prs; rw [if_neg h5]
      rw [this] at h; exact h
end Mine
end

section
open PySem PySem.W PyProof.Rows
set_option maxRecDepth 100000
set_option linter.unusedVariables false
namespace Mine
theorem nocellL {l : List (Str × NameKind)} (h : (l.all fun p => p.2 != .cell) = true) : ∀ y ∈ l, y.2 ≠ .cell := fun y hy e => by
  have := List.all_eq_true.mp h _ hy
  rw [e] at this; simp at this
theorem nocellX {l : List (Str × NameKind)} (h : (l.all fun p => p.2 != .cell) = true) : ∀ x, l.lookup x ≠ some .cell := fun x e => nocellL h _ (mem_of_lookup e) rfl
theorem room_f {A : Around} {body : List Stmt} {env : Env} (h : Room 2 true A) : Room 1 true (A.over (.func body env) []) :=
  ⟨by have := h.depth; show A.depth + 0 + 1 + 1 ≤ 900; omega, by have := h.units; show A.units + 0 + 3 + 50 * 1 ≤ 9000; omega, h.hand⟩
theorem room_l {A : Around} {body b2 b3 : List Stmt} {tgt : Expr} {it : Value} {env : Env} {k : Result → Sem Fin} {g : Bool} {l : List Value} {p : Pos} (h : Room 2 true A) : Room 1 true (A.over (.forLoop tgt it b2 b3 env) [.ret k none g l (.func body env) p []]) :=
  ⟨by have := h.depth; show A.depth + 1 + 0 + 1 ≤ 900; omega, by have := h.units; show A.units + 3 + 0 + 50 * 1 ≤ 9000; omega, h.hand⟩
set_option maxHeartbeats 4000000 in
theorem con_iter {B : Base} (D : DI B 0) (he : Blt B (Str.ofString "enumerate") (.type "enumerate")) (x : List Nat) : FnG B (Str.ofString "_iter_escaped_chars") [.str x] (escL x) := by
  refine gen_def (p := Str.ofString "addr") D (fun _ _ _ _ => rfl) rfl rfl rfl rfl (nocellL rfl) ?_
  intro A env S₀ g s hR hE ok loc hL sL h0 hb
  have gc : GC B A (rc 0).scope env S₀ := ⟨hR, hE, hL, sL, h0, nocellX rfl, rfl⟩
  have sA : SOk (rc 0).scope [(Str.ofString "addr", .str x)] := SOk.nil.cons rfl rfl
  refine seg_func ?_
  have main : ∀ K H, K .next = .pure (.done (.ret .none)) → GSt B A (rc 0).scope env S₀ g (escL x) (.func (rc 0).body env) [] ((execs (rc 0).body env).wrap K H id id) (escL x) [(Str.ofString "addr", .str x)] (fun _ => True) := by
    intro K H hK
    refine g_cons (g_stmt gc (room_f hR) XS.true (st_assign (putsL rfl) (ev_int ⟨rfl, rfl, sA.cons rfl rfl, ?_⟩)))
    refine g_cons (g_stmt gc (room_f hR) XS.true (st_assign (putsL rfl) (ev_bool ⟨rfl, rfl, (sA.cons rfl rfl).cons rfl rfl, ?_⟩)))
    refine g_cons (g_forE (x := x) gc (room_f hR) (fun _ _ => room_l hR) rfl he (ev_name rfl rfl) rfl rfl (fun i => (escG i (ebAt x i) (x.drop i)).map escPV) (fun i => [(Str.ofString "pos", .int ((i - 1 : Nat) : Int)), (Str.ofString "escape", .bool (ebAt x i)), (Str.ofString "addr", .str x)]) (fun i => (((SOk.nil.cons rfl rfl).cons rfl rfl).cons rfl rfl)) rfl ?_ ?_ ?_)
    · exact sto3 rfl rfl rfl
    · intro i d hd cl p X K' H' hX hRl hK'
      have hat := escG_at x i d hd
      have s3 : ∀ i : Nat, SOk (rc 0).scope [(Str.ofString "pos", .int ((i - 1 : Nat) : Int)), (Str.ofString "escape", .bool (ebAt x i)), (Str.ofString "addr", .str x)] := fun i => ((SOk.nil.cons rfl rfl).cons rfl rfl).cons rfl rfl
      have s5 : SOk (rc 0).scope [(Str.ofString "ch", .str [d]), (Str.ofString "pos", .int (i : Int)), (Str.ofString "pos", .int ((i - 1 : Nat) : Int)), (Str.ofString "escape", .bool (ebAt x i)), (Str.ofString "addr", .str x)] := ((s3 i).cons rfl rfl).cons rfl rfl
      refine g_cons (g_if gc hRl hX (evt_val (ev_name rfl ⟨_, rfl, ?_⟩)))
      cases hb' : ebAt x i with
      | true =>
        rw [hb'] at hat s5
        rw [if_pos rfl, hat, if_pos rfl]
        refine g_cons (g_yield gc hRl hX rfl rfl rfl (ev_tuple (evl_cons (ev_name rfl (evl_cons (ev_bin (ev_str (ev_name rfl (op_adds (by show 1 + 1 ≤ 16777216; decide) (evl_nil ⟨by simp, rfl⟩))))))))) ?_)
        refine g_cons (g_stmt gc hRl hX (st_assign (putsL rfl) (ev_bool ⟨rfl, rfl, s5.cons rfl rfl, ?_⟩)))
        refine g_nil (g_nil (g_weaken (sto3 rfl ?_ rfl) hK'))
        show some (PV.bool false) = some (PV.bool (ebAt x (i + 1)))
        simp [ebAt, hb']
      | false =>
        rw [hb'] at hat s5
        rw [if_neg (by decide), hat, if_neg (by decide)]
        refine g_cons (g_if gc hRl hX (evt_cmp (ev_name rfl (ev_str (cmp_eqs ⟨_, rfl, ?_⟩)))))
        rw [show (Str.ofString "\\").cps.toList = [92] from rfl]
        by_cases h92 : d = 92
        · subst h92
          rw [if_pos (by decide), if_pos rfl]
          refine g_cons (g_stmt gc hRl hX (st_assign (putsL rfl) (ev_bool ⟨rfl, rfl, s5.cons rfl rfl, ?_⟩)))
          refine g_nil (g_nil (g_nil (g_weaken (sto3 rfl ?_ rfl) hK')))
          show some (PV.bool true) = some (PV.bool (ebAt x (i + 1)))
          simp [ebAt, hb', hd]
        · rw [if_neg (by simpa using h92), if_neg h92]
          refine g_cons (g_yield gc hRl hX rfl rfl rfl (ev_tuple (evl_cons (ev_name rfl (evl_cons (ev_name rfl (evl_nil ⟨by simp, rfl⟩)))))) ?_)
          refine g_nil (g_nil (g_nil (g_weaken (sto3 rfl ?_ rfl) hK')))
          show some (PV.bool false) = some (PV.bool (ebAt x (i + 1)))
          simp [ebAt, hb', hd, h92]
    · have hdr : x.drop x.length = [] := by simp
      rw [hdr]
      refine g_cons (g_if gc (room_f hR) XS.true (evt_val (ev_name rfl ⟨_, rfl, ?_⟩)))
      have fin : ∀ σ, GSt B A (rc 0).scope env S₀ g (escL x) (.func (rc 0).body env) [] (K .next) [] σ fun _ => True := fun σ s₀ s _ _ _ _ x₀ _ _ => by
        rw [hK]; exact seg_end (.ok (.ret .none)) ⟨rfl, rfl, x₀⟩
      cases hb' : ebAt x x.length with
      | true =>
        rw [if_pos rfl]
        refine g_cons (g_yield gc (room_f hR) XS.true rfl rfl rfl (ev_tuple (evl_cons (ev_name rfl (evl_cons (ev_str (evl_nil ⟨by simp, rfl⟩)))))) ?_)
        exact g_nil (g_nil (fin _))
      | false =>
        rw [if_neg (by decide)]
        exact g_nil (g_nil (fin _))
  exact main _ _ rfl s s sA ok loc trivial (.refl _) hb (List.suffix_refl _)
end Mine
end

section
open PySem PySem.W PyProof.Rows
set_option maxRecDepth 100000
set_option linter.unusedVariables false
namespace Mine
abbrev JStrip (x : List Nat) (a : Addr) (items : List PV) (i : Nat) (σ : Sto) (ow : Own) : Prop := items = escL x ∧ ow = some (Str.ofString "result", a, strL (stF x i).2.2) ∧ σ.lookup (Str.ofString "addr") = some (.str x) ∧ σ.lookup (Str.ofString "start") = some (.int ((stF x i).1 : Nat)) ∧ σ.lookup (Str.ofString "open_pos") = some (optPV (stF x i).2.1)
set_option maxHeartbeats 4000000 in
theorem con_strip {B : Base} (D : DI B 1) (hl : Blt B (Str.ofString "len") (.builtin "len")) (hI : ∀ x : List Nat, FnG B (Str.ofString "_iter_escaped_chars") [.str x] (escL x)) {x : List Nat} (hx : x.length ≤ 900) {P : PV → Prop} (h : P (.str (strip x))) : Fn B 6 true (Str.ofString "_strip_quoted_realnames") [.str x] P := by
  refine fn_def (n := 5) (names := [Str.ofString "addr"]) D (by simp) rfl (fun pm code doc vs hv => ?_) (by decide) rfl rfl rfl (nofree rfl) fun V => ?_
  · obtain ⟨v, rfl⟩ := len1 hv; rfl
  · conv => arg 8; whnf
    refine stl_cons (st_if (evt_cmp (ev_str (ev_name rfl (cmp_nins (by decide) ⟨_, rfl, ?_⟩)))))
    rw [show (Str.ofString "\"").cps.toList = [34] from rfl, hasG_one]
    by_cases hq : 34 ∈ x
    · rw [if_neg (by simpa using hq)]
      have hst : strip x = stripEnd x (stF x (escG 0 false x).length) := by unfold strip; rw [if_pos hq, stF_all x _ (Nat.le_refl _)]
      refine stl_nil (stl_cons (st_assign (putsL rfl) (ev_int ?_)))
      refine stl_cons (st_assign (putsL rfl) (ev_none ?_))
      refine stl_cons (st_own rfl rfl fun a => ?_)
      refine stl_cons (st_forG (by decide) (JStrip x a)
        (it_gcall (x := []) rfl (by decide) hI (ev_name rfl ⟨x, rfl, ⟨rfl, rfl, rfl, rfl, rfl⟩, fun i σ' ow' hJ => ?_, fun i p σ' ow' hp hJ => ?_, fun σ' ow' hJ => ?_⟩)))
      · rw [hJ.2.1]; exact SameO.some
      · obtain ⟨_, rfl, l1, l2, l3⟩ := hJ
        obtain ⟨q, hq1, rfl⟩ := escL_get hp
        refine as_tup2 (putsO rfl rfl) (putsO rfl rfl) ?_
        have hs := stF_succ x i q hq1
        have hbd := stF_bd x i
        have hi : i ≤ 901 := by
          have := escG_len x 0 false
          rcases List.getElem?_eq_some_iff.mp hq1 with ⟨h, _⟩; omega
        refine stl_cons (st_if (evt_cmp (ev_name look_eq (ev_str (cmp_eqs ⟨_, rfl, ?_⟩)))))
        rw [show (Str.ofString "\"").cps.toList = [34] from rfl]
        by_cases hc : q.2 = [34]
        · rw [if_pos (by simpa using hc)]
          unfold stripStep at hs
          rw [if_pos hc] at hs
          cases ho : (stF x i).2.1 with
          | none =>
            rw [ho] at l3 hs
            refine stl_cons (st_if (evt_cmp (ev_name (look_ne rfl (look_ne rfl l3)) (ev_none (cmp_is rfl ⟨_, rfl, ?_⟩)))))
            rw [if_pos rfl]
            refine stl_cons (st_assign (putsO rfl rfl) (ev_name (look_ne rfl look_eq) ?_))
            refine stl_nil (stl_nil (stl_nil ⟨rfl, by rw [hs], look_ne rfl (look_ne rfl (look_ne rfl l1)), by rw [hs]; exact look_ne rfl (look_ne rfl (look_ne rfl l2)), by rw [hs]; exact look_eq⟩))
          | some op =>
            rw [ho] at l3 hs
            dsimp only at hs
            refine stl_cons (st_if (evt_cmp (ev_name (look_ne rfl (look_ne rfl l3)) (ev_none (cmp_is rfl ⟨_, rfl, ?_⟩)))))
            rw [if_neg (by decide)]
            refine stl_cons (st_if (evt_cmp (ev_name (look_ne rfl (look_ne rfl l2)) (ev_name (look_ne rfl (look_ne rfl l3)) (cmp_nei ⟨_, rfl, ?_⟩)))))
            by_cases he : (stF x i).1 = op
            · rw [if_neg (by simp [he])]
              rw [if_pos he] at hs
              refine stl_nil ?_
              refine stl_cons (st_assign (putsO rfl rfl) (ev_bin (ev_name (look_ne rfl look_eq) (ev_int (op_add ?_)))))
              refine stl_cons (st_assign (putsO rfl rfl) (ev_none ?_))
              refine stl_nil (stl_nil (stl_nil ⟨rfl, by rw [hs], look_ne rfl (look_ne rfl (look_ne rfl (look_ne rfl l1))), ?_, by rw [hs]; exact look_eq⟩))
              rw [hs]
              exact look_ne rfl look_eq
            · rw [if_pos (by simp; omega)]
              rw [if_neg he] at hs
              refine stl_cons (st_append rfl (by simp; omega) (ev_slice (ev_name (look_ne rfl (look_ne rfl l1)) (ev_name (look_ne rfl (look_ne rfl l2)) ⟨_, rfl, ev_name (look_ne rfl (look_ne rfl l3)) ⟨_, rfl, .str (by omega) ?_⟩⟩))))
              refine stl_nil ?_
              rw [slice_mid, show strL (stF x i).2.2 ++ [PV.str ((x.drop (stF x i).1).take (op - (stF x i).1))] = strL ((stF x i).2.2 ++ [(x.drop (stF x i).1).take (op - (stF x i).1)]) by simp]
              refine stl_cons (st_assign (putsO rfl rfl) (ev_bin (ev_name (look_ne rfl look_eq) (ev_int (op_add ?_)))))
              refine stl_cons (st_assign (putsO rfl rfl) (ev_none ?_))
              refine stl_nil (stl_nil (stl_nil ⟨rfl, by rw [hs], look_ne rfl (look_ne rfl (look_ne rfl (look_ne rfl l1))), ?_, by rw [hs]; exact look_eq⟩))
              rw [hs]
              exact look_ne rfl look_eq
        · rw [if_neg (by simpa using hc)]
          have hs' : stF x (i + 1) = stF x i := by rw [hs]; unfold stripStep; rw [if_neg hc]
          exact stl_nil (stl_nil ⟨rfl, by rw [hs'], look_ne rfl (look_ne rfl l1), by rw [hs']; exact look_ne rfl (look_ne rfl l2), by rw [hs']; exact look_ne rfl (look_ne rfl l3)⟩)
      · obtain ⟨_, rfl, l1, l2, l3⟩ := hJ
        rw [escL_length] at l2 ⊢
        have hbd := stF_bd x (escG 0 false x).length
        have hel := escG_len x 0 false
        refine stl_cons (st_if (evt_cmp (ev_name l2 (ev_bcall rfl hl rfl (evl_cons (ev_name l1 (evl_nil (bi_len_str (by omega) (cmp_lti ⟨_, rfl, ?_⟩)))))))))
        have bnd : ∀ l', l' = (if (stF x (escG 0 false x).length).1 < x.length then (stF x (escG 0 false x).length).2.2 ++ [x.drop (stF x (escG 0 false x).length).1] else (stF x (escG 0 false x).length).2.2) → (l'.map List.length).sum + l'.length ≤ 1000000 := fun l' hl' => by
          have h1 : l'.length ≤ 902 := by rw [hl']; split <;> (try simp) <;> omega
          have h2 : ∀ y ∈ l', y.length ≤ 900 := fun y hy => by
            rw [hl'] at hy
            split at hy
            · rcases List.mem_append.mp hy with hy | hy
              · have := hbd.2 y hy; omega
              · rw [List.mem_singleton.mp hy]; simp; omega
            · have := hbd.2 y hy; omega
          have h3 := sum_le l' 900 h2
          have h4 : l'.length * 900 ≤ 902 * 900 := Nat.mul_le_mul_right _ h1
          omega
        rw [hst] at h; unfold stripEnd at h
        by_cases hlt : (stF x (escG 0 false x).length).1 < x.length
        · rw [if_pos (by simpa using hlt)]
          refine stl_cons (st_append rfl (by simp; omega) (ev_slice (ev_name l1 (ev_name l2 ⟨_, rfl, .str (by omega) ?_⟩))))
          refine stl_nil ?_
          rw [slice_from, show strL (stF x (escG 0 false x).length).2.2 ++ [PV.str (x.drop (stF x (escG 0 false x).length).1)] = strL ((stF x (escG 0 false x).length).2.2 ++ [x.drop (stF x (escG 0 false x).length).1]) by simp]
          refine stl_freeze (stl_cons (st_return (ev_meth1 F.slot_str_join F.type_str_join (ev_str ⟨_, rfl, ev_name look_eq (sm_join (by decide) (bnd _ ?_) ⟨_, rfl, ?_⟩)⟩))))
          · rw [if_pos hlt]
          · rw [if_pos hlt] at h; exact h
        · rw [if_neg (by simpa using hlt)]
          refine stl_nil ?_
          refine stl_freeze (stl_cons (st_return (ev_meth1 F.slot_str_join F.type_str_join (ev_str ⟨_, rfl, ev_name look_eq (sm_join (by decide) (bnd _ ?_) ⟨_, rfl, ?_⟩)⟩))))
          · rw [if_neg hlt]
          · rw [if_neg hlt] at h; exact h
    · rw [if_pos (by simpa using hq)]
      refine stl_cons (st_return (ev_name rfl ⟨_, rfl, ?_⟩))
      have : strip x = x := by unfold strip; rw [if_neg hq]
      rw [this] at h; exact h
end Mine
end

section
open PySem PySem.W PyProof.Rows
set_option maxRecDepth 100000
set_option linter.unusedVariables false
namespace Mine
abbrev JCheck (x : List Nat) (items : List PV) (i : Nat) (σ : Sto) (ow : Own) : Prop := items = escL (strip x) ∧ ow = none ∧ ∃ o : Int, σ.lookup (Str.ofString "opens") = some (.int o) ∧ chkG o ((escG 0 false (strip x)).drop i) = chk x
set_option maxHeartbeats 4000000 in
theorem con_check {B : Base} (D : DI B 2) (D1 : DI B 1) (hI : ∀ x : List Nat, FnG B (Str.ofString "_iter_escaped_chars") [.str x] (escL x))
    (hS : ∀ (x : List Nat), x.length ≤ 900 → ∀ P : PV → Prop, P (.str (strip x)) → Fn B 6 true (Str.ofString "_strip_quoted_realnames") [.str x] P) {x : List Nat} (hx : x.length ≤ 900) {P : PV → Prop} (h : P (.bool (chk x))) : Fn B 8 true (Str.ofString "_check_parenthesis") [.str x] P := by
  refine fn_def (n := 7) (names := [Str.ofString "addr"]) D (by simp) rfl (fun pm code doc vs hv => ?_) (by decide) rfl rfl rfl (nofree rfl) fun V => ?_
  · obtain ⟨v, rfl⟩ := len1 hv; rfl
  · conv => arg 8; whnf
    refine stl_cons (st_assign (putsL rfl) (ev_call (k := 6) rfl (by decide) (evl_cons (ev_name rfl (evl_nil (hS x hx _ ?_)))) (hg := D1.known)))
    refine stl_cons (st_assign (putsL rfl) (ev_int ?_))
    refine stl_cons (st_forG (by decide) (JCheck x)
        (it_gcall (x := []) rfl (by decide) hI (ev_name rfl ⟨strip x, rfl, ⟨rfl, rfl, 0, rfl, rfl⟩, fun i σ' ow' hJ => ?_, fun i p σ' ow' hp hJ => ?_, fun σ' ow' hJ => ?_⟩)))
    · rw [hJ.2.1]; exact SameO.none
    · obtain ⟨_, rfl, o, l1, hc⟩ := hJ
      obtain ⟨q, hq1, rfl⟩ := escL_get hp
      rw [chkG_drop _ i q hq1] at hc
      refine as_tup2 (putsL rfl) (putsL rfl) ?_
      refine stl_cons (st_if (evt_cmp (ev_name look_eq (ev_str (cmp_eqs ⟨_, rfl, ?_⟩)))))
      rw [show (Str.ofString "(").cps.toList = [40] from rfl]
      by_cases h40 : q.2 = [40]
      · rw [if_pos (by simpa using h40)]
        rw [if_pos h40] at hc
        refine stl_cons (st_aug (putsL rfl) (look_ne rfl (look_ne rfl l1)) (ev_int (op_iadd ?_)))
        exact stl_nil (stl_nil ⟨rfl, rfl, o + 1, look_eq, hc⟩)
      · rw [if_neg (by simpa using h40)]
        rw [if_neg h40] at hc
        refine stl_cons (st_if (evt_cmp (ev_name look_eq (ev_str (cmp_eqs ⟨_, rfl, ?_⟩)))))
        rw [show (Str.ofString ")").cps.toList = [41] from rfl]
        by_cases h41 : q.2 = [41]
        · rw [if_pos (by simpa using h41)]
          rw [if_pos h41] at hc
          refine stl_cons (st_aug (putsL rfl) (look_ne rfl (look_ne rfl l1)) (ev_int (op_isub ?_)))
          refine stl_cons (st_if (evt_cmp (ev_name look_eq (ev_int (cmp_lti ⟨_, rfl, ?_⟩)))))
          by_cases hneg : o - 1 < 0
          · rw [if_pos (by simpa using hneg)]
            rw [if_pos hneg] at hc
            exact stl_cons (st_return (ev_bool ⟨_, rfl, hc ▸ h⟩))
          · rw [if_neg (by simpa using hneg)]
            rw [if_neg hneg] at hc
            exact stl_nil (stl_nil (stl_nil (stl_nil ⟨rfl, rfl, o - 1, look_eq, hc⟩)))
        · rw [if_neg (by simpa using h41)]
          rw [if_neg h41] at hc
          exact stl_nil (stl_nil (stl_nil ⟨rfl, rfl, o, look_ne rfl (look_ne rfl l1), hc⟩))
    · obtain ⟨_, rfl, o, l1, hc⟩ := hJ
      rw [escL_length, List.drop_length] at hc
      refine stl_cons (st_return (ev_cmp (ev_name l1 (ev_int (cmp_eqi ⟨_, rfl, ?_⟩)))))
      exact (show (o == 0) = chk x from hc) ▸ h
end Mine
end

section
open PySem PySem.W PyProof.Rows
set_option maxRecDepth 100000
set_option linter.unusedVariables false
namespace Mine
theorem fmod8 (x : Int) : 0 ≤ x.fmod 8 ∧ x.fmod 8 < 8 := ⟨Int.fmod_nonneg_of_pos x (by decide), Int.fmod_lt_of_pos x (by decide)⟩
theorem sign_at (k r : Nat) (h : r < 8) : ([.str [34], .str [34], .str [92], .str [92], .str [40], .str [41], .str [97 + k], .str [97 + k]] : List PV)[r]? = some (.str [signC k r]) :=
  match r, h with
  | 0, _ => rfl
  | 1, _ => rfl
  | 2, _ => rfl
  | 3, _ => rfl
  | 4, _ => rfl
  | 5, _ => rfl
  | 6, _ => rfl
  | 7, _ => rfl
set_option maxHeartbeats 4000000 in
theorem con_sign {B : Base} (D : DI B 4) (hc : Blt B (Str.ofString "chr") (.builtin "chr")) {k : Nat} (hk : k ≤ 100) {x : Int} {P : PV → Prop} (h : P (.str (signL k x))) : Fn B 2 true (Str.ofString "_law_sign") [.int k, .int x] P := by
  refine fn_def (n := 1) (names := [Str.ofString "k", Str.ofString "x"]) D (by decide) rfl (fun pm code doc vs hv => ?_) (by decide) rfl rfl rfl (nofree rfl) fun V => ?_
  · obtain ⟨v, w, rfl⟩ := len2 hv; rfl
  · conv => arg 8; whnf
    have hch : ∀ {Q : PV → Prop}, Q (.str [97 + k]) → OpN B 1 true (fun vs => call (.builtin "chr") vs) [.int (97 + (k : Int))] Q := fun hQ => bi_chr (by omega) (by omega) (by rw [show (97 + (k : Int)).toNat = 97 + k by omega]; exact hQ)
    refine stl_cons (st_return (ev_sub (ev_tuple (evl_cons (ev_str ?_)))))
    refine evl_cons (ev_str ?_)
    refine evl_cons (ev_str ?_)
    refine evl_cons (ev_str ?_)
    refine evl_cons (ev_str ?_)
    refine evl_cons (ev_str ?_)
    refine evl_cons (ev_bcall rfl hc rfl (evl_cons (ev_bin (ev_int (ev_name rfl (op_add (evl_nil (hch ?_))))))))
    refine evl_cons (ev_bcall rfl hc rfl (evl_cons (ev_bin (ev_int (ev_name rfl (op_add (evl_nil (hch ?_))))))))
    refine evl_nil ⟨by simp, ev_bin (ev_name rfl (ev_int (op_mod (by decide) ?_)))⟩
    obtain ⟨h1, h2⟩ := fmod8 x
    obtain ⟨r, hr⟩ := Int.eq_ofNat_of_zero_le h1
    have hr8 : r < 8 := by omega
    unfold signL at h
    rw [hr] at h ⊢
    rw [show ((r : Int)).toNat = r from rfl] at h
    refine sub_tup (p := .str [signC k r]) (by omega) (by omega) ?_ ⟨_, rfl, h⟩
    rw [pyIdx_nat]
    exact sign_at k r hr8
abbrev JQuoted (x ways : List Nat) (items : List PV) (i : Nat) (σ : Sto) (ow : Own) : Prop := items = ways.map (fun c => .str [c]) ∧ ow = none ∧ σ.lookup (Str.ofString "text") = some (.str (quoted x (ways.take i)))
set_option maxHeartbeats 4000000 in
theorem con_quoted {B : Base} (D : DI B 5) {x ways : List Nat} (hx : x.length ≤ 200) (hw : ways.length ≤ 3) {P : PV → Prop} (h : P (.str (quoted x ways))) : Fn B 2 true (Str.ofString "_law_quoted") [.str x, .str ways] P := by
  refine fn_def (n := 1) (names := [Str.ofString "text", Str.ofString "ways"]) D (by decide) rfl (fun pm code doc vs hv => ?_) (by decide) rfl rfl rfl (nofree rfl) fun V => ?_
  · obtain ⟨v, w, rfl⟩ := len2 hv; rfl
  · conv => arg 8; whnf
    refine stl_cons (st_for (JQuoted x ways) (it_val (ev_name rfl ⟨_, rfl, ⟨rfl, rfl, rfl⟩, fun i σ' ow' hJ => ?_, fun i p σ' ow' hp hJ => ?_, fun σ' ow' hJ => ?_⟩)))
    · rw [hJ.2.1]; exact SameO.none
    · obtain ⟨_, rfl, l1⟩ := hJ
      rw [List.getElem?_map] at hp
      obtain ⟨c, hc, rfl⟩ := Option.map_eq_some_iff.mp hp
      have hs := quoted_take x ways i c hc
      have hlen : (quoted x (ways.take i)).length ≤ 1600 := by
        have h1 := quoted_len x (ways.take i)
        have h2 : 2 ^ (ways.take i).length ≤ 2 ^ 3 := Nat.pow_le_pow_right (by decide) (by simp; omega)
        have h3 : x.length * 2 ^ (ways.take i).length ≤ 200 * 2 ^ 3 := Nat.mul_le_mul hx h2
        omega
      have hb1 := qm_len (quoted x (ways.take i))
      refine as_name (putsL rfl) ?_
      refine stl_cons (st_if (evt_cmp (ev_name look_eq (ev_str (cmp_eqs ⟨_, rfl, ?_⟩)))))
      rw [show (Str.ofString "m").cps.toList = [109] from rfl]
      by_cases hm : c = 109
      · subst hm
        rw [if_pos (by decide)]
        refine stl_cons (st_assign (putsL rfl) (ev_replace (by decide) (ev_replace (by decide) (ev_name (look_ne rfl l1) ⟨_, rfl, evs_const ⟨by decide, ?_, ⟨_, rfl, evs_const ⟨by decide, ?_, ?_⟩⟩⟩⟩))))
        · show _ + (_ + 1) * 2 ≤ _; omega
        · show (replG [92] [92, 92] 0 (quoted x (ways.take i))).length + ((replG [92] [92, 92] 0 (quoted x (ways.take i))).length + 1) * 2 ≤ _
          have : (replG [92] [92, 92] 0 (quoted x (ways.take i))).length ≤ 2 * (quoted x (ways.take i)).length := by
            rw [replG_one]
            generalize quoted x (ways.take i) = z
            induction z with
            | nil => simp
            | cons a r ih =>
              have : (if a = 92 then [92, 92] else [a]).length ≤ 2 := by split <;> simp
              simp only [List.flatMap_cons, List.length_append, List.length_cons]; omega
          omega
        · rw [show (Str.ofString "\\\\").cps.toList = [92, 92] from rfl, show (Str.ofString "\\").cps.toList = [92] from rfl, show (Str.ofString "\"").cps.toList = [34] from rfl, show (Str.ofString "\\\"").cps.toList = [92, 34] from rfl, qm_eq]
          refine stl_nil (stl_nil ⟨rfl, rfl, ?_⟩)
          rw [hs]; exact look_eq
      · rw [if_neg (by simpa using hm)]
        refine stl_cons (st_assign (putsL rfl) (ev_replace (by decide) (ev_name (look_ne rfl l1) ⟨_, rfl, evs_const ⟨by decide, ?_, ?_⟩⟩)))
        · show _ + (_ + 1) * 2 ≤ _; omega
        · rw [show (Str.ofString "\"\"").cps.toList = [34, 34] from rfl, show (Str.ofString "\"").cps.toList = [34] from rfl, qf_eq]
          refine stl_nil (stl_nil ⟨rfl, rfl, ?_⟩)
          rw [hs]; unfold q1; rw [if_neg hm]; exact look_eq
    · obtain ⟨_, rfl, l1⟩ := hJ
      rw [List.length_map, List.take_length] at l1
      exact stl_cons (st_return (ev_name l1 ⟨_, rfl, h⟩))
set_option maxHeartbeats 4000000 in
theorem con_row {B : Base} (D : DI B 8) (hl : Blt B (Str.ofString "len") (.builtin "len")) {x : List Nat} (hx : x.length ≤ 100000) {k : Nat} {P : PV → Prop} (h : P (.int (trail 92 (x.take k) : Nat))) : Fn B 2 true (Str.ofString "_law_row") [.str x, .int k] P := by
  refine fn_def (n := 1) (names := [Str.ofString "text", Str.ofString "k"]) D (by decide) rfl (fun pm code doc vs hv => ?_) (by decide) rfl rfl rfl (nofree rfl) fun V => ?_
  · obtain ⟨v, w, rfl⟩ := len2 hv; rfl
  · conv => arg 8; whnf
    have hl1 : (x.take k).length ≤ 100000 := by simp; omega
    refine stl_cons (st_return (ev_bin (ev_bcall rfl hl rfl (evl_cons (ev_slice (ev_name rfl (ev_name rfl ⟨_, rfl, .str (by omega) ?_⟩)))))))
    rw [slice_to]
    refine evl_nil (bi_len_str (by omega) (ev_bcall rfl hl rfl (evl_cons (ev_meth1 F.slot_str_rstrip F.type_str_rstrip (ev_slice (ev_name rfl (ev_name rfl ⟨_, rfl, .str (by omega) ?_⟩)))))))
    rw [slice_to]
    refine ⟨_, rfl, ev_str (sm_rstrip (c := 92) (by omega) (evl_nil (bi_len_str ?_ (op_sub ⟨_, rfl, ?_⟩))))⟩
    · simp; omega
    · have := trail_le 92 (x.take k)
      rw [show (((x.take k).length : Int) - (((x.take k).take ((x.take k).length - trail 92 (x.take k))).length : Int)) = ((trail 92 (x.take k) : Nat) : Int) by rw [List.length_take (i := (x.take k).length - trail 92 (x.take k))]; omega]
      exact h
abbrev JClosed (x : List Nat) (k : Nat) (σ : Sto) (ow : Own) : Prop := ow = none ∧ ∃ b : List Nat, b.length = k ∧ k ≤ 100000 ∧ σ.lookup (Str.ofString "brackets") = some (.str b) ∧ closed b = closed x
set_option maxHeartbeats 4000000 in
theorem con_closed {B : Base} (D : DI B 11) {x : List Nat} (hx : x.length ≤ 100000) {P : PV → Prop} (h : P (.bool (closed x))) : Fn B 2 true (Str.ofString "_law_closed") [.str x] P := by
  refine fn_def (n := 1) (names := [Str.ofString "brackets"]) D (by decide) rfl (fun pm code doc vs hv => ?_) (by decide) rfl rfl rfl (nofree rfl) fun V => ?_
  · obtain ⟨v, rfl⟩ := len1 hv; rfl
  · conv => arg 8; whnf
    refine stl_cons (st_while (JClosed x) x.length ⟨rfl, x, rfl, hx, rfl, rfl⟩ (fun k σ' ow' ⟨e, _⟩ => e ▸ SameO.none) (fun k σ' ow' hJ => ?_))
    obtain ⟨rfl, c, rfl, hk, l1, hcl⟩ := hJ
    refine evt_cmp (ev_str (ev_name l1 (cmp_ins (by decide) ⟨_, rfl, ?_⟩)))
    rw [show (Str.ofString "()").cps.toList = [40, 41] from rfl]
    cases hh : hasG [40, 41] c with
    | true =>
      rw [if_pos rfl]
      refine stl_cons (st_assign (putsL rfl) (ev_replace (by decide) (ev_name l1 ⟨_, rfl, evs_const ⟨by decide, ?_, ?_⟩⟩)))
      · show _ + (_ + 1) * 0 ≤ _; omega
      · have := out2_lt c hh
        exact stl_nil ⟨(out2 c).length, this, rfl, out2 c, rfl, by omega, look_eq, by rw [← closed_step c hh, hcl]⟩
    | false =>
      rw [if_neg (by decide)]
      refine stl_cons (st_return (ev_cmp (ev_name l1 (ev_str (cmp_eqs ⟨_, rfl, ?_⟩)))))
      rw [show (Str.ofString "").cps.toList = [] from rfl, ← closed_end c hh, hcl]; exact h
end Mine
end

section
open PySem PySem.W PyProof.Rows
set_option maxRecDepth 100000
set_option linter.unusedVariables false
namespace Mine
set_option maxHeartbeats 4000000 in
theorem con_offf {B : Base} (D : DI B 6) (D3 : DI B 3) (hP : ∀ (x : List Nat), x.length ≤ 100000 → x.take 3 = [50, 53, 55] → ∀ P : PV → Prop, P (.str (prs x)) → Fn B 4 true (Str.ofString "parse257") [.str x] P) {x y : List Nat} (hy : y.length ≤ 1000)
    (heq : prs ([50, 53, 55, 32, 34] ++ y ++ [34]) = x) {P : PV → Prop} (h : P (.bool true)) : Fn B 6 true (Str.ofString "_law_off") [.str x, .str y, .str [102]] P := by
  refine fn_def (n := 5) (names := [Str.ofString "inner", Str.ofString "outer", Str.ofString "way"]) D (by decide) rfl (fun pm code doc vs hv => ?_) (by decide) rfl rfl rfl (nofree rfl) fun V => ?_
  · obtain ⟨v, w, u, rfl⟩ := len3 hv; rfl
  · conv => arg 8; whnf
    refine stl_cons (st_if (evt_cmp (ev_name rfl (ev_str (cmp_eqs ⟨_, rfl, ?_⟩)))))
    rw [show (Str.ofString "f").cps.toList = [102] from rfl, if_pos (by decide)]
    refine stl_cons (st_return (ev_cmp (ev_call (k := 4) rfl (by decide) (evl_cons (ev_bin (ev_bin (ev_str (ev_name rfl (op_adds ?_ (ev_str (op_adds ?_ (evl_nil ?_))))))))) (hg := D3.known))))
    · show 5 + y.length ≤ _; omega
    · show (([50, 53, 55, 32, 34] : List Nat) ++ y).length + 1 ≤ _; simp; omega
    · refine hP _ ?_ ?_ _ (ev_name rfl (cmp_eqs ⟨_, rfl, ?_⟩))
      · show (([50, 53, 55, 32, 34] : List Nat) ++ y ++ [34]).length ≤ _; simp; omega
      · rfl
      · show P (.bool (prs ([50, 53, 55, 32, 34] ++ y ++ [34]) == x))
        rw [heq]; simpa using h
abbrev JOffm (x y : List Nat) (a : Addr) (items : List PV) (i : Nat) (σ : Sto) (ow : Own) : Prop := items = x.map (fun c => .str [c]) ∧ ow = some (Str.ofString "pairs", a, (pairF x i).2) ∧ σ.lookup (Str.ofString "place") = some (.int (pairF x i).1) ∧ σ.lookup (Str.ofString "outer") = some (.str y)
set_option maxHeartbeats 4000000 in
theorem con_offm {B : Base} (D : DI B 6) (hlen : Blt B (Str.ofString "len") (.builtin "len")) (hlist : Blt B (Str.ofString "list") (.type "list")) (hI : ∀ x : List Nat, FnG B (Str.ofString "_iter_escaped_chars") [.str x] (escL x)) {x y : List Nat} (hx : x.length ≤ 1000) (hy : y.length ≤ 10000)
    (heq : escL y = pairsL x) {P : PV → Prop} (h : P (.bool true)) : Fn B 6 true (Str.ofString "_law_off") [.str x, .str y, .str [109]] P := by
  refine fn_def (n := 5) (names := [Str.ofString "inner", Str.ofString "outer", Str.ofString "way"]) D (by decide) rfl (fun pm code doc vs hv => ?_) (by decide) rfl rfl rfl (nofree rfl) fun V => ?_
  · obtain ⟨v, w, u, rfl⟩ := len3 hv; rfl
  · conv => arg 8; whnf
    refine stl_cons (st_if (evt_cmp (ev_name rfl (ev_str (cmp_eqs ⟨_, rfl, ?_⟩)))))
    rw [show (Str.ofString "f").cps.toList = [102] from rfl, if_neg (by decide)]
    refine stl_nil (stl_cons (st_own2 rfl rfl rfl rfl (ev_neg (ev_int ⟨1, rfl, fun a => ?_⟩)) (hw := fun env hE => swapped2 hE rfl rfl rfl rfl rfl rfl rfl)))
    refine stl_cons (st_for (JOffm x y a) (it_val (ev_name rfl ⟨_, rfl, ⟨rfl, rfl, rfl, rfl⟩, fun i σ' ow' hJ => ?_, fun i p σ' ow' hp hJ => ?_, fun σ' ow' hJ => ?_⟩)))
    · rw [hJ.2.1]; exact SameO.some
    · obtain ⟨_, rfl, l1, l2⟩ := hJ
      rw [List.getElem?_map] at hp
      obtain ⟨c, hc, rfl⟩ := Option.map_eq_some_iff.mp hp
      have hs := pairF_succ x i c hc
      have hbd := pairF_len x i
      have hi : i < x.length := by rcases List.getElem?_eq_some_iff.mp hc with ⟨h, _⟩; exact h
      refine as_name (putsO rfl rfl) ?_
      have hu : (unit1 c).length ≤ 2 := by unfold unit1; split <;> simp
      refine stl_cons (st_assign (putsO rfl rfl) (ev_weaken (P := fun p => p = .str (unit1 c)) (ev_ifexp (evt_cmp (ev_name look_eq (ev_str (cmp_ins (Nat.succ_pos _) ⟨_, rfl, ?_⟩))))) ?_))
      · rw [show (Str.ofString "\"\\").cps.toList = [34, 92] from rfl, mem_two]
        by_cases hh : c = 34 ∨ c = 92
        · rw [if_pos (by simpa using hh)]
          refine ev_bin (ev_str (ev_name look_eq (op_adds (by show 1 + 1 ≤ 16777216; decide) ?_)))
          show PV.str ([92] ++ [c]) = _
          unfold unit1; rw [if_pos hh]; rfl
        · rw [if_neg (by simpa using hh)]
          refine ev_name look_eq ?_
          unfold unit1; rw [if_neg hh]
      · rintro _ rfl
        refine stl_cons (st_aug (putsO rfl rfl) (look_ne rfl (look_ne rfl l1)) (ev_bcall rfl hlen rfl (evl_cons (ev_name look_eq (evl_nil (bi_len_str (by omega) (op_iadd ?_)))))))
        refine stl_cons (st_append rfl (by omega) (ev_tuple (evl_cons (ev_name look_eq (evl_cons (ev_name (look_ne rfl look_eq) (evl_nil ⟨by simp, ?_⟩)))))))
        exact stl_nil ⟨rfl, by rw [hs]; rfl, by rw [hs]; exact look_eq, look_ne rfl (look_ne rfl (look_ne rfl l2))⟩
    · obtain ⟨_, rfl, l1, l2⟩ := hJ
      rw [List.length_map, pairF_all]
      refine stl_freeze (stl_cons (st_return (ev_cmp (ev_listgen (by decide) rfl hlist (it_gcall (x := []) rfl (by decide) hI (ev_name (look_ne rfl l2) ⟨y, rfl, flatTup_esc y, escL_le y (by omega), ev_name look_eq ?_⟩))))))
      rw [← heq]
      exact cmp_eql (flat_esc y) ⟨_, rfl, h⟩
end Mine
end

section
open PySem PySem.W PyProof.Rows
set_option maxRecDepth 100000
set_option linter.unusedVariables false
namespace Mine
theorem par_fmod (a : Nat) : ((a : Int)).fmod 2 = ((a % 2 : Nat) : Int) := by rw [Int.fmod_eq_emod_of_nonneg _ (by decide)]; rfl
set_option maxHeartbeats 4000000 in
theorem con_units {B : Base} (D : DI B 9) (D8 : DI B 8) (hlen : Blt B (Str.ofString "len") (.builtin "len")) (hrange : Blt B (Str.ofString "range") (.type "range")) (hlist : Blt B (Str.ofString "list") (.type "list")) (hI : ∀ x : List Nat, FnG B (Str.ofString "_iter_escaped_chars") [.str x] (escL x))
    (hRow : ∀ (x : List Nat), x.length ≤ 100000 → ∀ k : Nat, ∀ P : PV → Prop, P (.int (trail 92 (x.take k) : Nat)) → Fn B 2 true (Str.ofString "_law_row") [.str x, .int k] P) {x : List Nat} (hx : x.length ≤ 1000)
    (heq : escL (x ++ [92]) = unitsL x ++ [.tup [.int x.length, .str [92]]]) {P : PV → Prop} (h : P (.bool true)) : Fn B 6 true (Str.ofString "_law_units") [.str x] P := by
  refine fn_def (n := 5) (names := [Str.ofString "text"]) D (by decide) rfl (fun pm code doc vs hv => ?_) (by decide) rfl rfl rfl (nofree rfl) fun V => ?_
  · obtain ⟨v, rfl⟩ := len1 hv; rfl
  · conv => arg 8; whnf
    refine stl_cons (st_compL rfl (fun _ _ _ e => nomatch e) rfl rfl (compOk_of (σ' := [(Str.ofString "text", .str x)]) (cap1 rfl rfl rfl) rfl rfl) (it_range1 rfl hrange (ev_bcall rfl hlen rfl (evl_cons (ev_name rfl (evl_nil (bi_len_str (by omega) ⟨_, rfl, by omega, by omega, ?_⟩))))) ))
    rw [Int.toNat_natCast]
    refine ⟨by simp [rangeL]; omega, (List.range x.length).map (fun k => if keptB x k = true then some (.int ((0 : Int) + (k : Int))) else none), by simp [rangeL], ?_, ?_⟩
    · refine map_turns fun k hk => ?_
      have hk' : k < x.length := List.mem_range.mp hk
      have hxk : x[k]? = some x[k] := by simp [hk']
      refine ⟨_, rfl, loc1 rfl, evt_or2 (evt_cmp (ev_sub (ev_name rfl (ev_name rfl (sub_str (c := x[k]) (by omega) (by omega) (by rw [Int.zero_add, pyIdx_nat]; exact hxk) (ev_str (cmp_nes ⟨_, rfl, ?_⟩)))))))⟩
      rw [show (Str.ofString "\\").cps.toList = [92] from rfl]
      by_cases h92 : x[k] = 92
      · rw [h92, if_neg (by decide)]
        refine evt_cmp (ev_bin (ev_call (k := 2) rfl (by decide) (evl_cons (ev_name rfl (evl_cons (ev_name rfl (evl_nil ?_))))) (hg := D8.known)))
        rw [Int.zero_add]
        refine hRow x (by omega) k _ (ev_int (op_mod (by decide) (ev_int (cmp_eqi ⟨_, rfl, ?_⟩))))
        rw [par_fmod]
        have hkb : keptB x k = (trail 92 (x.take k) % 2 == 1) := by unfold keptB; rw [hxk, h92]; simp
        by_cases hp : trail 92 (x.take k) % 2 = 1
        · rw [hp, if_pos (by decide), hkb, hp]
          exact ev_name rfl rfl
        · have : trail 92 (x.take k) % 2 = 0 := by omega
          rw [this, if_neg (by decide), hkb, this]; rfl
      · rw [if_pos (by simpa using h92)]
        rw [if_pos rfl]
        have hkb : keptB x k = true := by unfold keptB; rw [hxk]; simp [h92]
        rw [hkb]
        exact ev_name rfl rfl
    · rw [filt_map]
      refine stl_cons (st_compL rfl (fun _ _ _ e => nomatch e) rfl rfl (compOk_of (σ' := [(Str.ofString "text", .str x)]) (cap1 rfl rfl rfl) rfl rfl) (it_val (ev_name look_eq ⟨_, rfl, ?_⟩)))
      refine ⟨by have := List.length_filter_le (keptB x) (List.range x.length); simp at this ⊢; omega, ((List.range x.length).filter (keptB x)).map (fun k => some (unitAt x k)), by simp, ?_, ?_⟩
      · refine map_turns fun k hk => ?_
        have hk' : k < x.length := List.mem_range.mp (List.mem_filter.mp hk).1
        have hxk : x[k]? = some x[k] := by simp [hk']
        refine compEl0 rfl (loc1 rfl) ?_
        refine ev_tuple (evl_cons (ev_name rfl (evl_cons (ev_bin (ev_bin (ev_str (ev_bin (ev_call (k := 2) rfl (by decide) (evl_cons (ev_name rfl (evl_cons (ev_name rfl (evl_nil ?_))))) (hg := D8.known)))))))))
        rw [Int.zero_add]
        refine hRow x (by omega) k _ (ev_int (op_mod (by decide) ?_))
        rw [par_fmod]
        refine op_muls (c := 92) (by omega) (by omega) (ev_sub (ev_name rfl (ev_name rfl (sub_str (c := x[k]) (by omega) (by omega) (by rw [pyIdx_nat]; exact hxk) (op_adds ?_ (evl_nil ⟨by simp, ?_⟩))))))
        · simp; omega
        · unfold unitAt; rw [hxk, Int.toNat_natCast]; rfl
      · rw [some_map]
        refine stl_cons (st_return (ev_cmp (ev_listgen (by decide) rfl hlist (it_gcall (x := []) rfl (by decide) hI (ev_bin (ev_name rfl (ev_str (op_adds ?_ ⟨x ++ [92], rfl, flatTup_esc _, escL_le _ (by simp; omega), ev_bin (ev_name look_eq (ev_list (evl_cons (ev_tuple (evl_cons (ev_bcall rfl hlen rfl (evl_cons (ev_name rfl (evl_nil (bi_len_str (by omega) (evl_cons (ev_str (evl_nil ⟨by simp, evl_nil ⟨by simp, op_addl ?_ ?_⟩⟩)))))))))))))⟩))))))))
        · show x.length + 1 ≤ _; omega
        · simp; have := List.length_filter_le (keptB x) (List.range x.length); simp at this; omega
        · have e : ((List.range x.length).filter (keptB x)).map (unitAt x) ++ [PV.tup [PV.int x.length, PV.str (Str.ofString "\\").cps.toList]] = escL (x ++ [92]) := by rw [heq]; rfl
          rw [e]
          exact cmp_eql (flat_esc _) ⟨_, rfl, h⟩
end Mine
end

section
open PySem PySem.W PyProof.Rows
set_option maxRecDepth 100000
set_option linter.unusedVariables false
namespace Mine
set_option maxHeartbeats 4000000 in
theorem con_refused {B : Base} {C : Addr} (D : DI B 7) (D3 : DI B 3) (X : ExcCls B (Str.ofString "error_reply") C) (hstr : Blt B (Str.ofString "str") (.type "str")) (hlen : Blt B (Str.ofString "len") (.builtin "len")) {x : List Nat} (hx : x.length ≤ 10000) (h7 : x.head? ≠ some 55) : RefFn B (Str.ofString "_law_refused") x := by
  have RF : RFn B (Str.ofString "parse257") C ([50, 53] ++ x) := by
    refine fn_raise (p := Str.ofString "resp") D3 X (fun _ _ _ _ => rfl) rfl rfl rfl rfl (nocellL rfl) (nocellX rfl) rfl rfl rfl (evt_cmp (ev_slice (ev_name rfl (ev_int ⟨3, rfl, .str (by simp; omega) (ev_str (cmp_nes ⟨_, rfl, ?_⟩))⟩))))
    rw [show pySlice ([50, 53] ++ x) none (some (3 : Int)) = ([50, 53] ++ x).take 3 from slice_to _ 3, show (Str.ofString "257").cps.toList = [50, 53, 55] from rfl]
    cases x with
    | nil => rfl
    | cons a r =>
      have : a ≠ 55 := fun e => h7 (by rw [e]; rfl)
      simp [this]
  refine fn_refused (tx := Str.ofString "text") (rn := Str.ofString "refusal") (y := [50, 53] ++ x) rfl D X RF hstr (fun _ _ _ _ => rfl) rfl rfl rfl rfl rfl rfl (nocellL rfl) (nocellX rfl) rfl rfl rfl rfl rfl rfl ?_ ?_ ?_
  · exact ev_bin (ev_str (ev_name rfl (op_adds (by show 2 + x.length ≤ _; omega) rfl)))
  · exact ev_bin (ev_str (ev_name rfl (op_adds (by show 2 + x.length ≤ _; omega) rfl)))
  · refine ev_cmp (ev_bin (ev_call (k := 4) rfl (by decide) (evl_cons (ev_bin (ev_str (ev_name rfl (op_adds (by show 5 + x.length ≤ _; omega) (evl_nil ?_)))))) (hg := D3.known)))
    refine con_parse (b := false) D3 hlen (x := [50, 53, 55, 121, 34] ++ x) (by simp; omega) rfl (ev_call (k := 4) rfl (by decide) (evl_cons (ev_bin (ev_str (ev_name rfl (op_adds (by show 5 + x.length ≤ _; omega) (evl_nil ?_)))))) (hg := D3.known))
    refine con_parse (b := false) D3 hlen (x := [50, 53, 55, 32, 121] ++ x) (by simp; omega) rfl ?_
    rw [show prs ([50, 53, 55, 121, 34] ++ x) = [] from rfl, show prs ([50, 53, 55, 32, 121] ++ x) = [] from rfl]
    exact op_adds (by simp) (ev_str (cmp_eqs rfl))
end Mine
end

section
open PySem PySem.W PyProof.Rows
set_option maxRecDepth 100000
set_option linter.unusedVariables false
namespace Mine
abbrev JInside (x : List Nat) (lets : List (List Nat)) (a : Addr) (k : Nat) (σ : Sto) (ow : Own) : Prop := ∃ (p : Int) (acc : List (List Nat)), ow = some (Str.ofString "inside", a, strL acc) ∧ σ.lookup (Str.ofString "text") = some (.str x) ∧ σ.lookup (Str.ofString "letters") = some (.list (strL lets)) ∧ σ.lookup (Str.ofString "place") = some (.int p) ∧ (p = -1 ∨ 0 ≤ p ∧ p < x.length ∧ x.length + 1 - p.toNat ≤ k ∧ (acc.length : Int) ≤ p) ∧ acc ++ insL x lets k p = inside x lets
set_option maxHeartbeats 4000000 in
theorem con_inside {B : Base} (D : DI B 12) (D3 : DI B 3) (hlen : Blt B (Str.ofString "len") (.builtin "len")) (hP : ∀ (x : List Nat), x.length ≤ 100000 → x.take 3 = [50, 53, 55] → ∀ P : PV → Prop, P (.str (prs x)) → Fn B 4 true (Str.ofString "parse257") [.str x] P)
    {x : List Nat} {lets : List (List Nat)} (hx : x.length ≤ 10000) {P : PV → Prop} (h : P (.list (strL (inside x lets)))) : Fn B 6 true (Str.ofString "_law_inside") [.str x, .list (strL lets)] P := by
  refine fn_def (n := 5) (names := [Str.ofString "text", Str.ofString "letters"]) D (by decide) rfl (fun pm code doc vs hv => ?_) (by decide) rfl rfl rfl (nofree rfl) fun V => ?_
  · obtain ⟨v, w, rfl⟩ := len2 hv; rfl
  · conv => arg 8; whnf
    refine stl_cons (st_own2 rfl rfl rfl rfl (ev_meth1 F.slot_str_find F.type_str_find (ev_name rfl ⟨x, rfl, ev_str (sm_find (c := 34) fun a => ?_)⟩)) (hw := fun env hE => swapped2 hE rfl rfl rfl rfl rfl rfl rfl))
    have f0 := fnd_bd 34 0 x
    refine stl_cons (st_while (JInside x lets a) (x.length + 1) ⟨fnd 34 0 x, [], rfl, rfl, rfl, rfl, ?_, rfl⟩ (fun k σ' ow' ⟨p, acc, e, _⟩ => e ▸ SameO.some) (fun k σ' ow' hJ => ?_))
    · rcases f0 with h | ⟨h1, h2⟩
      · exact .inl h
      · right; simp at h1 h2 ⊢; omega
    · obtain ⟨p, acc, rfl, l1, l2, l3, hp, hacc⟩ := hJ
      refine evt_cmp (ev_name l3 (ev_int (cmp_gei ⟨_, rfl, ?_⟩)))
      rcases hp with rfl | ⟨hp0, hp1, hk, hal⟩
      · rw [if_neg (by decide)]
        have : insL x lets k (-1) = [] := by cases k <;> simp [insL]
        rw [this, List.append_nil] at hacc
        rw [hacc]
        exact stl_freeze (stl_cons (st_return (ev_name look_eq ⟨_, rfl, h⟩)))
      · rw [if_pos (by simpa using hp0)]
        obtain ⟨q, rfl⟩ := Int.eq_ofNat_of_zero_le hp0
        obtain ⟨k', rfl⟩ : ∃ k', k = k' + 1 := ⟨k - 1, by omega⟩
        have hq : q < x.length := by omega
        have hnl := nameAt_len x q (by omega)
        rw [show insL x lets (k' + 1) (q : Int) = pick lets (nameAt x q) ++ insL x lets k' (nextAt x q) by simp [insL]] at hacc
        refine stl_cons (st_assign (putsO rfl rfl) (ev_call (k := 4) rfl (by decide) (evl_cons (ev_bin (ev_str (ev_slice (ev_name l1 (ev_name l3 ⟨_, rfl, .str (by omega) ?_⟩)))))) (hg := D3.known)))
        rw [slice_from]
        refine op_adds (by show 4 + _ ≤ _; simp; omega) (evl_nil (hP _ ?_ rfl _ ?_))
        · show (([50, 53, 55, 32] : List Nat) ++ x.drop q).length ≤ _; simp; omega
        · show StL B 5 true (rc 12).scope V ((Str.ofString "name", .str (nameAt x q)) :: σ') _ _ _
          refine stl_cons (st_iaddL rfl (by simp; omega) (ev_comp (compOk_of (σ' := [(Str.ofString "letters", .list (strL lets))]) (cap1 (look_ne rfl l2) rfl rfl) rfl rfl) (it_val (ev_name look_eq ⟨_, rfl, ?_⟩))))
          refine ⟨by simp; omega, (nameAt x q).map (fun c => if lets.contains [c] = true then some (.str [c]) else none), by simp, map_turns fun c hc => ⟨_, rfl, loc1 rfl, evt_cmp (ev_name rfl (ev_name rfl (cmp_inl ⟨_, rfl, ?_⟩)))⟩, ?_⟩
          · cases hh : lets.contains [c] with
            | true => rw [if_pos rfl]; exact ev_name rfl rfl
            | false => rw [if_neg (by decide)]; rfl
          · rw [filt_map (fun c => lets.contains [c]) (fun c => PV.str [c])]
            have e : ((nameAt x q).filter fun c => lets.contains [c]).map (fun c => PV.str [c]) = strL (pick lets (nameAt x q)) := by unfold pick; simp [List.map_map, Function.comp_def]
            rw [e]
            have hpk := pick_len lets (nameAt x q)
            refine ⟨_, rfl, by simp; omega, ?_⟩
            rw [← List.map_append]
            refine stl_cons (st_assign (putsO rfl rfl) (ev_meth2 F.slot_str_find F.type_str_find (ev_name (look_ne rfl l1) ⟨x, rfl, ev_str ?_⟩)))
            refine ev_bin (ev_bin (ev_bin (ev_name (look_ne rfl l3) ?_)))
            refine ev_bcall rfl hlen rfl (evl_cons (ev_name look_eq (evl_nil (bi_len_str (by omega) (op_add ?_)))))
            refine ev_meth1 F.slot_str_count F.type_str_count (ev_name look_eq ⟨_, rfl, ev_str (sm_count (c := 34) (op_add ?_))⟩)
            refine ev_int (op_add (sm_find3 (c := 34) ?_ ?_))
            · omega
            · have ei : ((q : Int) + ((nameAt x q).length : Int) + (((nameAt x q).count 34 : Nat) : Int) + 2).toNat = q + (nameAt x q).length + (nameAt x q).count 34 + 2 := by omega
              rw [ei]
              have hb := fnd_bd 34 (q + (nameAt x q).length + (nameAt x q).count 34 + 2) (x.drop (q + (nameAt x q).length + (nameAt x q).count 34 + 2))
              refine stl_nil ⟨k', by omega, nextAt x q, acc ++ pick lets (nameAt x q), rfl, look_ne rfl (look_ne rfl l1), look_ne rfl (look_ne rfl l2), look_eq, ?_, by rw [List.append_assoc]; exact hacc⟩
              unfold nextAt
              rcases hb with hb | ⟨h1, h2⟩
              · exact .inl hb
              · right
                simp at h1 h2 ⊢
                omega
end Mine
end

section
open PySem PySem.W PyProof.Rows
set_option maxRecDepth 100000
set_option linter.unusedVariables false
namespace Mine
theorem two_par (c : Nat) : hasG [c] [40, 41] = decide (c = 40 ∨ c = 41) := by rw [hasG_one]; simp
abbrev JSeen (x ways : List Nat) (items : List PV) (i : Nat) (σ : Sto) (ow : Own) : Prop := items = rangeL 0 x.length ∧ ow = none ∧ σ.lookup (Str.ofString "text") = some (.str x) ∧ σ.lookup (Str.ofString "ways") = some (.str ways) ∧ σ.lookup (Str.ofString "head") = some (.str (headL ways)) ∧ σ.lookup (Str.ofString "marks") = some (.list (strL (marksL ways))) ∧ σ.lookup (Str.ofString "left") = some (.str (seenF x ways i).1) ∧ σ.lookup (Str.ofString "brackets") = some (.str (seenF x ways i).2.1) ∧ σ.lookup (Str.ofString "hidden") = some (.bool (seenF x ways i).2.2)
abbrev JMarks (x ways : List Nat) (i : Nat) (items : List PV) (j : Nat) (σ : Sto) (ow : Own) : Prop := items = strL (marksL ways) ∧ ow = none ∧ σ.lookup (Str.ofString "text") = some (.str x) ∧ σ.lookup (Str.ofString "ways") = some (.str ways) ∧ σ.lookup (Str.ofString "head") = some (.str (headL ways)) ∧ σ.lookup (Str.ofString "marks") = some (.list (strL (marksL ways))) ∧ σ.lookup (Str.ofString "brackets") = some (.str (seenF x ways i).2.1) ∧ σ.lookup (Str.ofString "left") = some (.str (((marksL ways).take j).foldl (markF ways) ((seenF x ways i).1, (seenF x ways i).2.2)).1) ∧ σ.lookup (Str.ofString "hidden") = some (.bool (((marksL ways).take j).foldl (markF ways) ((seenF x ways i).1, (seenF x ways i).2.2)).2)
set_option maxHeartbeats 8000000 in
theorem con_seen {B : Base} (D : DI B 10) (D5 : DI B 5) (D8 : DI B 8) (hlen : Blt B (Str.ofString "len") (.builtin "len")) (hrange : Blt B (Str.ofString "range") (.type "range"))
    (hRow : ∀ (x : List Nat), x.length ≤ 100000 → ∀ k : Nat, ∀ P : PV → Prop, P (.int (trail 92 (x.take k) : Nat)) → Fn B 2 true (Str.ofString "_law_row") [.str x, .int k] P)
    (hQ : ∀ (x ways : List Nat), x.length ≤ 200 → ways.length ≤ 3 → ∀ P : PV → Prop, P (.str (quoted x ways)) → Fn B 2 true (Str.ofString "_law_quoted") [.str x, .str ways] P)
    {x ways : List Nat} (hx : x.length ≤ 200) (hw : ways.length ≤ 3) {P : PV → Prop} (h : P (.tup [.str (seen x ways).1, .str (seen x ways).2.1, .bool (seen x ways).2.2])) : Fn B 6 true (Str.ofString "_law_seen") [.str x, .str ways] P := by
  refine fn_def (n := 5) (names := [Str.ofString "text", Str.ofString "ways"]) D (by decide) rfl (fun pm code doc vs hv => ?_) (by decide) rfl rfl rfl (nofree rfl) fun V => ?_
  · obtain ⟨v, w, rfl⟩ := len2 hv; rfl
  · conv => arg 8; whnf
    have hr := rfnd_ge 109 ways
    refine stl_cons (st_assign (putsL rfl) (ev_slice (ev_name rfl (ev_bin (ev_meth1 F.slot_str_rfind F.type_str_rfind (ev_name rfl ⟨_, rfl, ev_str (sm_rfind (c := 109) (ev_int (op_add ⟨_, rfl, .str (by omega) ?_⟩)))⟩))))))
    rw [show pySlice ways none (some (rfnd 109 ways + 1)) = headL ways by
      have : rfnd 109 ways + 1 = ((rfnd 109 ways + 1).toNat : Int) := by omega
      rw [this, slice_to]; rfl]
    have hh3 := headL_len ways hw
    obtain ⟨mb1, mb2⟩ := marks_bd ways hw
    refine stl_cons (st_compL rfl (fun _ _ _ e => nomatch e) rfl rfl (compOk_of (σ' := []) cap0 rfl rfl) (it_val (ev_slice (ev_meth1 F.slot_str_split F.type_str_split (ev_call (k := 2) rfl (by decide) (evl_cons (ev_str (evl_cons (ev_name look_eq (evl_nil (hQ [34] (headL ways) (by simp) hh3 _ ⟨_, rfl, ev_str (sm_split (c := 34) (by decide) ?_ (ev_neg (ev_int ⟨1, rfl, ⟨_, rfl, .list ?_ ?_⟩⟩)))⟩))))) ) (hg := D5.known))))))
    · have h1 := quoted_len [34] (headL ways)
      have h2 : 2 ^ (headL ways).length ≤ 2 ^ 3 := Nat.pow_le_pow_right (by decide) hh3
      simp at h1; omega
    · have h1 := quoted_len [34] (headL ways)
      have h2 : 2 ^ (headL ways).length ≤ 2 ^ 3 := Nat.pow_le_pow_right (by decide) hh3
      have h3 := (splitG_len [34] 0 (quoted [34] (headL ways))).1
      simp at h1 ⊢; omega
    · rw [show pySlice (strL (splitG [34] 0 (quoted [34] (headL ways)))) none (some (-1)) = strL ((splitG [34] 0 (quoted [34] (headL ways))).take ((splitG [34] 0 (quoted [34] (headL ways))).length - 1)) by rw [slice_last]; simp [List.map_take]]
      refine ⟨_, rfl, ?_, (((splitG [34] 0 (quoted [34] (headL ways))).take ((splitG [34] 0 (quoted [34] (headL ways))).length - 1)).map fun p => some (PV.str (p ++ [34]))), by simp, map_turns fun p hp => compEl0 rfl (loc1 rfl) (ev_bin (ev_name rfl (ev_str (op_adds ?_ rfl)))), ?_⟩
      · have := mb1; unfold marksL at this; simp at this ⊢; omega
      · have h1 := quoted_len [34] (headL ways)
        have h2 : 2 ^ (headL ways).length ≤ 2 ^ 3 := Nat.pow_le_pow_right (by decide) hh3
        have h3 := (splitG_len [34] 0 (quoted [34] (headL ways))).2 p (List.mem_of_mem_take hp)
        show p.length + 1 ≤ _
        simp at h1; omega
      · rw [some_map (fun p => PV.str (p ++ [34]))]
        rw [show (((splitG [34] 0 (quoted [34] (headL ways))).take ((splitG [34] 0 (quoted [34] (headL ways))).length - 1)).map fun p => PV.str (p ++ [34])) = strL (marksL ways) by unfold marksL; simp [List.map_map, Function.comp_def]]
        refine stl_cons (st_unpack (ev_tuple (evl_cons (ev_str ?_))) (hw := fun env hE => swapped_const rfl))
        refine evl_cons (ev_str ?_)
        refine evl_cons (ev_bool ?_)
        refine evl_nil ⟨by simp, as_tup3 (putsL rfl) (putsL rfl) (putsL rfl) ?_⟩
        refine stl_cons (st_for (JSeen x ways) (it_range1 rfl hrange (ev_bcall rfl hlen rfl (evl_cons (ev_name rfl (evl_nil (bi_len_str (by omega) ⟨_, rfl, by omega, by omega, ⟨rfl, rfl, rfl, rfl, rfl, rfl, rfl, rfl, rfl⟩, fun i σ' ow' hJ => ?_, fun i p σ' ow' hp hJ => ?_, fun σ' ow' hJ => ?_⟩)))))))
        · rw [hJ.2.1]; exact SameO.none
        · obtain ⟨_, rfl, l1, l2, l3, l4, l5, l6, l7⟩ := hJ
          obtain ⟨hi, rfl⟩ := rangeL_get hp
          have hxk : x[i]? = some x[i] := by simp [hi]
          have hs := seenF_succ x ways i
          obtain ⟨bd1, bd2⟩ := seenF_bd x ways hw i
          refine as_name (putsL rfl) ?_
          refine stl_cons (st_assign (putsL rfl) (ev_call (k := 2) rfl (by decide) (evl_cons (ev_name (look_ne rfl l1) (evl_cons (ev_name look_eq (evl_nil (hRow x (by omega) i _ ?_)))))) (hg := D8.known)))
          have m1 := look_ne (q := .int (trail 92 (x.take i) : Nat)) (y := Str.ofString "row") rfl (look_ne (q := .int (i : Int)) (y := Str.ofString "k") rfl l1)
          have m2 := look_ne (q := .int (trail 92 (x.take i) : Nat)) (y := Str.ofString "row") rfl (look_ne (q := .int (i : Int)) (y := Str.ofString "k") rfl l2)
          have m3 := look_ne (q := .int (trail 92 (x.take i) : Nat)) (y := Str.ofString "row") rfl (look_ne (q := .int (i : Int)) (y := Str.ofString "k") rfl l3)
          have m4 := look_ne (q := .int (trail 92 (x.take i) : Nat)) (y := Str.ofString "row") rfl (look_ne (q := .int (i : Int)) (y := Str.ofString "k") rfl l4)
          have m5 := look_ne (q := .int (trail 92 (x.take i) : Nat)) (y := Str.ofString "row") rfl (look_ne (q := .int (i : Int)) (y := Str.ofString "k") rfl l5)
          have m6 := look_ne (q := .int (trail 92 (x.take i) : Nat)) (y := Str.ofString "row") rfl (look_ne (q := .int (i : Int)) (y := Str.ofString "k") rfl l6)
          have m7 := look_ne (q := .int (trail 92 (x.take i) : Nat)) (y := Str.ofString "row") rfl (look_ne (q := .int (i : Int)) (y := Str.ofString "k") rfl l7)
          have mk : List.lookup (Str.ofString "k") ((Str.ofString "row", PV.int (trail 92 (x.take i) : Nat)) :: (Str.ofString "k", PV.int (i : Int)) :: σ') = some (.int (i : Int)) := look_ne rfl look_eq
          have mr : List.lookup (Str.ofString "row") ((Str.ofString "row", PV.int (trail 92 (x.take i) : Nat)) :: (Str.ofString "k", PV.int (i : Int)) :: σ') = some (.int (trail 92 (x.take i) : Nat)) := look_eq
          generalize ((Str.ofString "row", PV.int (trail 92 (x.take i) : Nat)) :: (Str.ofString "k", PV.int (i : Int)) :: σ') = τ at m1 m2 m3 m4 m5 m6 m7 mk mr ⊢
          have sgn : ∀ {Q : PV → Prop}, Q (.str [x[i]]) → SubS B 5 true (.str x) (.int (i : Int)) Q := fun hQ' => sub_str (c := x[i]) (by omega) (by omega) (by rw [pyIdx_nat]; exact hxk) hQ'
          refine stl_cons (st_if (evt_weaken (P := fun c => c = decide (x[i] = 34 ∧ headL ways = [] ∧ trail 92 (x.take i) % 2 = 0)) (evt_and3 (evt_cmp (ev_sub (ev_name m1 (ev_name mk (sgn (ev_str (cmp_eqs ⟨_, rfl, ?_⟩)))))))) ?_))
          · rw [show (Str.ofString "\"").cps.toList = [34] from rfl]
            by_cases h34 : x[i] = 34
            · rw [if_pos (by simpa using h34)]
              refine evt_cmp (ev_name m3 (ev_str (cmp_eqs ⟨_, rfl, ?_⟩)))
              rw [show (Str.ofString "").cps.toList = [] from rfl]
              by_cases hhd : headL ways = []
              · rw [if_pos (by simpa using hhd)]
                refine evt_cmp (ev_bin (ev_name mr (ev_int (op_mod (by decide) (ev_int (cmp_eqi ⟨_, rfl, ?_⟩))))))
                rw [par_fmod]
                by_cases hp0 : trail 92 (x.take i) % 2 = 0
                · rw [hp0]; simp [h34, hhd]
                · have : trail 92 (x.take i) % 2 = 1 := by omega
                  rw [this]; simp
              · rw [if_neg (by simpa using hhd)]; simp [hhd]
            · rw [if_neg (by simpa using h34)]; simp [h34]
          · rintro _ rfl
            by_cases hc1 : x[i] = 34 ∧ headL ways = [] ∧ trail 92 (x.take i) % 2 = 0
            · rw [if_pos (by simpa using hc1)]
              have e : seenF x ways (i + 1) = ((seenF x ways i).1, (seenF x ways i).2.1, (seenF x ways i).2.2 != (ways == [])) := by rw [hs]; unfold seenStep; rw [hxk, hc1.1, if_pos rfl, if_pos hc1.2]
              refine stl_cons (st_assign (putsL rfl) (ev_cmp (ev_name m7 (ev_cmp (ev_name m2 (ev_str (cmp_eqs (cmp_neb ?_))))))))
              exact stl_nil (stl_nil ⟨rfl, rfl, look_ne rfl m1, look_ne rfl m2, look_ne rfl m3, look_ne rfl m4, by rw [e]; exact look_ne rfl m5, by rw [e]; exact look_ne rfl m6, by rw [e]; exact look_eq⟩)
            · rw [if_neg (by simpa using hc1)]
              refine stl_cons (st_if (evt_cmp (ev_sub (ev_name m1 (ev_name mk (sgn (ev_str (cmp_eqs ⟨_, rfl, ?_⟩))))))))
              rw [show (Str.ofString "\"").cps.toList = [34] from rfl]
              by_cases h34 : x[i] = 34
              · rw [if_pos (by simpa using h34)]
                have hn : ¬ (headL ways = [] ∧ trail 92 (x.take i) % 2 = 0) := fun hh => hc1 ⟨h34, hh⟩
                have e : seenF x ways (i + 1) = (((marksL ways).foldl (markF ways) ((seenF x ways i).1, (seenF x ways i).2.2)).1, (seenF x ways i).2.1, ((marksL ways).foldl (markF ways) ((seenF x ways i).1, (seenF x ways i).2.2)).2) := by rw [hs]; unfold seenStep; rw [hxk, h34, if_pos rfl, if_neg hn]
                refine stl_cons (st_for (JMarks x ways i) (it_val (ev_name m4 ⟨_, rfl, ⟨rfl, rfl, m1, m2, m3, m4, m6, m5, m7⟩, fun j σ₂ ow₂ hJ => ?_, fun j p σ₂ ow₂ hp hJ => ?_, fun σ₂ ow₂ hJ => ?_⟩)))
                · rw [hJ.2.1]; exact SameO.none
                · obtain ⟨_, rfl, n1, n2, n3, n4, n6, n5, n7⟩ := hJ
                  rw [List.getElem?_map] at hp
                  obtain ⟨m, hm, rfl⟩ := Option.map_eq_some_iff.mp hp
                  have hst : ((marksL ways).take (j + 1)).foldl (markF ways) ((seenF x ways i).1, (seenF x ways i).2.2) = markF ways (((marksL ways).take j).foldl (markF ways) ((seenF x ways i).1, (seenF x ways i).2.2)) m := by rw [List.take_add_one, hm]; simp
                  have bj := markF_len ways 9 ((marksL ways).take j) ((seenF x ways i).1, (seenF x ways i).2.2) fun q hq => mb2 q (List.mem_of_mem_take hq)
                  have bm := mb2 m (List.mem_of_getElem? hm)
                  have bt : ((marksL ways).take j).length * 9 ≤ 9 * 9 := Nat.mul_le_mul_right _ (by simp; omega)
                  generalize ((marksL ways).take j).foldl (markF ways) ((seenF x ways i).1, (seenF x ways i).2.2) = st at n5 n7 bj hst
                  simp only at bj
                  refine as_name (putsL rfl) ?_
                  refine stl_cons (st_aug (putsL rfl) (look_ne rfl n5) (ev_weaken (P := fun p => p = .str (if st.2 = true then [] else m)) (ev_ifexp (evt_val (ev_name (look_ne rfl n7) ⟨_, rfl, ?_⟩))) ?_))
                  · cases st.2 with
                    | true => rw [if_pos rfl]; exact ev_str rfl
                    | false => rw [if_neg (by decide)]; exact ev_name look_eq rfl
                  · rintro _ rfl
                    refine op_iadds (by have : (if st.2 = true then [] else m).length ≤ m.length := by { split <;> simp }; omega) ?_
                    refine stl_cons (st_assign (putsL rfl) (ev_cmp (ev_name (look_ne rfl (look_ne rfl n7)) (ev_cmp (ev_name (look_ne rfl (look_ne rfl n2)) (ev_name (look_ne rfl (look_ne rfl n3)) (cmp_nes (cmp_neb ?_))))))))
                    exact stl_nil ⟨rfl, rfl, look_ne rfl (look_ne rfl (look_ne rfl n1)), look_ne rfl (look_ne rfl (look_ne rfl n2)), look_ne rfl (look_ne rfl (look_ne rfl n3)), look_ne rfl (look_ne rfl (look_ne rfl n4)), look_ne rfl (look_ne rfl (look_ne rfl n6)), by rw [hst]; exact look_ne rfl look_eq, by rw [hst]; exact look_eq⟩
                · obtain ⟨_, rfl, n1, n2, n3, n4, n6, n5, n7⟩ := hJ
                  rw [List.length_map, List.take_length] at n5 n7
                  exact stl_nil (stl_nil (stl_nil ⟨rfl, rfl, n1, n2, n3, n4, by rw [e]; exact n5, by rw [e]; exact n6, by rw [e]; exact n7⟩))
              · rw [if_neg (by simpa using h34)]
                refine stl_cons (st_if (evt_not (evt_val (ev_name m7 ⟨_, rfl, ?_⟩))))
                cases hid : (seenF x ways i).2.2 with
                | true =>
                  rw [if_neg (by decide)]
                  have e : seenF x ways (i + 1) = seenF x ways i := by rw [hs]; unfold seenStep; rw [hxk, if_neg (by simpa using h34), if_pos hid]
                  exact stl_nil (stl_nil (stl_nil (stl_nil ⟨rfl, rfl, m1, m2, m3, m4, by rw [e]; exact m5, by rw [e]; exact m6, by rw [e]; exact m7⟩)))
                | false =>
                  rw [if_pos (by decide)]
                  have hqb : (quoted [x[i]] ways).length ≤ 8 := by
                    have h1 := quoted_len [x[i]] ways
                    have h2 : 2 ^ ways.length ≤ 2 ^ 3 := Nat.pow_le_pow_right (by decide) hw
                    simp at h1; omega
                  have e : seenF x ways (i + 1) = ((seenF x ways i).1 ++ quoted [x[i]] ways, (if (x[i] = 40 ∨ x[i] = 41) ∧ (headL ways ≠ [] ∨ trail 92 (x.take i) % 2 = 0) then (seenF x ways i).2.1 ++ [x[i]] else (seenF x ways i).2.1), (seenF x ways i).2.2) := by
                    rw [hs]; unfold seenStep; rw [hxk, if_neg (by simpa using h34), if_neg (by rw [hid]; decide)]
                    simp only [Option.toList_some, Option.some.injEq]
                  refine stl_cons (st_aug (putsL rfl) m5 (ev_call (k := 2) rfl (by decide) (evl_cons (ev_sub (ev_name m1 (ev_name mk (sgn (evl_cons (ev_name m2 (evl_nil (hQ [x[i]] ways (by simp) hw _ (op_iadds (by omega) ?_)))))))))) (hg := D5.known)))
                  have done : ∀ br, br = (seenF x ways (i + 1)).2.1 → ∀ τ', (∀ nm, (nm == Str.ofString "brackets") = false → ∀ v, List.lookup nm ((Str.ofString "left", PV.str ((seenF x ways i).1 ++ quoted [x[i]] ways)) :: τ) = some v → List.lookup nm τ' = some v) → List.lookup (Str.ofString "brackets") τ' = some (.str br) → (rangeL 0 x.length = rangeL 0 x.length ∧ (none : Own) = none ∧ τ'.lookup (Str.ofString "text") = some (.str x) ∧ τ'.lookup (Str.ofString "ways") = some (.str ways) ∧ τ'.lookup (Str.ofString "head") = some (.str (headL ways)) ∧ τ'.lookup (Str.ofString "marks") = some (.list (strL (marksL ways))) ∧
                      τ'.lookup (Str.ofString "left") = some (.str (seenF x ways (i + 1)).1) ∧ τ'.lookup (Str.ofString "brackets") = some (.str (seenF x ways (i + 1)).2.1) ∧ τ'.lookup (Str.ofString "hidden") = some (.bool (seenF x ways (i + 1)).2.2)) := fun br hbr τ' hk hb => by
                    refine ⟨rfl, rfl, hk _ rfl _ (look_ne rfl m1), hk _ rfl _ (look_ne rfl m2), hk _ rfl _ (look_ne rfl m3), hk _ rfl _ (look_ne rfl m4), hk _ rfl _ (by rw [e]; exact look_eq), by rw [← hbr]; exact hb, hk _ rfl _ (by rw [e]; exact look_ne rfl m7)⟩
                  refine stl_cons (st_if (evt_weaken (P := fun c => c = decide ((x[i] = 40 ∨ x[i] = 41) ∧ (headL ways ≠ [] ∨ trail 92 (x.take i) % 2 = 0))) (evt_and2 (evt_cmp (ev_sub (ev_name (look_ne rfl m1) (ev_name (look_ne rfl mk) (sgn (ev_str (cmp_ins (Nat.succ_pos _) ⟨_, rfl, ?_⟩)))))))) ?_))
                  · rw [show (Str.ofString "()").cps.toList = [40, 41] from rfl, two_par]
                    by_cases h4 : x[i] = 40 ∨ x[i] = 41
                    · rw [if_pos (by simpa using h4)]
                      refine evt_or2 (evt_cmp (ev_name (look_ne rfl m3) (ev_str (cmp_nes ⟨_, rfl, ?_⟩))))
                      rw [show (Str.ofString "").cps.toList = [] from rfl]
                      by_cases hhd : headL ways = []
                      · rw [if_neg (by simpa using hhd)]
                        refine evt_cmp (ev_bin (ev_name (look_ne rfl mr) (ev_int (op_mod (by decide) (ev_int (cmp_eqi ⟨_, rfl, ?_⟩))))))
                        rw [par_fmod]
                        by_cases hp0 : trail 92 (x.take i) % 2 = 0
                        · rw [hp0]; simp [h4]
                        · have : trail 92 (x.take i) % 2 = 1 := by omega
                          rw [this]; simp [hhd]
                      · rw [if_pos (by simpa using hhd)]; simp [h4, hhd]
                    · rw [if_neg (by simpa using h4)]; simp [h4]
                  · rintro _ rfl
                    by_cases hc2 : (x[i] = 40 ∨ x[i] = 41) ∧ (headL ways ≠ [] ∨ trail 92 (x.take i) % 2 = 0)
                    · rw [if_pos (by simpa using hc2)]
                      refine stl_cons (st_aug (putsL rfl) (look_ne rfl m6) (ev_sub (ev_name (look_ne rfl m1) (ev_name (look_ne rfl mk) (sgn (op_iadds (by simp; omega) ?_))))))
                      exact stl_nil (stl_nil (stl_nil (stl_nil (stl_nil (done _ (by rw [e, if_pos hc2]) _ (fun nm hn v hv => look_ne hn hv) look_eq)))))
                    · rw [if_neg (by simpa using hc2)]
                      exact stl_nil (stl_nil (stl_nil (stl_nil (stl_nil (done _ (by rw [e, if_neg hc2]) _ (fun nm hn v hv => hv) (look_ne rfl m6))))))
        · obtain ⟨_, rfl, l1, l2, l3, l4, l5, l6, l7⟩ := hJ
          rw [show (rangeL 0 ((x.length : Int)).toNat).length = x.length by simp [rangeL]] at l5 l6 l7
          exact stl_cons (st_return (ev_tuple (evl_cons (ev_name l5 (evl_cons (ev_name l6 (evl_cons (ev_name l7 (evl_nil ⟨by simp, ⟨_, rfl, h⟩⟩)))))))))
end Mine
end

section
open PySem PySem.W PyProof.Rows
set_option maxRecDepth 100000
set_option linter.unusedVariables false
namespace Mine
structure Ctx1 (B : Base) (C : Addr) : Prop where
  d : ∀ k, k < 13 → DI B k
  len : Blt B (Str.ofString "len") (.builtin "len")
  chr : Blt B (Str.ofString "chr") (.builtin "chr")
  sum : Blt B (Str.ofString "sum") (.builtin "sum")
  range : Blt B (Str.ofString "range") (.type "range")
  list : Blt B (Str.ofString "list") (.type "list")
  enum : Blt B (Str.ofString "enumerate") (.type "enumerate")
  str : Blt B (Str.ofString "str") (.type "str")
  exc : ExcCls B (Str.ofString "error_reply") C
section
variable {B : Base} {C : Addr} (K : Ctx1 B C)
include K
theorem Ctx1.iter (x : List Nat) : FnG B (Str.ofString "_iter_escaped_chars") [.str x] (escL x) := con_iter (K.d 0 (by decide)) K.enum x
theorem Ctx1.parse (x : List Nat) (hx : x.length ≤ 100000) (h3 : x.take 3 = [50, 53, 55]) (P : PV → Prop) (h : P (.str (prs x))) : Fn B 4 true (Str.ofString "parse257") [.str x] P := con_parse (K.d 3 (by decide)) K.len hx h3 h
theorem Ctx1.strip (x : List Nat) (hx : x.length ≤ 900) (P : PV → Prop) (h : P (.str (strip x))) : Fn B 6 true (Str.ofString "_strip_quoted_realnames") [.str x] P := con_strip (K.d 1 (by decide)) K.len K.iter hx h
theorem Ctx1.check (x : List Nat) (hx : x.length ≤ 900) (P : PV → Prop) (h : P (.bool (chk x))) : Fn B 8 true (Str.ofString "_check_parenthesis") [.str x] P := con_check (K.d 2 (by decide)) (K.d 1 (by decide)) K.iter K.strip hx h
theorem Ctx1.quoted (x ways : List Nat) (hx : x.length ≤ 200) (hw : ways.length ≤ 3) (P : PV → Prop) (h : P (.str (quoted x ways))) : Fn B 2 true (Str.ofString "_law_quoted") [.str x, .str ways] P := con_quoted (K.d 5 (by decide)) hx hw h
theorem Ctx1.row (x : List Nat) (hx : x.length ≤ 100000) (k : Nat) (P : PV → Prop) (h : P (.int (trail 92 (x.take k) : Nat))) : Fn B 2 true (Str.ofString "_law_row") [.str x, .int k] P := con_row (K.d 8 (by decide)) K.len hx h
theorem Ctx1.closed (x : List Nat) (hx : x.length ≤ 100000) (P : PV → Prop) (h : P (.bool (closed x))) : Fn B 2 true (Str.ofString "_law_closed") [.str x] P := con_closed (K.d 11 (by decide)) hx h
theorem Ctx1.inside (x : List Nat) (lets : List (List Nat)) (hx : x.length ≤ 10000) (P : PV → Prop) (h : P (.list (strL (inside x lets)))) : Fn B 6 true (Str.ofString "_law_inside") [.str x, .list (strL lets)] P := con_inside (K.d 12 (by decide)) (K.d 3 (by decide)) K.len K.parse hx h
theorem Ctx1.seen (x ways : List Nat) (hx : x.length ≤ 200) (hw : ways.length ≤ 3) (P : PV → Prop) (h : P (.tup [.str (seen x ways).1, .str (seen x ways).2.1, .bool (seen x ways).2.2])) : Fn B 6 true (Str.ofString "_law_seen") [.str x, .str ways] P := con_seen (K.d 10 (by decide)) (K.d 5 (by decide)) (K.d 8 (by decide)) K.len K.range K.row K.quoted hx hw h
theorem Ctx1.units (x : List Nat) (hx : x.length ≤ 1000) (heq : escL (x ++ [92]) = unitsL x ++ [.tup [.int x.length, .str [92]]]) (P : PV → Prop) (h : P (.bool true)) : Fn B 6 true (Str.ofString "_law_units") [.str x] P := con_units (K.d 9 (by decide)) (K.d 8 (by decide)) K.len K.range K.list K.iter K.row hx heq h
theorem Ctx1.refused (x : List Nat) (hx : x.length ≤ 10000) (h7 : x.head? ≠ some 55) : RefFn B (Str.ofString "_law_refused") x := con_refused (K.d 7 (by decide)) (K.d 3 (by decide)) K.exc K.str K.len hx h7
theorem Ctx1.kn (k : Nat) (hk : k < 13) : ∃ a o fd, B.mg (rc k).name = some (.ref a) ∧ B.h₀.get? a = some o ∧ o.data = .func fd := (K.d k hk).known
end
set_option maxHeartbeats 8000000 in
theorem law_a {B : Base} {C : Addr} (K : Ctx1 B C) (script : List Int) (hsc : script.length ≤ 1000) (htl : (textOf (numsL script)).length ≤ 11) (V : Addr → Prop) {post : Fl → Sto → Own → Prop}
    (hk : StTL B 12 (rc 13).scope V [(Str.ofString "ways", .str (waysOf ((numsL script).sum + 3))), (Str.ofString "text", .str (textOf (numsL script)))] none ((rc 13).body.drop 5) post) :
    StTL B 12 (rc 13).scope V [(Str.ofString "script", .list (script.map .int))] none (rc 13).body post := by
  conv => arg 7; whnf
  have hd10 : (script.take 10).length ≤ 10 := by simp; omega
  refine stTL_cons (stT_of (st_assign (putsL rfl) (ev_slice (ev_name rfl (ev_int ⟨10, rfl, .list (by simp; omega) ?_⟩)))))
  rw [show pySlice (script.map PV.int) none (some (10 : Int)) = (script.take 10).map PV.int by rw [show (10 : Int) = ((10 : Nat) : Int) from rfl, slice_to, List.map_take]]
  refine stTL_cons (stT_of (st_assign (putsC rfl) (ev_bin (ev_name look_eq (ev_slice (ev_list (evl_cons (ev_int ?_))))))))
  refine evl_cons (ev_int ?_)
  refine evl_cons (ev_int ?_)
  refine evl_cons (ev_int ?_)
  refine evl_cons (ev_int ?_)
  refine evl_cons (ev_int ?_)
  refine evl_cons (ev_int ?_)
  refine evl_nil ⟨by simp, ev_bcall rfl K.len rfl (evl_cons (ev_name look_eq (evl_nil (bi_len_list (by simp; omega) ⟨_, rfl, .list (by simp) ?_⟩))))⟩
  rw [show pySlice [PV.int 6, PV.int 2, PV.int 0, PV.int 4, PV.int 0, PV.int 6, PV.int 5] (some ((((script.take 10).map PV.int).length : Nat) : Int)) none = (fillL.drop (script.take 10).length).map PV.int by rw [slice_from, List.length_map]; show List.drop _ (fillL.map PV.int) = _; rw [List.map_drop]]
  refine op_addl (by simp [fillL]; omega) ?_
  rw [← List.map_append]
  show StTL B 12 (rc 13).scope V ((Str.ofString "numbers", .list ((numsL script).map .int)) :: _) none _ _
  have hnl : (numsL script).length ≤ 17 := by unfold numsL; simp [fillL]; omega
  generalize hnums : numsL script = nums at hk htl hnl ⊢
  clear hnums
  have hn0 : ∀ k, k < nums.length → (nums.map PV.int)[k]? = some (.int (nums.getD k 0)) := fun k hk => by simp [hk]
  refine stTL_cons (stT_of (st_assign (putsC rfl) (ev_bin (ev_meth1 PySem.F.slot_str_join PySem.F.type_str_join (ev_str ⟨_, rfl, ?_⟩)))))
  refine ev_comp (compOk_of (σ' := [(Str.ofString "numbers", .list (nums.map .int))]) (cap1 look_eq rfl rfl) rfl rfl) (it_range1 rfl K.range ?_)
  refine ev_bcall rfl K.len rfl (evl_cons (ev_name look_eq (evl_nil (bi_len_list (by simp; omega) ⟨(nums.length : Int), by simp, by omega, by omega, ?_⟩))))
  rw [Int.toNat_natCast]
  refine ⟨by simp [rangeL]; omega, (List.range nums.length).map (fun k => some (.str (signAt nums k))), by simp [rangeL], ?_, ?_⟩
  · refine map_turns fun k hk => ?_
    have hk' : k < nums.length := List.mem_range.mp hk
    refine compEl0 rfl (loc1 rfl) (ev_call (k := 2) rfl (by decide) (evl_cons (ev_name rfl (evl_cons (ev_sub (ev_name rfl (ev_name rfl (sub_list (p := .int (nums.getD k 0)) (by omega) (by omega) ?_ (evl_nil ?_)))))))) (hg := K.kn 4 (by decide)))
    · rw [Int.zero_add, pyIdx_nat]; exact hn0 k hk'
    · rw [Int.zero_add]; exact con_sign (K.d 4 (by decide)) K.chr (by omega) rfl
  · rw [some_map (fun k => PV.str (signAt nums k)), show ((List.range nums.length).map fun k => PV.str (signAt nums k)) = strL ((List.range nums.length).map (signAt nums)) by simp [List.map_map, Function.comp_def]]
    have hsum : ((((List.range nums.length).map (signAt nums)).map List.length).sum + ((List.range nums.length).map (signAt nums)).length ≤ 1000000) := by
      have := sum_le ((List.range nums.length).map (signAt nums)) 1 (fun y hy => by obtain ⟨k, _, rfl⟩ := List.mem_map.mp hy; simp [signAt, signL])
      simp at this ⊢; omega
    refine sm_join (by decide) hsum (ev_str (op_adds ?_ ?_))
    · show (joinL [] ((List.range nums.length).map (signAt nums))).length + 1 ≤ _
      unfold textOf at htl; simp at htl ⊢; omega
    · show StTL B 12 (rc 13).scope V ((Str.ofString "text", .str (textOf nums)) :: _) none _ _
      generalize htx : textOf nums = x at hk htl ⊢
      clear htx
      refine stTL_cons (stT_of (st_assign (putsC rfl) (ev_bin (ev_bcall rfl K.sum rfl (evl_cons (ev_name (look_ne rfl look_eq) (evl_nil (bi_sum (ev_int (op_add ?_))))))))))
      generalize hT : nums.sum + 3 = T at hk ⊢
      clear hT
      refine stTL_cons (stT_of (st_assign (putsL rfl) (ev_meth1 PySem.F.slot_str_join PySem.F.type_str_join (ev_str ⟨_, rfl, ?_⟩))))
      refine ev_comp (compOk_of (σ' := [(Str.ofString "total", .int T)]) (cap1 look_eq rfl rfl) rfl rfl) (it_range1 rfl K.range (ev_int ⟨3, rfl, by decide, by decide, ?_⟩))
      refine ⟨by simp [rangeL], (List.range 3).map (fun k => some (.str (wayAt T k))), by simp [rangeL], ?_, ?_⟩
      · refine map_turns fun k hk => ?_
        refine compEl0 rfl (loc1 rfl) (ev_ifexp (evt_val (ev_bin (ev_bin (ev_name rfl (ev_name rfl (op_shr (by omega) (ev_int (op_and ⟨_, rfl, ?_⟩)))))))))
        rw [show ((0 : Int) + (k : Int)).toNat = k by omega]
        unfold wayAt
        by_cases hb : Builtin.bitAnd (T.fdiv (2 ^ k)) 1 = 0
        · rw [hb, if_neg (by decide)]
          exact ev_str (by simp [hb]; rfl)
        · rw [if_pos (by simpa using hb)]
          exact ev_str (by simp [hb]; rfl)
      · rw [some_map (fun k => PV.str (wayAt T k)), show ((List.range 3).map fun k => PV.str (wayAt T k)) = strL ((List.range 3).map (wayAt T)) by simp [List.map_map, Function.comp_def]]
        have hw1 : ∀ k, (wayAt T k).length = 1 := fun k => by unfold wayAt; split <;> rfl
        refine sm_join (by decide) (by simp [List.range_succ, hw1]) ?_
        show StTL B 12 (rc 13).scope V ((Str.ofString "ways", .str (waysOf T)) :: _) none _ _
        exact stTL_weaken (sto_sub fun q hq => by
          simp only [List.mem_cons, List.not_mem_nil, or_false] at hq
          rcases hq with rfl | rfl <;> rfl) hk
end Mine
end

section
open PySem PySem.W PyProof.Rows
set_option maxRecDepth 100000
set_option linter.unusedVariables false
namespace Mine
set_option maxHeartbeats 8000000 in
theorem law_b {B : Base} {C : Addr} (K : Ctx1 B C) {x ways : List Nat} (htl : x.length ≤ 11) (hu : escL (x ++ [92]) = unitsL x ++ [.tup [.int x.length, .str [92]]]) (hp : strip (replG [34] [] 0 x) = replG [34] [] 0 x) (V : Addr → Prop) {post : Fl → Sto → Own → Prop}
    (hk : StTL B 12 (rc 13).scope V [(Str.ofString "odd", .list (strL (oddOf x))), (Str.ofString "letters", .list (strL (lettersOf x))), (Str.ofString "ways", .str ways), (Str.ofString "text", .str x)] none ((rc 13).body.drop 9) post) :
    StTL B 12 (rc 13).scope V [(Str.ofString "ways", .str ways), (Str.ofString "text", .str x)] none ((rc 13).body.drop 5) post := by
  conv => arg 7; whnf
  refine stTL_cons (stT_of (st_compC rfl (compOk_of (σ' := []) cap0 rfl rfl) (it_val (ev_name (look_ne rfl look_eq) ⟨_, rfl, ?_⟩))))
  refine ⟨by simp; omega, x.map (fun c => if decide (c ∈ abcL) = true then some (.str [c]) else none), by simp, map_turns fun c hc => ⟨_, rfl, loc1 rfl, evt_cmp (ev_name rfl (ev_str (cmp_ins (Nat.succ_pos _) ⟨_, rfl, ?_⟩)))⟩, ?_⟩
  · rw [show (Str.ofString "abcdefghijz").cps.toList = abcL from rfl, hasG_one]
    by_cases h : c ∈ abcL
    · rw [if_pos (by simpa using h), if_pos (by simpa using h)]; exact ev_name rfl rfl
    · rw [if_neg (by simpa using h), if_neg (by simpa using h)]
  · rw [filt_map (fun c => decide (c ∈ abcL)) (fun c => PV.str [c]), show (x.filter fun c => decide (c ∈ abcL)).map (fun c => PV.str [c]) = strL (lettersOf x) by unfold lettersOf; simp [List.map_map, Function.comp_def]]
    refine stTL_cons (stT_of (st_compL rfl (fun _ _ _ e => nomatch e) rfl rfl (compOk_of (σ' := [(Str.ofString "letters", .list (strL (lettersOf x))), (Str.ofString "text", .str x)]) (cap2 look_eq rfl rfl (look_ne rfl (look_ne rfl look_eq)) rfl rfl) rfl rfl) (it_range1 rfl K.range ?_)))
    refine ev_bcall rfl K.len rfl (evl_cons (ev_name (look_ne rfl (look_ne rfl look_eq)) (evl_nil (bi_len_str (by omega) ⟨_, rfl, by omega, by omega, ?_⟩))))
    rw [Int.toNat_natCast]
    refine ⟨by simp [rangeL]; omega, (List.range x.length).map (fun k => if oddB x k = true then some (.str (x[k]?).toList) else none), by simp [rangeL], ?_, ?_⟩
    · refine map_turns fun k hk => ?_
      have hk' : k < x.length := List.mem_range.mp hk
      have hxk : x[k]? = some x[k] := by simp [hk']
      rw [Int.zero_add]
      have sgn : ∀ {Q : PV → Prop}, Q (.str [x[k]]) → SubS B 12 true (.str x) (.int (k : Int)) Q := fun hQ' => sub_str (c := x[k]) (by omega) (by omega) (by rw [pyIdx_nat]; exact hxk) hQ'
      refine ⟨_, rfl, loc1 rfl, evt_and2 (evt_cmp (ev_sub (ev_name rfl (ev_name rfl (sgn (ev_name rfl (cmp_inl ⟨_, rfl, ?_⟩)))))))⟩
      have ho : oddB x k = ((lettersOf x).contains [x[k]] && ((x.take k).count 34 % 2 == 1)) := by unfold oddB; rw [hxk]; rfl
      rw [ho, hxk]
      cases hc : (lettersOf x).contains [x[k]] with
      | false => rw [if_neg (by decide)]; rfl
      | true =>
        rw [if_pos rfl]
        refine evt_cmp (ev_bin (ev_meth1 PySem.F.slot_str_count PySem.F.type_str_count (ev_slice (ev_name rfl (ev_name rfl ⟨_, rfl, .str (by omega) ⟨_, rfl, ev_str (sm_count (c := 34) (ev_int (op_mod (by decide) (ev_int (cmp_eqi ⟨_, rfl, ?_⟩)))))⟩⟩)))))
        rw [slice_to, par_fmod]
        rcases Nat.mod_two_eq_zero_or_one ((x.take k).count 34) with h0 | h1
        · rw [h0, if_neg (by decide)]; rfl
        · rw [h1, if_pos (by decide)]
          exact ev_sub (ev_name rfl (ev_name rfl (sgn rfl)))
    · rw [filt_map (oddB x) (fun k => PV.str (x[k]?).toList), show ((List.range x.length).filter (oddB x)).map (fun k => PV.str (x[k]?).toList) = strL (oddOf x) by unfold oddOf; simp [List.map_map, Function.comp_def]]
      refine stTL_cons (stT_of (st_assign (putsL rfl) (ev_replace (by decide) (ev_name (look_ne rfl (look_ne rfl (look_ne rfl look_eq))) ⟨_, rfl, evs_const ⟨by decide, ?_, ?_⟩⟩))))
      · show _ + (_ + 1) * 0 ≤ _; omega
      · rw [show (Str.ofString "\"").cps.toList = [34] from rfl, show (Str.ofString "").cps.toList = [] from rfl]
        have hpl : (replG [34] [] 0 x).length ≤ 11 := by have := repl_le [34] 0 x; omega
        refine stTL_cons (stT_if (ett_ev (evt_or2 (evt_not (evt_val (ev_call (k := 6) rfl (by decide) (evl_cons (ev_name (look_ne rfl (look_ne rfl (look_ne rfl (look_ne rfl look_eq)))) (evl_nil (K.units x (by omega) hu _ ⟨true, rfl, ?_⟩)))) (hg := K.kn 9 (by decide))))))))
        rw [if_neg (by decide)]
        refine evt_cmp (ev_call (k := 6) rfl (by decide) (evl_cons (ev_name look_eq (evl_nil (K.strip _ (by omega) _ (ev_name look_eq (cmp_nes ⟨_, rfl, ?_⟩)))))) (hg := K.kn 1 (by decide)))
        rw [hp, if_neg (by simp)]
        refine stTL_nil ?_
        exact stTL_weaken (sto_sub fun q hq => by
          simp only [List.mem_cons, List.not_mem_nil, or_false] at hq
          rcases hq with rfl | rfl | rfl | rfl <;> rfl) hk
end Mine
end

section
open PySem PySem.W PyProof.Rows
set_option maxRecDepth 100000
set_option linter.unusedVariables false
namespace Mine
theorem flat_strs (l : List (List Nat)) : flat 3 (.list (strL l)) = true := by
  show (strL l).all (flat 2) = true
  rw [List.all_eq_true]
  intro p hp
  obtain ⟨q, _, rfl⟩ := List.mem_map.mp hp
  rfl
abbrev JDepth (x ways : List Nat) (items : List PV) (i : Nat) (σ : Sto) (ow : Own) : Prop := items = rangeL 0 4 ∧ ow = none ∧ σ.lookup (Str.ofString "odd") = some (.list (strL (oddOf x))) ∧ σ.lookup (Str.ofString "letters") = some (.list (strL (lettersOf x))) ∧ σ.lookup (Str.ofString "ways") = some (.str ways) ∧ σ.lookup (Str.ofString "text") = some (.str x)
set_option maxHeartbeats 8000000 in
theorem law_c {B : Base} {C : Addr} (K : Ctx1 B C) {x ways : List Nat} (htl : x.length ≤ 11) (hwl : ways.length = 3) (hww : ∀ c ∈ ways, c = 102 ∨ c = 109) (F : Facts x ways) (V : Addr → Prop) {post : Fl → Sto → Own → Prop}
    (hk : StTL B 12 (rc 13).scope V [(Str.ofString "letters", .list (strL (lettersOf x))), (Str.ofString "text", .str x)] none ((rc 13).body.drop 10) post) :
    StTL B 12 (rc 13).scope V [(Str.ofString "odd", .list (strL (oddOf x))), (Str.ofString "letters", .list (strL (lettersOf x))), (Str.ofString "ways", .str ways), (Str.ofString "text", .str x)] none ((rc 13).body.drop 9) post := by
  conv => arg 7; whnf
  refine stTL_cons (stT_for (JDepth x ways)
    (it_range1 rfl K.range (ev_int ⟨4, rfl, by decide, by decide, ⟨rfl, rfl, rfl, rfl, rfl, rfl⟩, fun i σ' ow' hJ => ?_, fun i p σ' ow' hp hJ => ?_, fun σ' ow' hJ => ?_⟩)))
  · rw [hJ.2.1]; exact SameO.none
  · obtain ⟨_, rfl, l1, l2, l3, l4⟩ := hJ
    obtain ⟨hi, rfl⟩ := rangeL_get hp
    have hi3 : i ≤ 3 := by omega
    have hul : (ways.take i).length ≤ 3 := by simp; omega
    have hol : (quoted x (ways.take i)).length ≤ 88 := by
      have h1 := quoted_len x (ways.take i)
      have h2 : 2 ^ (ways.take i).length ≤ 2 ^ 3 := Nat.pow_le_pow_right (by decide) hul
      have h3 : x.length * 2 ^ (ways.take i).length ≤ 11 * 2 ^ 3 := Nat.mul_le_mul htl h2
      omega
    refine as_name (putsL rfl) ?_
    refine stTL_cons (stT_of (st_assign (putsL rfl) (ev_slice (ev_name (look_ne rfl l3) (ev_name look_eq ⟨_, rfl, .str (by omega) ?_⟩)))))
    rw [slice_to]
    refine stTL_cons (stT_of (st_assign (putsL rfl) (ev_call (k := 2) rfl (by decide) (evl_cons (ev_name (look_ne rfl (look_ne rfl l4)) (evl_cons (ev_name look_eq (evl_nil (K.quoted x (ways.take i) (by omega) hul _ ?_)))))) (hg := K.kn 5 (by decide)))))
    have m1 := look_ne (q := .str (quoted x (ways.take i))) (y := Str.ofString "outer") rfl (look_ne (q := .str (ways.take i)) (y := Str.ofString "used") rfl (look_ne (q := .int (i : Int)) (y := Str.ofString "depth") rfl l1))
    have m2 := look_ne (q := .str (quoted x (ways.take i))) (y := Str.ofString "outer") rfl (look_ne (q := .str (ways.take i)) (y := Str.ofString "used") rfl (look_ne (q := .int (i : Int)) (y := Str.ofString "depth") rfl l2))
    have m3 := look_ne (q := .str (quoted x (ways.take i))) (y := Str.ofString "outer") rfl (look_ne (q := .str (ways.take i)) (y := Str.ofString "used") rfl (look_ne (q := .int (i : Int)) (y := Str.ofString "depth") rfl l3))
    have m4 := look_ne (q := .str (quoted x (ways.take i))) (y := Str.ofString "outer") rfl (look_ne (q := .str (ways.take i)) (y := Str.ofString "used") rfl (look_ne (q := .int (i : Int)) (y := Str.ofString "depth") rfl l4))
    have md : List.lookup (Str.ofString "depth") ((Str.ofString "outer", PV.str (quoted x (ways.take i))) :: (Str.ofString "used", PV.str (ways.take i)) :: (Str.ofString "depth", PV.int (i : Int)) :: σ') = some (.int (i : Int)) := look_ne rfl (look_ne rfl look_eq)
    have mu : List.lookup (Str.ofString "used") ((Str.ofString "outer", PV.str (quoted x (ways.take i))) :: (Str.ofString "used", PV.str (ways.take i)) :: (Str.ofString "depth", PV.int (i : Int)) :: σ') = some (.str (ways.take i)) := look_ne rfl look_eq
    have mo : List.lookup (Str.ofString "outer") ((Str.ofString "outer", PV.str (quoted x (ways.take i))) :: (Str.ofString "used", PV.str (ways.take i)) :: (Str.ofString "depth", PV.int (i : Int)) :: σ') = some (.str (quoted x (ways.take i))) := look_eq
    generalize ((Str.ofString "outer", PV.str (quoted x (ways.take i))) :: (Str.ofString "used", PV.str (ways.take i)) :: (Str.ofString "depth", PV.int (i : Int)) :: σ') = τ at m1 m2 m3 m4 md mu mo ⊢
    refine stTL_cons (stT_if (ett_ev (evt_weaken (P := fun c => c = false) (evt_and2 (evt_cmp (ev_name md (ev_int (cmp_gti ⟨_, rfl, ?_⟩))))) ?_)))
    · cases i with
      | zero => rw [if_neg (by decide)]
      | succ j =>
        rw [if_pos (by simp)]
        have hj3 : j < 3 := by omega
        have hwj : ways[j]? = some ways[j] := by simp [hwl, hj3]
        refine evt_not (evt_val (ev_call (k := 6) rfl (by decide) (evl_cons (ev_call (k := 2) rfl (by decide) (evl_cons (ev_name m4 (evl_cons (ev_slice (ev_name mu (ev_neg (ev_int ⟨1, rfl, ⟨_, rfl, .str (by omega) ?_⟩⟩))))))) (hg := K.kn 5 (by decide)))) (hg := K.kn 6 (by decide))))
        have hlast : pySlice (ways.take (j + 1)) none (some (-1 : Int)) = ways.take j := by
          rw [slice_last, List.take_take]; congr 1; simp; omega
        rw [hlast]
        refine evl_nil (K.quoted x (ways.take j) (by omega) (by simp; omega) _ ?_)
        refine evl_cons (ev_name mo (evl_cons (ev_sub (ev_name mu (ev_neg (ev_int ⟨1, rfl, sub_str (c := ways[j]) (by omega) (by omega) ?_ (evl_nil ?_)⟩))))))
        · have hlt : (ways.take (j + 1)).length = j + 1 := by simp; omega
          have e : seqIndex? (-1) (ways.take (j + 1)).length = some j := by
            rw [hlt]; unfold seqIndex?
            simp only [show ((-1 : Int) < 0) by decide, if_true]
            have : (-1 : Int) + ((j + 1 : Nat) : Int) = (j : Int) := by omega
            rw [this]
            simp
            omega
          unfold pyIdx
          rw [e]
          simp [hwj]
        · have hw := hww ways[j] (List.getElem_mem _)
          rcases hw with hw | hw
          · rw [hw] at hwj ⊢
            exact con_offf (K.d 6 (by decide)) (K.d 3 (by decide)) K.parse (by omega) (F.offf j hj3 hwj) ⟨true, rfl, rfl⟩
          · rw [hw] at hwj ⊢
            exact con_offm (K.d 6 (by decide)) K.len K.list K.iter (by have := quoted_len x (ways.take j); have h2 : 2 ^ (ways.take j).length ≤ 2 ^ 3 := Nat.pow_le_pow_right (by decide) (by simp; omega); have h3 : x.length * 2 ^ (ways.take j).length ≤ 11 * 2 ^ 3 := Nat.mul_le_mul htl h2; omega) (by omega) (F.offm j hj3 hwj) ⟨true, rfl, rfl⟩
    · rintro _ rfl
      rw [if_neg (by decide)]
      refine stTL_nil ?_
      have hS := F.sight i hi3
      have hC := F.check i hi3
      have hN := F.ins i hi3
      have hH := F.head i hi3
      obtain ⟨hb1, hb2⟩ := seenF_bd x (ways.take i) hul x.length
      have hb1 : (seen x (ways.take i)).1.length ≤ 100 * x.length := hb1
      have hb2 : (seen x (ways.take i)).2.1.length ≤ x.length := hb2
      refine stTL_cons (stT_of (st_unpack (ev_call (k := 6) rfl (by decide) (evl_cons (ev_name m4 (evl_cons (ev_name mu (evl_nil (K.seen x (ways.take i) (by omega) hul _ (as_tup3 (putsL rfl) (putsL rfl) (putsL rfl) ?_))))))) (hg := K.kn 10 (by decide)))))
      generalize hsn : seen x (ways.take i) = sn at hS hC hb1 hb2 ⊢
      obtain ⟨left, brk, hid⟩ := sn
      simp only at hS hC hb1 hb2 ⊢
      have m1' := look_ne (q := .bool hid) (y := Str.ofString "hidden") rfl (look_ne (q := .str brk) (y := Str.ofString "brackets") rfl (look_ne (q := .str left) (y := Str.ofString "left") rfl m1))
      have m2' := look_ne (q := .bool hid) (y := Str.ofString "hidden") rfl (look_ne (q := .str brk) (y := Str.ofString "brackets") rfl (look_ne (q := .str left) (y := Str.ofString "left") rfl m2))
      have m3' := look_ne (q := .bool hid) (y := Str.ofString "hidden") rfl (look_ne (q := .str brk) (y := Str.ofString "brackets") rfl (look_ne (q := .str left) (y := Str.ofString "left") rfl m3))
      have m4' := look_ne (q := .bool hid) (y := Str.ofString "hidden") rfl (look_ne (q := .str brk) (y := Str.ofString "brackets") rfl (look_ne (q := .str left) (y := Str.ofString "left") rfl m4))
      have mu' := look_ne (q := .bool hid) (y := Str.ofString "hidden") rfl (look_ne (q := .str brk) (y := Str.ofString "brackets") rfl (look_ne (q := .str left) (y := Str.ofString "left") rfl mu))
      have mo' := look_ne (q := .bool hid) (y := Str.ofString "hidden") rfl (look_ne (q := .str brk) (y := Str.ofString "brackets") rfl (look_ne (q := .str left) (y := Str.ofString "left") rfl mo))
      have n1 : List.lookup (Str.ofString "left") ((Str.ofString "hidden", PV.bool hid) :: (Str.ofString "brackets", PV.str brk) :: (Str.ofString "left", PV.str left) :: τ) = some (.str left) := look_ne rfl (look_ne rfl look_eq)
      have n2 : List.lookup (Str.ofString "brackets") ((Str.ofString "hidden", PV.bool hid) :: (Str.ofString "brackets", PV.str brk) :: (Str.ofString "left", PV.str left) :: τ) = some (.str brk) := look_ne rfl look_eq
      have n3 : List.lookup (Str.ofString "hidden") ((Str.ofString "hidden", PV.bool hid) :: (Str.ofString "brackets", PV.str brk) :: (Str.ofString "left", PV.str left) :: τ) = some (.bool hid) := look_eq
      generalize ((Str.ofString "hidden", PV.bool hid) :: (Str.ofString "brackets", PV.str brk) :: (Str.ofString "left", PV.str left) :: τ) = τ2 at m1' m2' m3' m4' mu' mo' n1 n2 n3 ⊢
      refine stTL_cons (stT_if (ett_ev (evt_cmp (ev_call (k := 6) rfl (by decide) (evl_cons (ev_bin (ev_name mo' (ev_str (op_adds ?_ (evl_nil ?_)))))) (hg := K.kn 1 (by decide))))))
      · show _ + 2 ≤ _; omega
      refine K.strip _ (by show (quoted x (ways.take i) ++ [34, 121]).length ≤ 900; simp; omega) _ ?_
      refine ev_bin (ev_name n1 (ev_weaken (P := fun p => p = .str (if hid = true then [121] else [34, 121])) (ev_ifexp (evt_val (ev_name n3 ⟨hid, rfl, ?_⟩))) ?_))
      · cases hid with
        | true => rw [if_pos rfl]; exact ev_str rfl
        | false => rw [if_neg (by decide)]; exact ev_str rfl
      rintro _ rfl
      refine op_adds (by cases hid <;> simp <;> omega) (cmp_nes ⟨_, rfl, ?_⟩)
      rw [show ((Str.ofString "\"y").cps.toList : List Nat) = [34, 121] from rfl, hS, if_neg (by simp)]
      refine stTL_nil ?_
      refine stTL_cons (stT_if (ett_ev (evt_cmp (ev_call (k := 8) rfl (by decide) (evl_cons (ev_bin (ev_name mo' (ev_str (op_adds ?_ (evl_nil ?_)))))) (hg := K.kn 2 (by decide))))))
      · show _ + 2 ≤ _; omega
      refine K.check _ (by show (quoted x (ways.take i) ++ [34, 121]).length ≤ 900; simp; omega) _ ?_
      refine ev_call (k := 2) rfl (by decide) (evl_cons (ev_name n2 (evl_nil (K.closed brk (by omega) _ (cmp_isnot (r := chk (quoted x (ways.take i) ++ [34, 121]) == closed brk) rfl ⟨_, rfl, ?_⟩))))) (hg := K.kn 11 (by decide))
      rw [hC, if_neg (by simp)]
      refine stTL_nil ?_
      refine stTL_cons (stT_if (ett_ev (evt_cmp (ev_call (k := 6) rfl (by decide) (evl_cons (ev_name mo' (evl_cons (ev_name m2' (evl_nil (K.inside _ _ (by omega) _ ?_)))))) (hg := K.kn 12 (by decide))))))
      refine ev_weaken (P := fun p => p = .list (strL (if 102 ∈ ways.take i then [] else oddOf x))) (ev_ifexp (evt_cmp (ev_str (ev_name mu' (cmp_ins (by decide) ⟨_, rfl, ?_⟩))))) ?_
      · rw [show ((Str.ofString "f").cps.toList : List Nat) = [102] from rfl, hasG_one]
        by_cases hf : 102 ∈ ways.take i
        · rw [if_pos (by simpa using hf)]
          exact ev_list (evl_nil ⟨by simp, by rw [if_pos hf]; rfl⟩)
        · rw [if_neg (by simpa using hf)]
          exact ev_name m1' (by rw [if_neg hf])
      rintro _ rfl
      rw [hN]
      refine cmp_nel (flat_strs _) ⟨_, rfl, ?_⟩
      rw [if_neg (by decide)]
      refine stTL_nil ?_
      refine stTL_cons (stT_if (ett_not (ett_ref (by decide) rfl (K.kn 7 (by decide)) (ev_name mo' ⟨_, rfl, K.refused _ (by omega) hH⟩) ?_)))
      rw [if_neg (by decide)]
      refine stTL_nil ?_
      exact stTL_nil ⟨rfl, rfl, m1', m2', m3', m4'⟩
  · obtain ⟨_, rfl, l1, l2, l3, l4⟩ := hJ
    exact stTL_weaken (sto_sub fun q hq => by
      simp only [List.mem_cons, List.not_mem_nil, or_false] at hq
      rcases hq with rfl | rfl <;> assumption) hk
end Mine
end

section
open PySem PySem.W PyProof.Rows
set_option maxRecDepth 100000
set_option linter.unusedVariables false
namespace Mine
abbrev JLetter (x : List Nat) (items : List PV) (i : Nat) (σ : Sto) (ow : Own) : Prop := items = strL (lettersOf x) ∧ ow = none ∧ σ.lookup (Str.ofString "sights") = some (.list (strL (sightsOf x))) ∧ σ.lookup (Str.ofString "letters") = some (.list (strL (lettersOf x))) ∧ σ.lookup (Str.ofString "text") = some (.str x)
set_option maxHeartbeats 8000000 in
theorem law_d {B : Base} {C : Addr} (K : Ctx1 B C) {x : List Nat} (htl : x.length ≤ 11) (h3 : ∀ l ∈ lettersOf x, ((sightsOf x).filter fun s => hasG l s).length % 2 ≠ 0) (hlast : Mine.inside x (lettersOf x) = (lettersOf x).filter fun l => !hasG l (sightOf x [109, 102])) (V : Addr → Prop) :
    StTL B 12 (rc 13).scope V [(Str.ofString "letters", .list (strL (lettersOf x))), (Str.ofString "text", .str x)] none ((rc 13).body.drop 10) (fun φ _ _ => φ = .ret (.bool true)) := by
  conv => arg 7; whnf
  refine stTL_cons (stT_of (st_compC rfl (compOk_of (σ' := [(Str.ofString "text", .str x)]) (cap1 (look_ne rfl look_eq) rfl rfl) rfl rfl) (it_val (ev_tuple (evl_cons (ev_str (evl_cons (ev_str (evl_cons (ev_str (evl_nil ⟨by simp, _, rfl, ?_⟩)))))))))))
  refine ⟨by simp, (sightsOf x).map (fun s => some (.str s)), by simp [sightsOf], ?_, ?_⟩
  · refine map_turns (L := [[], [102], [109, 102]]) (f := PV.str) (g := fun w => some (.str (sightOf x w))) fun w hw' => ?_
    have hw : w.length ≤ 3 := by simp at hw'; rcases hw' with rfl | rfl | rfl <;> simp
    have hq := quoted_len x w
    have h2 : 2 ^ w.length ≤ 2 ^ 3 := Nat.pow_le_pow_right (by decide) hw
    have h3 : x.length * 2 ^ w.length ≤ 11 * 2 ^ 3 := Nat.mul_le_mul htl h2
    refine compEl0 rfl (loc1 rfl) (ev_call (k := 6) rfl (by decide) (evl_cons (ev_bin (ev_call (k := 2) rfl (by decide) (evl_cons (ev_name rfl (evl_cons (ev_name rfl (evl_nil (K.quoted x w (by omega) hw _ (ev_str (op_adds ?_ (evl_nil (K.strip _ ?_ _ rfl)))))))))) (hg := K.kn 5 (by decide))))) (hg := K.kn 1 (by decide)))
    · show _ + 2 ≤ _; omega
    · show (quoted x w ++ [34, 121]).length ≤ 900; simp; omega
  · rw [some_map (fun s => PV.str s)]
    show StTL B 12 (rc 13).scope V ((Str.ofString "sights", .list (strL (sightsOf x))) :: _) none _ _
    refine stTL_cons (stT_for (JLetter x)
      (it_val (ev_name (look_ne rfl look_eq) ⟨_, rfl, ⟨rfl, rfl, rfl, rfl, rfl⟩, fun i σ' ow' hJ => ?_, fun i p σ' ow' hp hJ => ?_, fun σ' ow' hJ => ?_⟩)))
    · rw [hJ.2.1]; exact SameO.none
    · obtain ⟨_, rfl, l1, l2, l3⟩ := hJ
      rw [List.getElem?_map] at hp
      obtain ⟨l, hl, rfl⟩ := Option.map_eq_some_iff.mp hp
      have hm : l ∈ lettersOf x := List.mem_of_getElem? hl
      have hne : 0 < l.length := by obtain ⟨_, c, rfl, _⟩ := letters_at hm; simp
      refine as_name (putsC rfl) ?_
      refine stTL_cons (stT_if (ett_ev (evt_cmp (ev_bin (ev_bcall rfl K.len rfl (evl_cons (ev_comp (compOk_of (σ' := [(Str.ofString "letter", .str l)]) (cap1 look_eq rfl rfl) rfl rfl) (it_val (ev_name (look_ne rfl l1) ⟨_, rfl, ?_⟩)))))))))
      refine ⟨by simp [sightsOf], (sightsOf x).map (fun s => if hasG l s = true then some (.str s) else none), by simp, map_turns fun s hs => ⟨_, rfl, loc1 rfl, evt_cmp (ev_name rfl (ev_name rfl (cmp_ins hne ⟨_, rfl, ?_⟩)))⟩, ?_⟩
      · by_cases h : hasG l s = true
        · rw [if_pos h, if_pos h]; exact ev_name rfl rfl
        · rw [if_neg h, if_neg h]
      · rw [filt_map (fun s => hasG l s) (fun s => PV.str s)]
        refine evl_nil (bi_len_list (by rw [List.length_map]; exact Nat.le_trans (List.length_filter_le _ _) (by simp [sightsOf])) (ev_int (op_mod (by decide) (ev_int (cmp_eqi ⟨_, rfl, ?_⟩)))))
        rw [List.length_map, par_fmod]
        have := h3 l hm
        rw [if_neg (by simp; omega)]
        exact stTL_nil (stTL_nil ⟨rfl, rfl, look_ne rfl l1, look_ne rfl l2, look_ne rfl l3⟩)
    · obtain ⟨_, rfl, l1, l2, l3⟩ := hJ
      refine stTL_cons (stT_of (st_return (ev_cmp (ev_call (k := 6) rfl (by decide) (evl_cons (ev_name l3 (evl_cons (ev_name l2 (evl_nil (K.inside x _ (by omega) _ ?_)))))) (hg := K.kn 12 (by decide))))))
      refine ev_comp (compOk_of (σ' := [(Str.ofString "sights", .list (strL (sightsOf x)))]) (cap1 l1 rfl rfl) rfl rfl) (it_val (ev_name l2 ⟨_, rfl, ?_⟩))
      refine ⟨?_, (lettersOf x).map (fun l => if (!hasG l (sightOf x [109, 102])) = true then some (.str l) else none), by simp, map_turns fun l hl => ⟨_, rfl, loc1 rfl, evt_cmp (ev_name rfl (ev_sub (ev_name rfl (ev_int (sub_list (p := .str (sightOf x [109, 102])) (by decide) (by decide) rfl (cmp_nins ?_ ⟨_, rfl, ?_⟩))))))⟩, ?_⟩
      · unfold lettersOf; simp only [List.length_map]; have := List.length_filter_le (fun c => decide (c ∈ abcL)) x; omega
      · obtain ⟨_, c, rfl, _⟩ := letters_at hl; simp
      · by_cases h : (!hasG l (sightOf x [109, 102])) = true
        · rw [if_pos h, if_pos h]; exact ev_name rfl rfl
        · rw [if_neg h, if_neg h]
      · rw [filt_map (fun l => !hasG l (sightOf x [109, 102])) (fun l => PV.str l), hlast]
        exact cmp_eql (flat_strs _) rfl
end Mine
end

section
open PySem PySem.W PyProof.Rows
set_option maxRecDepth 100000
set_option linter.unusedVariables false
namespace Mine
section
variable {B : Base} {n : Nat} {sc : Scope} {f : Str} {params : Arguments} {body : List Stmt}
theorem stLC_tok {M : Model} {A : Around} {E : Value → Shared → Prop} {s₀ s : Shared} {m cm : Str → Option Value} {env : Env} {n : Str} {v : Value} {Q : Unit → Shared → Prop} (x : InCallC s₀ env.locals m env.cells cm s) (hk : env.scope.kind = .function) (hl : env.kindOf n = some .local)
    (h : ∀ s', InCallC s₀ env.locals (fun y => if y = n then some v else m y) env.cells cm s' → 1 ≤ s'.toks → Q () s') : wpAny M A (storeName env n v) Q E s := by
  refine wpAny_storeName_local hl x.toInCall.ns (fun h' hn' hs' => h _ ⟨⟨?_, hn', fun b o e => ?_, x.toInCall.fresh⟩, fun k c hc => ?_, x.apart, x.above⟩ (Nat.succ_le_succ (Nat.zero_le _))) (by rw [hk]; rfl)
  · obtain ⟨h₁, tk, rfl⟩ := x.toInCall.same
    exact ⟨h', _, rfl⟩
  · exact hs'.extBut b o (Nat.ne_of_lt (Nat.lt_of_lt_of_le (Heap.lt_size e) x.toInCall.fresh)) (x.toInCall.keep b o e)
  · exact (x.cell k c hc).sameBut hs' (Nat.ne_of_gt (x.above k c (mem_of_lookup hc)))
theorem newEnv1 {M : Model} {A : Around} {E : Value → Shared → Prop} {s : Shared} {scope : Scope} {globals : Addr} {x : Str} {v : Value} {qual : Str} {func : Option Addr} {code : Value} {builtins : Addr} {Q : Env → Shared → Prop}
    (hk : scope.kind = .function) (hx : scope.names.lookup x = some .local)
    (hQ : ∀ env, env = newEnv scope s.heap.objs.size globals (cellsFrom (s.heap.objs.size + 1) scope.names []) qual func code none builtins →
      ∀ s', InCallC s env.locals (bindL env.kindOf [(x, v)] fun _ => none) env.cells (bindC env.kindOf [(x, v)] fun _ => none) s' → 1 ≤ s'.toks → Q env s') :
    wpAny M A (newFunctionEnv scope globals [] [(x, v)] qual func code none builtins) Q E s := by
  simp only [newFunctionEnv, Option.isSome_none, Bool.false_eq_true, if_false]
  refine wpAny_bind (wpAny_alloc ?_)
  refine wpAny_bind (wpAny_layCells _ (fun name kind cells => by cases hkc : kind == NameKind.cell <;> simp [hkc]) _ _ _ _ ?_)
  have ok := cellsFrom_ok scope.names (s.heap.push { cls := .type "frame", data := .dict #[] }) (s.heap.objs.size + 1) [] ⟨fun _ _ hm => (nomatch hm), List.Pairwise.nil⟩ (by rw [Heap.size_push]; exact Nat.le_refl _)
  rw [Heap.size_push] at ok
  rw [show ({ s with heap := s.heap.push { cls := .type "frame", data := .dict #[] } } : Shared).heap.objs.size = s.heap.objs.size + 1 from Heap.size_push ..]
  rw [List.forIn_cons]
  have hl : (newEnv scope s.heap.objs.size globals (cellsFrom (s.heap.objs.size + 1) scope.names []) qual func code none builtins).kindOf x = some .local := hx
  refine wpAny_bind (wpAny_bind (wpAny_bind (stLC_tok (s₀ := s) (env := newEnv scope s.heap.objs.size globals (cellsFrom (s.heap.objs.size + 1) scope.names []) qual func code none builtins) (m := fun _ => none) (cm := fun _ => none)
    ⟨⟨⟨_, _, rfl⟩, (Heap.Ns.new s.heap (.type "frame")).keeps (pushCells_keeps _ _), fun b o e => pushCells_keeps _ _ b o (Heap.get?_push_of_some _ e), Nat.le_refl _⟩,
      fun n c hc => (ok.empty n c (mem_of_lookup hc)).1, ok.apart, fun n c hm => (ok.empty n c hm).2⟩ hk hl fun s' x' ht => wpAny_pure ?_)))
  show wpAny M A (forIn ([] : List (Str × Value)) PUnit.unit _) _ _ _
  rw [List.forIn_nil]
  refine wpAny_pure (wpAny_pure (hQ _ rfl s' ?_ ht))
  unfold bindL bindC
  rw [if_pos hl, if_pos hl]
  exact x'
theorem law_def {nm : Str} {p₀ : PV} (D : DefIn B f params body sc)
    (hbind : ∀ pm code doc v, bindArgs (Calls.docDef f params body sc pm code doc) ⟨[v], []⟩ = pure [(nm, v)])
    (hkind : sc.names.lookup nm = some .local)
    (hk : sc.kind = .function) (hco : sc.isCoroutine = false) (hgen : sc.isGenerator = false) (hfree : ∀ x, sc.names.lookup x ≠ some .free)
    (h : ∀ V, StTL B n sc V [(nm, p₀)] none body fun φ _ _ => φ = .ret (.bool true)) {a : Addr} (ha : B.mg f = some (.ref a)) {A : Around} {U : Addr → Prop} {s : Shared} {v : Value} (hR : Room (n + 1) true A) (hfr : A.frames = some []) (good : B.Good) (keep₀ : ∀ b o, B.h₀.get? b = some o → s.heap.get? b = some o) (bare₀ : PyProof.Rows.AllBare s.gens) (alive₀ : ∀ a, U a → (s.heap.get? a).isSome = true) (rv : Rep s.heap U p₀ v) :
    codeAny (model B.prog B.w) A (.call (.ref a) ⟨[v], []⟩) (fun r s' => r = .ok (.ret (.bool true)) ∧ Ext0 s s') s := by
  obtain ⟨a', o, pm, code, doc, h1, h2, h3, h4⟩ := D.ex
  rw [ha] at h1; cases h1
  have room' : A.depth < recursionLimit := hR.lt
  refine codeAny_call_function room' (keep₀ _ _ h2) h3 hco hgen rfl (h4.keeps keep₀) ?_
  rw [hbind pm code doc v]
  refine wpAny_pure (wpAny_mono (wpAny_toks (newEnv1 hk hkind (Q := fun env s' => env = callEnvC (Calls.docDef f params body sc pm code doc) s.heap.objs.size a ∧ InCallC s env.locals (bindL env.kindOf [(nm, v)] fun _ => none) env.cells (bindC env.kindOf [(nm, v)] fun _ => none) s' ∧ 1 ≤ s'.toks) fun env he s' x ht => ⟨he, x, ht⟩)) ?_ fun _ _ e => e.2)
  rintro env s₁ ⟨tk, he, ic, ht1⟩
  subst he
  generalize hen : callEnvC (Calls.docDef f params body sc pm code doc) s.heap.objs.size a = env at ic ⊢
  have henv : env.locals = s.heap.objs.size ∧ env.scope = sc ∧ env.globals = mainGlobals ∧ env.builtins = builtinsNs ∧ env.cells = cellsFrom (s.heap.objs.size + 1) sc.names [] ∧ env.frame = some env.locals := by subst hen; exact ⟨rfl, rfl, rfl, rfl, rfl, rfl⟩
  obtain ⟨e1, e2, e3, e4, e5, e6⟩ := henv
  have hE : EnvOk sc env := ⟨e2, hk, e3, e4⟩
  have kk := ic.toInCall.keep
  have x₁ : Ext0 s s₁ := by
    obtain ⟨h', tk', rfl⟩ := ic.toInCall.same
    exact .of_heap0 kk tk
  have ok₁ : Ok B U s₁ := ⟨good, fun b o e => x₁.k0 b o (keep₀ b o e), x₁.bare bare₀, fun a h => by
    obtain ⟨o, ho⟩ := Option.isSome_iff_exists.mp (alive₀ a h)
    rw [x₁.k0 a o ho]; rfl, ht1⟩
  have noneL : s.heap.get? env.locals = none := by rw [e1]; exact get?_size _
  have noneC : ∀ x c, env.cells.lookup x = some c → s.heap.get? c = none := fun x c hc => by
    have := ic.above x c (mem_of_lookup hc)
    exact get?_ge (by rw [e1] at this; exact Nat.le_of_lt this)
  have mineNone : ∀ c, MineA env none c → s.heap.get? c = none := fun c hc => by
    rcases hc with rfl | ⟨x, _, hx⟩ | ⟨_, _, e⟩
    · exact noneL
    · exact noneC x c hx
    · cases e
  have avU : Av U none = U := funext fun c => propext ⟨(fun h => h.elim id (fun ⟨_, _, e⟩ => (nomatch e))), Or.inl⟩
  have rv₁ := rv.keep x₁.k0
  have h0n : ∀ {a : Addr}, s.heap.get? a = none → B.h₀.get? a = none := fun {a} h => by
    cases e : B.h₀.get? a with
    | none => rfl
    | some o => rw [keep₀ a o e] at h; cases h
  have hone : ∀ {x : Str} {p : PV}, List.lookup x [(nm, p₀)] = some p → x = nm ∧ p = p₀ := fun {x p} e => by
    rw [List.lookup_cons] at e
    cases hxy : x == nm with
    | true => rw [hxy] at e; cases e; exact ⟨beq_iff_eq.mp hxy, rfl⟩
    | false => rw [hxy] at e; cases e
  have inv : Inv B env U [(nm, p₀)] none s₁ := by
    refine ⟨(by rw [avU]; exact ok₁), ⟨_, ic.toInCall.ns, fun x p hx hxl => ?_, fun _ _ _ e => nomatch e⟩, fun x hx => ?_, fun x p hx => ?_, fun x y c hx hy g1 g2 => name_of_addr ic.apart (mem_of_lookup g1) (mem_of_lookup g2), fun c hc => h0n (mineNone c hc), fun c hc hm => ?_⟩
    · obtain ⟨rfl, rfl⟩ := hone hx
      refine ⟨v, ?_, (by rw [avU]; exact rv₁)⟩
      rw [bindL_lookup _ _ _ _ hxl]; simp
    · have hxs : sc.names.lookup x = some .cell := by rw [← hE.kindOf]; exact hx
      obtain ⟨c, hc⟩ := Option.isSome_iff_exists.mp (cells_some (x := x) sc.names (s.heap.objs.size + 1) [] hxs)
      rw [← e5] at hc
      refine ⟨c, _, hc, ic.cell x c hc, fun p hp => ?_⟩
      obtain ⟨rfl, rfl⟩ := hone hp
      rw [hkind] at hxs; cases hxs
    · obtain ⟨rfl, rfl⟩ := hone hx
      rw [hE.kindOf]; exact .inl hkind
    · have := alive₀ c hc
      rw [mineNone c hm] at this; cases this
  refine ⟨(good.nolimit.keeps keep₀).keeps kk, codeAny_func ?_⟩
  have hR' : Room n true (A.deeper env) := ⟨by show A.depth + 1 + n ≤ 900; have := hR.depth; omega, by show A.units + 3 + 50 * n ≤ 9000; have := hR.units; omega, hR.hand⟩
  refine wpAny_mono' (h U (A.deeper env) env s₁ _ hR' (Around.frames_deeper hfr) e6 hE inv) ?_
  rintro fl s' ⟨φ, σ', ow', rfl, hf, hi, x, g⟩
  cases fl with
  | ret u =>
    have hv := rep_bool.mp (show Rep s'.heap U (.bool true) _ from hf)
    subst hv
    exact ⟨rfl, x₁.trans x fun c hc => .inr (mineNone c hc)⟩
  | _ => cases hf
theorem reps_of_ints {h : Heap} {U : Addr → Prop} : ∀ {vs : List Value} {ns : List Int}, IntsAre vs ns → Reps h U (ns.map .int) vs
  | _, _, .nil => .nil
  | _, _, .cons n t r => .cons (rep_int.mpr ⟨t, rfl⟩) (reps_of_ints r)
end
def ent (P : Params) (n : String) (t : Tok) (v : Value) : DictEntry := { hash := PyData.keyHash P (Str.ofString n), key := Value.str (Str.ofString n) t, val := v }
def heapS (P : Params) : Frag := [(3, { cls := Value.type "dict", data := Data.dict #[ent P "__name__" 165 (Value.str (Str.ofString "law_pu0005_01") 270), ent P "__doc__" 166 (Value.none), ent P "__package__" 167 (Value.none), ent P "__loader__" 168 (Value.builtin "__main__.__loader__#opaque"), ent P "__spec__" 169 (Value.none), ent P "__annotations__" 170 (Value.ref 6), ent P "__builtins__" 171 (Value.ref 4), ent P "__file__" 173 (Value.str (Str.ofString "/claim/cut.py") 172), ent P "__cached__" 174 (Value.none), ent P "_iter_escaped_chars" 198 (Value.ref 21), ent P "_strip_quoted_realnames" 210 (Value.ref 28), ent P "_check_parenthesis" 220 (Value.ref 35), ent P "Error" 242 (Value.ref 45), ent P "error_reply" 258 (Value.ref 58), ent P "parse257" 269 (Value.ref 67), ent P "_law_sign" 279 (Value.ref 74), ent P "_law_quoted" 288 (Value.ref 81), ent P "_law_off" 301 (Value.ref 88), ent P "_law_refused" 309 (Value.ref 95), ent P "_law_row" 317 (Value.ref 102), ent P "_law_units" 323 (Value.ref 107), ent P "_law_seen" 329 (Value.ref 112), ent P "_law_closed" 336 (Value.ref 119), ent P "_law_inside" 342 (Value.ref 124), ent P "law" 348 (Value.ref 129)] 25 }),
  (44, { cls := Value.type "dict", data := Data.dict #[ent P "__module__" 230 (Value.str (Str.ofString "cpy313.ftplib") 221), ent P "__firstlineno__" 234 (Value.int 45 233), ent P "__static_attributes__" 235 (Value.ref 43), ent P "__weakref__" 237 (Value.ref 46), ent P "__doc__" 238 (Value.none)] 3 }),
  (45, { cls := Value.type "type", data := Data.cls { name := Str.ofString "Error", bases := [Value.type "Exception"], mro := [Value.ref 45, Value.type "Exception", Value.type "BaseException", Value.type "object"], ns := 44, qualname := Str.ofString "Error", subclasses := [Value.ref 58] }, slots := #[some (Value.ref 36), none, some (Value.str (Str.ofString "Error") 223), some (Value.str (Str.ofString "Error") 231), some (Value.builtin "Exception.__new__"), some (Value.bool true)] }),
  (57, { cls := Value.type "dict", data := Data.dict #[ent P "__module__" 250 (Value.str (Str.ofString "cpy313.ftplib") 221), ent P "__firstlineno__" 254 (Value.int 47 253), ent P "__static_attributes__" 255 (Value.ref 56), ent P "__doc__" 256 (Value.none)] 2 }),
  (58, { cls := Value.type "type", data := Data.cls { name := Str.ofString "error_reply", bases := [Value.ref 45], mro := [Value.ref 58, Value.ref 45, Value.type "Exception", Value.type "BaseException", Value.type "object"], ns := 57, qualname := Str.ofString "error_reply" }, slots := #[some (Value.ref 49), none, some (Value.str (Str.ofString "error_reply") 243), some (Value.str (Str.ofString "error_reply") 251), some (Value.builtin "Exception.__new__"), some (Value.bool true)] })]
theorem rc_mem (k : Nat) (hk : k < 14) : rc k ∈ recsOf PySem.Challenge.pw_pu0005_01 := by
  unfold rc
  rw [List.getD_eq_getElem?_getD, List.getElem?_eq_getElem (show k < (recsOf PySem.Challenge.pw_pu0005_01).length from hk)]
  exact List.getElem_mem _
theorem isTop {p : Program} {loose : List Str} {mean : ExcName → Option Value} {mg mb : Str → Option Value} {h : Heap} {K : Frag} (KX : K.In h) (T : Top p loose mean mg mb h) {prog : Program} {w : World} {f : Str} {v : Value} (h1 : nsIn K mainGlobals f = some none) (h2 : bootBuiltins f = some v) (h3 : f ≠ "__name__") : Blt ⟨prog, w, h, mg, mb⟩ f v :=
  ⟨mg_none_of KX T.g h1, (T.builtins f h3).trans h2⟩
end Mine
set_option maxHeartbeats 8000000 in
theorem PySem.Challenge.cw_pu0005_01_holds : PySem.Challenge.rw_pu0005_01.Holds := by
  w_on
  o_law
  o_head (kHook Mine.heapS [3, 44, 45, 57, 58] (fun _ => rfl))
  case hw => w_witness2
  intro w s0 s1 mg mb G Y fa o pm cd doc dV kV ho hd hcd hD hmg hg args vals as hpre hlay hrd hwl hlo
  have KX := kIn_of Y
  refine Ground.open G ?_
  intro T B D TE TW
  wrow_args hpre hlay hrd hwl hlo
  refine enter_call ?_
  clear hd hcd hD
  rename_i script _ _ _ _ _ _ _ sa vs _ hL ra w1 r0 hI hr hc1 hc2
  have hlen : script.length ≤ 63 := by omega
  let BB : Mine.Base := ⟨PySem.Challenge.rw_pu0005_01.row.prog, w, s1.heap, mg, mb⟩
  have good : BB.Good := ⟨T.g, T.b, T.nolimit⟩
  have defs : ∀ k, k < 14 → Mine.DI BB k := fun k hk => by
    obtain ⟨a, o, pm, code, doc, h1, h2, h3, h4⟩ := T.fn (Mine.rc k) (Mine.rc_mem k hk)
    exact ⟨a, o, pm, code, doc, h1, h2, h3, h4⟩
  have K : Mine.Ctx1 BB 58 := by
    refine ⟨fun k hk => defs k (by omega), ?_, ?_, ?_, ?_, ?_, ?_, ?_, ?_⟩
    · exact Mine.isTop KX T rfl rfl (by decide)
    · exact Mine.isTop KX T rfl rfl (by decide)
    · exact Mine.isTop KX T rfl rfl (by decide)
    · exact Mine.isTop KX T rfl rfl (by decide)
    · exact Mine.isTop KX T rfl rfl (by decide)
    · exact Mine.isTop KX T rfl rfl (by decide)
    · exact Mine.isTop KX T rfl rfl (by decide)
    · have hC58 : mg (Str.ofString "error_reply") = some (.ref 58) := mg_of KX T.g rfl
      obtain ⟨C, O, _⟩ := T.ownAt (x := Str.ofString "error_reply") (newId := "Exception.__new__") (bm := [.type "Exception", .type "BaseException", .type "object"]) rfl
      replace O := O.own
      obtain rfl : C = 58 := by have := O.bound; rw [hC58] at this; cases this; rfl
      obtain ⟨hb, bm, N, nm, q, bs, hdct, sn, sub, ab, col, dd, k0, k1, k2, k3, k5, mN, hC, hN, hi, hT⟩ := O
      exact ⟨⟨nm, q, N, bs, bm, hdct, sn, sub, ab, col, dd, k0, k1, k2, k3, k5, mN, hb, hC, hN, hi, hT⟩, fun M => looks_findIn KX rfl⟩
  have F := Mine.facts_all script
  have hmg' : BB.mg (Mine.rc 13).name = some (.ref fa) := hmg
  refine codeAny_mono (Mine.law_def (n := 12) (nm := Str.ofString "script") (p₀ := .list (script.map .int)) (defs 13 (by decide)) (fun pm code doc v => rfl) rfl rfl rfl rfl (Mine.nofree rfl) (fun V => ?_) hmg' (U := fun _ => False) (s := s1) ⟨by decide, by decide, fun _ => rfl⟩ rfl good (fun _ _ e => e) (fun y hy => by rw [hg] at hy; simp at hy) (fun _ h => h.elim) ?_) ?_
  · refine Mine.law_a K script (by omega) (Mine.textOf_len script) V ?_
    refine Mine.law_b K (Mine.textOf_len script) F.units F.plain V ?_
    refine Mine.law_c K (Mine.textOf_len script) (Mine.waysOf_ok _).1 (Mine.waysOf_ok _).2 F V ?_
    exact Mine.law_d K (Mine.textOf_len script) F.three F.last V
  · exact Mine.rep_list.mpr ⟨_, vs, rfl, id, hL, Mine.reps_of_ints hI⟩
  · rintro r s' ⟨rfl, x⟩
    exact ⟨.inl ⟨.bool true, .bool true, [], rfl, fun _ => rfl, .bool true, by with_unfolding_all rfl, fun _ => ⟨.nil, fun a h => nomatch h⟩⟩, .of_keep x.k0, x.os, x.bare (fun y hy => by rw [hg] at hy; simp at hy)⟩
end
