import PyProof.Rows.All
import Wide.All
import OpenK.AllK
import Wide.FinOn
import PySem.Challenge.RW_rs0080_01
set_option maxRecDepth 100000
set_option Elab.async false
set_option linter.unusedVariables false
set_option linter.unusedSimpArgs false

namespace Mine
open PySem PyProof.Rows PySem.W PySem.Calls

/-- plain data -/
inductive D where
  | none
  | bool (b : Bool)
  | int (i : Int)
  | str (x : Str)
  | list (l : List D)
  | tuple (l : List D)

mutual
/-- the heap lays the data at the value, outside W -/
def Lay (W : Addr → Prop) (h : Heap) : D → Value → Prop
  | .none, v => v = .none
  | .bool b, v => v = .bool b
  | .int i, v => ∃ t, v = .int i t
  | .str x, v => ∃ t, v = .str x t
  | .list l, v => ∃ a its, v = .ref a ∧ ¬ W a ∧ PlainL h a its ∧ LayL W h l its.toList
  | .tuple l, v => ∃ a its, v = .ref a ∧ ¬ W a ∧ h.IsTuple a its ∧ LayL W h l its.toList
def LayL (W : Addr → Prop) (h : Heap) : List D → List Value → Prop
  | [], vs => vs = []
  | d :: l, vs => ∃ v r, vs = v :: r ∧ Lay W h d v ∧ LayL W h l r
end

/-- what a data's places ask of two heaps and two sets -/
def Carry (W W' : Addr → Prop) (h h' : Heap) : Prop :=
  ∀ a o xs n, h.get? a = some o → o.data = .seq xs n → ¬ W a → h'.get? a = some o ∧ ¬ W' a

mutual
theorem Lay.carry {W W' : Addr → Prop} {h h' : Heap} (C : Carry W W' h h') : ∀ (d : D) (v : Value), Lay W h d v → Lay W' h' d v
  | .none, _, H => by simpa [Lay] using H
  | .bool _, _, H => by simpa [Lay] using H
  | .int _, _, H => by simpa [Lay] using H
  | .str _, _, H => by simpa [Lay] using H
  | .list l, v, H => by
    simp only [Lay] at H ⊢
    obtain ⟨a, its, e, hw, ⟨o, n, ho, hc, hd, hs⟩, hl⟩ := H
    obtain ⟨q1, q2⟩ := C a o its n ho hs hw
    exact ⟨a, its, e, q2, ⟨o, n, q1, hc, hd, hs⟩, LayL.carry C l _ hl⟩
  | .tuple l, v, H => by
    simp only [Lay] at H ⊢
    obtain ⟨a, its, e, hw, ⟨o, ho, hc, n, hs⟩, hl⟩ := H
    obtain ⟨q1, q2⟩ := C a o its n ho hs hw
    exact ⟨a, its, e, q2, ⟨o, q1, hc, n, hs⟩, LayL.carry C l _ hl⟩
theorem LayL.carry {W W' : Addr → Prop} {h h' : Heap} (C : Carry W W' h h') : ∀ (l : List D) (vs : List Value), LayL W h l vs → LayL W' h' l vs
  | [], _, H => by simpa [LayL] using H
  | d :: l, vs, H => by
    simp only [LayL] at H ⊢
    obtain ⟨v, r, e, h1, h2⟩ := H
    exact ⟨v, r, e, Lay.carry C d v h1, LayL.carry C l r h2⟩
end

/-- from state to state: all that stands outside X stays -/
structure Step (X : Addr → Prop) (s s' : Shared) : Prop where
  keep : ∀ a o, ¬ X a → s.heap.get? a = some o → s'.heap.get? a = some o
  os : s'.os = s.os
  bare : AllBare s.gens → AllBare s'.gens
  gsize : s.gens.size ≤ s'.gens.size
  gens : ∀ g, g < s.gens.size → s'.gens[g]? = s.gens[g]?

abbrev Grow := Step (fun _ => False)

theorem Step.refl (X : Addr → Prop) (s : Shared) : Step X s s := ⟨fun _ _ _ e => e, rfl, id, Nat.le_refl _, fun _ _ => rfl⟩
theorem Step.trans {X : Addr → Prop} {s s' s'' : Shared} (x : Step X s s') (y : Step X s' s'') : Step X s s'' :=
  ⟨fun a o n e => y.keep a o n (x.keep a o n e), y.os.trans x.os, y.bare ∘ x.bare, Nat.le_trans x.gsize y.gsize, fun g hg => (y.gens g (Nat.lt_of_lt_of_le hg x.gsize)).trans (x.gens g hg)⟩
theorem Step.mono {X Y : Addr → Prop} {s s' : Shared} (x : Step X s s') (h : ∀ a, X a → Y a) : Step Y s s' :=
  ⟨fun a o n e => x.keep a o (fun q => n (h a q)) e, x.os, x.bare, x.gsize, x.gens⟩
theorem Step.ofGrow {X : Addr → Prop} {s s' : Shared} (x : Grow s s') : Step X s s' := x.mono fun _ q => q.elim
theorem Step.heap {X : Addr → Prop} {s : Shared} {h' : Heap} {tk : Nat} (hk : ∀ a o, ¬ X a → s.heap.get? a = some o → h'.get? a = some o) : Step X s { s with heap := h', toks := tk } :=
  ⟨hk, rfl, id, Nat.le_refl _, fun _ _ => rfl⟩
theorem Grow.heap {s : Shared} {h' : Heap} {tk : Nat} (hk : ∀ a o, s.heap.get? a = some o → h'.get? a = some o) : Grow s { s with heap := h', toks := tk } := Step.heap fun a o _ e => hk a o e
theorem Grow.toks {s : Shared} {tk : Nat} : Grow s { s with toks := tk } := Grow.heap (h' := s.heap) fun _ _ e => e
theorem Grow.push {s : Shared} {o : Obj} {tk : Nat} : Grow s { s with heap := s.heap.push o, toks := tk } := Grow.heap fun _ _ e => Heap.get?_push_of_some _ e
theorem Grow.keep {s s' : Shared} (x : Grow s s') {a : Addr} {o : Obj} (e : s.heap.get? a = some o) : s'.heap.get? a = some o := Step.keep x a o id e

theorem Carry.grow {W : Addr → Prop} {s s' : Shared} (x : Grow s s') : Carry W W s.heap s'.heap := fun _ _ _ _ e _ hw => ⟨x.keep e, hw⟩
theorem Lay.grow {W : Addr → Prop} {s s' : Shared} {d : D} {v : Value} (H : Lay W s.heap d v) (x : Grow s s') : Lay W s'.heap d v := H.carry (Carry.grow x)
theorem LayL.grow {W : Addr → Prop} {s s' : Shared} {l : List D} {vs : List Value} (H : LayL W s.heap l vs) (x : Grow s s') : LayL W s'.heap l vs := H.carry (Carry.grow x)
theorem Lay.less {W W' : Addr → Prop} {h : Heap} {d : D} {v : Value} (H : Lay W h d v) (hw : ∀ a, W' a → W a) : Lay W' h d v := H.carry fun _ _ _ _ e _ n => ⟨e, fun q => n (hw _ q)⟩

/-- a local's slot -/
inductive Sl where
  | any
  | dat (d : D)
  | own (l : List D)
  | val (v : Value)

/-- the frame: where the code runs -/
structure Fx where
  prog : Program
  w : World
  h₁ : Heap
  A : Around
  env : Env
  W₀ : Addr → Prop
  names : List Str
  k : Nat

abbrev Fx.M (Γ : Fx) : Model := model Γ.prog Γ.w

/-- the frame's state: its names, the addresses of the lists that are being built -/
structure FS where
  m : Str → Option Value
  oa : Nat → Option Addr

def Forb (Γ : Fx) (φ : FS) (a : Addr) : Prop := Γ.W₀ a ∨ ∃ i, φ.oa i = some a
def Mut (Γ : Fx) (φ : FS) (a : Addr) : Prop := a = Γ.env.locals ∨ (∃ x, Γ.env.cells.lookup x = some a) ∨ ∃ i, φ.oa i = some a

structure Room (k : Nat) (A : Around) : Prop where
  handled : A.handled = none
  depth : A.depth + k < recursionLimit
  units : A.units + 8 * k < cLine

structure Fx.Ok (Γ : Fx) : Prop where
  kind : Γ.env.scope.kind = .function
  room : Room Γ.k Γ.A
  nodup : Γ.names.Nodup
  kinds : ∀ x ∈ Γ.names, Γ.env.kindOf x = some .local ∨ (Γ.env.kindOf x = some .cell ∧ ∃ c, Γ.env.cells.lookup x = some c)
  inj : ∀ x y c, Γ.env.cells.lookup x = some c → Γ.env.cells.lookup y = some c → x = y
  glob : Γ.env.globals = mainGlobals
  bltn : Γ.env.builtins = builtinsNs

def Var (Γ : Fx) (φ : FS) (h : Heap) (x : Str) (v : Value) : Prop :=
  (Γ.env.kindOf x = some .local ∧ φ.m x = some v) ∨ (Γ.env.kindOf x = some .cell ∧ ∃ c, Γ.env.cells.lookup x = some c ∧ h.IsCell c (some v))

def SlotOk (Γ : Fx) (φ : FS) (h : Heap) (i : Nat) (x : Str) : Sl → Prop
  | .any => True
  | .dat d => ∃ v, Var Γ φ h x v ∧ Lay (Forb Γ φ) h d v
  | .own l => ∃ a its, φ.oa i = some a ∧ Var Γ φ h x (.ref a) ∧ PlainL h a its ∧ LayL (Forb Γ φ) h l its.toList
  | .val v => Var Γ φ h x v

structure In (Γ : Fx) (ρ : List Sl) (φ : FS) (s : Shared) : Prop where
  ok : Γ.Ok
  old : ∀ a o, Γ.h₁.get? a = some o → s.heap.get? a = some o
  ns : s.heap.Ns Γ.env.locals φ.m
  nsNew : Γ.h₁.get? Γ.env.locals = none
  cells : ∀ x c, Γ.env.cells.lookup x = some c → (∃ v, s.heap.IsCell c v) ∧ Γ.h₁.get? c = none
  slots : ∀ i σ x, ρ[i]? = some σ → Γ.names[i]? = some x → SlotOk Γ φ s.heap i x σ
  inj : ∀ i j a, φ.oa i = some a → φ.oa j = some a → i = j
  own : ∀ i a, φ.oa i = some a → (∃ its, PlainL s.heap a its) ∧ Γ.h₁.get? a = none ∧ ¬ Γ.W₀ a
  w0 : ∀ a, Γ.W₀ a → ∃ o, s.heap.get? a = some o
  bare : AllBare s.gens

theorem Var.grow {Γ : Fx} {φ : FS} {s s' : Shared} {x : Str} {v : Value} (H : Var Γ φ s.heap x v) (g : Grow s s') : Var Γ φ s'.heap x v := by
  rcases H with H | ⟨hk, c, hc, o, ho, hd⟩
  · exact .inl H
  · exact .inr ⟨hk, c, hc, o, g.keep ho, hd⟩
theorem plainL_grow {s s' : Shared} {a : Addr} {its : Array Value} (H : PlainL s.heap a its) (g : Grow s s') : PlainL s'.heap a its :=
  let ⟨o, n, ho, r⟩ := H; ⟨o, n, g.keep ho, r⟩
theorem In.grow {Γ : Fx} {ρ : List Sl} {φ : FS} {s s' : Shared} (I : In Γ ρ φ s) (g : Grow s s') : In Γ ρ φ s' where
  ok := I.ok
  old := fun a o e => g.keep (I.old a o e)
  ns := let ⟨o, es, ep, ho, r⟩ := I.ns; ⟨o, es, ep, g.keep ho, r⟩
  nsNew := I.nsNew
  cells := fun x c e => let ⟨⟨v, o, ho, hd⟩, n⟩ := I.cells x c e; ⟨⟨v, o, g.keep ho, hd⟩, n⟩
  slots := fun i σ x hi hx => by
    have z := I.slots i σ x hi hx
    cases σ with
    | any => trivial
    | dat d => obtain ⟨v, h1, h2⟩ := z; exact ⟨v, h1.grow g, h2.grow g⟩
    | own l => obtain ⟨a, its, h1, h2, h3, h4⟩ := z; exact ⟨a, its, h1, h2.grow g, plainL_grow h3 g, h4.grow g⟩
    | val v => exact Var.grow z g
  inj := I.inj
  own := fun i a e => let ⟨⟨its, h⟩, n⟩ := I.own i a e; ⟨⟨its, plainL_grow h g⟩, n⟩
  w0 := fun a e => let ⟨o, h⟩ := I.w0 a e; ⟨o, g.keep h⟩
  bare := g.bare I.bare

/-- a tree that gives the data, all else staying -/
def Gives (Γ : Fx) (φ : FS) (t : Sem Value) (d : D) (s : Shared) : Prop :=
  ∀ (Q : Value → Shared → Prop) (E : Value → Shared → Prop), (∀ v s', Grow s s' → Lay (Forb Γ φ) s'.heap d v → Q v s') → wpAny Γ.M Γ.A t Q E s

def EvT (Γ : Fx) (e : Expr) (ρ : List Sl) (d : D) : Prop := ∀ φ s, In Γ ρ φ s → Gives Γ φ (eval e Γ.env) d s

def TsT (Γ : Fx) (e : Expr) (ρ : List Sl) (b : Bool) : Prop := ∀ φ s, In Γ ρ φ s → ∀ (Q : Bool → Shared → Prop) (E : Value → Shared → Prop), (∀ s', Grow s s' → Q b s') → wpAny Γ.M Γ.A (isTrue e Γ.env (eval e Γ.env)) Q E s

section
variable {Γ : Fx} {ρ : List Sl} {pos : Pos}

theorem Ev.int {i : Int} {k : Nat} : EvT Γ (.Constant (.int i) k pos) ρ (.int i) := fun φ s _ Q E h => wpAny_Constant_int (h _ _ Grow.toks ⟨_, rfl⟩)
theorem Ev.str {x : Str} {k : Nat} : EvT Γ (.Constant (.str x) k pos) ρ (.str x) := fun φ s _ Q E h => wpAny_Constant_str (h _ _ Grow.toks ⟨_, rfl⟩)
theorem Ev.bool {b : Bool} {k : Nat} : EvT Γ (.Constant (.bool b) k pos) ρ (.bool b) := fun φ s _ Q E h => wpAny_Constant_bool (h _ _ (Step.refl _ _) rfl)
theorem Ev.none {k : Nat} : EvT Γ (.Constant .none k pos) ρ .none := fun φ s _ Q E h => wpAny_Constant_none (h _ _ (Step.refl _ _) rfl)

theorem load_var {φ : FS} {s : Shared} {x : Str} {v : Value} {Q : Value → Shared → Prop} {E : Value → Shared → Prop} (I : In Γ ρ φ s) (hv : Var Γ φ s.heap x v) (h : Q v s) : wpAny Γ.M Γ.A (loadName Γ.env x) Q E s := by
  rcases hv with ⟨hk, hm⟩ | ⟨hk, c, hc, hv⟩
  · exact wpAny_loadName_local I.ok.kind hk I.ns hm h
  · exact wpAny_loadName_cell I.ok.kind hk hc hv h

theorem Ev.var {x : Str} {d : D} (i : Nat) (hx : Γ.names[i]? = some x) (hi : ρ[i]? = some (.dat d)) (hd : (x == ("__debug__" : Str)) = false := by decide +kernel) : EvT Γ (.Name x pos) ρ d := by
  intro φ s I Q E h
  obtain ⟨v, hv, hl⟩ := I.slots i _ x hi hx
  exact wpAny_Name (load_var I hv (h _ _ (Step.refl _ _) hl)) hd

/-- two operands -/
theorem Ev.bin {l r : Expr} {op : Operator} {a b c : D} (h1 : EvT Γ l ρ a) (h2 : EvT Γ r ρ b)
    (hop : ∀ φ s va vb, In Γ ρ φ s → Lay (Forb Γ φ) s.heap a va → Lay (Forb Γ φ) s.heap b vb → Gives Γ φ (binaryOp op va vb) c s) : EvT Γ (.BinOp l op r pos) ρ c := by
  intro φ s I Q E h
  refine wpAny_BinOp (h1 φ s I _ _ fun va s1 g1 l1 => h2 φ s1 (I.grow g1) _ _ fun vb s2 g2 l2 => hop φ s2 va vb ((I.grow g1).grow g2) (l1.grow g2) l2 _ _ fun v s3 g3 l3 => h v s3 ((g1.trans g2).trans g3) l3)

theorem Ev.add {l r : Expr} {a b : Int} (h1 : EvT Γ l ρ (.int a)) (h2 : EvT Γ r ρ (.int b)) : EvT Γ (.BinOp l .Add r pos) ρ (.int (a + b)) :=
  Ev.bin h1 h2 fun φ s va vb _ ⟨_, ea⟩ ⟨_, eb⟩ Q E h => by subst ea eb; exact add_int (h _ _ Grow.toks ⟨_, rfl⟩)
theorem Ev.sub {l r : Expr} {a b : Int} (h1 : EvT Γ l ρ (.int a)) (h2 : EvT Γ r ρ (.int b)) : EvT Γ (.BinOp l .Sub r pos) ρ (.int (a - b)) :=
  Ev.bin h1 h2 fun φ s va vb _ ⟨_, ea⟩ ⟨_, eb⟩ Q E h => by subst ea eb; exact sub_int (h _ _ Grow.toks ⟨_, rfl⟩)
theorem Ev.mod {l r : Expr} {a b : Int} (h1 : EvT Γ l ρ (.int a)) (h2 : EvT Γ r ρ (.int b)) (hb : b ≠ 0 := by decide) : EvT Γ (.BinOp l .Mod r pos) ρ (.int (a.fmod b)) :=
  Ev.bin h1 h2 fun φ s va vb _ ⟨_, ea⟩ ⟨_, eb⟩ Q E h => by subst ea eb; exact mod_int hb (h _ _ Grow.toks ⟨_, rfl⟩)
theorem Ev.cat {l r : Expr} {a b : Str} (h1 : EvT Γ l ρ (.str a)) (h2 : EvT Γ r ρ (.str b)) (hs : a.length + b.length ≤ sizeLine) : EvT Γ (.BinOp l .Add r pos) ρ (.str (a ++ b)) :=
  Ev.bin h1 h2 fun φ s va vb _ ⟨_, ea⟩ ⟨_, eb⟩ Q E h => by subst ea eb; exact add_str (fun _ _ => h _ _ Grow.toks ⟨_, rfl⟩) hs
end
end Mine

namespace Mine
open PySem PyProof.Rows PySem.W PySem.Calls

/-- the lists that are being built: old ones, or made since -/
def Evo (φ φ' : FS) (s : Shared) : Prop := ∀ i a, φ'.oa i = some a → (∃ j, φ.oa j = some a) ∨ s.heap.get? a = none

theorem Evo.refl (φ : FS) (s : Shared) : Evo φ φ s := fun i a e => .inl ⟨i, e⟩
theorem Evo.less {φ φ' : FS} {s : Shared} (h : ∀ i a, φ'.oa i = some a → φ.oa i = some a) : Evo φ φ' s := fun i a e => .inl ⟨i, h i a e⟩

theorem seq_ne_dict {h : Heap} {a b : Addr} {o o' : Obj} {xs : Array Value} {n : Nat} {es : Array DictEntry} {ep : Nat} (h1 : h.get? a = some o) (h2 : o.data = .seq xs n) (h3 : h.get? b = some o') (h4 : o'.data = .dict es ep) : a ≠ b := by
  rintro rfl; rw [h1] at h3; cases h3; rw [h2] at h4; cases h4
theorem seq_ne_cell {h : Heap} {a b : Addr} {o o' : Obj} {xs : Array Value} {n : Nat} {v : Option Value} (h1 : h.get? a = some o) (h2 : o.data = .seq xs n) (h3 : h.get? b = some o') (h4 : o'.data = .cell v) : a ≠ b := by
  rintro rfl; rw [h1] at h3; cases h3; rw [h2] at h4; cases h4
theorem cell_ne_dict {h : Heap} {a b : Addr} {o o' : Obj} {v : Option Value} {es : Array DictEntry} {ep : Nat} (h1 : h.get? a = some o) (h2 : o.data = .cell v) (h3 : h.get? b = some o') (h4 : o'.data = .dict es ep) : a ≠ b := by
  rintro rfl; rw [h1] at h3; cases h3; rw [h2] at h4; cases h4

theorem nodup_idx {α : Type} {l : List α} (hn : l.Nodup) {i j : Nat} {x : α} (hi : l[i]? = some x) (hj : l[j]? = some x) : i = j := by
  obtain ⟨hl1, e1⟩ := List.getElem?_eq_some_iff.mp hi
  obtain ⟨hl2, e2⟩ := List.getElem?_eq_some_iff.mp hj
  have z := List.pairwise_iff_getElem.mp hn
  rcases Nat.lt_trichotomy i j with q | q | q
  · exact absurd (e1.trans e2.symm) (z i j hl1 hl2 q)
  · exact q
  · exact absurd (e2.trans e1.symm) (z j i hl2 hl1 q)

section
variable {Γ : Fx} {ρ ρ' : List Sl} {φ φ' : FS} {s s' : Shared}

/-- a data's place is none of the frame's own changing objects -/
theorem In.notMut (I : In Γ ρ φ s) {a : Addr} {o : Obj} {xs : Array Value} {n : Nat} (ho : s.heap.get? a = some o) (hd : o.data = .seq xs n) (hf : ¬ Forb Γ φ a) : ¬ Mut Γ φ a := by
  rintro (e | ⟨x, e⟩ | ⟨i, e⟩)
  · obtain ⟨oL, es, ep, hL, hLd, _⟩ := I.ns
    exact seq_ne_dict ho hd hL hLd e
  · obtain ⟨⟨v, oc, hc, hcd⟩, _⟩ := I.cells x a e
    exact seq_ne_cell ho hd hc hcd rfl
  · exact hf (.inr ⟨i, e⟩)

theorem In.carry (I : In Γ ρ φ s) (st : Step (Mut Γ φ) s s') (ev : Evo φ φ' s) : Carry (Forb Γ φ) (Forb Γ φ') s.heap s'.heap := by
  intro a o xs n ho hd hf
  refine ⟨st.keep a o (I.notMut ho hd hf) ho, ?_⟩
  rintro (q | ⟨i, q⟩)
  · exact hf (.inl q)
  · rcases ev i a q with ⟨j, e⟩ | e
    · exact hf (.inr ⟨j, e⟩)
    · rw [ho] at e; cases e

/-- two steps in a row -/
theorem In.then {s'' : Shared} {φ'' : FS} (I : In Γ ρ φ s) (st : Step (Mut Γ φ) s s') (ev : Evo φ φ' s) (I' : In Γ ρ' φ' s') (st' : Step (Mut Γ φ') s' s'') (ev' : Evo φ' φ'' s') : Step (Mut Γ φ) s s'' ∧ Evo φ φ'' s := by
  constructor
  · refine ⟨fun a o n e => st'.keep a o ?_ (st.keep a o n e), st'.os.trans st.os, st'.bare ∘ st.bare, Nat.le_trans st.gsize st'.gsize, fun g hg => (st'.gens g (Nat.lt_of_lt_of_le hg st.gsize)).trans (st.gens g hg)⟩
    rintro (q | q | ⟨i, q⟩)
    · exact n (.inl q)
    · exact n (.inr (.inl q))
    · rcases ev i a q with ⟨j, ej⟩ | ej
      · exact n (.inr (.inr ⟨j, ej⟩))
      · rw [e] at ej; cases ej
  · intro i a e
    rcases ev' i a e with ⟨j, ej⟩ | ej
    · exact ev j a ej
    · cases q : s.heap.get? a with
      | none => exact .inr rfl
      | some o =>
        left
        refine Classical.byContradiction fun nn => ?_
        have hm : ¬ Mut Γ φ a := by
          rintro (z | ⟨x, z⟩ | z)
          · obtain ⟨oL, _, _, hL, _⟩ := I'.ns
            rw [← z] at hL; rw [hL] at ej; cases ej
          · obtain ⟨⟨v, oc, hc, _⟩, _⟩ := I'.cells x a z
            rw [hc] at ej; cases ej
          · exact nn z
        rw [st.keep a o hm q] at ej; cases ej

/-- what a heap that differs at one place, a place of no data, leaves of a frame's facts -/
theorem In.changeX (I : In Γ ρ φ s) {i : Nat} {x : Str} {σ : Sl} {h' : Heap} {tk : Nat} (X : Addr → Prop) (hX : ∀ a, X a → Mut Γ φ a) (hx : Γ.names[i]? = some x)
    (hns : h'.Ns Γ.env.locals φ'.m) (hcell : ∀ y c, Γ.env.cells.lookup y = some c → ∃ v, h'.IsCell c v)
    (hkeepX : ∀ a o, ¬ X a → s.heap.get? a = some o → h'.get? a = some o)
    (hown : ∀ j a its, φ.oa j = some a → j ≠ i → PlainL s.heap a its → PlainL h' a its)
    (hoa : ∀ j, j ≠ i → φ'.oa j = φ.oa j) (hnew : ∀ a, φ'.oa i = some a → (φ.oa i = some a ∨ s.heap.get? a = none) ∧ (∃ its, PlainL h' a its) ∧ Γ.h₁.get? a = none ∧ ¬ Γ.W₀ a)
    (hvar : ∀ y v, y ≠ x → Var Γ φ s.heap y v → Var Γ φ' h' y v) (hslot : i < ρ.length → SlotOk Γ φ' h' i x σ) :
    In Γ (ρ.set i σ) φ' { s with heap := h', toks := tk } ∧ Step X s { s with heap := h', toks := tk } ∧ Evo φ φ' s := by
  have hkeep : ∀ a o, ¬ Mut Γ φ a → s.heap.get? a = some o → h'.get? a = some o := fun a o n e => hkeepX a o (fun q => n (hX a q)) e
  have ev : Evo φ φ' s := fun j a e => by
    by_cases hj : j = i
    · subst hj
      rcases (hnew a e).1 with q | q
      · exact .inl ⟨_, q⟩
      · exact .inr q
    · rw [hoa j hj] at e; exact .inl ⟨j, e⟩
  have st : Step (Mut Γ φ) s { s with heap := h', toks := tk } := Step.heap hkeep
  have C := I.carry st ev
  have newNe : ∀ j a, j ≠ i → φ'.oa i = some a → φ.oa j = some a → False := fun j a hj e e' => by
    rcases (hnew a e).1 with q | q
    · exact hj (I.inj j i a e' q)
    · obtain ⟨⟨its, o, n, ho, _⟩, _⟩ := I.own j a e'
      rw [ho] at q; cases q
  refine ⟨⟨I.ok, fun a o e => ?_, hns, I.nsNew, fun y c e => ⟨hcell y c e, (I.cells y c e).2⟩, fun j σ' y hj hy => ?_, fun j k a e1 e2 => ?_, fun j a e => ?_, fun a e => ?_, I.bare⟩, Step.heap hkeepX, ev⟩
  · refine hkeep a o ?_ (I.old a o e)
    rintro (q | ⟨z, q⟩ | ⟨j, q⟩)
    · rw [q, I.nsNew] at e; cases e
    · rw [(I.cells z a q).2] at e; cases e
    · rw [(I.own j a q).2.1] at e; cases e
  · by_cases hji : j = i
    · subst hji
      rw [hx] at hy; cases hy
      rw [List.getElem?_set] at hj
      simp only [if_true] at hj
      split at hj
      · cases hj; exact hslot (by assumption)
      · cases hj
    · rw [List.getElem?_set_ne (Ne.symm hji)] at hj
      have yx : y ≠ x := fun e => by
        subst e
        exact hji (nodup_idx I.ok.nodup hy hx)
      have z := I.slots j σ' y hj hy
      cases σ' with
      | any => trivial
      | dat d => obtain ⟨v, h1, h2⟩ := z; exact ⟨v, hvar y v yx h1, h2.carry C⟩
      | own l =>
        obtain ⟨a, its, h1, h2, h3, h4⟩ := z
        exact ⟨a, its, (hoa j hji).trans h1, hvar y _ yx h2, hown j a its h1 hji h3, h4.carry C⟩
      | val v => exact hvar y v yx z
  · by_cases hj : j = i
    · by_cases hk : k = i
      · rw [hj, hk]
      · subst hj; rw [hoa k hk] at e2; exact (newNe k a hk e1 e2).elim
    · by_cases hk : k = i
      · subst hk; rw [hoa j hj] at e1; exact (newNe j a hj e2 e1).elim
      · rw [hoa j hj] at e1; rw [hoa k hk] at e2; exact I.inj j k a e1 e2
  · by_cases hj : j = i
    · subst hj; exact (hnew a e).2
    · rw [hoa j hj] at e
      obtain ⟨⟨its, hp⟩, r⟩ := I.own j a e
      exact ⟨⟨its, hown j a its e hj hp⟩, r⟩
  · obtain ⟨o, ho⟩ := I.w0 a e
    by_cases hm : Mut Γ φ a
    · rcases hm with q | ⟨z, q⟩ | ⟨j, q⟩
      · obtain ⟨oL, _, _, hL, _⟩ := hns
        exact ⟨oL, by rw [q]; exact hL⟩
      · obtain ⟨v, oc, hc, _⟩ := hcell z a q
        exact ⟨oc, hc⟩
      · exact absurd e (I.own j a q).2.2
    · exact ⟨o, hkeep a o hm ho⟩

theorem In.change (I : In Γ ρ φ s) {i : Nat} {x : Str} {σ : Sl} {h' : Heap} {tk : Nat} (hx : Γ.names[i]? = some x)
    (hns : h'.Ns Γ.env.locals φ'.m) (hcell : ∀ y c, Γ.env.cells.lookup y = some c → ∃ v, h'.IsCell c v)
    (hkeep : ∀ a o, ¬ Mut Γ φ a → s.heap.get? a = some o → h'.get? a = some o)
    (hown : ∀ j a its, φ.oa j = some a → j ≠ i → PlainL s.heap a its → PlainL h' a its)
    (hoa : ∀ j, j ≠ i → φ'.oa j = φ.oa j) (hnew : ∀ a, φ'.oa i = some a → (φ.oa i = some a ∨ s.heap.get? a = none) ∧ (∃ its, PlainL h' a its) ∧ Γ.h₁.get? a = none ∧ ¬ Γ.W₀ a)
    (hvar : ∀ y v, y ≠ x → Var Γ φ s.heap y v → Var Γ φ' h' y v) (hslot : i < ρ.length → SlotOk Γ φ' h' i x σ) :
    In Γ (ρ.set i σ) φ' { s with heap := h', toks := tk } ∧ Step (Mut Γ φ) s { s with heap := h', toks := tk } ∧ Evo φ φ' s :=
  I.changeX _ (fun _ q => q) hx hns hcell hkeep hown hoa hnew hvar hslot

/-- where a name's store writes -/
def Tgt (Γ : Fx) (x : Str) (a : Addr) : Prop := (Γ.env.kindOf x = some .local ∧ a = Γ.env.locals) ∨ (Γ.env.kindOf x = some .cell ∧ Γ.env.cells.lookup x = some a)
theorem Tgt.mut {Γ : Fx} {φ : FS} {x : Str} {a : Addr} (h : Tgt Γ x a) : Mut Γ φ a := by
  rcases h with ⟨_, e⟩ | ⟨_, e⟩
  · exact .inl e
  · exact .inr (.inl ⟨x, e⟩)

def upd (m : Str → Option Value) (x : Str) (v : Value) : Str → Option Value := fun y => if y = x then some v else m y
def off (oa : Nat → Option Addr) (i : Nat) : Nat → Option Addr := fun j => if j = i then none else oa j
def put (oa : Nat → Option Addr) (i : Nat) (a : Addr) : Nat → Option Addr := fun j => if j = i then some a else oa j

/-- a name is stored: the general make -/
theorem store_fine (I : In Γ ρ φ s) {i : Nat} {x : Str} {σ : Sl} {v : Value} (oi : Option Addr) {Q : Unit → Shared → Prop} {E : Value → Shared → Prop} (hx : Γ.names[i]? = some x)
    (hnew : ∀ a, oi = some a → (φ.oa i = some a ∨ s.heap.get? a = none) ∧ (∀ h', (∀ b o xs n, s.heap.get? b = some o → o.data = .seq xs n → h'.get? b = some o) → ∃ its, PlainL h' a its) ∧ Γ.h₁.get? a = none ∧ ¬ Γ.W₀ a)
    (hslot : ∀ h' φ', φ'.oa = (fun j => if j = i then oi else φ.oa j) → Var Γ φ' h' x v → (∀ b o xs n, s.heap.get? b = some o → o.data = .seq xs n → h'.get? b = some o) → SlotOk Γ φ' h' i x σ)
    (h : ∀ φ' s', In Γ (ρ.set i σ) φ' s' → Step (Tgt Γ x) s s' → Evo φ φ' s → φ'.oa = (fun j => if j = i then oi else φ.oa j) → Q () s') : wpAny Γ.M Γ.A (storeName Γ.env x v) Q E s := by
  obtain ⟨oL, es, ep, hL, hLd, hLr⟩ := id I.ns
  have xm : x ∈ Γ.names := List.mem_of_getElem? hx
  rcases I.ok.kinds x xm with hk | ⟨hk, c, hc⟩
  · refine wpAny_storeName_local hk I.ns (fun h' hn hs => ?_) (by rw [I.ok.kind]; rfl)
    have seqs : ∀ b o xs n, s.heap.get? b = some o → o.data = .seq xs n → h'.get? b = some o := fun b o xs n hb hd => (hs.2 b (seq_ne_dict hb hd hL hLd)).trans hb
    have z := I.changeX (φ' := ⟨upd φ.m x v, fun j => if j = i then oi else φ.oa j⟩) (σ := σ) (h' := h') (tk := s.toks + 1) (Tgt Γ x) (fun _ q => q.mut) hx hn
      (fun y c e => by
        obtain ⟨⟨v', oc, ho, hd⟩, _⟩ := I.cells y c e
        exact ⟨v', oc, (hs.2 c (cell_ne_dict ho hd hL hLd)).trans ho, hd⟩)
      (fun a o hm e => (hs.2 a fun q => hm (.inl ⟨hk, q⟩)).trans e)
      (fun j a its _ _ hp => by
        obtain ⟨o, n, ho, h1, h2, h3⟩ := hp
        exact ⟨o, n, seqs a o its n ho h3, h1, h2, h3⟩)
      (fun j hj => by show (if j = i then oi else φ.oa j) = _; rw [if_neg hj])
      (fun a e => by
        have e' : oi = some a := by simpa using e
        obtain ⟨q1, q2, q3⟩ := hnew a e'
        exact ⟨q1, q2 h' seqs, q3⟩)
      (fun y v' hy hv => by
        rcases hv with ⟨k1, k2⟩ | ⟨k1, c, k2, oc, ho, hd⟩
        · exact .inl ⟨k1, by show (if y = x then some v else φ.m y) = _; rw [if_neg hy]; exact k2⟩
        · exact .inr ⟨k1, c, k2, oc, (hs.2 c (cell_ne_dict ho hd hL hLd)).trans ho, hd⟩)
      (fun _ => hslot h' _ rfl (.inl ⟨hk, by show (if x = x then some v else _) = _; rw [if_pos rfl]⟩) seqs)
    exact h _ _ z.1 z.2.1 z.2.2 rfl
  · obtain ⟨⟨v₀, hcv⟩, hc1⟩ := I.cells x c hc
    refine wpAny_storeName_cell I.ok.kind hk hc hcv fun h' hv hs => ?_
    obtain ⟨oc, hoc, hocd⟩ := id hcv
    have seqs : ∀ b o xs n, s.heap.get? b = some o → o.data = .seq xs n → h'.get? b = some o := fun b o xs n hb hd => (hs.2 b (seq_ne_cell hb hd hoc hocd)).trans hb
    have z := I.changeX (φ' := ⟨φ.m, fun j => if j = i then oi else φ.oa j⟩) (σ := σ) (h' := h') (tk := s.toks) (Tgt Γ x) (fun _ q => q.mut) hx
      ⟨oL, es, ep, (hs.2 _ (Ne.symm (cell_ne_dict hoc hocd hL hLd))).trans hL, hLd, hLr⟩
      (fun y c' e => by
        by_cases hcc : c' = c
        · subst hcc; exact ⟨_, hv⟩
        · obtain ⟨⟨v', oc', ho, hd⟩, _⟩ := I.cells y c' e
          exact ⟨v', oc', (hs.2 c' hcc).trans ho, hd⟩)
      (fun a o hm e => (hs.2 a fun q => hm (.inr ⟨hk, q ▸ hc⟩)).trans e)
      (fun j a its _ _ hp => by
        obtain ⟨o, n, ho, h1, h2, h3⟩ := hp
        exact ⟨o, n, seqs a o its n ho h3, h1, h2, h3⟩)
      (fun j hj => by show (if j = i then oi else φ.oa j) = _; rw [if_neg hj])
      (fun a e => by
        have e' : oi = some a := by simpa using e
        obtain ⟨q1, q2, q3⟩ := hnew a e'
        exact ⟨q1, q2 h' seqs, q3⟩)
      (fun y v' hy hv' => by
        rcases hv' with ⟨k1, k2⟩ | ⟨k1, c', k2, oc', ho, hd⟩
        · exact .inl ⟨k1, k2⟩
        · have : c' ≠ c := fun q => hy (I.ok.inj y x c (q ▸ k2) hc)
          exact .inr ⟨k1, c', k2, oc', (hs.2 c' this).trans ho, hd⟩)
      (fun _ => hslot h' _ rfl (.inr ⟨hk, c, hc, hv⟩) seqs)
    exact h _ _ z.1 z.2.1 z.2.2 rfl

/-- a name is stored: data, and what is written -/
theorem store_datF (I : In Γ ρ φ s) {i : Nat} {x : Str} {d : D} {v : Value} {Q : Unit → Shared → Prop} {E : Value → Shared → Prop} (hx : Γ.names[i]? = some x) (hl : Lay (Forb Γ φ) s.heap d v)
    (h : ∀ φ' s', In Γ (ρ.set i (.dat d)) φ' s' → Step (Tgt Γ x) s s' → Evo φ φ' s → φ'.oa = (fun j => if j = i then none else φ.oa j) → Q () s') : wpAny Γ.M Γ.A (storeName Γ.env x v) Q E s := by
  refine store_fine (σ := .dat d) I none hx (fun _ e => nomatch e) (fun h' φ' eo hv seqs => ⟨v, hv, ?_⟩) fun φ' s' I' st ev eo => h φ' s' I' st ev eo
  refine hl.carry fun a o xs n ho hd hf => ⟨seqs a o xs n ho hd, ?_⟩
  rintro (q | ⟨j, q⟩)
  · exact hf (.inl q)
  · rw [eo] at q
    by_cases hj : j = i
    · simp [hj] at q
    · simp [hj] at q; exact hf (.inr ⟨j, q⟩)

/-- a name is stored: data -/
theorem store_dat (I : In Γ ρ φ s) {i : Nat} {x : Str} {d : D} {v : Value} {Q : Unit → Shared → Prop} {E : Value → Shared → Prop} (hx : Γ.names[i]? = some x) (hl : Lay (Forb Γ φ) s.heap d v)
    (h : ∀ φ' s', In Γ (ρ.set i (.dat d)) φ' s' → Step (Mut Γ φ) s s' → Evo φ φ' s → Q () s') : wpAny Γ.M Γ.A (storeName Γ.env x v) Q E s := by
  exact store_datF I hx hl fun φ' s' I' st ev _ => h φ' s' I' (st.mono fun _ q => q.mut) ev
end
end Mine

namespace Mine
open PySem PyProof.Rows PySem.W PySem.Calls

inductive Out where
  | next (ρ : List Sl)
  | ret (d : D)

def Post (Γ : Fx) (φ : FS) (s : Shared) : Out → Flow → Shared → Prop
  | .next ρ', fl, s' => fl = .next ∧ ∃ φ', In Γ ρ' φ' s' ∧ Step (Mut Γ φ) s s' ∧ Evo φ φ' s
  | .ret d, fl, s' => ∃ v, fl = .ret v ∧ Lay Γ.W₀ s'.heap d v ∧ Step (Mut Γ φ) s s'

def StT (Γ : Fx) (st : Stmt) (ρ : List Sl) (o : Out) : Prop :=
  ∀ φ s, In Γ ρ φ s → ∀ (Q : Flow → Shared → Prop) (E : Value → Shared → Prop), (∀ fl s', Post Γ φ s o fl s' → Q fl s') → wpAny Γ.M Γ.A (exec st Γ.env) Q E s
def ExT (Γ : Fx) (ss : List Stmt) (ρ : List Sl) (o : Out) : Prop :=
  ∀ φ s, In Γ ρ φ s → ∀ (Q : Flow → Shared → Prop) (E : Value → Shared → Prop), (∀ fl s', Post Γ φ s o fl s' → Q fl s') → wpAny Γ.M Γ.A (execs ss Γ.env) Q E s

section
variable {Γ : Fx} {ρ ρ' : List Sl} {φ φ' : FS} {s s' : Shared} {o : Out} {pos : Pos}

/-- behind a step, what comes later -/
theorem Post.then {fl : Flow} {s'' : Shared} (I : In Γ ρ φ s) (st : Step (Mut Γ φ) s s') (ev : Evo φ φ' s) (I' : In Γ ρ' φ' s') (p : Post Γ φ' s' o fl s'') : Post Γ φ s o fl s'' := by
  cases o with
  | next ρ'' =>
    obtain ⟨e, φ'', I'', st', ev'⟩ := p
    have z := I.then st ev I' st' ev'
    exact ⟨e, φ'', I'', z.1, z.2⟩
  | ret d =>
    obtain ⟨v, e, hl, st'⟩ := p
    exact ⟨v, e, hl, (I.then st ev I' st' (Evo.refl _ _)).1⟩

theorem Ex.nil : ExT Γ [] ρ (.next ρ) := fun φ s I Q E h => wpAny_execs_nil (h _ _ ⟨rfl, φ, I, Step.refl _ _, Evo.refl _ _⟩)
theorem Ex.cons {st : Stmt} {ss : List Stmt} (h1 : StT Γ st ρ (.next ρ')) (h2 : ExT Γ ss ρ' o) : ExT Γ (st :: ss) ρ o := fun φ s I Q E h =>
  wpAny_execs_cons (h1 φ s I _ _ fun fl s' p => by
    obtain ⟨e, φ', I', st, ev⟩ := p
    subst e
    exact h2 φ' s' I' _ _ fun fl s'' p' => h fl s'' (Post.then I st ev I' p'))
theorem Ex.done {st : Stmt} {ss : List Stmt} {d : D} (h1 : StT Γ st ρ (.ret d)) : ExT Γ (st :: ss) ρ (.ret d) := fun φ s I Q E h =>
  wpAny_execs_cons (h1 φ s I _ _ fun fl s' p => by
    obtain ⟨v, e, r⟩ := id p
    subst e
    exact h _ _ p)

theorem In.weak (I : In Γ ρ φ s) (hw : ∀ (i : Nat) σ, ρ'[i]? = some σ → σ = .any ∨ ρ[i]? = some σ) : In Γ ρ' φ s :=
  { I with slots := fun i σ x hi hx => (hw i σ hi).elim (fun e => e ▸ trivial) fun e => I.slots i σ x e hx }
theorem Ex.weak {ss : List Stmt} (hw : ∀ (i : Nat) σ, ρ'[i]? = some σ → σ = .any ∨ ρ[i]? = some σ) (h : ExT Γ ss ρ' o) : ExT Γ ss ρ o := fun φ s I Q E k => h φ s (I.weak hw) Q E k

/-- a list that was being built is data from now on -/
theorem In.freeze (I : In Γ ρ φ s) {i : Nat} {l : List D} (hi : ρ[i]? = some (.own l)) {x : Str} (hx : Γ.names[i]? = some x) :
    ∃ φ', In Γ (ρ.set i (.dat (.list l))) φ' s ∧ Evo φ φ' s ∧ ∀ j, φ'.oa j = if j = i then none else φ.oa j := by
  have C : Carry (Forb Γ φ) (Forb Γ ⟨φ.m, fun j => if j = i then none else φ.oa j⟩) s.heap s.heap := by
    intro a o xs n ho hd hf
    refine ⟨ho, ?_⟩
    rintro (q | ⟨j, q⟩)
    · exact hf (.inl q)
    · by_cases hj : j = i
      · simp [hj] at q
      · simp [hj] at q; exact hf (.inr ⟨j, q⟩)
  refine ⟨⟨φ.m, fun j => if j = i then none else φ.oa j⟩, ⟨I.ok, I.old, I.ns, I.nsNew, I.cells, fun j σ y hj hy => ?_, fun j k a e1 e2 => ?_, fun j a e => ?_, I.w0, I.bare⟩, Evo.less fun j a e => ?_, fun _ => rfl⟩
  · by_cases hji : j = i
    · subst hji
      rw [hx] at hy; cases hy
      rw [List.getElem?_set] at hj
      have hlt : j < ρ.length := (List.getElem?_eq_some_iff.mp hi).1
      simp [hlt] at hj
      subst hj
      obtain ⟨a, its, h1, h2, h3, h4⟩ := I.slots j _ x hi hx
      refine ⟨.ref a, h2, ?_⟩
      simp only [Lay]
      refine ⟨a, its, rfl, ?_, h3, h4.carry C⟩
      rintro (q | ⟨k, q⟩)
      · exact (I.own j a h1).2.2 q
      · by_cases hk : k = j
        · simp [hk] at q
        · simp [hk] at q; exact hk (I.inj k j a q h1)
    · rw [List.getElem?_set_ne (Ne.symm hji)] at hj
      have z := I.slots j σ y hj hy
      cases σ with
      | any => trivial
      | dat d => obtain ⟨v, h1, h2⟩ := z; exact ⟨v, h1, h2.carry C⟩
      | own l' =>
        obtain ⟨a, its, h1, h2, h3, h4⟩ := z
        exact ⟨a, its, by simp [hji, h1], h2, h3, h4.carry C⟩
      | val v => exact z
  · by_cases hj : j = i
    · simp [hj] at e1
    · by_cases hk : k = i
      · simp [hk] at e2
      · simp [hj] at e1; simp [hk] at e2; exact I.inj j k a e1 e2
  · by_cases hj : j = i
    · simp [hj] at e
    · simp [hj] at e; exact I.own j a e
  · by_cases hj : j = i
    · simp [hj] at e
    · simpa [hj] using e
theorem Ex.freeze {ss : List Stmt} {l : List D} (i : Nat) (hi : ρ[i]? = some (.own l)) {x : Str} (hx : Γ.names[i]? = some x) (h : ExT Γ ss (ρ.set i (.dat (.list l))) o) : ExT Γ ss ρ o := fun φ s I Q E k => by
  obtain ⟨φ', I', ev, _⟩ := I.freeze hi hx
  exact h φ' s I' Q E fun fl s' p => k fl s' (Post.then I (Step.refl _ _) ev I' p)

theorem St.assign {e : Expr} {x : Str} {px : Pos} {d : D} (i : Nat) (h : EvT Γ e ρ d) (hx : Γ.names[i]? = some x)
    (hs : swapsWith e (some (.Name x px)) pos.line Γ.env = pure false := by rfl) : StT Γ (.Assign [.Name x px] e pos) ρ (.next (ρ.set i (.dat d))) := fun φ s I Q E k =>
  wpAny_Assign_Name (h φ s I _ _ fun v s1 g l => store_dat (I.grow g) hx l fun φ' s2 I2 st ev => k _ _ ⟨rfl, φ', I2, (Step.ofGrow g).trans st, fun j a e => by
    rcases ev j a e with q | q
    · exact .inl q
    · cases z : s.heap.get? a with
      | none => exact .inr rfl
      | some ob => rw [g.keep z] at q; cases q⟩) hs

theorem St.ret {e : Expr} {d : D} (h : EvT Γ e ρ d) : StT Γ (.Return (some e) pos) ρ (.ret d) := fun φ s I Q E k =>
  wpAny_Return_some (h φ s I _ _ fun v s1 g l => k _ _ ⟨v, rfl, l.less fun _ q => .inl q, Step.ofGrow g⟩)

theorem Post.grow {fl : Flow} {s'' : Shared} (I : In Γ ρ φ s) (g : Grow s s') (p : Post Γ φ s' o fl s'') : Post Γ φ s o fl s'' := by
  refine Post.then (φ' := φ) I (Step.ofGrow g) (Evo.refl _ _) (I.grow g) p

theorem St.ifT {test : Expr} {body orelse : List Stmt} (h : TsT Γ test ρ true) (hb : ExT Γ body ρ o) : StT Γ (.If test body orelse pos) ρ o := fun φ s I Q E k =>
  wpAny_If (h φ s I _ _ fun s1 g => by
    rw [if_pos rfl]
    exact hb φ s1 (I.grow g) _ _ fun fl s2 p => k fl s2 (Post.grow I g p))
theorem St.ifF {test : Expr} {body orelse : List Stmt} (h : TsT Γ test ρ false) (hb : ExT Γ orelse ρ o) : StT Γ (.If test body orelse pos) ρ o := fun φ s I Q E k =>
  wpAny_If (h φ s I _ _ fun s1 g => by
    rw [if_neg (by decide)]
    exact hb φ s1 (I.grow g) _ _ fun fl s2 p => k fl s2 (Post.grow I g p))
theorem St.ite {test : Expr} {body orelse : List Stmt} {b : Bool} (h : TsT Γ test ρ b) (h1 : b = true → ExT Γ body ρ o) (h2 : b = false → ExT Γ orelse ρ o) : StT Γ (.If test body orelse pos) ρ o := by
  cases b with
  | true => exact St.ifT h (h1 rfl)
  | false => exact St.ifF h (h2 rfl)

/-- several expressions, one after the other -/
def EvL (Γ : Fx) (es : List Expr) (ρ : List Sl) (ds : List D) : Prop := ∀ φ s, In Γ ρ φ s → ∀ (pos : Pos) (Q : List Value → Shared → Prop) (E : Value → Shared → Prop),
  (∀ vs s', Grow s s' → LayL (Forb Γ φ) s'.heap ds vs → Q vs s') → wpAny Γ.M Γ.A (spliced (backTo pos (starEach es Γ.env))) Q E s
theorem EvL.nil : EvL Γ [] ρ [] := fun φ s I pos Q E h => args_nil (h _ _ (Step.refl _ _) rfl)
theorem EvL.cons {e : Expr} {es : List Expr} {d : D} {ds : List D} (h1 : EvT Γ e ρ d) (h2 : EvL Γ es ρ ds) (he : starEach (e :: es) Γ.env = (false, eval e Γ.env) :: starEach es Γ.env := by rfl) : EvL Γ (e :: es) ρ (d :: ds) :=
  fun φ s I pos Q E h => args_cons (h1 φ s I _ _ fun v s1 g1 l1 => h2 φ s1 (I.grow g1) _ _ _ fun vs s2 g2 l2 => h _ _ (g1.trans g2) ⟨v, vs, rfl, l1.grow g2, l2⟩) he

theorem layL_length {W : Addr → Prop} {h : Heap} : ∀ {ds : List D} {vs : List Value}, LayL W h ds vs → vs.length = ds.length
  | [], vs, H => by simp only [LayL] at H; subst H; rfl
  | d :: ds, vs, H => by
    simp only [LayL] at H
    obtain ⟨v, r, e, _, h2⟩ := H
    subst e
    simp [layL_length h2]

theorem newAt {h : Heap} (o : Obj) : h.get? h.objs.size = none := by
  cases q : h.get? h.objs.size with
  | none => rfl
  | some ob => exact absurd (Heap.lt_size q) (Nat.lt_irrefl _)

theorem In.fresh (I : In Γ ρ φ s) {a : Addr} (h : s.heap.get? a = none) : ¬ Forb Γ φ a := by
  rintro (q | ⟨i, q⟩)
  · obtain ⟨o, ho⟩ := I.w0 a q; rw [ho] at h; cases h
  · obtain ⟨⟨its, o, n, ho, _⟩, _⟩ := I.own i a q; rw [ho] at h; cases h

theorem Ev.list {es : List Expr} {ds : List D} (h : EvL Γ es ρ ds) (hs : ds.length ≤ sizeLine := by decide) : EvT Γ (.List es pos) ρ (.list ds) := fun φ s I Q E k =>
  wpAny_List (h φ s I _ _ _ fun vs s1 g l => ⟨by rw [layL_length l]; exact hs, by
    have hn := newAt (h := s1.heap) default
    refine k _ _ (g.trans Grow.push) ?_
    simp only [Lay]
    refine ⟨_, vs.toArray, rfl, (I.grow g).fresh hn, ⟨_, 0, Heap.get?_push_size _ rfl, rfl, rfl, rfl⟩, ?_⟩
    exact LayL.grow l (Grow.push (tk := s1.toks))⟩)
theorem Ev.tuple {es : List Expr} {ds : List D} {k : Nat} (h : EvL Γ es ρ ds) (hs : ds.length ≤ sizeLine := by decide) : EvT Γ (.Tuple es k pos) ρ (.tuple ds) := fun φ s I Q E k =>
  wpAny_Tuple (h φ s I _ _ _ fun vs s1 g l => ⟨by rw [layL_length l]; exact hs, by
    have hn := newAt (h := s1.heap) default
    refine k _ _ (g.trans Grow.push) ?_
    simp only [Lay]
    refine ⟨_, vs.toArray, rfl, (I.grow g).fresh hn, ⟨_, Heap.get?_push_size _ rfl, rfl, 0, rfl⟩, ?_⟩
    exact LayL.grow l (Grow.push (tk := s1.toks))⟩)

/-- a list that is to be built: x = [..] -/
theorem St.make {es : List Expr} {ds : List D} {x : Str} {px p : Pos} (i : Nat) (h : EvL Γ es ρ ds) (hx : Γ.names[i]? = some x) (hs : ds.length ≤ sizeLine := by decide) :
    StT Γ (.Assign [.Name x px] (.List es p) pos) ρ (.next (ρ.set i (.own ds))) := fun φ s I Q E k =>
  wpAny_Assign_Name (wpAny_List (h φ s I _ _ _ fun vs s1 g l => ⟨by rw [layL_length l]; exact hs, by
    have hn := newAt (h := s1.heap) default
    have g2 : Grow s1 { s1 with heap := s1.heap.push { cls := .type "list", data := .seq vs.toArray }, toks := s1.toks } := Grow.push
    have I1 := I.grow g
    have I2 := I1.grow g2
    have hp : PlainL (s1.heap.push { cls := .type "list", data := .seq vs.toArray }) s1.heap.objs.size vs.toArray := ⟨_, 0, Heap.get?_push_size _ rfl, rfl, rfl, rfl⟩
    have h1n : Γ.h₁.get? s1.heap.objs.size = none := by
      cases q : Γ.h₁.get? s1.heap.objs.size with
      | none => rfl
      | some ob => rw [I1.old _ _ q] at hn; cases hn
    have nf := I1.fresh hn
    refine wpAny_mono (Q := fun _ s2 => ∃ φ' , In Γ (ρ.set i (.own ds)) φ' s2 ∧ Step (Mut Γ φ) { s1 with heap := s1.heap.push { cls := .type "list", data := .seq vs.toArray }, toks := s1.toks } s2 ∧ φ'.oa = (fun j => if j = i then some s1.heap.objs.size else φ.oa j)) ?_ (fun _ s2 z => ?_) (fun _ _ e => e)
    · -- the store, from the state ahead of the making: the list is new there
      obtain ⟨oL, es', ep, hL, hLd, hLr⟩ := id I2.ns
      have core : ∀ (h' : Heap) (tk : Nat) (m' : Str → Option Value), h'.Ns Γ.env.locals m' → (∀ y c, Γ.env.cells.lookup y = some c → ∃ v, h'.IsCell c v) →
          (∀ a o, ¬ Mut Γ φ a → (s1.heap.push { cls := .type "list", data := .seq vs.toArray }).get? a = some o → h'.get? a = some o) →
          (∀ b o xs n, (s1.heap.push { cls := .type "list", data := .seq vs.toArray }).get? b = some o → o.data = .seq xs n → h'.get? b = some o) →
          (∀ y v, y ≠ x → Var Γ φ s1.heap y v → Var Γ ⟨m', fun j => if j = i then some s1.heap.objs.size else φ.oa j⟩ h' y v) → Var Γ ⟨m', fun j => if j = i then some s1.heap.objs.size else φ.oa j⟩ h' x (.ref s1.heap.objs.size) →
          In Γ (ρ.set i (.own ds)) ⟨m', fun j => if j = i then some s1.heap.objs.size else φ.oa j⟩ { s1 with heap := h', toks := tk } := by
        intro h' tk m' hns hcell hkeep seqs hvar hv
        refine (I1.change (φ' := ⟨m', fun j => if j = i then some s1.heap.objs.size else φ.oa j⟩) (σ := .own ds) (h' := h') (tk := tk) hx hns hcell
          (fun a o hm e => hkeep a o hm (Heap.get?_push_of_some _ e)) (fun j a its e hj hp' => ?_) (fun j hj => by simp [hj]) (fun a e => ?_) hvar (fun _ => ?_)).1
        · obtain ⟨o', n', ho', k1, k2, k3⟩ := hp'
          exact ⟨o', n', seqs a o' its n' (Heap.get?_push_of_some _ ho') k3, k1, k2, k3⟩
        · have e' : s1.heap.objs.size = a := by simpa using e
          subst e'
          obtain ⟨o', n', ho', k1, k2, k3⟩ := hp
          exact ⟨.inr hn, ⟨_, o', n', seqs _ o' _ n' ho' k3, k1, k2, k3⟩, h1n, fun q => nf (.inl q)⟩
        · obtain ⟨o', n', ho', k1, k2, k3⟩ := hp
          refine ⟨s1.heap.objs.size, vs.toArray, by simp, hv, ⟨o', n', seqs _ o' _ n' ho' k3, k1, k2, k3⟩, ?_⟩
          refine LayL.carry (fun a o xs n ho hd hf => ⟨seqs a o xs n (Heap.get?_push_of_some _ ho) hd, ?_⟩) ds _ l
          rintro (q | ⟨j, q⟩)
          · exact hf (.inl q)
          · by_cases hj : j = i
            · have : s1.heap.objs.size = a := by simpa [hj] using q
              subst this; rw [ho] at hn; cases hn
            · simp [hj] at q; exact hf (.inr ⟨j, q⟩)
      rcases I.ok.kinds x (List.mem_of_getElem? hx) with hk | ⟨hk, c, hc⟩
      · refine wpAny_storeName_local hk I2.ns (fun h' hnn hs => ?_) (by rw [I.ok.kind]; rfl)
        have hk' : ∀ a o, ¬ Mut Γ φ a → (s1.heap.push { cls := .type "list", data := .seq vs.toArray }).get? a = some o → h'.get? a = some o := fun a o hm e => (hs.2 a fun q => hm (.inl q)).trans e
        refine ⟨_, core h' _ _ hnn (fun y c e => ?_) hk' (fun b o xs n hb hd => (hs.2 b (seq_ne_dict hb hd hL hLd)).trans hb) (fun y v hy hv => ?_) (.inl ⟨hk, by show (if x = x then _ else _) = _; rw [if_pos rfl]⟩), Step.heap hk', rfl⟩
        · obtain ⟨⟨v', oc, ho, hd⟩, _⟩ := I2.cells y c e
          exact ⟨v', oc, (hs.2 c (cell_ne_dict ho hd hL hLd)).trans ho, hd⟩
        · rcases hv with ⟨k1, k2⟩ | ⟨k1, c, k2, oc, ho, hd⟩
          · exact .inl ⟨k1, by show (if y = x then _ else φ.m y) = _; rw [if_neg hy]; exact k2⟩
          · exact .inr ⟨k1, c, k2, oc, (hs.2 c (cell_ne_dict (Heap.get?_push_of_some _ ho) hd hL hLd)).trans (Heap.get?_push_of_some _ ho), hd⟩
      · obtain ⟨⟨v₀, hcv⟩, hc1⟩ := I2.cells x c hc
        refine wpAny_storeName_cell I.ok.kind hk hc hcv fun h' hv hs => ?_
        obtain ⟨oc, hoc, hocd⟩ := id hcv
        have hk' : ∀ a o, ¬ Mut Γ φ a → (s1.heap.push { cls := .type "list", data := .seq vs.toArray }).get? a = some o → h'.get? a = some o := fun a o hm e => (hs.2 a fun q => hm (.inr (.inl ⟨x, q ▸ hc⟩))).trans e
        refine ⟨_, core h' _ φ.m ⟨oL, es', ep, (hs.2 _ (Ne.symm (cell_ne_dict hoc hocd hL hLd))).trans hL, hLd, hLr⟩ (fun y c' e => ?_) hk' (fun b o xs n hb hd => (hs.2 b (seq_ne_cell hb hd hoc hocd)).trans hb) (fun y v hy hv' => ?_) (.inr ⟨hk, c, hc, hv⟩), Step.heap hk', rfl⟩
        · by_cases hcc : c' = c
          · subst hcc; exact ⟨_, hv⟩
          · obtain ⟨⟨v', oc', ho, hd⟩, _⟩ := I2.cells y c' e
            exact ⟨v', oc', (hs.2 c' hcc).trans ho, hd⟩
        · rcases hv' with ⟨k1, k2⟩ | ⟨k1, c', k2, oc', ho, hd⟩
          · exact .inl ⟨k1, k2⟩
          · have : c' ≠ c := fun q => hy (I.ok.inj y x c (q ▸ k2) hc)
            exact .inr ⟨k1, c', k2, oc', (hs.2 c' this).trans (Heap.get?_push_of_some _ ho), hd⟩
    · obtain ⟨φ', I3, st, eo⟩ := z
      refine k _ _ ⟨rfl, φ', I3, (Step.ofGrow (g.trans g2)).trans st, fun j a e => ?_⟩
      rw [eo] at e
      by_cases hj : j = i
      · have : s1.heap.objs.size = a := by simpa [hj] using e
        subst this
        right
        cases q : s.heap.get? s1.heap.objs.size with
        | none => rfl
        | some ob => rw [g.keep q] at hn; cases hn
      · simp [hj] at e; exact .inl ⟨j, e⟩⟩)) rfl
end
end Mine

namespace Mine
open PySem PyProof.Rows PySem.W PySem.Calls

def GlobIs (h : Heap) (x : Str) (v : Value) : Prop := ∃ mg, h.Ns mainGlobals mg ∧ mg x = some v
def BltnIs (h : Heap) (x : Str) (v : Value) : Prop := ∃ mg mb, h.Ns mainGlobals mg ∧ mg x = none ∧ h.Ns builtinsNs mb ∧ mb x = some v
def FnAt (h : Heap) (a : Addr) (fd : FuncData) : Prop := ∃ o, h.get? a = some o ∧ o.data = .func fd ∧ h.CodeRec fd.code fd.qualname

theorem ns_keeps {h h' : Heap} {a : Addr} {m : Str → Option Value} (hn : h.Ns a m) (hk : ∀ b o, h.get? b = some o → h'.get? b = some o) : h'.Ns a m :=
  let ⟨o, es, ep, ho, r⟩ := hn; ⟨o, es, ep, hk _ _ ho, r⟩

/-- a call of one of the text's own: a pure function of data -/
def Fun (prog : Program) (w : World) (h₁ : Heap) (k : Nat) (a : Addr) (ds : List D) (d : D) : Prop :=
  ∀ (A : Around) (W₀ : Addr → Prop) (s : Shared) (vs : List Value) (Q : Value → Shared → Prop) (E : Value → Shared → Prop), Room k A → (∀ a o, h₁.get? a = some o → s.heap.get? a = some o) → AllBare s.gens →
    (∀ a, W₀ a → ∃ o, s.heap.get? a = some o) → LayL W₀ s.heap ds vs → (∀ v s', Grow s s' → Lay W₀ s'.heap d v → Q v s') → wpAny (model prog w) A (call (.ref a) vs) Q E s

section
variable {Γ : Fx} {ρ ρ' : List Sl} {φ φ' : FS} {s s' : Shared} {o : Out} {pos : Pos}

theorem name_glob (I : In Γ ρ φ s) {x : Str} {v : Value} {p : Pos} {Q : Value → Shared → Prop} {E : Value → Shared → Prop} (hg : GlobIs Γ.h₁ x v) (hx : Γ.env.kindOf x = some .globalImplicit) (hd : (x == ("__debug__" : Str)) = false) (h : Q v s) :
    wpAny Γ.M Γ.A (eval (.Name x p) Γ.env) Q E s := by
  obtain ⟨mg, h1, h2⟩ := hg
  exact Name_function_global I.ok.kind hx (loadGlobal_global (by rw [I.ok.glob]; exact ns_keeps h1 I.old) h2 h) hd
theorem name_bltn (I : In Γ ρ φ s) {x : Str} {v : Value} {p : Pos} {Q : Value → Shared → Prop} {E : Value → Shared → Prop} (hg : BltnIs Γ.h₁ x v) (hx : Γ.env.kindOf x = some .globalImplicit) (hd : (x == ("__debug__" : Str)) = false) (h : Q v s) :
    wpAny Γ.M Γ.A (eval (.Name x p) Γ.env) Q E s := by
  obtain ⟨mg, mb, h1, h2, h3, h4⟩ := hg
  exact Name_function_global I.ok.kind hx (loadGlobal_builtin (by rw [I.ok.glob]; exact ns_keeps h1 I.old) h2 (by rw [I.ok.bltn]; exact ns_keeps h3 I.old) h4 h) hd

theorem Room.less {k k' : Nat} {A : Around} (h : Room k A) (hk : k' ≤ k) : Room k' A := ⟨h.handled, by have := h.depth; omega, by have := h.units; omega⟩

/-- a call of one of the text's own defs -/
theorem Ev.call {f : Str} {np : Pos} {e : Expr} {es : List Expr} {a : Addr} {fd : FuncData} {ds : List D} {d : D} {k : Nat} (hg : GlobIs Γ.h₁ f (.ref a)) (hf : FnAt Γ.h₁ a fd) (hx : Γ.env.kindOf f = some .globalImplicit)
    (hF : Fun Γ.prog Γ.w Γ.h₁ k a ds d) (hk : k ≤ Γ.k) (ha : EvL Γ (e :: es) ρ ds) (hd : (f == ("__debug__" : Str)) = false := by decide +kernel)
    (he : starEach (e :: es) Γ.env = (false, eval e Γ.env) :: starEach es Γ.env := by rfl) : EvT Γ (.Call (.Name f np) (e :: es) [] pos) ρ d := fun φ s I Q E h => by
  obtain ⟨ob, ho, hod, _⟩ := hf
  refine Call_ (name_glob I hg hx hd (callWith_def hod (ha φ s I _ _ _ fun vs s1 g l => ⟨(I.grow g).old _ _ ho, ?_⟩) he))
  have I1 := I.grow g
  refine hF _ (Forb Γ φ) s1 vs _ _ (I.ok.room.less hk) I1.old I1.bare (fun a q => ?_) l fun v s2 g2 l2 => h v s2 (g.trans g2) l2
  rcases q with q | ⟨i, q⟩
  · exact I1.w0 a q
  · obtain ⟨⟨its, ob', n, ho', _⟩, _⟩ := I1.own i a q
    exact ⟨ob', ho'⟩

/-- a built-in function, called -/
def BGives (Γ : Fx) (f : Value) (ds : List D) (d : D) : Prop := ∀ (ρ : List Sl) φ s vs, In Γ ρ φ s → LayL (Forb Γ φ) s.heap ds vs → Gives Γ φ (call f vs) d s
theorem Ev.bcall {f : Str} {np : Pos} {e : Expr} {es : List Expr} {id : String} {ds : List D} {d : D} (hg : BltnIs Γ.h₁ f (.builtin id)) (hx : Γ.env.kindOf f = some .globalImplicit) (ha : EvL Γ (e :: es) ρ ds) (hb : BGives Γ (.builtin id) ds d)
    (hd : (f == ("__debug__" : Str)) = false := by decide +kernel) (he : starEach (e :: es) Γ.env = (false, eval e Γ.env) :: starEach es Γ.env := by rfl) (hplain : (backTo pos (starEach es Γ.env)).any (·.1) = false := by rfl) :
    EvT Γ (.Call (.Name f np) (e :: es) [] pos) ρ d := fun φ s I Q E h =>
  Call_ (name_bltn I hg hx hd (PyProof.Rows.callWith_builtin1 (ha φ s I _ _ _ fun vs s1 g l => hb ρ φ s1 vs (I.grow g) l _ _ fun v s2 g2 l2 => h v s2 (g.trans g2) l2) he hplain))
theorem Ev.tcall {f : Str} {np : Pos} {e : Expr} {es : List Expr} {T : String} {ds : List D} {d : D} (hg : BltnIs Γ.h₁ f (.type T)) (hx : Γ.env.kindOf f = some .globalImplicit) (ha : EvL Γ (e :: es) ρ ds) (hb : BGives Γ (.type T) ds d)
    (hd : (f == ("__debug__" : Str)) = false := by decide +kernel) (he : starEach (e :: es) Γ.env = (false, eval e Γ.env) :: starEach es Γ.env := by rfl) (hplain : (backTo pos (starEach es Γ.env)).any (·.1) = false := by rfl) :
    EvT Γ (.Call (.Name f np) (e :: es) [] pos) ρ d := fun φ s I Q E h =>
  Call_ (name_bltn I hg hx hd (PyProof.Rows.callWith_type1 (ha φ s I _ _ _ fun vs s1 g l => hb ρ φ s1 vs (I.grow g) l _ _ fun v s2 g2 l2 => h v s2 (g.trans g2) l2) he hplain))

theorem layL_append {W : Addr → Prop} {h : Heap} {d : D} {v : Value} (hv : Lay W h d v) : ∀ {ds : List D} {vs : List Value}, LayL W h ds vs → LayL W h (ds ++ [d]) (vs ++ [v])
  | [], vs, H => by simp only [LayL] at H; subst H; exact ⟨v, [], rfl, hv, rfl⟩
  | _ :: _, vs, H => by
    simp only [LayL] at H
    obtain ⟨v', r, e, h1, h2⟩ := H
    subst e
    exact ⟨v', r ++ [v], rfl, h1, layL_append hv h2⟩

/-- x.append(e), x a list that is being built -/
theorem St.append {x : Str} {e : Expr} {px apos p : Pos} {l : List D} {d : D} (i : Nat) (hx : Γ.names[i]? = some x) (hi : ρ[i]? = some (.own l)) (h : EvT Γ e ρ d) (hs : l.length ≤ sizeLine)
    (hline : (apos.endLine == p.line) = true := by rfl) (he : starEach [e] Γ.env = [(false, eval e Γ.env)] := by rfl) (hd : (x == ("__debug__" : Str)) = false := by decide +kernel) (hsw : swapsWith (.Call (.Attribute (.Name x px) "append" apos) [e] [] p) none pos.line Γ.env = pure false := by rfl) :
    StT Γ (.Expr (.Call (.Attribute (.Name x px) "append" apos) [e] [] p) pos) ρ (.next (ρ.set i (.own (l ++ [d])))) := fun φ s I Q E k => by
  obtain ⟨a, its, h1, h2, h3, h4⟩ := I.slots i _ x hi hx
  refine wpAny_Expr ?_ (by unfold interactive; rw [I.ok.kind]; rfl) hsw
  refine wpAny_Call_append rfl (by rw [he]; rfl) hline (by rw [he]; rfl) ?_
  refine wpAny_Name (load_var I h2 ⟨a, its, rfl, h3, ?_⟩) hd
  refine h φ s I _ _ fun v s1 g lv => ?_
  have I1 := I.grow g
  have hp := plainL_grow h3 g
  obtain ⟨ob, n, ho, hc, hdi, hda⟩ := id hp
  have hsz : its.size ≤ sizeLine := by
    have := layL_length h4
    rw [Array.length_toList] at this
    omega
  refine list_append_plainL hp (fun h' hp' hs' => ?_) hsz
  have hm : ∀ b o, ¬ Mut Γ φ b → s1.heap.get? b = some o → h'.get? b = some o := fun b o n e => (hs'.2 b fun q => n (.inr (.inr ⟨i, q ▸ h1⟩))).trans e
  obtain ⟨oL, es, ep, hL, hLd, hLr⟩ := id I1.ns
  have neL : Γ.env.locals ≠ a := Ne.symm (seq_ne_dict ho hda hL hLd)
  have z := I1.change (φ' := φ) (σ := .own (l ++ [d])) (h' := h') (tk := s1.toks) hx ⟨oL, es, ep, (hs'.2 _ neL).trans hL, hLd, hLr⟩
    (fun y c e => by
      obtain ⟨⟨v', oc, hoc, hcd⟩, _⟩ := I1.cells y c e
      exact ⟨v', oc, (hs'.2 c (Ne.symm (seq_ne_cell ho hda hoc hcd))).trans hoc, hcd⟩)
    hm
    (fun j b its' e hj hpb => by
      obtain ⟨ob', n', hob', r⟩ := hpb
      exact ⟨ob', n', (hs'.2 b fun q => hj (I1.inj j i a (q ▸ e) h1)).trans hob', r⟩)
    (fun j hj => rfl) (fun b e => ⟨.inl e, by
      have : b = a := by rw [h1] at e; exact (Option.some.inj e).symm
      subst this
      exact ⟨⟨_, hp'⟩, (I1.own i b e).2⟩⟩)
    (fun y v' hy hv => by
      rcases hv with hv | ⟨k1, c, k2, oc, hoc, hcd⟩
      · exact .inl hv
      · exact .inr ⟨k1, c, k2, oc, (hs'.2 c (Ne.symm (seq_ne_cell ho hda hoc hcd))).trans hoc, hcd⟩)
    (fun _ => ⟨a, its.push v, h1, by
      rcases h2.grow g with hv | ⟨k1, c, k2, oc, hoc, hcd⟩
      · exact .inl hv
      · exact .inr ⟨k1, c, k2, oc, (hs'.2 c (Ne.symm (seq_ne_cell ho hda hoc hcd))).trans hoc, hcd⟩, hp', by
      have C : Carry (Forb Γ φ) (Forb Γ φ) s1.heap h' := fun b o xs n hb hbd hf => ⟨(hs'.2 b fun q => hf (.inr ⟨i, q ▸ h1⟩)).trans hb, hf⟩
      rw [Array.toList_push]
      exact layL_append (lv.carry C) ((h4.grow g).carry C)⟩)
  exact k _ _ ⟨rfl, φ, z.1, (Step.ofGrow g).trans z.2.1, Evo.refl _ _⟩
end
end Mine

namespace Mine
open PySem PyProof.Rows PySem.W PySem.Calls

def callE (fd : FuncData) (a L : Addr) : Env := newEnv fd.scope L fd.globals (cellsFrom (L + 1) fd.scope.names []) (fd.qualname ++ ".<locals>.") (some a) fd.code none fd.builtins
def mkF (prog : Program) (w : World) (h₁ : Heap) (names : List Str) (fd : FuncData) (a : Addr) (k : Nat) (A : Around) (W₀ : Addr → Prop) (L : Addr) : Fx :=
  ⟨prog, w, h₁, A.deeper (callE fd a L), callE fd a L, W₀, names, k⟩

theorem mem_of_lookup {α β : Type} [BEq α] [LawfulBEq α] {x : α} {c : β} : ∀ {l : List (α × β)}, l.lookup x = some c → (x, c) ∈ l
  | [], h => by cases h
  | (y, d) :: l, h => by
    rw [List.lookup_cons] at h
    by_cases q : (x == y) = true
    · simp only [q] at h
      rw [beq_iff_eq.mp q]
      cases h
      exact .head _
    · simp only [q] at h
      exact .tail _ (mem_of_lookup h)

structure Plain (fd : FuncData) (body : List Stmt) (names : List Str) : Prop where
  body : fd.body = .stmts body
  co : fd.scope.isCoroutine = false
  gen : fd.scope.isGenerator = false
  kind : fd.scope.kind = .function
  closure : fd.closure = []
  glob : fd.globals = mainGlobals
  bltn : fd.builtins = builtinsNs
  nodup : names.Nodup
  kinds : ∀ x ∈ names, fd.scope.names.lookup x = some .local ∨ fd.scope.names.lookup x = some .cell

section
variable {prog : Program} {w : World} {h₁ : Heap} {names : List Str} {fd : FuncData} {a : Addr} {k : Nat} {body : List Stmt}

theorem entry (P : Plain fd body names) (hf : FnAt h₁ a fd) (hnl : h₁.NoLimit) {A : Around} {W₀ : Addr → Prop} {s : Shared} {vs : List Value} {Q : Value → Shared → Prop} {E : Value → Shared → Prop} {ρ₀ : List Sl} {d : D} {binds : List (Str × Value)}
    (R : Room (k + 1) A) (old : ∀ a o, h₁.get? a = some o → s.heap.get? a = some o) (bare : AllBare s.gens) (w0 : ∀ a, W₀ a → ∃ o, s.heap.get? a = some o)
    (hb : bindArgs fd ⟨vs, []⟩ = pure binds) (hbk : ∀ x ∈ binds, x.1 ∈ names)
    (hsl : ∀ (i : Nat) (σ : Sl) (x : Str), ρ₀[i]? = some σ → names[i]? = some x → σ = Sl.any ∨ ∃ d v, σ = Sl.dat d ∧ Lay W₀ s.heap d v ∧
      (fd.scope.names.lookup x = some .local → bindL (fun y => fd.scope.names.lookup y) binds (fun _ => none) x = some v) ∧ (fd.scope.names.lookup x = some .cell → bindC (fun y => fd.scope.names.lookup y) binds (fun _ => none) x = some v))
    (hE : ∀ L, ExT (mkF prog w h₁ names fd a k A W₀ L) body ρ₀ (.ret d)) (h : ∀ v s', Grow s s' → Lay W₀ s'.heap d v → Q v s') : wpAny (model prog w) A (call (.ref a) vs) Q E s := by
  obtain ⟨o, ho, hod, hcode⟩ := hf
  refine wpAny_call (codeAny_call_function (by have := R.depth; omega) (old _ _ ho) hod P.co P.gen P.body (hcode.keeps old) ?_)
  rw [hb]
  refine wpAny_pure ?_
  rw [P.closure]
  refine wpAny_newFunctionEnv_cells P.kind (fun x hx => ?_) fun env he s' x => ?_
  · rcases P.kinds x.1 (hbk x hx) with q | q
    · exact .inl q
    · exact .inr ⟨q, cellsFrom_some _ _ _ (.inl q)⟩
  · have he' : env = callE fd a s.heap.objs.size := he
    subst he'
    obtain ⟨h', tk, rfl, _⟩ := x.done
    have hk₁ := x.toInCall.keep
    refine ⟨(hnl.keeps old).keeps hk₁, codeAny_func ?_⟩
    have lt : ∀ b o, s.heap.get? b = some o → b < s.heap.objs.size := fun b o e => Heap.lt_size e
    have cm : ∀ y c, (callE fd a s.heap.objs.size).cells.lookup y = some c → s.heap.objs.size < c := fun y c e => x.above y c (mem_of_lookup e)
    have I : In (mkF prog w h₁ names fd a k A W₀ s.heap.objs.size) ρ₀ ⟨bindL (fun y => fd.scope.names.lookup y) binds (fun _ => none), fun _ => none⟩ { s with heap := h', toks := tk } := by
      refine ⟨⟨P.kind, ⟨R.handled, ?_, ?_⟩, P.nodup, fun y hy => ?_, fun y y' c e1 e2 => ?_, P.glob, P.bltn⟩, fun b o e => hk₁ b o (old b o e), x.toInCall.ns, ?_, fun y c e => ⟨⟨_, x.cell y c e⟩, ?_⟩, fun i σ y hi hy => ?_, fun i j b e => (nomatch e), fun i b e => (nomatch e), fun b q => ?_, bare⟩
      · have := R.depth
        show A.depth + 1 + k < recursionLimit
        omega
      · have := R.units
        show A.units + 3 + 8 * k < cLine
        omega
      · rcases P.kinds y hy with q | q
        · exact .inl q
        · refine .inr ⟨q, ?_⟩
          have z := cellsFrom_some (x := y) fd.scope.names (s.heap.objs.size + 1) [] (.inl q)
          exact Option.isSome_iff_exists.mp z
      · have m1 := mem_of_lookup e1
        have m2 := mem_of_lookup e2
        obtain ⟨i, hi⟩ := List.getElem?_of_mem m1
        obtain ⟨j, hj⟩ := List.getElem?_of_mem m2
        obtain ⟨li, ei⟩ := List.getElem?_eq_some_iff.mp hi
        obtain ⟨lj, ej⟩ := List.getElem?_eq_some_iff.mp hj
        have ap := List.pairwise_iff_getElem.mp x.apart
        rcases Nat.lt_trichotomy i j with q | q | q
        · have z := ap i j li lj q
          have ei' : (callE fd a s.heap.objs.size).cells[i] = (y, c) := ei
          have ej' : (callE fd a s.heap.objs.size).cells[j] = (y', c) := ej
          rw [ei', ej'] at z; exact absurd rfl z
        · subst q; rw [ei] at ej; exact congrArg Prod.fst ej
        · have z := ap j i lj li q
          have ei' : (callE fd a s.heap.objs.size).cells[i] = (y, c) := ei
          have ej' : (callE fd a s.heap.objs.size).cells[j] = (y', c) := ej
          rw [ei', ej'] at z; exact absurd rfl z
      · cases q : h₁.get? (mkF prog w h₁ names fd a k A W₀ s.heap.objs.size).env.locals with
        | none => exact q
        | some ob => exact absurd (lt _ _ (old _ _ q)) (Nat.lt_irrefl _)
      · cases q : h₁.get? c with
        | none => exact q
        | some ob => exact absurd (Nat.lt_trans (cm y c e) (lt _ _ (old _ _ q))) (Nat.lt_irrefl _)
      · rcases hsl i σ y hi hy with q | ⟨d', v, q, hl, q1, q2⟩
        · subst q; trivial
        · subst q
          refine ⟨v, ?_, hl.carry fun b o xs n hb hd hw => ⟨hk₁ b o hb, ?_⟩⟩
          · rcases P.kinds y (List.mem_of_getElem? hy) with q | q
            · exact .inl ⟨q, q1 q⟩
            · have z := cellsFrom_some (x := y) fd.scope.names (s.heap.objs.size + 1) [] (.inl q)
              obtain ⟨c, hc⟩ := Option.isSome_iff_exists.mp z
              have zz := x.cell y c hc
              rw [show bindC (callE fd a s.heap.objs.size).kindOf binds (fun _ => none) y = some v from q2 q] at zz
              exact .inr ⟨q, c, hc, zz⟩
          · rintro (q | ⟨j, q⟩)
            · exact hw q
            · cases q
      · obtain ⟨o', ho'⟩ := w0 b q
        exact ⟨o', hk₁ b o' ho'⟩
    refine hE s.heap.objs.size _ _ I _ _ fun fl s'' p => ?_
    obtain ⟨v, rfl, hl, st⟩ := p
    refine h v s'' ⟨fun b o _ e => st.keep b o ?_ (hk₁ b o e), st.os, st.bare, st.gsize, st.gens⟩ hl
    rintro (q | ⟨y, q⟩ | ⟨i, q⟩)
    · have := lt b o e; rw [q] at this; exact absurd this (Nat.lt_irrefl _)
    · exact absurd (Nat.lt_trans (cm y b q) (lt b o e)) (Nat.lt_irrefl _)
    · cases q

theorem fun1 (P : Plain fd body names) (hf : FnAt h₁ a fd) (hnl : h₁.NoLimit) {p : Str} {d dr : D} {n : Nat} (hb : ∀ v, bindArgs fd ⟨[v], []⟩ = pure [(p, v)]) (hp : names[0]? = some p)
    (hE : ∀ A W₀ L, ExT (mkF prog w h₁ names fd a k A W₀ L) body (.dat d :: List.replicate n .any) (.ret dr)) : Fun prog w h₁ (k + 1) a [d] dr := by
  intro A W₀ s vs Q E R old bare w0 lay h
  simp only [LayL] at lay
  obtain ⟨v, r, rfl, hl, rfl⟩ := lay
  refine entry P hf hnl R old bare w0 (hb v) (fun x hx => ?_) (fun i σ x hi hx => ?_) (fun L => hE A W₀ L) h
  · rw [List.mem_singleton.mp hx]; exact List.mem_of_getElem? hp
  · cases i with
    | zero =>
      simp at hi; subst hi
      rw [hp] at hx; cases hx
      refine .inr ⟨d, v, rfl, hl, fun q => ?_, fun q => ?_⟩
      · simp [bindL, q]
      · simp [bindC, q]
    | succ i =>
      left
      simp only [List.getElem?_cons_succ] at hi
      exact (List.mem_replicate.mp (List.mem_of_getElem? hi)).2

theorem fun2 (P : Plain fd body names) (hf : FnAt h₁ a fd) (hnl : h₁.NoLimit) {p q : Str} {d e dr : D} {n : Nat} (hb : ∀ v u, bindArgs fd ⟨[v, u], []⟩ = pure [(p, v), (q, u)]) (hp : names[0]? = some p) (hq : names[1]? = some q)
    (hE : ∀ A W₀ L, ExT (mkF prog w h₁ names fd a k A W₀ L) body (.dat d :: .dat e :: List.replicate n .any) (.ret dr)) : Fun prog w h₁ (k + 1) a [d, e] dr := by
  intro A W₀ s vs Q E R old bare w0 lay h
  simp only [LayL] at lay
  obtain ⟨v, r, rfl, hl, u, r', rfl, hl', rfl⟩ := lay
  have hne : p ≠ q := fun z => by
    subst z
    have := nodup_idx P.nodup hp hq
    omega
  refine entry P hf hnl R old bare w0 (hb v u) (fun x hx => ?_) (fun i σ x hi hx => ?_) (fun L => hE A W₀ L) h
  · rcases List.mem_cons.mp hx with z | z
    · rw [z]; exact List.mem_of_getElem? hp
    · rw [List.mem_singleton.mp z]; exact List.mem_of_getElem? hq
  · match i with
    | 0 =>
      simp at hi; subst hi
      rw [hp] at hx; cases hx
      refine .inr ⟨d, v, rfl, hl, fun z => ?_, fun z => ?_⟩
      · simp only [bindL, z, if_true]
        split <;> simp [hne]
      · simp only [bindC, z]
        split <;> simp [hne]
    | 1 =>
      simp at hi; subst hi
      rw [hq] at hx; cases hx
      refine .inr ⟨e, u, rfl, hl', fun z => ?_, fun z => ?_⟩
      · simp [bindL, z]
      · simp [bindC, z]
    | i + 2 =>
      left
      simp only [List.getElem?_cons_succ] at hi
      exact (List.mem_replicate.mp (List.mem_of_getElem? hi)).2
end
end Mine

namespace Mine
open PySem PyProof.Rows PySem.W PySem.Calls

section
variable {Γ : Fx} {ρ ρ' : List Sl} {φ φ' : FS} {s s' : Shared} {o : Out} {pos : Pos}

/-- two values compared -/
def CmpT (Γ : Fx) (op : CmpOp) (a b : D) (c : Bool) : Prop := ∀ (ρ : List Sl) φ s va vb, In Γ ρ φ s → Lay (Forb Γ φ) s.heap a va → Lay (Forb Γ φ) s.heap b vb →
  ∀ (Q : Value → Shared → Prop) (E : Value → Shared → Prop), (∀ s', Grow s s' → Q (.bool c) s') → wpAny Γ.M Γ.A (compareOp op va vb) Q E s

theorem Ev.cmp {l r : Expr} {op : CmpOp} {a b : D} {c : Bool} (h1 : EvT Γ l ρ a) (h2 : EvT Γ r ρ b) (hc : CmpT Γ op a b c) (hm : behindInMarks op r = false := by rfl) : EvT Γ (.Compare l [op] [r] pos) ρ (.bool c) := fun φ s I Q E h =>
  wpAny_Compare1 (h1 φ s I _ _ fun va s1 g1 l1 => h2 φ s1 (I.grow g1) _ _ fun vb s2 g2 l2 => hc ρ φ s2 va vb ((I.grow g1).grow g2) (l1.grow g2) l2 _ _ fun s3 g3 => h _ _ ((g1.trans g2).trans g3) rfl) hm
theorem Ts.cmp {l r : Expr} {op : CmpOp} {a b : D} {c : Bool} (h1 : EvT Γ l ρ a) (h2 : EvT Γ r ρ b) (hc : CmpT Γ op a b c) (hm : behindInMarks op r = false := by rfl) : TsT Γ (.Compare l [op] [r] pos) ρ c := fun φ s I Q E h =>
  wpAny_isTrue_Compare1 (h1 φ s I _ _ fun va s1 g1 l1 => h2 φ s1 (I.grow g1) _ _ fun vb s2 g2 l2 => hc ρ φ s2 va vb ((I.grow g1).grow g2) (l1.grow g2) l2 _ _ fun s3 g3 => wpAny_truthy_bool (h _ ((g1.trans g2).trans g3))) hm

theorem Cmp.eqI {a b : Int} : CmpT Γ .Eq (.int a) (.int b) (a == b) := fun ρ φ s va vb _ ⟨_, ea⟩ ⟨_, eb⟩ Q E h => by subst ea eb; exact eq_int (h _ (Step.refl _ _))
theorem Cmp.neI {a b : Int} : CmpT Γ .NotEq (.int a) (.int b) (a != b) := fun ρ φ s va vb _ ⟨_, ea⟩ ⟨_, eb⟩ Q E h => by subst ea eb; exact PyProof.Rows.ne_int (h _ (Step.refl _ _))
theorem Cmp.ltI {a b : Int} : CmpT Γ .Lt (.int a) (.int b) (decide (a < b)) := fun ρ φ s va vb _ ⟨_, ea⟩ ⟨_, eb⟩ Q E h => by subst ea eb; exact PyProof.Rows.lt_int (h _ (Step.refl _ _))
theorem Cmp.geI {a b : Int} : CmpT Γ .GtE (.int a) (.int b) (decide (b ≤ a)) := fun ρ φ s va vb _ ⟨_, ea⟩ ⟨_, eb⟩ Q E h => by subst ea eb; exact PyProof.Rows.ge_int (h _ (Step.refl _ _))
theorem Cmp.eqS {a b : Str} : CmpT Γ .Eq (.str a) (.str b) (a == b) := fun ρ φ s va vb _ ⟨_, ea⟩ ⟨_, eb⟩ Q E h => by subst ea eb; exact PyProof.Rows.eq_str (h _ (Step.refl _ _))
theorem Cmp.neS {a b : Str} : CmpT Γ .NotEq (.str a) (.str b) (a != b) := fun ρ φ s va vb _ ⟨_, ea⟩ ⟨_, eb⟩ Q E h => by subst ea eb; exact PyProof.Rows.ne_str (h _ (Step.refl _ _))
theorem Cmp.notInS {x y : Str} : CmpT Γ .NotIn (.str y) (.str x) (!(!(Builtin.Str.occurrences x y 0 x.length 1).isEmpty)) := fun ρ φ s va vb _ ⟨_, ea⟩ ⟨_, eb⟩ Q E h => by subst ea eb; exact PyProof.Rows.notIn_str (h _ (Step.refl _ _))
theorem Cmp.isNotB {a b : Bool} : CmpT Γ .IsNot (.bool a) (.bool b) (a != b) := fun ρ φ s va vb _ ea eb Q E h => by
  simp only [Lay] at ea eb
  subst ea eb
  refine wpAny_isNot_plain rfl ?_
  have : (!(Value.bool a == Value.bool b)) = (a != b) := by cases a <;> cases b <;> decide
  rw [this]
  exact h _ (Step.refl _ _)
theorem Cmp.isNoneN : CmpT Γ .Is .none .none true := fun ρ φ s va vb _ ea eb Q E h => by
  simp only [Lay] at ea eb
  subst ea eb
  exact wpAny_is_plain rfl (h _ (Step.refl _ _))
theorem Cmp.isNoneI {i : Int} : CmpT Γ .Is (.int i) .none false := fun ρ φ s va vb _ ea eb Q E h => by
  simp only [Lay] at ea eb
  obtain ⟨t, ea⟩ := ea
  subst ea eb
  exact wpAny_is_plain rfl (h _ (Step.refl _ _))

theorem Ts.bool {e : Expr} {b : Bool} (h : EvT Γ e ρ (.bool b)) (he : ∀ w, isTrue e Γ.env w = (do let v ← w; standAt e.pos; holding [v] (truthy v)) := by intro _; rfl) : TsT Γ e ρ b := fun φ s I Q E k =>
  isTrue_plain (h φ s I _ _ fun v s1 g l => by
    simp only [Lay] at l
    subst l
    exact wpAny_truthy_bool (k _ g)) (he _)
theorem Ts.not {e : Expr} {b : Bool} (h : TsT Γ e ρ b) : TsT Γ (.UnaryOp .Not e pos) ρ (!b) := fun φ s I Q E k => wpAny_isTrue_Not (h φ s I _ _ fun s1 g => k _ g)
theorem Ts.and {x y : Expr} {a b : Bool} (h1 : TsT Γ x ρ a) (h2 : a = true → TsT Γ y ρ b) : TsT Γ (.BoolOp .And [x, y] pos) ρ (a && b) := fun φ s I Q E k =>
  wpAny_isTrue_BoolOp (wpAny_allTrue_And_cons (h1 φ s I _ _ fun s1 g => by
    cases a with
    | false => exact k _ g
    | true => exact wpAny_allTrue_And_cons (h2 rfl φ s1 (I.grow g) _ _ fun s2 g2 => by
        cases b with
        | false => exact k _ (g.trans g2)
        | true => exact wpAny_allTrue_And_nil (k _ (g.trans g2)))))
theorem Ts.or {x y : Expr} {a b : Bool} (h1 : TsT Γ x ρ a) (h2 : a = false → TsT Γ y ρ b) : TsT Γ (.BoolOp .Or [x, y] pos) ρ (a || b) := fun φ s I Q E k =>
  wpAny_isTrue_BoolOp (wpAny_allTrue_Or_cons (h1 φ s I _ _ fun s1 g => by
    cases a with
    | true => exact k _ g
    | false => exact wpAny_allTrue_Or_cons (h2 rfl φ s1 (I.grow g) _ _ fun s2 g2 => by
        cases b with
        | true => exact k _ (g.trans g2)
        | false => exact wpAny_allTrue_Or_nil (k _ (g.trans g2)))))
theorem Ev.and {x y : Expr} {a b : Bool} (h1 : EvT Γ x ρ (.bool a)) (h2 : a = true → EvT Γ y ρ (.bool b)) : EvT Γ (.BoolOp .And [x, y] pos) ρ (.bool (a && b)) := fun φ s I Q E k =>
  wpAny_And2 (h1 φ s I _ _ fun v s1 g l => by
    simp only [Lay] at l
    subst l
    refine wpAny_truthy_bool ?_
    cases a with
    | false => exact k _ _ g rfl
    | true => exact h2 rfl φ s1 (I.grow g) _ _ fun v s2 g2 l2 => k _ _ (g.trans g2) l2)
theorem Ev.or {x y : Expr} {a b : Bool} (h1 : EvT Γ x ρ (.bool a)) (h2 : a = false → EvT Γ y ρ (.bool b)) : EvT Γ (.BoolOp .Or [x, y] pos) ρ (.bool (a || b)) := fun φ s I Q E k =>
  wpAny_Or2 (h1 φ s I _ _ fun v s1 g l => by
    simp only [Lay] at l
    subst l
    refine wpAny_truthy_bool ?_
    cases a with
    | true => exact k _ _ g rfl
    | false => exact h2 rfl φ s1 (I.grow g) _ _ fun v s2 g2 l2 => k _ _ (g.trans g2) l2)

/-- methods of texts -/
theorem Ev.meth0 {e : Expr} {name : Str} {x : Str} {apos : Pos} {d : D} (h : EvT Γ e ρ (.str x))
    (hm : ∀ φ s t pos Q E, (∀ v s', Grow s s' → Lay (Forb Γ φ) s'.heap d v → Q v s') → MethodOnS Γ.prog Γ.w Γ.A E name (.str x t) pos [] Q s)
    (hb : attributeBase e name Γ.env (eval e Γ.env) = eval e Γ.env := by rfl) (hl : (apos.endLine == pos.line) = true := by rfl) : EvT Γ (.Call (.Attribute e name apos) [] [] pos) ρ d := fun φ s I Q E k =>
  Call_method0 hb hl (h φ s I _ _ fun v s1 g l => by
    obtain ⟨t, rfl⟩ := l
    exact hm φ s1 t pos Q E fun v s2 g2 l2 => k v s2 (g.trans g2) l2)
theorem Ev.lower {e : Expr} {x : Str} {apos : Pos} (h : EvT Γ e ρ (.str x)) (hs : Builtin.Str.tooLong (Txt.lower x).length = false)
    (hb : attributeBase e "lower" Γ.env (eval e Γ.env) = eval e Γ.env := by rfl) (hl : (apos.endLine == pos.line) = true := by rfl) : EvT Γ (.Call (.Attribute e "lower" apos) [] [] pos) ρ (.str (Txt.lower x)) :=
  Ev.meth0 h (fun φ s t pos Q E k => SB.lower hs (k _ _ Grow.toks ⟨_, rfl⟩)) hb hl
theorem Ev.upper {e : Expr} {x : Str} {apos : Pos} (h : EvT Γ e ρ (.str x)) (hs : Builtin.Str.tooLong (Txt.upper x).length = false)
    (hb : attributeBase e "upper" Γ.env (eval e Γ.env) = eval e Γ.env := by rfl) (hl : (apos.endLine == pos.line) = true := by rfl) : EvT Γ (.Call (.Attribute e "upper" apos) [] [] pos) ρ (.str (Txt.upper x)) :=
  Ev.meth0 h (fun φ s t pos Q E k => SB.upper hs (k _ _ Grow.toks ⟨_, rfl⟩)) hb hl

theorem Ev.meth1 {e e' : Expr} {name : Str} {x y : Str} {apos : Pos} {d : D} (h : EvT Γ e ρ (.str x)) (h' : EvT Γ e' ρ (.str y))
    (hm : ∀ φ s t pos Q E (a : Sem Value), wpAny Γ.M Γ.A a (fun v s1 => ∃ u, v = .str y u ∧ ∀ v' s', Grow s1 s' → Lay (Forb Γ φ) s'.heap d v' → Q v' s') E s → MethodOnS Γ.prog Γ.w Γ.A E name (.str x t) pos [(false, a)] Q s)
    (hb : attributeBase e name Γ.env (eval e Γ.env) = eval e Γ.env := by rfl) (hl : (apos.endLine == pos.line) = true := by rfl) (hs : starEach [e'] Γ.env = [(false, eval e' Γ.env)] := by rfl) : EvT Γ (.Call (.Attribute e name apos) [e'] [] pos) ρ d := fun φ s I Q E k =>
  Call_method1 hb hs hl (h φ s I _ _ fun v s1 g l => by
    obtain ⟨t, rfl⟩ := l
    refine hm φ s1 t pos Q E _ (h' φ s1 (I.grow g) _ _ fun v s2 g2 l2 => ?_)
    obtain ⟨u, rfl⟩ := l2
    exact ⟨u, rfl, fun v' s' g3 l3 => k v' s' ((g.trans g2).trans g3) l3⟩)
theorem Ev.startswith {e e' : Expr} {x y : Str} {apos : Pos} (h : EvT Γ e ρ (.str x)) (h' : EvT Γ e' ρ (.str y))
    (hb : attributeBase e "startswith" Γ.env (eval e Γ.env) = eval e Γ.env := by rfl) (hl : (apos.endLine == pos.line) = true := by rfl) (hs : starEach [e'] Γ.env = [(false, eval e' Γ.env)] := by rfl) : EvT Γ (.Call (.Attribute e "startswith" apos) [e'] [] pos) ρ (.bool (Txt.startswith x y)) :=
  Ev.meth1 h h' (fun φ s t pos Q E a k => SB.startswith (wpAny_mono k (fun v s1 ⟨u, e, q⟩ => ⟨y, u, e, q _ _ (Step.refl _ _) rfl⟩) fun _ _ e => e)) hb hl hs
theorem Ev.endswith {e e' : Expr} {x y : Str} {apos : Pos} (h : EvT Γ e ρ (.str x)) (h' : EvT Γ e' ρ (.str y))
    (hb : attributeBase e "endswith" Γ.env (eval e Γ.env) = eval e Γ.env := by rfl) (hl : (apos.endLine == pos.line) = true := by rfl) (hs : starEach [e'] Γ.env = [(false, eval e' Γ.env)] := by rfl) : EvT Γ (.Call (.Attribute e "endswith" apos) [e'] [] pos) ρ (.bool (Txt.endswith x y)) :=
  Ev.meth1 h h' (fun φ s t pos Q E a k => SB.endswith (wpAny_mono k (fun v s1 ⟨u, e, q⟩ => ⟨y, u, e, q _ _ (Step.refl _ _) rfl⟩) fun _ _ e => e)) hb hl hs
theorem Ev.find {e e' : Expr} {x y : Str} {apos : Pos} (h : EvT Γ e ρ (.str x)) (h' : EvT Γ e' ρ (.str y))
    (hb : attributeBase e "find" Γ.env (eval e Γ.env) = eval e Γ.env := by rfl) (hl : (apos.endLine == pos.line) = true := by rfl) (hs : starEach [e'] Γ.env = [(false, eval e' Γ.env)] := by rfl) : EvT Γ (.Call (.Attribute e "find" apos) [e'] [] pos) ρ (.int (Txt.find x y)) :=
  Ev.meth1 h h' (fun φ s t pos Q E a k => SB.find (wpAny_mono k (fun v s1 ⟨u, e, q⟩ => ⟨y, u, e, q _ _ Grow.toks ⟨_, rfl⟩⟩) fun _ _ e => e)) hb hl hs

theorem Ev.mulS {l r : Expr} {a : Str} {n : Int} (h1 : EvT Γ l ρ (.str a)) (h2 : EvT Γ r ρ (.int n)) (hm : MulOk a n) : EvT Γ (.BinOp l .Mult r pos) ρ (.str (Txt.mul a n)) :=
  Ev.bin h1 h2 fun φ s va vb _ ⟨_, ea⟩ ⟨_, eb⟩ Q E h => by subst ea eb; exact SB.mul hm fun _ _ => h _ _ Grow.toks ⟨_, rfl⟩
theorem Ev.fdiv {l r : Expr} {a b : Int} (h1 : EvT Γ l ρ (.int a)) (h2 : EvT Γ r ρ (.int b)) (hb : b ≠ 0) (hp : Builtin.divisionGoesByPylong a b = false) : EvT Γ (.BinOp l .FloorDiv r pos) ρ (.int (a.fdiv b)) :=
  Ev.bin h1 h2 fun φ s va vb _ ⟨_, ea⟩ ⟨_, eb⟩ Q E h => by subst ea eb; exact floordiv_int hb (h _ _ Grow.toks ⟨_, rfl⟩) (.inl hp)
theorem Ev.pow {l r : Expr} {a n : Int} (h1 : EvT Γ l ρ (.int a)) (h2 : EvT Γ r ρ (.int n)) (hn : 0 ≤ n) (hp : (Builtin.Int.intBits a : Int) * n ≤ 2 ^ 27) : EvT Γ (.BinOp l .Pow r pos) ρ (.int (a ^ n.toNat)) :=
  Ev.bin h1 h2 fun φ s va vb _ ⟨_, ea⟩ ⟨_, eb⟩ Q E h => by subst ea eb; exact pow_int hn hp (h _ _ Grow.toks ⟨_, rfl⟩)
theorem Ev.mul {l r : Expr} {a b : Int} (h1 : EvT Γ l ρ (.int a)) (h2 : EvT Γ r ρ (.int b)) (hf : IntMulOk a b) : EvT Γ (.BinOp l .Mult r pos) ρ (.int (a * b)) :=
  Ev.bin h1 h2 fun φ s va vb _ ⟨_, ea⟩ ⟨_, eb⟩ Q E h => by subst ea eb; exact mul_int (h _ _ Grow.toks ⟨_, rfl⟩) hf

/-- an augmented store -/
theorem St.aug {x : Str} {px : Pos} {op : Operator} {e : Expr} {a b c : D} (i : Nat) (hx : Γ.names[i]? = some x) (hi : ρ[i]? = some (.dat a)) (h : EvT Γ e ρ b)
    (hop : ∀ φ s va vb, In Γ ρ φ s → Lay (Forb Γ φ) s.heap a va → Lay (Forb Γ φ) s.heap b vb → Gives Γ φ (inplaceOp op va vb) c s) : StT Γ (.AugAssign (.Name x px) op e pos) ρ (.next (ρ.set i (.dat c))) := fun φ s I Q E k => by
  obtain ⟨v, hv, hl⟩ := I.slots i _ x hi hx
  refine wpAny_AugAssign_Name (load_var I hv (h φ s I _ _ fun vb s1 g l => hop φ s1 v vb (I.grow g) (hl.grow g) l _ _ fun vc s2 g2 l2 => store_dat ((I.grow g).grow g2) hx l2 fun φ' s3 I3 st ev => k _ _ ⟨rfl, φ', I3, (Step.ofGrow (g.trans g2)).trans st, fun j a e => ?_⟩))
  rcases ev j a e with q | q
  · exact .inl q
  · cases z : s.heap.get? a with
    | none => exact .inr rfl
    | some ob => rw [Grow.keep (g.trans g2) z] at q; cases q
theorem St.iadd {x : Str} {px : Pos} {e : Expr} {a b : Int} (i : Nat) (hx : Γ.names[i]? = some x) (hi : ρ[i]? = some (.dat (.int a))) (h : EvT Γ e ρ (.int b)) : StT Γ (.AugAssign (.Name x px) .Add e pos) ρ (.next (ρ.set i (.dat (.int (a + b))))) :=
  St.aug i hx hi h fun φ s va vb _ ⟨_, ea⟩ ⟨_, eb⟩ Q E h => by subst ea eb; exact iadd_int (h _ _ Grow.toks ⟨_, rfl⟩)
theorem St.isub {x : Str} {px : Pos} {e : Expr} {a b : Int} (i : Nat) (hx : Γ.names[i]? = some x) (hi : ρ[i]? = some (.dat (.int a))) (h : EvT Γ e ρ (.int b)) : StT Γ (.AugAssign (.Name x px) .Sub e pos) ρ (.next (ρ.set i (.dat (.int (a - b))))) :=
  St.aug i hx hi h fun φ s va vb _ ⟨_, ea⟩ ⟨_, eb⟩ Q E h => by subst ea eb; exact isub_int (h _ _ Grow.toks ⟨_, rfl⟩)
end
end Mine

namespace Mine
open PySem PyProof.Rows PySem.W PySem.Calls

theorem sub_tail {prog : Program} {w : World} {A : Around} {E : Value → Shared → Prop} {s : Shared} {value slice : Expr} {o i : Value} {T id : String} {Q : Value → Shared → Prop} (hT : s.TypeIs o T)
    (hl : typeLookup (.type T) "__getitem__" = pure (some (.builtin id))) (hg : wpAny (model prog w) A (getItem o i) Q E s) : wpAny (model prog w) A (subscriptTail value slice o i) Q E s := by
  unfold subscriptTail
  refine wpAny_bind ?_
  rw [getitemInPython_of_ne hT.not_modules]
  refine wpAny_bind (wpAny_specialOf hT hl ?_)
  have hs : ∃ ops, subscripted slice false o i = operate ops (getItem o i) := by
    unfold subscripted
    split
    · exact ⟨_, rfl⟩
    · rename_i h; cases h
    · exact ⟨_, rfl⟩
  obtain ⟨ops, hs⟩ := hs
  have fin : wpAny (model prog w) A (subscripted slice false o i) (fun r s₃ => wpAny (model prog w) A (letTemporaryGo value o r >>= fun _ => pure r) Q E s₃) E s := by
    rw [hs]
    exact wpAny_operating (wpAny_mono hg (fun r s₃ h₃ => wpAny_bind (wpAny_letTemporaryGo (wpAny_pure h₃))) fun _ _ x => x)
  exact wpAny_pure (wpAny_bind fin)

section
variable {Γ : Fx} {ρ ρ' : List Sl} {φ φ' : FS} {s s' : Shared} {o : Out} {pos : Pos}

theorem list_type (hp : PlainL s.heap a its) : s.TypeIs (.ref a) "list" := let ⟨o, n, ho, hc, _⟩ := hp; ⟨o, ho, hc⟩

theorem layL_get {W : Addr → Prop} {h : Heap} : ∀ {ds : List D} {vs : List Value} {i : Nat} {d : D}, LayL W h ds vs → ds[i]? = some d → ∃ v, vs[i]? = some v ∧ Lay W h d v
  | [], _, _, _, _, e => by simp at e
  | d :: ds, vs, i, d', H, e => by
    simp only [LayL] at H
    obtain ⟨v, r, rfl, h1, h2⟩ := H
    cases i with
    | zero => simp at e; subst e; exact ⟨v, rfl, h1⟩
    | succ i => simp at e; simpa using layL_get h2 e

theorem Ev.item {e e' : Expr} {ds : List D} {k : Int} {d : D} (h : EvT Γ e ρ (.list ds)) (h' : EvT Γ e' ρ (.int k)) (h0 : 0 ≤ k) (hk : k < 2 ^ 63) (hd : ds[k.toNat]? = some d) : EvT Γ (.Subscript e e' pos) ρ d := fun φ s I Q E q =>
  Subscript_ (h φ s I _ _ fun v s1 g1 l1 => h' φ s1 (I.grow g1) _ _ fun v' s2 g2 l2 => by
    have l1' := l1.grow g2
    simp only [Lay] at l1'
    obtain ⟨a, its, rfl, hw, hp, hl⟩ := l1'
    obtain ⟨t, rfl⟩ := l2
    obtain ⟨v, hv, hlv⟩ := layL_get hl hd
    refine sub_tail (list_type hp) slot_list_getitem.lookup (wpAny_getItem_list hp.isList h0 hk (by rw [← Array.getElem?_toList]; exact hv) (q _ _ (g1.trans g2) hlv)))

/-- a slice's part -/
def PartT (Γ : Fx) (ρ : List Sl) : Option Expr → Option Int → Prop
  | none, none => True
  | some e, some i => EvT Γ e ρ (.int i)
  | _, _ => False

theorem part_ev {oe : Option Expr} {oi : Option Int} (h : PartT Γ ρ oe oi) (I : In Γ ρ φ s) {Q : Value → Shared → Prop} {E : Value → Shared → Prop} (k : ∀ v s', Grow s s' → IsPart v oi → (∃ l, v = partValue l ∧ l.map (·.1) = oi) → Q v s') : wpAny Γ.M Γ.A (evalPart oe Γ.env) Q E s := by
  cases oe with
  | none => cases oi with
    | none => exact wpAny_evalPart_none (k _ _ (Step.refl _ _) (by constructor) ⟨none, rfl, rfl⟩)
    | some i => cases h
  | some e => cases oi with
    | none => cases h
    | some i =>
      refine wpAny_evalPart_some ((show EvT Γ e ρ (.int i) from h) φ s I _ _ fun v s' g l => ?_)
      obtain ⟨t, rfl⟩ := l
      exact k _ _ g (by constructor) ⟨some (i, t), rfl, rfl⟩

def pickL {α : Type} (lo hi st : Option Int) (l : List α) : List α :=
  (sliceRange (sliceBounds lo hi st l.length).1 (sliceBounds lo hi st l.length).2.1 (sliceBounds lo hi st l.length).2.2).filterMap (l[·]?)

theorem layL_pick {W : Addr → Prop} {h : Heap} {ds : List D} {its : Array Value} (H : LayL W h ds its.toList) : ∀ (idx : List Nat), LayL W h (idx.filterMap (ds[·]?)) (idx.filterMap (its[·]?))
  | [] => rfl
  | i :: r => by
    have ih := layL_pick H r
    have hlen := layL_length H
    rw [Array.length_toList] at hlen
    cases q : ds[i]? with
    | none =>
      have q2 : its[i]? = none := by
        rw [Array.getElem?_eq_none]
        rw [hlen]; exact List.getElem?_eq_none_iff.mp q
      simp only [List.filterMap_cons, q, q2]
      exact ih
    | some d =>
      obtain ⟨v, hv, hl⟩ := layL_get H q
      rw [Array.getElem?_toList] at hv
      simp only [List.filterMap_cons, q, hv]
      exact ⟨v, _, rfl, hl, ih⟩

theorem Ev.slice {e : Expr} {lo hi st : Option Expr} {a b c : Option Int} {p : Pos} {ds : List D} (h : EvT Γ e ρ (.list ds)) (h1 : PartT Γ ρ lo a) (h2 : PartT Γ ρ hi b) (h3 : PartT Γ ρ st c) (hc : c ≠ some 0 := by decide) (hs : ds.length ≤ sizeLine) :
    EvT Γ (.Subscript e (.Slice lo hi st p) pos) ρ (.list (pickL a b c ds)) := fun φ s I Q E q =>
  Subscript_ (h φ s I _ _ fun v s1 g1 l1 => wpAny_Slice (part_ev h1 (I.grow g1) fun v1 s2 g2 p1 _ => part_ev h2 ((I.grow g1).grow g2) fun v2 s3 g3 p2 _ => part_ev h3 (((I.grow g1).grow g2).grow g3) fun v3 s4 g4 p3 _ => by
    have I4 := (((I.grow g1).grow g2).grow g3).grow g4
    have g5 : Grow s4 { s4 with heap := s4.heap.push { cls := .type "slice", data := .fields #[v1, v2, v3] }, toks := s4.toks } := Grow.push
    have l1' := (((l1.grow g2).grow g3).grow g4).grow g5
    simp only [Lay] at l1'
    obtain ⟨a', its, rfl, hw, hp, hl⟩ := l1'
    have hlen := layL_length hl
    rw [Array.length_toList] at hlen
    refine sub_tail (list_type hp) slot_list_getitem.lookup (wpAny_getItem_list_slice hp.isList ⟨_, Heap.get?_push_size _ rfl, rfl, rfl⟩ p1 p2 p3 hc ?_ (by rw [hlen]; exact hs))
    have hn := newAt (h := (s4.heap.push { cls := .type "slice", data := .fields #[v1, v2, v3] })) default
    refine q _ _ ((((g1.trans g2).trans g3).trans g4).trans (g5.trans Grow.push)) ?_
    simp only [Lay]
    refine ⟨_, slicePick its a b c, rfl, (I4.grow g5).fresh hn, ⟨_, 0, Heap.get?_push_size _ rfl, rfl, rfl, rfl⟩, ?_⟩
    have z := layL_pick hl (sliceRange (sliceBounds a b c its.size).1 (sliceBounds a b c its.size).2.1 (sliceBounds a b c its.size).2.2)
    unfold pickL slicePick
    rw [← hlen]
    exact LayL.carry (W := Forb Γ φ) (h := s4.heap.push { cls := .type "slice", data := .fields #[v1, v2, v3] }) (fun x o xs n ho hd hf => ⟨Heap.get?_push_of_some _ ho, hf⟩) _ _ (by simpa using z)))
end
end Mine

namespace Mine
open PySem PyProof.Rows PySem.W PySem.Calls

section
variable {Γ : Fx} {ρ ρ' : List Sl} {φ φ' : FS} {s s' : Shared} {o : Out} {pos : Pos}

theorem layL_cat {W : Addr → Prop} {h : Heap} : ∀ {ds es : List D} {vs us : List Value}, LayL W h ds vs → LayL W h es us → LayL W h (ds ++ es) (vs ++ us)
  | [], _, _, _, H, K => by simp only [LayL] at H; subst H; exact K
  | _ :: _, _, vs, _, H, K => by
    simp only [LayL] at H
    obtain ⟨v, r, rfl, h1, h2⟩ := H
    exact ⟨v, r ++ _, rfl, h1, layL_cat h2 K⟩

theorem Ev.addL {l r : Expr} {ds es : List D} (h1 : EvT Γ l ρ (.list ds)) (h2 : EvT Γ r ρ (.list es)) (hs : ds.length + es.length ≤ sizeLine) : EvT Γ (.BinOp l .Add r pos) ρ (.list (ds ++ es)) :=
  Ev.bin h1 h2 fun φ s va vb I la lb Q E h => by
    simp only [Lay] at la lb
    obtain ⟨a, its, rfl, hw, hp, hl⟩ := la
    obtain ⟨b, its2, rfl, hw2, hp2, hl2⟩ := lb
    have e1 := layL_length hl
    have e2 := layL_length hl2
    rw [Array.length_toList] at e1 e2
    obtain ⟨⟨cls, dd, data, sl⟩, n, ho, hc, hdi, hd⟩ := id hp
    obtain ⟨⟨cls2, dd2, data2, sl2⟩, n2, ho2, hc2, hdi2, hd2⟩ := id hp2
    simp only at hc hd hc2 hd2
    subst hc hd hc2 hd2
    refine concat_meets ⟨_, ho, rfl⟩ ⟨_, ho2, rfl⟩ noFill_list_add seq_list_add PySem.F.slot_list_add PySem.F.entry_list_add (PySem.F.args_list_add_2 _ _) (list_addW a b its its2 n n2 dd dd2 sl sl2 (by omega)) ⟨ho, ho2, ?_⟩
    have hn := newAt (h := s.heap) default
    refine h _ _ Grow.push ?_
    simp only [Lay]
    refine ⟨_, its ++ its2, rfl, I.fresh hn, ⟨_, 0, Heap.get?_push_size _ rfl, rfl, rfl, rfl⟩, ?_⟩
    rw [Array.toList_append]
    exact layL_cat (LayL.grow (s := s) hl (Grow.push (tk := s.toks))) (LayL.grow (s := s) hl2 (Grow.push (tk := s.toks)))

/-- texts in a list -/
def strsD (ys : List Str) : List D := ys.map .str
theorem strs_of {W : Addr → Prop} {h : Heap} : ∀ {ys : List Str} {vs : List Value}, LayL W h (strsD ys) vs → StrsAre vs ys
  | [], _, H => by simp only [strsD, List.map_nil, LayL] at H; subst H; exact .nil
  | y :: ys, _, H => by
    simp only [strsD, List.map_cons, LayL, Lay] at H
    obtain ⟨v, r, rfl, ⟨t, rfl⟩, h2⟩ := H
    exact .cons y t (strs_of h2)
def intsD (ys : List Int) : List D := ys.map .int
theorem ints_of {W : Addr → Prop} {h : Heap} : ∀ {ys : List Int} {vs : List Value}, LayL W h (intsD ys) vs → IntsAre vs ys
  | [], _, H => by simp only [intsD, List.map_nil, LayL] at H; subst H; exact .nil
  | y :: ys, _, H => by
    simp only [intsD, List.map_cons, LayL, Lay] at H
    obtain ⟨v, r, rfl, ⟨t, rfl⟩, h2⟩ := H
    exact .cons y t (ints_of h2)

/-- a method with one argument -/
theorem Ev.meth {e e' : Expr} {name : Str} {T id : String} {a b d : D} {apos : Pos} (h : EvT Γ e ρ a) (h' : EvT Γ e' ρ b) (pa : PlainAttrs T) (slot : Slot T name id) (hty : typeOf (.builtin id) = pure (.type "method_descriptor"))
    (hT : ∀ (φ : FS) (s : Shared) (v : Value), Lay (Forb Γ φ) s.heap a v → s.TypeIs v T ∧ ∀ x, v = .ref x → ∃ ob, s.heap.get? x = some ob ∧ ob.dict = Option.none)
    (hc : ∀ (φ : FS) (s : Shared) (v v' : Value), In Γ ρ φ s → Lay (Forb Γ φ) s.heap a v → Lay (Forb Γ φ) s.heap b v' → Gives Γ φ (PySem.call (.builtin id) [v, v']) d s)
    (hb : attributeBase e name Γ.env (eval e Γ.env) = eval e Γ.env := by rfl) (hl : (apos.endLine == pos.line) = true := by rfl) (hs : starEach [e'] Γ.env = [(false, eval e' Γ.env)] := by rfl) : EvT Γ (.Call (.Attribute e name apos) [e'] [] pos) ρ d := fun φ s I Q E k =>
  Call_method1 hb hs hl (h φ s I _ _ fun v s1 g l => by
    obtain ⟨t1, t2⟩ := hT φ s1 v l
    refine ⟨T, id, pa, slot, hty, t1, t2, ?_⟩
    refine Calls.callWith_builtin rfl (Calls.evalArgs_plain (Calls.spliced_cons (h' φ s1 (I.grow g) _ _ fun v' s2 g2 l2 => Calls.spliced_nil ?_)))
    exact hc φ s2 v v' ((I.grow g).grow g2) (l.grow g2) l2 _ _ fun v3 s3 g3 l3 => k v3 s3 ((g.trans g2).trans g3) l3)
theorem typ_str {φ : FS} {x : Str} (s : Shared) (v : Value) (l : Lay (Forb Γ φ) s.heap (.str x) v) : s.TypeIs v "str" ∧ ∀ x, v = .ref x → ∃ ob, s.heap.get? x = some ob ∧ ob.dict = none := by
  obtain ⟨t, rfl⟩ := l
  exact ⟨typeIs_str _ _ _, fun _ e => nomatch e⟩
theorem typ_list {φ : FS} {ds : List D} (s : Shared) (v : Value) (l : Lay (Forb Γ φ) s.heap (.list ds) v) : s.TypeIs v "list" ∧ ∀ x, v = .ref x → ∃ ob, s.heap.get? x = some ob ∧ ob.dict = none := by
  simp only [Lay] at l
  obtain ⟨a, its, rfl, hw, hp, hl⟩ := l
  refine ⟨list_type hp, fun x e => ?_⟩
  cases e
  obtain ⟨ob, n, ho, hc, hd, hda⟩ := hp
  exact ⟨ob, ho, hd⟩
theorem Ev.join {e e' : Expr} {x : Str} {ys : List Str} {apos : Pos} (h : EvT Γ e ρ (.str x)) (h' : EvT Γ e' ρ (.list (strsD ys))) (hok : (ys.map (·.length)).sum + ys.length * x.length ≤ 16777216)
    (hb : attributeBase e "join" Γ.env (eval e Γ.env) = eval e Γ.env := by rfl) (hl : (apos.endLine == pos.line) = true := by rfl) (hs : starEach [e'] Γ.env = [(false, eval e' Γ.env)] := by rfl) : EvT Γ (.Call (.Attribute e "join" apos) [e'] [] pos) ρ (.str (Txt.join x ys)) :=
  Ev.meth h h' F.plainAttrs_str F.slot_str_join F.type_str_join (fun φ s v l => typ_str s v l) (fun φ s v v' I l l' Q E k => by
    obtain ⟨t, rfl⟩ := l
    simp only [Lay] at l'
    obtain ⟨a, its, rfl, hw, hp, hl⟩ := l'
    exact join_list hp.isList (strs_of hl) hok fun t' c => k _ _ Grow.toks ⟨_, rfl⟩) hb hl hs

theorem layL_mem {W : Addr → Prop} {h : Heap} : ∀ {ds : List D} {vs : List Value}, LayL W h ds vs → ∀ (i : Nat) (y : Value), vs[i]? = some y → ∃ d, ds[i]? = some d ∧ Lay W h d y
  | [], _, H, i, y, e => by simp only [LayL] at H; subst H; simp at e
  | d :: ds, vs, H, i, y, e => by
    simp only [LayL] at H
    obtain ⟨v, r, rfl, h1, h2⟩ := H
    cases i with
    | zero => simp at e; subst e; exact ⟨d, rfl, h1⟩
    | succ i => simp at e; simpa using layL_mem h2 i y e

def isStrV (x : Str) : Value → Bool
  | .str y _ => y == x
  | _ => false
def isBoolV (x : Bool) : Value → Bool
  | .bool y => y == x
  | _ => false

theorem any_strs {W : Addr → Prop} {h : Heap} (x : Str) : ∀ {ys : List Str} {vs : List Value}, LayL W h (strsD ys) vs → vs.any (isStrV x) = ys.contains x
  | [], _, H => by simp only [strsD, List.map_nil, LayL] at H; subst H; rfl
  | y :: ys, _, H => by
    simp only [strsD, List.map_cons, LayL, Lay] at H
    obtain ⟨v, r, rfl, ⟨t, rfl⟩, h2⟩ := H
    rw [List.any_cons, List.contains_cons, any_strs x h2]
    show ((y == x) || _) = ((x == y) || _)
    rw [Bool.beq_comm (a := x)]
theorem Cmp.inL {x : Str} {ys : List Str} : CmpT Γ .In (.str x) (.list (strsD ys)) (ys.contains x) := fun ρ φ s va vb I la lb Q E h => by
  obtain ⟨t, rfl⟩ := la
  simp only [Lay] at lb
  obtain ⟨a, its, rfl, hw, hp, hl⟩ := lb
  refine PySem.SeqAt.in_listAt (isStrV x) hp.isList (fun y hy => ?_) ?_
  · obtain ⟨i, hi⟩ := List.getElem?_of_mem (Array.mem_toList_iff.mpr hy)
    obtain ⟨d, hd, ly⟩ := layL_mem hl i y hi
    obtain ⟨z, _, rfl⟩ := List.mem_map.mp (List.mem_of_getElem? hd)
    obtain ⟨u, rfl⟩ := ly
    exact PySem.SeqAt.EqAt.str_str _ _ _ _
  · rw [← Array.any_toList, any_strs x hl]
    exact h _ (Step.refl _ _)

theorem isStr_at (x : Str) {W : Addr → Prop} {h : Heap} {ys : List Str} {vs : List Value} (H : LayL W h (strsD ys) vs) (j : Nat) (h1 : j < vs.length) (h2 : j < ys.length) : isStrV x vs[j] = (ys[j] == x) := by
  obtain ⟨d, hd, ly⟩ := layL_mem H j vs[j] (by simp)
  have : (strsD ys)[j]? = some (.str ys[j]) := by simp [strsD, h2]
  rw [this] at hd
  cases hd
  obtain ⟨u, hu⟩ := ly
  rw [hu]; rfl
theorem isBool_at (x : Bool) {W : Addr → Prop} {h : Heap} {ys : List Bool} {vs : List Value} (H : LayL W h (ys.map .bool) vs) (j : Nat) (h1 : j < vs.length) (h2 : j < ys.length) : isBoolV x vs[j] = (ys[j] == x) := by
  obtain ⟨d, hd, ly⟩ := layL_mem H j vs[j] (by simp)
  have : (ys.map D.bool)[j]? = some (.bool ys[j]) := by simp [h2]
  rw [this] at hd
  cases hd
  simp only [Lay] at ly
  rw [ly]; rfl

/-- where a list's first equal item lies -/
theorem index_call {α : Type} [BEq α] [LawfulBEq α] {f : α → D} {x : α} {ys : List α} (isV : Value → Bool) (hx : x ∈ ys) (hsz : ys.length ≤ sizeLine)
    (hat : ∀ (W : Addr → Prop) (h : Heap) (vs : List Value), LayL W h (ys.map f) vs → ∀ (j : Nat) (h1 : j < vs.length) (h2 : j < ys.length), isV vs[j] = (ys[j] == x))
    (heq : ∀ (W : Addr → Prop) (s : Shared) (y v : Value) (z : α) (A : Around), Lay W s.heap (f z) y → Lay W s.heap (f x) v → PySem.SeqAt.EqAt A s y v (isV y)) {φ : FS} {s : Shared} {v v' : Value} (I : In Γ ρ φ s)
    (l : Lay (Forb Γ φ) s.heap (.list (ys.map f)) v) (l' : Lay (Forb Γ φ) s.heap (f x) v') : Gives Γ φ (PySem.call (.builtin "list.index") [v, v']) (.int (ys.idxOf x : Nat)) s := fun Q E k => by
  simp only [Lay] at l
  obtain ⟨a, its, rfl, hw, hp, hl⟩ := l
  have hlen := layL_length hl
  rw [Array.length_toList, List.length_map] at hlen
  obtain ⟨⟨cls, dd, data, sl⟩, n, ho, hc, hdi, hd⟩ := id hp
  simp only at hc hd
  subst hc hd
  have hj : ys.idxOf x < ys.length := List.idxOf_lt_length_iff.mpr hx
  have hjs : ys.idxOf x < its.size := by omega
  have hsl : (sizeLine : Nat) = 16777216 := by decide
  refine call_meets PySem.F.slot_list_index ⟨_, ho, rfl⟩ PySem.F.entry_list_index (PySem.F.args_list_index_2 _ _)
    (PySem.SeqAt.list_indexAt a its n dd sl v' isV (ys.idxOf x) hjs (by omega) ?_ ?_) ⟨ho, fun y hy => ?_, k _ _ Grow.toks ⟨_, rfl⟩⟩
  · have z := hat _ _ _ hl (ys.idxOf x) (by rw [Array.length_toList]; exact hjs) hj
    rw [Array.getElem_toList] at z
    rw [z]; simpa using List.getElem_idxOf hj
  · intro m hm hlt
    have z := hat _ _ _ hl m (by rw [Array.length_toList]; exact hm) (by omega)
    rw [Array.getElem_toList] at z
    rw [z]
    have hml : m < ys.length := by omega
    have := List.not_of_lt_findIdx (p := (· == x)) (xs := ys) (i := m) (by simpa [List.idxOf] using hlt)
    simpa using this
  · obtain ⟨i, hi⟩ := List.getElem?_of_mem (Array.mem_toList_iff.mpr hy)
    obtain ⟨d, hd, ly⟩ := layL_mem hl i y hi
    obtain ⟨z, _, rfl⟩ := List.mem_map.mp (List.mem_of_getElem? hd)
    exact heq _ s y v' z _ ly l'
theorem Ev.indexS {e e' : Expr} {x : Str} {ys : List Str} {apos : Pos} (h : EvT Γ e ρ (.list (strsD ys))) (h' : EvT Γ e' ρ (.str x)) (hx : x ∈ ys) (hsz : ys.length ≤ sizeLine)
    (hb : attributeBase e "index" Γ.env (eval e Γ.env) = eval e Γ.env := by rfl) (hl : (apos.endLine == pos.line) = true := by rfl) (hs : starEach [e'] Γ.env = [(false, eval e' Γ.env)] := by rfl) : EvT Γ (.Call (.Attribute e "index" apos) [e'] [] pos) ρ (.int (ys.idxOf x : Nat)) :=
  Ev.meth h h' F.plainAttrs_list F.slot_list_index F.type_list_index (fun φ s v l => typ_list s v l) (fun φ s v v' I l l' =>
    index_call (isStrV x) hx hsz (fun W h vs H j h1 h2 => isStr_at x H j h1 h2) (fun W s y v z A ly lv => by
      obtain ⟨t, rfl⟩ := ly
      obtain ⟨u, rfl⟩ := lv
      exact PySem.SeqAt.EqAt.str_str _ _ _ _) I l l') hb hl hs
theorem Ev.indexB {e e' : Expr} {x : Bool} {ys : List Bool} {apos : Pos} (h : EvT Γ e ρ (.list (ys.map .bool))) (h' : EvT Γ e' ρ (.bool x)) (hx : x ∈ ys) (hsz : ys.length ≤ sizeLine)
    (hb : attributeBase e "index" Γ.env (eval e Γ.env) = eval e Γ.env := by rfl) (hl : (apos.endLine == pos.line) = true := by rfl) (hs : starEach [e'] Γ.env = [(false, eval e' Γ.env)] := by rfl) : EvT Γ (.Call (.Attribute e "index" apos) [e'] [] pos) ρ (.int (ys.idxOf x : Nat)) :=
  Ev.meth h h' F.plainAttrs_list F.slot_list_index F.type_list_index (fun φ s v l => typ_list s v l) (fun φ s v v' I l l' =>
    index_call (isBoolV x) hx hsz (fun W h vs H j h1 h2 => isBool_at x H j h1 h2) (fun W s y v z A ly lv => by
      simp only [Lay] at ly lv
      subst ly lv
      exact PySem.SeqAt.EqAt.bool_bool _ _) I l l') hb hl hs
end
end Mine

namespace Mine
open PySem PyProof.Rows PySem.W PySem.Calls

section
variable {Γ : Fx} {ρ ρ' : List Sl} {φ φ' : FS} {s s' : Shared} {o : Out} {pos : Pos}

theorem Bt.lenL {ds : List D} (hs : ds.length ≤ sizeLine) : BGives Γ (.builtin "len") [.list ds] (.int ds.length) := fun ρ φ s vs I l Q E k => by
  simp only [LayL, Lay] at l
  obtain ⟨v, r, rfl, ⟨a, its, rfl, hw, hp, hl⟩, rfl⟩ := l
  have hlen := layL_length hl
  rw [Array.length_toList] at hlen
  have hsl : (sizeLine : Nat) = 16777216 := by decide
  refine Calls.call_len_list hp.isList (by omega) ?_
  rw [hlen]
  exact k _ _ Grow.toks ⟨_, rfl⟩
theorem Bt.lenS {x : Str} (hs : x.length ≤ sizeLine) : BGives Γ (.builtin "len") [.str x] (.int x.length) := fun ρ φ s vs I l Q E k => by
  simp only [LayL, Lay] at l
  obtain ⟨v, r, rfl, ⟨t, rfl⟩, rfl⟩ := l
  have hsl : (sizeLine : Nat) = 16777216 := by decide
  exact PySem.P.len_str (by omega) (k _ _ Grow.toks ⟨_, rfl⟩)
/-- len of a list that is being built -/
theorem Ev.lenOwn {f x : Str} {np px : Pos} {l : List D} (i : Nat) (hg : BltnIs Γ.h₁ f (.builtin "len")) (hf : Γ.env.kindOf f = some .globalImplicit) (hx : Γ.names[i]? = some x) (hi : ρ[i]? = some (.own l)) (hs : l.length ≤ sizeLine)
    (hd : (f == ("__debug__" : Str)) = false := by decide +kernel) (hdx : (x == ("__debug__" : Str)) = false := by decide +kernel) : EvT Γ (.Call (.Name f np) [.Name x px] [] pos) ρ (.int l.length) := fun φ s I Q E k => by
  obtain ⟨a, its, h1, h2, h3, h4⟩ := I.slots i _ x hi hx
  have hlen := layL_length h4
  rw [Array.length_toList] at hlen
  have hsl : (sizeLine : Nat) = 16777216 := by decide
  refine Call_ (name_bltn I hg hf hd (PyProof.Rows.callWith_builtin1 (args_cons (wpAny_Name (load_var I h2 (args_nil (Calls.call_len_list h3.isList (by omega) ?_))) hdx) rfl) rfl rfl))
  rw [hlen]
  exact k _ _ Grow.toks ⟨_, rfl⟩
theorem Bt.sum {ys : List Int} : BGives Γ (.builtin "sum") [.list (intsD ys)] (.int ys.sum) := fun ρ φ s vs I l Q E k => by
  simp only [LayL, Lay] at l
  obtain ⟨v, r, rfl, ⟨a, its, rfl, hw, hp, hl⟩, rfl⟩ := l
  have hi := ints_of hl
  have hall : AllInts its := by
    have := hi.allInts
    simpa using this
  obtain ⟨xs, e⟩ := hall.items
  subst e
  refine sum_intListG I.ok.room.handled hp.isList fun h' tk t' hk => ?_
  have e2 : preSum (numAt xs) xs.size = ys.sum := by
    rw [← hi.numsOf, nums_intItems, preSum_eq, List.take_of_length_le (by simp)]
  rw [e2]
  exact k _ _ (Grow.heap hk) ⟨_, rfl⟩
theorem Bt.max {a b : Int} : BGives Γ (.builtin "max") [.int a, .int b] (.int (max a b)) := fun ρ φ s vs I l Q E k => by
  simp only [LayL, Lay] at l
  obtain ⟨v, r, rfl, ⟨t, rfl⟩, v', r', rfl, ⟨u, rfl⟩, rfl⟩ := l
  refine max_two_ints I.ok.room.handled fun h' tk hk => ?_
  by_cases q : b > a
  · rw [if_pos q]
    exact k _ _ (Grow.heap hk) ⟨_, by rw [Int.max_eq_right (by omega)]⟩
  · rw [if_neg q]
    exact k _ _ (Grow.heap hk) ⟨_, by rw [Int.max_eq_left (by omega)]⟩
theorem Bt.str {a : Int} (ha : a.natAbs.log2 < 1920) : BGives Γ (.type "str") [.int a] (.str (toString a)) := fun ρ φ s vs I l Q E k => by
  simp only [LayL, Lay] at l
  obtain ⟨v, r, rfl, ⟨t, rfl⟩, rfl⟩ := l
  exact PySem.P.str_of_int ha (k _ _ Grow.toks ⟨_, rfl⟩)


mutual
def D.py : D → PyData
  | .none => .none
  | .bool b => .bool b
  | .int i => .int i
  | .str x => .str x
  | .list l => .list (D.pys l)
  | .tuple l => .tuple (D.pys l)
def D.pys : List D → List PyData
  | [] => []
  | d :: l => D.py d :: D.pys l
end
mutual
theorem Lay.reads {W : Addr → Prop} {h : Heap} : ∀ (d : D) (v : Value), Lay W h d v → ∃ as, Reads h v d.py as
  | .none, v, H => by simp only [Lay] at H; subst H; exact ⟨_, .none⟩
  | .bool b, v, H => by simp only [Lay] at H; subst H; exact ⟨_, .bool b⟩
  | .int i, v, H => by simp only [Lay] at H; obtain ⟨t, rfl⟩ := H; exact ⟨_, .int i t⟩
  | .str x, v, H => by simp only [Lay] at H; obtain ⟨t, rfl⟩ := H; exact ⟨_, .str x t⟩
  | .list l, v, H => by
    simp only [Lay] at H
    obtain ⟨a, its, rfl, hw, ⟨o, n, ho, hc, hd, hs⟩, hl⟩ := H
    obtain ⟨as, ha⟩ := LayL.reads l _ hl
    exact ⟨_, .list ho hc hs ha⟩
  | .tuple l, v, H => by
    simp only [Lay] at H
    obtain ⟨a, its, rfl, hw, ⟨o, ho, hc, n, hs⟩, hl⟩ := H
    obtain ⟨as, ha⟩ := LayL.reads l _ hl
    exact ⟨_, .tuple ho hc hs ha⟩
theorem LayL.reads {W : Addr → Prop} {h : Heap} : ∀ (l : List D) (vs : List Value), LayL W h l vs → ∃ as, ReadsAll h vs (D.pys l) as
  | [], vs, H => by simp only [LayL] at H; subst H; exact ⟨_, .nil⟩
  | d :: l, vs, H => by
    simp only [LayL] at H
    obtain ⟨v, r, rfl, h1, h2⟩ := H
    obtain ⟨as, ha⟩ := Lay.reads d v h1
    obtain ⟨bs, hb⟩ := LayL.reads l r h2
    exact ⟨_, .cons ha hb⟩
end
theorem Cmp.eqD {a b : D} (ha : a.py.canLay0 = true) (hb : b.py.canLay0 = true) (hu : min a.py.depth b.py.depth ≤ 8) (hk : 1 ≤ Γ.k) : CmpT Γ .Eq a b (PyData.eqv a.py b.py) := fun ρ φ s va vb I la lb Q E h => by
  obtain ⟨as, ra⟩ := Lay.reads _ _ la
  obtain ⟨bs, rb⟩ := Lay.reads _ _ lb
  have := I.ok.room.units
  exact PySem.SeqAt.compareEq_reads ra rb ha hb (by omega) (h _ (Step.refl _ _))
theorem Cmp.neD {a b : D} (ha : a.py.canLay0 = true) (hb : b.py.canLay0 = true) (hu : min a.py.depth b.py.depth ≤ 8) (hk : 1 ≤ Γ.k) : CmpT Γ .NotEq a b (!PyData.eqv a.py b.py) := fun ρ φ s va vb I la lb Q E h => by
  obtain ⟨as, ra⟩ := Lay.reads _ _ la
  obtain ⟨bs, rb⟩ := Lay.reads _ _ lb
  have := I.ok.room.units
  exact PySem.SeqAt.compareNe_reads ra rb ha hb (by omega) (h _ (Step.refl _ _))
end
end Mine

namespace Mine
open PySem PyProof.Rows PySem.W PySem.Calls

/-- all stays but the objects of F and the generators of G -/
structure Touch (F : Addr → Prop) (G : Nat → Prop) (s s' : Shared) : Prop where
  keep : ∀ a o, ¬ F a → s.heap.get? a = some o → s'.heap.get? a = some o
  os : s'.os = s.os
  bare : AllBare s.gens → AllBare s'.gens
  gsize : s.gens.size ≤ s'.gens.size
  gens : ∀ g, g < s.gens.size → ¬ G g → s'.gens[g]? = s.gens[g]?

structure Iter (M : Model) (A : Around) (h₁ : Heap) (it : Value) (F : Addr → Prop) (G : Nat → Prop) (S : (Addr → Prop) → List D → Shared → Prop) : Prop where
  noseq : ∀ W ds s, S W ds s → ∀ a o xs n, F a → s.heap.get? a = some o → o.data ≠ .seq xs n
  nil : ∀ W s, S W [] s → ∀ (Q : Option Value → Shared → Prop) (E : Value → Shared → Prop), (∀ s', Touch F G s s' → Q none s') → wpAny M A (pyNext it) Q E s
  cons : ∀ W d ds s, S W (d :: ds) s → ∀ (Q : Option Value → Shared → Prop) (E : Value → Shared → Prop), (∀ v s', Touch F G s s' → S W ds s' → Lay W s'.heap d v → Q (some v) s') → wpAny M A (pyNext it) Q E s
  go : ∀ W ds s, S W ds s → ∀ (target : Expr) (v : Value) (Q : Unit → Shared → Prop) (E : Value → Shared → Prop), Q () s → wpAny M A (letOwnedTupleGo target it v) Q E s
  self : ∀ W ds s, S W ds s → ∀ (Q : Value → Shared → Prop) (E : Value → Shared → Prop), Q it s → wpAny M A (pyIter it) Q E s
  carry : ∀ W W' ds s s', S W ds s → (∀ a o, F a → s.heap.get? a = some o → s'.heap.get? a = some o) → (∀ g, G g → g < s.gens.size → s'.gens[g]? = s.gens[g]?) → s.gens.size ≤ s'.gens.size →
    (∀ a o, h₁.get? a = some o → s'.heap.get? a = some o) → Carry W W' s.heap s'.heap → S W' ds s'

section
variable {Γ : Fx} {ρ ρ' : List Sl} {φ φ' : FS} {s s' : Shared} {o : Out} {pos : Pos} {F : Addr → Prop} {G : Nat → Prop}

theorem In.touch (I : In Γ ρ φ s) (t : Touch F G s s') (hL : ¬ F Γ.env.locals) (hc : ∀ x c, Γ.env.cells.lookup x = some c → ¬ F c) (h1 : ∀ a, F a → Γ.h₁.get? a = none) (hw : ∀ a, F a → ¬ Γ.W₀ a)
    (hs : ∀ a o xs n, F a → s.heap.get? a = some o → o.data ≠ .seq xs n) : In Γ ρ φ s' := by
  have C : Carry (Forb Γ φ) (Forb Γ φ) s.heap s'.heap := fun a o xs n ho hd hf => ⟨t.keep a o (fun q => hs a o xs n q ho hd) ho, hf⟩
  have pl : ∀ a its, PlainL s.heap a its → PlainL s'.heap a its := fun a its hp => by
    obtain ⟨o, n, ho, k1, k2, k3⟩ := hp
    exact ⟨o, n, t.keep a o (fun q => hs a o its n q ho k3) ho, k1, k2, k3⟩
  have var : ∀ x v, Var Γ φ s.heap x v → Var Γ φ s'.heap x v := fun x v hv => by
    rcases hv with hv | ⟨k, c, k2, oc, ho, hd⟩
    · exact .inl hv
    · exact .inr ⟨k, c, k2, oc, t.keep c oc (hc x c k2) ho, hd⟩
  refine ⟨I.ok, fun a o e => t.keep a o (fun q => by rw [h1 a q] at e; cases e) (I.old a o e), ?_, I.nsNew, fun x c e => ?_, fun i σ x hi hx => ?_, I.inj, fun i a e => ?_, fun a e => ?_, t.bare I.bare⟩
  · obtain ⟨o, es, ep, ho, r⟩ := I.ns
    exact ⟨o, es, ep, t.keep _ o hL ho, r⟩
  · obtain ⟨⟨v, oc, ho, hd⟩, n⟩ := I.cells x c e
    exact ⟨⟨v, oc, t.keep c oc (hc x c e) ho, hd⟩, n⟩
  · have z := I.slots i σ x hi hx
    cases σ with
    | any => trivial
    | dat d => obtain ⟨v, h2, h3⟩ := z; exact ⟨v, var x v h2, h3.carry C⟩
    | own l => obtain ⟨a, its, h2, h3, h4, h5⟩ := z; exact ⟨a, its, h2, var x _ h3, pl a its h4, h5.carry C⟩
    | val v => exact var x v z
  · obtain ⟨⟨its, hp⟩, r⟩ := I.own i a e
    exact ⟨⟨its, pl a its hp⟩, r⟩
  · obtain ⟨ob, ho⟩ := I.w0 a e
    exact ⟨ob, t.keep a ob (fun q => hw a q e) ho⟩

/-- a source of items -/
def SrcT (Γ : Fx) (e : Expr) (ρ : List Sl) (ds : List D) : Prop := ∀ φ s, In Γ ρ φ s → ∀ (Q : Value → Shared → Prop) (E : Value → Shared → Prop),
  (∀ it s2 F G S, Grow s s2 → Iter Γ.M Γ.A Γ.h₁ it F G S → (∀ a, F a → s.heap.get? a = none) → (∀ g, G g → s.gens.size ≤ g) → S (Forb Γ φ) ds s2 → Q it s2) →
  wpAny Γ.M Γ.A (eval e Γ.env) (fun x s1 => wpAny Γ.M Γ.A (pyIter x) Q E s1) E s

/-- a source whose objects all stand at its start -/
def SrcC (Γ : Fx) (e : Expr) (ρ : List Sl) (ds : List D) : Prop := ∀ φ s, In Γ ρ φ s → ∀ (Q : Value → Shared → Prop) (E : Value → Shared → Prop),
  (∀ it s2 F G S, Grow s s2 → Iter Γ.M Γ.A Γ.h₁ it F G S → (∀ a, F a → s.heap.get? a = none ∧ a < s2.heap.objs.size) → (∀ g, G g → s.gens.size ≤ g) → S (Forb Γ φ) ds s2 → Q it s2) →
  wpAny Γ.M Γ.A (eval e Γ.env) (fun x s1 => wpAny Γ.M Γ.A (pyIter x) Q E s1) E s
theorem SrcC.src {e : Expr} {ds : List D} (h : SrcC Γ e ρ ds) : SrcT Γ e ρ ds := fun φ s I Q E k => h φ s I Q E fun it s2 F G S g hi hF hG hS => k it s2 F G S g hi (fun a q => (hF a q).1) hG hS

/-- what a turn's item does to the names -/
def AsgT (Γ : Fx) (target : Expr) (b : D → List Sl → Option (List Sl)) : Prop := ∀ ρ ρ' φ s d v, In Γ ρ φ s → b d ρ = some ρ' → Lay (Forb Γ φ) s.heap d v → ∀ (Q : Unit → Shared → Prop) (E : Value → Shared → Prop),
  (∀ φ' s', In Γ ρ' φ' s' → Step (Mut Γ φ) s s' → Evo φ φ' s → Q () s') → wpAny Γ.M Γ.A (assign target Γ.env v) Q E s
def bind1 (i : Nat) (d : D) (ρ : List Sl) : Option (List Sl) := some (ρ.set i (.dat d))
theorem Asg.name {x : Str} {px : Pos} (i : Nat) (hx : Γ.names[i]? = some x) : AsgT Γ (.Name x px) (bind1 i) := fun ρ ρ' φ s d v I hb hl Q E k => by
  cases hb
  exact wpAny_assign_Name (store_dat I hx hl k)

inductive LoopR (Γ : Fx) (b : D → List Sl → Option (List Sl)) (body : List Stmt) : List D → List Sl → Out → Prop
  | nil {ρ : List Sl} : LoopR Γ b body [] ρ (.next ρ)
  | next {d : D} {ds : List D} {ρ ρ₁ ρ₂ : List Sl} {o : Out} : b d ρ = some ρ₁ → ExT Γ body ρ₁ (.next ρ₂) → LoopR Γ b body ds ρ₂ o → LoopR Γ b body (d :: ds) ρ o
  | ret {d : D} {ds : List D} {ρ ρ₁ : List Sl} {r : D} : b d ρ = some ρ₁ → ExT Γ body ρ₁ (.ret r) → LoopR Γ b body (d :: ds) ρ (.ret r)

theorem Evo.trans_grow {φ φ' : FS} {s s' : Shared} (g : Grow s s') (ev : Evo φ φ' s') : Evo φ φ' s := fun j a e => by
  rcases ev j a e with q | q
  · exact .inl q
  · cases z : s.heap.get? a with
    | none => exact .inr rfl
    | some ob => rw [g.keep z] at q; cases q

theorem St.for {target e : Expr} {body : List Stmt} {ds : List D} {b : D → List Sl → Option (List Sl)} (hsrc : SrcT Γ e ρ ds) (hasg : AsgT Γ target b) (hl : LoopR Γ b body ds ρ o)
    (hf : ∀ x, foldedSetIterable e Γ.env x = pure x := by intro _; rfl) : StT Γ (.For target e body [] pos) ρ o := fun φ s I Q E k => by
  refine wpAny_For (hsrc φ s I _ _ fun it s2 F G S g2 hit hF hG hS => ?_) hf
  have I2 := I.grow g2
  have hL : ¬ F Γ.env.locals := fun q => by
    obtain ⟨oL, _, _, hL, _⟩ := I.ns
    rw [hF _ q] at hL; cases hL
  have hc : ∀ x c, Γ.env.cells.lookup x = some c → ¬ F c := fun x c e q => by
    obtain ⟨⟨v, oc, ho, _⟩, _⟩ := I.cells x c e
    rw [hF _ q] at ho; cases ho
  have h1 : ∀ a, F a → Γ.h₁.get? a = none := fun a q => by
    cases z : Γ.h₁.get? a with
    | none => rfl
    | some ob => have := I.old a ob z; rw [hF a q] at this; cases this
  have hw : ∀ a, F a → ¬ Γ.W₀ a := fun a q w => by
    obtain ⟨ob, ho⟩ := I.w0 a w
    rw [hF a q] at ho; cases ho
  have tst : ∀ {s' s'' : Shared}, Step (Mut Γ φ) s s' → Touch F G s' s'' → Step (Mut Γ φ) s s'' := fun st t =>
    ⟨fun a ob n e => t.keep a ob (fun q => by rw [hF a q] at e; cases e) (st.keep a ob n e), t.os.trans st.os, t.bare ∘ st.bare, Nat.le_trans st.gsize t.gsize,
      fun g hg => (t.gens g (Nat.lt_of_lt_of_le hg st.gsize) fun q => absurd (hG g q) (Nat.not_le_of_lt hg)).trans (st.gens g hg)⟩
  refine codeAny_forLoop_any (fun n s' => ∃ ds ρ φ', n = ds.length ∧ LoopR Γ b body ds ρ o ∧ In Γ ρ φ' s' ∧ Step (Mut Γ φ) s s' ∧ Evo φ φ' s ∧ S (Forb Γ φ') ds s') ?_ ds.length ⟨ds, ρ, φ, rfl, hl, I2, Step.ofGrow g2, Evo.refl _ _, hS⟩
  rintro n s3 ⟨ds, ρ, φ3, rfl, hl, I3, st3, ev3, hS3⟩
  cases hl with
  | nil =>
    refine hit.nil _ _ hS3 _ _ fun s4 t4 => wpAny_execs_nil (k _ _ ?_)
    exact ⟨rfl, φ3, I3.touch t4 hL hc h1 hw (hit.noseq _ _ _ hS3), tst st3 t4, ev3⟩
  | @next d ds _ ρ₁ ρ₂ _ hb hbody hrest =>
    refine hit.cons _ _ _ _ hS3 _ _ fun v s4 t4 hS4 l4 => ?_
    have I4 := I3.touch t4 hL hc h1 hw (hit.noseq _ _ _ hS3)
    refine hit.go _ _ _ hS4 _ _ _ _ ?_
    refine hasg ρ ρ₁ φ3 s4 d v I4 hb l4 _ _ fun φ5 s5 I5 st5 ev5 => ?_
    refine hbody φ5 s5 I5 _ _ fun fl s6 p => ?_
    obtain ⟨rfl, φ6, I6, st6, ev6⟩ := p
    have z := I4.then st5 ev5 I5 st6 ev6
    have z2 := I.then (tst st3 t4) (fun i a e => ev3 i a e) I4 z.1 z.2
    refine ⟨ds.length, by simp, ds, ρ₂, φ6, rfl, hrest, I6, z2.1, z2.2, ?_⟩
    refine hit.carry _ _ _ _ _ hS4 (fun a ob q e => z.1.keep a ob ?_ e) (fun g q hg => z.1.gens g hg) z.1.gsize I6.old (I4.carry z.1 z.2)
    rintro (w | ⟨x, w⟩ | ⟨i, w⟩)
    · exact hL (w ▸ q)
    · exact hc x a w q
    · obtain ⟨⟨its, ob', n', ho', _, _, hd'⟩, _⟩ := I4.own i a w
      exact hit.noseq _ _ _ hS4 a ob' its n' q ho' hd'
  | @ret d ds _ ρ₁ r hb hbody =>
    refine hit.cons _ _ _ _ hS3 _ _ fun v s4 t4 hS4 l4 => ?_
    have I4 := I3.touch t4 hL hc h1 hw (hit.noseq _ _ _ hS3)
    refine hit.go _ _ _ hS4 _ _ _ _ ?_
    refine hasg ρ ρ₁ φ3 s4 d v I4 hb l4 _ _ fun φ5 s5 I5 st5 ev5 => ?_
    refine hbody φ5 s5 I5 _ _ fun fl s6 p => ?_
    have p' := Post.then I4 st5 ev5 I5 p
    have p'' := Post.then I (tst st3 t4) ev3 I4 p'
    obtain ⟨v', rfl, r'⟩ := id p''
    exact k _ _ p''

inductive WhR (Γ : Fx) (test : Expr) (body : List Stmt) : Nat → List Sl → Out → Prop
  | stop {n : Nat} {ρ : List Sl} : TsT Γ test ρ false → WhR Γ test body n ρ (.next ρ)
  | next {n : Nat} {ρ ρ₁ : List Sl} {o : Out} : TsT Γ test ρ true → ExT Γ body ρ (.next ρ₁) → WhR Γ test body n ρ₁ o → WhR Γ test body (n + 1) ρ o
  | ret {n : Nat} {ρ : List Sl} {r : D} : TsT Γ test ρ true → ExT Γ body ρ (.ret r) → WhR Γ test body n ρ (.ret r)

theorem St.while {test : Expr} {body : List Stmt} {n : Nat} (h : WhR Γ test body n ρ o) : StT Γ (.While test body [] pos) ρ o := fun φ s I Q E k => by
  refine wpAny_While ?_
  refine codeAny_whileLoop (fun n s' => ∃ ρ φ', WhR Γ test body n ρ o ∧ In Γ ρ φ' s' ∧ Step (Mut Γ φ) s s' ∧ Evo φ φ' s) ?_ n ⟨ρ, φ, h, I, Step.refl _ _, Evo.refl _ _⟩
  rintro n s1 ⟨ρ, φ1, h, I1, st1, ev1⟩
  cases h with
  | stop ht =>
    refine ht φ1 s1 I1 _ _ fun s2 g2 => ?_
    rw [if_neg (by decide)]
    exact wpAny_execs_nil (k _ _ ⟨rfl, φ1, I1.grow g2, st1.trans (Step.ofGrow g2), ev1⟩)
  | next ht hb hr =>
    refine ht φ1 s1 I1 _ _ fun s2 g2 => ?_
    rw [if_pos rfl]
    refine hb φ1 s2 (I1.grow g2) _ _ fun fl s3 p => ?_
    obtain ⟨rfl, φ3, I3, st3, ev3⟩ := p
    have z := I.then (st1.trans (Step.ofGrow g2)) ev1 (I1.grow g2) st3 ev3
    exact ⟨_, Nat.lt_succ_self _, _, φ3, hr, I3, z.1, z.2⟩
  | ret ht hb =>
    refine ht φ1 s1 I1 _ _ fun s2 g2 => ?_
    rw [if_pos rfl]
    refine hb φ1 s2 (I1.grow g2) _ _ fun fl s3 p => ?_
    have p' := Post.then I (st1.trans (Step.ofGrow g2)) ev1 (I1.grow g2) p
    obtain ⟨v, rfl, r'⟩ := id p'
    exact k _ _ p'
end
end Mine

namespace Mine
open PySem PyProof.Rows PySem.W PySem.Calls

def ownsTuples : List String := ["enumerate", "zip", "dict_itemiterator", "dict_reverseitemiterator", "odict_iterator", "itertools.zip_longest", "itertools.pairwise"]

theorem letGo_other {M : Model} {A : Around} {E : Value → Shared → Prop} {s : Shared} {target : Expr} {I : Addr} {v : Value} {o : Obj} {n : String} {vs : Array Value} {Q : Unit → Shared → Prop} (ho : s.heap.get? I = some o) (hc : o.cls = .type n) (hd : o.data = .fields vs) (hn : ownsTuples.contains n = false) (hQ : Q () s) :
    wpAny M A (letOwnedTupleGo target (.ref I) v) Q E s := by
  have core : ∀ a, wpAny M A (do
      let o ← load I
      match o.cls, o.data with
      | .type n, .fields vs =>
        if ["enumerate", "zip", "dict_itemiterator", "dict_reverseitemiterator", "odict_iterator", "itertools.zip_longest", "itertools.pairwise"].contains n && vs[0]? == some (rawInt a) then
          rule "for.unpacks-the-owned-tuple"
          updateField I 0 .none
      | _, _ => pure ()) Q E s := by
    intro a
    refine wpAny_bind (wpAny_load ho ?_)
    rw [hc, hd]
    have hn' : (["enumerate", "zip", "dict_itemiterator", "dict_reverseitemiterator", "odict_iterator", "itertools.zip_longest", "itertools.pairwise"] : List String).contains n = false := hn
    simp only [hn', Bool.false_and, Bool.false_eq_true, if_false]
    exact wpAny_pure hQ
  unfold letOwnedTupleGo
  split
  · cases v with
    | ref a => exact core a
    | _ => exact wpAny_pure hQ
  · cases v with
    | ref a => exact core a
    | _ => exact wpAny_pure hQ
  · exact wpAny_pure hQ

section
variable {Γ : Fx} {ρ ρ' : List Sl} {φ φ' : FS} {s s' : Shared} {o : Out} {pos : Pos} {F : Addr → Prop} {G : Nat → Prop}

def LS (I : Addr) (W : Addr → Prop) (ds : List D) (s : Shared) : Prop := ∃ l its i, s.heap.IsListIter I l i ∧ PlainL s.heap l its ∧ ¬ W l ∧ LayL W s.heap ds (its.toList.drop i)

theorem iter_list {prog : Program} {w : World} {A : Around} {h₁ : Heap} (hh : A.handled = none) (I : Addr) : Iter (model prog w) A h₁ (.ref I) (· = I) (fun _ => False) (LS I) where
  noseq := by
    rintro W ds s ⟨l, its, i, ⟨o, ho, hc, hd⟩, _⟩ a ob xs n rfl hb hs
    rw [ho] at hb; cases hb
    rw [hd] at hs; cases hs
  nil := by
    rintro W s ⟨l, its, i, hit, hp, hw, hl⟩ Q E k
    simp only [LayL] at hl
    have hi : its[i]? = none := by
      rw [Array.getElem?_eq_none]
      have := congrArg List.length hl
      simp at this
      omega
    exact wpAny_pyNext_list_end hh hit hp.isList hi fun h' he => k _ ⟨fun a o n e => he a o n e, rfl, id, Nat.le_refl _, fun _ _ _ => rfl⟩
  cons := by
    rintro W d ds s ⟨l, its, i, hit, hp, hw, hl⟩ Q E k
    simp only [LayL] at hl
    obtain ⟨v, r, e, h1, h2⟩ := hl
    have hi : its[i]? = some v := by
      rw [← Array.getElem?_toList]
      have : (its.toList.drop i)[0]? = some v := by rw [e]; rfl
      simpa using this
    have hr : its.toList.drop (i + 1) = r := by
      rw [← List.drop_drop, e]; rfl
    obtain ⟨oi, hoi, hoc, hod⟩ := id hit
    refine wpAny_pyNext_list_item hit hp.isList hi fun h' hit' hs => ?_
    have keep : ∀ a o, a ≠ I → s.heap.get? a = some o → h'.get? a = some o := fun a o n e => (hs.2 a n).trans e
    have C : Carry W W s.heap h' := fun a o xs n ho hd hf => ⟨keep a o (fun q => by subst q; rw [hoi] at ho; cases ho; rw [hod] at hd; cases hd) ho, hf⟩
    obtain ⟨ol, nl, hol, k1, k2, k3⟩ := hp
    refine k v _ ⟨fun a o n e => keep a o n e, rfl, id, Nat.le_refl _, fun _ _ _ => rfl⟩ ⟨l, its, i + 1, hit', ⟨ol, nl, (C l ol its nl hol k3 hw).1, k1, k2, k3⟩, hw, ?_⟩ (h1.carry C)
    rw [hr]; exact h2.carry C
  go := by
    rintro W ds s ⟨l, its, i, ⟨o, ho, hc, hd⟩, _⟩ target v Q E k
    exact letGo_other ho hc hd (by decide) k
  self := by
    rintro W ds s ⟨l, its, i, hit, _⟩ Q E k
    exact wpAny_pyIter_listiter hit k
  carry := by
    rintro W W' ds s s' ⟨l, its, i, ⟨o, ho, hc, hd⟩, ⟨ol, nl, hol, k1, k2, k3⟩, hw, hl⟩ hF _ _ _ C
    have z := C l ol its nl hol k3 hw
    exact ⟨l, its, i, ⟨o, hF I o rfl ho, hc, hd⟩, ⟨ol, nl, z.1, k1, k2, k3⟩, z.2, hl.carry C⟩

theorem Src.list {e : Expr} {ds : List D} (h : EvT Γ e ρ (.list ds)) : SrcC Γ e ρ ds := fun φ s I Q E k =>
  h φ s I _ _ fun v s1 g l => by
    simp only [Lay] at l
    obtain ⟨a, its, rfl, hw, hp, hl⟩ := l
    refine wpAny_pyIter_list hp.isList ?_
    have g2 : Grow s1 { s1 with heap := s1.heap.push { cls := .type "list_iterator", data := .fields #[.ref a, .int 0 0] }, toks := s1.toks } := Grow.push
    refine k _ _ _ _ _ (g.trans g2) (iter_list I.ok.room.handled s1.heap.objs.size) (fun b q => ⟨?_, by rw [q]; simp [Heap.size_push]⟩) (fun g q => q.elim) ⟨a, its, 0, ⟨_, Heap.get?_push_size _ rfl, rfl, rfl⟩, plainL_grow hp g2, hw, ?_⟩
    · subst q
      cases z : s.heap.get? s1.heap.objs.size with
      | none => rfl
      | some ob => have := g.keep z; rw [newAt (h := s1.heap) default] at this; cases this
    · rw [List.drop_zero]; exact LayL.grow (s := s1) hl g2

def rangeD (x step : Int) (n : Nat) : List D := (List.range n).map fun (k : Nat) => D.int (x + k * step)
theorem rangeD_succ (x step : Int) (n : Nat) : rangeD x step (n + 1) = .int x :: rangeD (x + step) step n := by
  unfold rangeD
  rw [List.range_succ_eq_map, List.map_cons, List.map_map]
  congr 1
  · simp
  · refine List.map_congr_left fun k _ => ?_
    simp only [Function.comp]
    congr 1
    rw [Int.natCast_succ, Int.add_mul, Int.one_mul]; omega

def RS (I : Addr) (step : Int) (W : Addr → Prop) (ds : List D) (s : Shared) : Prop := ∃ (x : Int) (n : Nat), IsRangeIter s.heap I x n step ∧ ds = rangeD x step n

theorem iter_range {prog : Program} {w : World} {A : Around} {h₁ : Heap} (hh : A.handled = none) (I : Addr) (step : Int) : Iter (model prog w) A h₁ (.ref I) (· = I) (fun _ => False) (RS I step) where
  noseq := by
    rintro W ds s ⟨x, n', ho, _⟩ a ob xs n rfl hb hs
    have ho' : s.heap.get? a = some _ := ho
    rw [ho'] at hb; cases hb
    cases hs
  nil := by
    rintro W s ⟨x, n, ho, e⟩ Q E k
    cases n with
    | zero => exact wpAny_pyNext_range_end hh ho (by simp) fun h' he => k _ ⟨fun a o n e => he a o n e, rfl, id, Nat.le_refl _, fun _ _ _ => rfl⟩
    | succ n => rw [rangeD_succ] at e; cases e
  cons := by
    rintro W d ds s ⟨x, n, ho, e⟩ Q E k
    cases n with
    | zero => cases e
    | succ n =>
      rw [rangeD_succ] at e
      cases e
      refine wpAny_pyNext_range_item ho (by omega) fun h' hit' hs => ?_
      refine k _ _ ⟨fun a o n e => (hs.2 a n).trans e, rfl, id, Nat.le_refl _, fun _ _ _ => rfl⟩ ⟨x + step, n, ?_, rfl⟩ ⟨_, rfl⟩
      have : (((n + 1 : Nat) : Int) - 1) = (n : Int) := by omega
      rw [this] at hit'; exact hit'
  go := by
    rintro W ds s ⟨x, n, ho, e⟩ target v Q E k
    exact letGo_other ho rfl rfl (by decide) k
  self := by
    rintro W ds s ⟨x, n, ho, e⟩ Q E k
    exact wpAny_pyIter_rangeiter ho k
  carry := by
    rintro W W' ds s s' ⟨x, n, ho, e⟩ hF _ _ _ C
    exact ⟨x, n, hF I _ rfl ho, e⟩

theorem range_src {φ : FS} {s1 : Shared} {r : Addr} {a b c : Int} {t u v : Tok} {Q : Value → Shared → Prop} {E : Value → Shared → Prop} (I : In Γ ρ φ s) (g : Grow s s1) (hr : IsRange s1.heap r a b c t u v) (hsm : Builtin.Range.small a b c = true) (n : Nat) (hn : Builtin.Range.rangeSize a b c = n)
    (k : ∀ it s2 F G S, Grow s s2 → Iter Γ.M Γ.A Γ.h₁ it F G S → (∀ a, F a → s.heap.get? a = none ∧ a < s2.heap.objs.size) → (∀ g, G g → s.gens.size ≤ g) → S (Forb Γ φ) (rangeD a c n) s2 → Q it s2) : wpAny Γ.M Γ.A (pyIter (.ref r)) Q E s1 := by
  refine wpAny_pyIter_range hr hsm ?_
  have g2 : Grow s1 { s1 with heap := s1.heap.push { cls := .type "range_iterator", data := .fields #[rawInt a, rawInt (Builtin.Range.rangeSize a b c), rawInt c] }, toks := s1.toks } := Grow.push
  refine k _ _ _ _ _ (g.trans g2) (iter_range I.ok.room.handled s1.heap.objs.size c) (fun b q => ⟨?_, by rw [q]; simp [Heap.size_push]⟩) (fun g q => q.elim) ⟨a, n, ?_, rfl⟩
  · subst q
    cases z : s.heap.get? s1.heap.objs.size with
    | none => rfl
    | some ob => have := g.keep z; rw [newAt (h := s1.heap) default] at this; cases this
  · rw [hn]; exact Heap.get?_push_size _ rfl

theorem Src.range1 {f : Str} {np : Pos} {e : Expr} {b : Int} (hg : BltnIs Γ.h₁ f (.type "range")) (hx : Γ.env.kindOf f = some .globalImplicit) (h : EvT Γ e ρ (.int b)) (n : Nat) (hn : b = n) (hb : b < 2 ^ 31)
    (hd : (f == ("__debug__" : Str)) = false := by decide +kernel) (he : starEach [e] Γ.env = [(false, eval e Γ.env)] := by rfl) : SrcC Γ (.Call (.Name f np) [e] [] pos) ρ (rangeD 0 1 n) := fun φ s I Q E k =>
  Call_ (name_bltn I hg hx hd (PyProof.Rows.callWith_type1 (args_cons (h φ s I _ _ fun v s1 g l => args_nil (by
    obtain ⟨t, rfl⟩ := l
    refine call_range_1 ?_
    refine range_src I (g.trans (Grow.push (tk := s1.toks + 1 + 1))) (IsRange.new ..) ?_ n ?_ k
    · subst hn
      unfold Builtin.Range.small Builtin.Range.rangeFitsLong Builtin.Range.rangeSize
      simp only [Bool.and_eq_true, decide_eq_true_eq, Bool.or_eq_true, beq_iff_eq]
      refine ⟨⟨⟨⟨by omega, by omega⟩, by omega⟩, ?_⟩, ?_⟩
      · split <;> split <;> omega
      · right
        simp only [if_pos (show (1 : Int) > 0 by omega)]
        simp; omega
    · subst hn
      unfold Builtin.Range.rangeSize
      simp only [if_pos (show (1 : Int) > 0 by omega)]
      split <;> omega)) he) he rfl))
theorem small_up {a b : Int} (ha : -(2 ^ 31) < a) (hb : b < 2 ^ 31) (ha' : a < 2 ^ 31) (hb' : -(2 ^ 31) < b) : Builtin.Range.small a b 1 = true := by
  unfold Builtin.Range.small Builtin.Range.rangeFitsLong Builtin.Range.rangeSize
  simp only [Bool.and_eq_true, decide_eq_true_eq, Bool.or_eq_true, beq_iff_eq]
  refine ⟨⟨⟨⟨by omega, by omega⟩, by omega⟩, ?_⟩, ?_⟩
  · split <;> split <;> omega
  · right
    simp only [if_pos (show (1 : Int) > 0 by omega)]
    simp; omega
theorem Src.range2 {f : Str} {np : Pos} {e e' : Expr} {a b : Int} (hg : BltnIs Γ.h₁ f (.type "range")) (hx : Γ.env.kindOf f = some .globalImplicit) (h : EvT Γ e ρ (.int a)) (h' : EvT Γ e' ρ (.int b)) (n : Nat) (hn : (b - a).toNat = n) (ha : -(2 ^ 31) < a) (ha' : a < 2 ^ 31) (hb' : -(2 ^ 31) < b) (hb : b < 2 ^ 31)
    (hd : (f == ("__debug__" : Str)) = false := by decide +kernel) (he : starEach [e, e'] Γ.env = [(false, eval e Γ.env), (false, eval e' Γ.env)] := by rfl) (he' : starEach [e'] Γ.env = [(false, eval e' Γ.env)] := by rfl) : SrcC Γ (.Call (.Name f np) [e, e'] [] pos) ρ (rangeD a 1 n) := fun φ s I Q E k =>
  Call_ (name_bltn I hg hx hd (PyProof.Rows.callWith_type1 (args_cons (h φ s I _ _ fun v s1 g l => args_cons (h' φ s1 (I.grow g) _ _ fun v' s2 g2 l2 => args_nil (by
    obtain ⟨t, rfl⟩ := l
    obtain ⟨u, rfl⟩ := l2
    refine call_range_2 ?_
    refine range_src I ((g.trans g2).trans (Grow.push (tk := s2.toks + 1))) (IsRange.new ..) (small_up ha hb ha' hb') n ?_ k
    unfold Builtin.Range.rangeSize
    simp only [if_pos (show (1 : Int) > 0 by omega)]
    split <;> omega)) he') (by rw [he, he'])) (by rw [he, he']) (by rw [he']; rfl)))
theorem Src.down {f : Str} {np p1 p2 : Pos} {e : Expr} {k1 k2 : Nat} {a : Int} (hg : BltnIs Γ.h₁ f (.type "range")) (hx : Γ.env.kindOf f = some .globalImplicit) (h : EvT Γ e ρ (.int a)) {e2 e3 : Expr} (h2 : EvT Γ e2 ρ (.int (-1))) (h3 : EvT Γ e3 ρ (.int (-1))) (n : Nat) (hn : a + 1 = n) (ha' : a < 2 ^ 31)
    (hd : (f == ("__debug__" : Str)) = false := by decide +kernel) (he : starEach [e, e2, e3] Γ.env = [(false, eval e Γ.env), (false, eval e2 Γ.env), (false, eval e3 Γ.env)] := by rfl) (he' : starEach [e2, e3] Γ.env = [(false, eval e2 Γ.env), (false, eval e3 Γ.env)] := by rfl) (he'' : starEach [e3] Γ.env = [(false, eval e3 Γ.env)] := by rfl) :
    SrcC Γ (.Call (.Name f np) [e, e2, e3] [] pos) ρ (rangeD a (-1) n) := fun φ s I Q E k =>
  Call_ (name_bltn I hg hx hd (PyProof.Rows.callWith_type1 (args_cons (h φ s I _ _ fun v s1 g l => args_cons (h2 φ s1 (I.grow g) _ _ fun v' s2 g2 l2 => args_cons (h3 φ s2 ((I.grow g).grow g2) _ _ fun v'' s3 g3 l3 => args_nil (by
    obtain ⟨t, rfl⟩ := l
    obtain ⟨u, rfl⟩ := l2
    obtain ⟨u', rfl⟩ := l3
    refine call_range_3 (by decide) ?_ (Or.inl (PyProof.noPylong_small (by omega)))
    refine range_src I (((g.trans g2).trans g3).trans (Grow.push (tk := s3.toks))) (IsRange.new ..) ?_ n ?_ k
    · unfold Builtin.Range.small Builtin.Range.rangeFitsLong Builtin.Range.rangeSize
      simp only [Bool.and_eq_true, decide_eq_true_eq, Bool.or_eq_true, beq_iff_eq]
      have hneg : ¬ ((-1 : Int) > 0) := by decide
      simp only [if_neg hneg, Int.neg_neg, Int.ediv_one]
      refine ⟨⟨⟨⟨by omega, by omega⟩, by omega⟩, ?_⟩, ?_⟩
      · split <;> omega
      · right; simp
    · unfold Builtin.Range.rangeSize
      have hneg : ¬ ((-1 : Int) > 0) := by decide
      simp only [if_neg hneg, Int.neg_neg, Int.ediv_one]
      split <;> omega)) he'') (by rw [he', he''])) (by rw [he, he'])) (by rw [he, he']) (by rw [he']; rfl)))
end
end Mine

namespace Mine
open PySem PyProof.Rows PySem.W PySem.Calls

/-- the cells that a comprehension takes over -/
def closL (env : Env) : List (Str × NameKind) → List (Str × Addr) → List (Str × Addr)
  | [], acc => acc
  | (n, k) :: r, acc => if k == .free then (match env.cells.lookup n with | some c => closL env r ((n, c) :: acc) | none => closL env r acc) else closL env r acc

theorem closL_sound (env : Env) : ∀ (names : List (Str × NameKind)) (acc : List (Str × Addr)), (∀ n c, acc.lookup n = some c → env.cells.lookup n = some c) → ∀ n c, (closL env names acc).lookup n = some c → env.cells.lookup n = some c
  | [], acc, H, n, c, e => H n c e
  | (x, k) :: r, acc, H, n, c, e => by
    unfold closL at e
    split at e
    · split at e
      · rename_i c' hc
        refine closL_sound env r _ (fun m d q => ?_) n c e
        rw [List.lookup_cons] at q
        by_cases z : (m == x) = true
        · simp only [z] at q; cases q; rw [beq_iff_eq.mp z]; exact hc
        · simp only [z] at q; exact H m d q
      · exact closL_sound env r _ H n c e
    · exact closL_sound env r _ H n c e
theorem closL_some (env : Env) : ∀ (names : List (Str × NameKind)) (acc : List (Str × Addr)) (n : Str), ((acc.lookup n).isSome = true ∨ ((n, NameKind.free) ∈ names ∧ (env.cells.lookup n).isSome = true)) → ((closL env names acc).lookup n).isSome = true
  | [], acc, n, h => by
    rcases h with h | ⟨h, _⟩
    · exact h
    · cases h
  | (x, k) :: r, acc, n, h => by
    unfold closL
    by_cases hk : (k == NameKind.free) = true
    · rw [if_pos hk]
      split
      · rename_i c hc
        refine closL_some env r _ n ?_
        by_cases z : (n == x) = true
        · left; rw [List.lookup_cons]; simp only [z]; rfl
        · rcases h with h | ⟨h, h2⟩
          · left; rw [List.lookup_cons]; simp only [z]; exact h
          · right
            refine ⟨?_, h2⟩
            rcases List.mem_cons.mp h with q | q
            · have : n = x := congrArg Prod.fst q
              rw [this] at z; simp at z
            · exact q
      · rename_i hc
        refine closL_some env r _ n ?_
        rcases h with h | ⟨h, h2⟩
        · exact .inl h
        · right
          refine ⟨?_, h2⟩
          rcases List.mem_cons.mp h with q | q
          · have : n = x := congrArg Prod.fst q
            rw [this, hc] at h2; cases h2
          · exact q
    · rw [if_neg hk]
      refine closL_some env r _ n ?_
      rcases h with h | ⟨h, h2⟩
      · exact .inl h
      · right
        refine ⟨?_, h2⟩
        rcases List.mem_cons.mp h with q | q
        · have : NameKind.free = k := congrArg Prod.snd q
          rw [← this] at hk; exact absurd rfl hk
        · exact q

theorem closureFor_eq {scope : Scope} {env : Env} (h : ∀ x ∈ scope.names, x.2 = .free → (env.cells.lookup x.1).isSome = true) : closureFor scope env = pure (closL env scope.names []) := by
  have key : ∀ (names : List (Str × NameKind)) (acc : List (Str × Addr)), (∀ x ∈ names, x.2 = .free → (env.cells.lookup x.1).isSome = true) →
      (forIn names acc (fun (x : Str × NameKind) (cs : List (Str × Addr)) => (if (x.2 == NameKind.free) = true then (do let a ← cellOf env x.1; pure (ForInStep.yield ((x.1, a) :: cs))) else pure (ForInStep.yield cs) : Sem (ForInStep (List (Str × Addr))))) : Sem _) = pure (closL env names acc) := by
    intro names
    induction names with
    | nil => intro acc _; rfl
    | cons x r ih =>
      intro acc hx
      obtain ⟨n, k⟩ := x
      rw [List.forIn_cons]
      unfold closL
      by_cases hk : (k == NameKind.free) = true
      · have := hx (n, k) (.head _) (by simpa using hk)
        obtain ⟨c, hc⟩ := Option.isSome_iff_exists.mp this
        simp only [hk, if_true]
        have hc' : cellOf env n = pure c := by unfold cellOf; rw [hc]
        rw [hc', hc]
        exact ih _ fun y hy => hx y (.tail _ hy)
      · simp only [hk]
        exact ih _ fun y hy => hx y (.tail _ hy)
  unfold closureFor
  have z := key scope.names [] h
  first
    | exact z
    | (simp only [bind_pure_comp] at z ⊢; rw [show (forIn scope.names [] _ : Sem (List (Str × Addr))) = _ from z]; rfl)
    | (rw [show (forIn scope.names [] _ : Sem (List (Str × Addr))) = _ from z]; rfl)

/-- a comprehension's own names: none of them a cell, or one -/
structure CellNames (scope : Scope) (oc : Option Str) : Prop where
  cells : ∀ n acc, cellsFrom n scope.names acc = (match oc with | none => acc | some r => (r, n) :: acc)
  push : ∀ h : Heap, pushCells h scope.names = (match oc with | none => h | some r => h.push { cls := .type "cell", data := .cell none })

def compE (env : Env) (scope : Scope) (oc : Option Str) (C : Addr) : Env :=
  { scope := relabel scope env, locals := C, globals := env.globals, cells := (match oc with | none => closL env scope.names [] | some r => (r, C + 1) :: closL env scope.names []), qual := env.qual, func := none, code := env.code, frame := env.frame, builtins := env.builtins }

def frameHeap (h : Heap) : Option Str → Heap
  | none => h.push { cls := .type "dict", data := .dict #[] }
  | some _ => (h.push { cls := .type "dict", data := .dict #[] }).push { cls := .type "cell", data := .cell none }

theorem comp_env {M : Model} {A : Around} {E : Value → Shared → Prop} {s : Shared} {env : Env} {scope : Scope} {oc : Option Str} {Q : Env → Shared → Prop} (H : CellNames scope oc)
    (h : Q { compE env scope oc s.heap.objs.size with scope := scope } { s with heap := frameHeap s.heap oc }) :
    wpAny M A (newFunctionEnv scope env.globals (closL env scope.names []) [] env.qual none .none (some env)) Q E s := by
  simp only [newFunctionEnv, Option.isSome_some, if_true]
  refine wpAny_bind (wpAny_alloc ?_)
  refine wpAny_bind (wpAny_layCells _ (fun name kind cells => by cases hkc : kind == NameKind.cell <;> simp) _ _ _ _ ?_)
  rw [H.cells, H.push]
  rw [show ({ s with heap := s.heap.push { cls := .type "dict", data := .dict #[] } } : Shared).heap.objs.size = s.heap.objs.size + 1 from Heap.size_push ..]
  refine wpAny_bind ?_
  simp only [List.forIn_nil]
  refine wpAny_pure (wpAny_pure ?_)
  cases oc with
  | none => exact h
  | some r => exact h
end Mine

namespace Mine
open PySem PyProof.Rows PySem.W PySem.Calls

section
variable {Γ : Fx} {ρ ρ' : List Sl} {φ φ' : FS} {s s' : Shared} {pos : Pos}

/-- a list of W₀'s turned: the frame's facts stay -/
theorem In.butD (I : In Γ ρ φ s) {D : Addr} {h' : Heap} {tk : Nat} {oD oD' : Obj} {xs : Array Value} {n : Nat} (hw : Γ.W₀ D) (h1 : Γ.h₁.get? D = none) (hD : s.heap.get? D = some oD) (hd : oD.data = .seq xs n) (hD' : h'.get? D = some oD') (hs : ∀ b, b ≠ D → h'.get? b = s.heap.get? b) :
    In Γ ρ φ { s with heap := h', toks := tk } := by
  have C : Carry (Forb Γ φ) (Forb Γ φ) s.heap h' := fun a o xs n ho hd hf => ⟨(hs a fun q => hf (.inl (q ▸ hw))).trans ho, hf⟩
  have cellNe : ∀ c (oc : Obj) (v : Option Value), s.heap.get? c = some oc → oc.data = .cell v → c ≠ D := fun c oc v h1 h2 => Ne.symm (seq_ne_cell hD hd h1 h2)
  have var : ∀ x v, Var Γ φ s.heap x v → Var Γ φ h' x v := fun x v hv => by
    rcases hv with hv | ⟨k, c, k2, oc, ho, hd⟩
    · exact .inl hv
    · exact .inr ⟨k, c, k2, oc, (hs c (cellNe c oc _ ho hd)).trans ho, hd⟩
  have pl : ∀ i a its, φ.oa i = some a → PlainL s.heap a its → PlainL h' a its := fun i a its e hp => by
    obtain ⟨o, n, ho, r⟩ := hp
    exact ⟨o, n, (hs a fun q => (I.own i a e).2.2 (q ▸ hw)).trans ho, r⟩
  refine ⟨I.ok, fun a o e => ?_, ?_, I.nsNew, fun x c e => ?_, fun i σ x hi hx => ?_, I.inj, fun i a e => ?_, fun a e => ?_, I.bare⟩
  · by_cases q : a = D
    · subst q
      rw [h1] at e; cases e
    · exact (hs a q).trans (I.old a o e)
  · obtain ⟨o, es, ep, ho, h2, r⟩ := I.ns
    exact ⟨o, es, ep, (hs _ (Ne.symm (seq_ne_dict hD hd ho h2))).trans ho, h2, r⟩
  · obtain ⟨⟨v, oc, ho, hd⟩, n⟩ := I.cells x c e
    exact ⟨⟨v, oc, (hs c (cellNe c oc _ ho hd)).trans ho, hd⟩, n⟩
  · have z := I.slots i σ x hi hx
    cases σ with
    | any => trivial
    | dat d => obtain ⟨v, h2, h3⟩ := z; exact ⟨v, var x v h2, h3.carry C⟩
    | own l => obtain ⟨a, its, h2, h3, h4, h5⟩ := z; exact ⟨a, its, h2, var x _ h3, pl i a its h2 h4, h5.carry C⟩
    | val v => exact var x v z
  · obtain ⟨⟨its, hp⟩, r⟩ := I.own i a e
    exact ⟨⟨its, pl i a its e hp⟩, r⟩
  · by_cases q : a = D
    · exact ⟨oD', by rw [q]; exact hD'⟩
    · obtain ⟨ob, ho⟩ := I.w0 a e
      exact ⟨ob, (hs a q).trans ho⟩

/-- the frame of a comprehension within Γ -/
def compF (Γ : Fx) (φ : FS) (D : Addr) (scope : Scope) (oc : Option Str) (C : Addr) (names : List Str) : Fx :=
  ⟨Γ.prog, Γ.w, Γ.h₁, Γ.A, compE Γ.env scope oc C, fun a => Forb Γ φ a ∨ a = D, names, Γ.k⟩

/-- what a comprehension's scope must be -/
structure CompOk (Γ : Fx) (scope : Scope) (oc : Option Str) (x : Str) (names : List Str) : Prop where
  kind : scope.kind = .function
  cell : CellNames scope oc
  nodup : names.Nodup
  free : ∀ y ∈ scope.names, y.2 = .free → ∃ c, Γ.env.cells.lookup y.1 = some c
  local_ : ∀ y ∈ scope.names, y.2 = .local → scope.names.lookup y.1 = some .local
  x0 : names[0]? = some x
  xk : ((relabel scope Γ.env).names.lookup x = some .local ∧ oc = none) ∨ ((relabel scope Γ.env).names.lookup x = some .cell ∧ oc = some x)
  others : ∀ y ∈ names, y ≠ x → (relabel scope Γ.env).names.lookup y = some .cell ∧ (y, NameKind.free) ∈ scope.names
  ocx : ∀ r, oc = some r → r = x

theorem comp_cell {Γ : Fx} {scope : Scope} {oc : Option Str} {x : Str} {names : List Str} (H : CompOk Γ scope oc x names) {C : Addr} {y : Str} {c : Addr} (e : (compE Γ.env scope oc C).cells.lookup y = some c) :
    (y = x ∧ oc = some x ∧ c = C + 1) ∨ Γ.env.cells.lookup y = some c := by
  unfold compE at e
  cases oc with
  | none => exact .inr (closL_sound _ _ _ (fun _ _ q => by cases q) y c e)
  | some r =>
    have := H.ocx r rfl
    subst this
    simp only [List.lookup_cons] at e
    by_cases z : (y == r) = true
    · simp only [z] at e; cases e; exact .inl ⟨beq_iff_eq.mp z, rfl, rfl⟩
    · simp only [z] at e; exact .inr (closL_sound _ _ _ (fun _ _ q => by cases q) y c e)

theorem comp_run {elt iter : Expr} {x : Str} {px : Pos} {ifs : List Expr} {scope : Scope} {oc : Option Str} {names : List Str} {ds : List D} {f : D → D} {p : D → Bool} {it : Value} {F : Addr → Prop} {G : Nat → Prop} {S : (Addr → Prop) → List D → Shared → Prop} {L C : Addr} {s4 : Shared} {R : Result → Shared → Prop} {ρc : List Sl}
    (I : In Γ ρ φ s) (hit : Iter Γ.M Γ.A Γ.h₁ it F G S) (hF : ∀ a, F a → s.heap.get? a = none) (hG : ∀ g, G g → s.gens.size ≤ g)
    (hLn : s.heap.get? L = none) (hCn : s.heap.get? C = none) (hC1 : ∀ r, oc = some r → s.heap.get? (C + 1) = none) (hCF : ¬ F C) (hC1F : ¬ F (C + 1))
    (H : CompOk Γ scope oc x names)
    (ht : ∀ d ∈ ds, (ifs = [] ∧ p d = true) ∨ ∃ c, ifs = [c] ∧ TsT (compF Γ φ L scope oc C names) c (ρc.set 0 (.dat d)) (p d))
    (he : ∀ d ∈ ds, p d = true → EvT (compF Γ φ L scope oc C names) elt (ρc.set 0 (.dat d)) (f d))
    (hsz : ds.length ≤ sizeLine)
    (I4 : In (compF Γ φ L scope oc C names) ρc ⟨fun _ => none, fun _ => none⟩ s4) (g4 : Grow s s4) (hS : S (fun a => Forb Γ φ a ∨ a = L) ds s4) (hp4 : PlainL s4.heap L #[])
    (done : ∀ sk its, Grow s sk → PlainL sk.heap L its → LayL (fun a => Forb Γ φ a ∨ a = L) sk.heap ((ds.filter p).map f) its.toList → (∃ m, sk.heap.Ns C m) → R (.ok .next) sk) :
    codeAny Γ.M Γ.A (.compLoop (.ListComp elt [⟨.Name x px, iter, ifs, 0⟩] scope pos) 0 it (.ref L) (compE Γ.env scope oc C)) R s4 := by
  have W : ∀ (φk : FS), (∀ j, φk.oa j = none) → Forb (compF Γ φ L scope oc C names) φk = (fun a => Forb Γ φ a ∨ a = L) := fun φk hk => by
    funext a
    apply propext
    constructor
    · rintro (q | ⟨j, q⟩)
      · exact q
      · rw [hk j] at q; cases q
    · exact fun q => .inl q
  have h1L : Γ.h₁.get? L = none := by
    cases z : Γ.h₁.get? L with
    | none => rfl
    | some ob => have := I.old L ob z; rw [hLn] at this; cases this
  have h1F : ∀ a, F a → Γ.h₁.get? a = none := fun a q => by
    cases z : Γ.h₁.get? a with
    | none => rfl
    | some ob => have := I.old a ob z; rw [hF a q] at this; cases this
  have cellF : ∀ y c, (compE Γ.env scope oc C).cells.lookup y = some c → ¬ F c := fun y c e q => by
    rcases comp_cell H e with ⟨_, _, e⟩ | e
    · exact hC1F (e ▸ q)
    · obtain ⟨⟨v, ob, ho, _⟩, _⟩ := I.cells y c e
      rw [hF c q] at ho; cases ho
  have wF : ∀ sk, (∃ its, PlainL sk.heap L its) → ∀ ds', S (fun a => Forb Γ φ a ∨ a = L) ds' sk → ∀ a, F a → ¬ (Forb Γ φ a ∨ a = L) := by
    rintro sk ⟨its, o, n, ho, _, _, hd⟩ ds' hS' a q (w | w)
    · exact I.fresh (hF a q) w
    · subst w; exact hit.noseq _ _ _ hS' a o its n q ho hd
  refine codeAny_compLoop_tests (fun n sk => ∃ ds' acc its φk σ, n = ds'.length ∧ In (compF Γ φ L scope oc C names) (ρc.set 0 σ) φk sk ∧ (∀ j, φk.oa j = none) ∧ Grow s sk ∧ S (fun a => Forb Γ φ a ∨ a = L) ds' sk ∧ PlainL sk.heap L its ∧
    LayL (fun a => Forb Γ φ a ∨ a = L) sk.heap acc its.toList ∧ acc ++ (ds'.filter p).map f = (ds.filter p).map f ∧ (∀ d ∈ ds', d ∈ ds) ∧ acc.length + ds'.length ≤ ds.length) ?_ ds.length ?_
  · rintro n sk ⟨ds', acc, its, φk, σ, rfl, Ik, hoa, gk, hSk, hpk, hlk, hacc, hmem, hcnt⟩
    cases ds' with
    | nil =>
      refine hit.nil _ _ hSk _ _ fun s5 t5 => ?_
      have I5 := Ik.touch t5 hCF cellF h1F (wF sk ⟨_, hpk⟩ _ hSk) (hit.noseq _ _ _ hSk)
      refine done s5 its ⟨fun a o _ e => t5.keep a o (fun q => by rw [hF a q] at e; cases e) (gk.keep e), t5.os.trans gk.os, t5.bare ∘ gk.bare, Nat.le_trans gk.gsize t5.gsize,
        fun g hg => (t5.gens g (Nat.lt_of_lt_of_le hg gk.gsize) fun q => absurd (hG g q) (Nat.not_le_of_lt hg)).trans (gk.gens g hg)⟩ ?_ ?_ ⟨_, I5.ns⟩
      · obtain ⟨o, n, ho, k1, k2, k3⟩ := hpk
        exact ⟨o, n, t5.keep L o (fun q => hit.noseq _ _ _ hSk L o its n q ho k3) ho, k1, k2, k3⟩
      · have e : acc = (ds.filter p).map f := by simpa using hacc
        rw [← e]
        exact hlk.carry fun a o xs n ho hd hf => ⟨t5.keep a o (fun q => hit.noseq _ _ _ hSk a o xs n q ho hd) ho, hf⟩
    | cons d ds' =>
      refine hit.cons _ _ _ _ hSk _ _ fun v s5 t5 hS5 l5 => ?_
      have I5 := Ik.touch t5 hCF cellF h1F (wF sk ⟨_, hpk⟩ _ hSk) (hit.noseq _ _ _ hSk)
      have C5 : Carry (fun a => Forb Γ φ a ∨ a = L) (fun a => Forb Γ φ a ∨ a = L) sk.heap s5.heap := fun a o xs n ho hd hf => ⟨t5.keep a o (fun q => hit.noseq _ _ _ hSk a o xs n q ho hd) ho, hf⟩
      have g5 : Grow s s5 := ⟨fun a o _ e => t5.keep a o (fun q => by rw [hF a q] at e; cases e) (gk.keep e), t5.os.trans gk.os, t5.bare ∘ gk.bare, Nat.le_trans gk.gsize t5.gsize,
        fun g hg => (t5.gens g (Nat.lt_of_lt_of_le hg gk.gsize) fun q => absurd (hG g q) (Nat.not_le_of_lt hg)).trans (gk.gens g hg)⟩
      have hp5 : PlainL s5.heap L its := by
        obtain ⟨o, n, ho, k1, k2, k3⟩ := hpk
        exact ⟨o, n, t5.keep L o (fun q => hit.noseq _ _ _ hSk L o its n q ho k3) ho, k1, k2, k3⟩
      refine wpAny_assign_Name (store_datF (i := 0) (d := d) I5 H.x0 (by rw [W φk hoa]; exact l5) fun φ6 s6 I6 st6 ev6 eo6 => ?_)
      rw [List.set_set] at I6
      have hoa6 : ∀ j, φ6.oa j = none := fun j => by rw [eo6]; by_cases q : j = 0 <;> simp [q, hoa]
      -- the store's place is new
      have tg : ∀ a o, s.heap.get? a = some o → ¬ Tgt (compF Γ φ L scope oc C names) x a := fun a o e q => by
        rcases q with ⟨_, q⟩ | ⟨_, q⟩
        · have : s.heap.get? C = some o := by rw [← show a = C from q]; exact e
          rw [hCn] at this; cases this
        · rcases H.xk with ⟨hk, hoc⟩ | ⟨hk, hoc⟩
          · rename_i hkc
            have : (compF Γ φ L scope oc C names).env.kindOf x = some .local := hk
            rw [hkc] at this; cases this
          · rcases comp_cell H q with ⟨_, _, e'⟩ | e'
            · rw [e', hC1 x hoc] at e; cases e
            · -- the comprehension's own cell comes first
              have z : (compE Γ.env scope oc C).cells.lookup x = some (C + 1) := by
                unfold compE; rw [hoc]; simp
              have q' : (compE Γ.env scope oc C).cells.lookup x = some a := q
              rw [z] at q'
              cases q'
              rw [hC1 x hoc] at e; cases e
      have seqT : ∀ a o xs n, s5.heap.get? a = some o → o.data = .seq xs n → ¬ Tgt (compF Γ φ L scope oc C names) x a := fun a o xs n ho hd q => by
        rcases q with ⟨_, q⟩ | ⟨_, q⟩
        · obtain ⟨oL, es, ep, hL, hLd, _⟩ := I5.ns
          exact seq_ne_dict ho hd hL hLd q
        · obtain ⟨⟨v', oc', hc', hcd'⟩, _⟩ := I5.cells x a q
          exact seq_ne_cell ho hd hc' hcd' rfl
      have g6 : Grow s s6 := ⟨fun a o _ e => st6.keep a o (tg a o e) (g5.keep e), st6.os.trans g5.os, st6.bare ∘ g5.bare, Nat.le_trans g5.gsize st6.gsize, fun g hg => (st6.gens g (Nat.lt_of_lt_of_le hg g5.gsize)).trans (g5.gens g hg)⟩
      have C6 : Carry (fun a => Forb Γ φ a ∨ a = L) (fun a => Forb Γ φ a ∨ a = L) s5.heap s6.heap := fun a o xs n ho hd hf => ⟨st6.keep a o (seqT a o xs n ho hd) ho, hf⟩
      have hp6 : PlainL s6.heap L its := by
        obtain ⟨o, n, ho, k1, k2, k3⟩ := hp5
        exact ⟨o, n, st6.keep L o (seqT L o its n ho k3) ho, k1, k2, k3⟩
      have hS6 : S (fun a => Forb Γ φ a ∨ a = L) ds' s6 := hit.carry _ _ _ _ _ hS5 (fun a o q e => st6.keep a o (fun w => by
        rcases w with ⟨_, w⟩ | ⟨_, w⟩
        · exact hCF ((show a = C from w) ▸ q)
        · exact cellF x a w q) e) (fun g q hg => st6.gens g hg) st6.gsize I6.old C6
      have hl6 := (hlk.carry C5).carry C6
      -- the test, then the item
      have turn : ∀ s7, Grow s6 s7 → p d = true → wpAny Γ.M Γ.A (eval elt (compE Γ.env scope oc C)) (fun y s8 => wpAny Γ.M Γ.A (call (.builtin "list.append") [.ref L, y]) (fun _ s9 => ∃ m, m < (d :: ds').length ∧
          ∃ ds' acc its φk σ, m = ds'.length ∧ In (compF Γ φ L scope oc C names) (ρc.set 0 σ) φk s9 ∧ (∀ j, φk.oa j = none) ∧ Grow s s9 ∧ S (fun a => Forb Γ φ a ∨ a = L) ds' s9 ∧ PlainL s9.heap L its ∧
            LayL (fun a => Forb Γ φ a ∨ a = L) s9.heap acc its.toList ∧ acc ++ (ds'.filter p).map f = (ds.filter p).map f ∧ (∀ d ∈ ds', d ∈ ds) ∧ acc.length + ds'.length ≤ ds.length) (notedBy Γ.M Γ.A (compE Γ.env scope oc C) fun e s' => R (.error e) s') s8) (notedBy Γ.M Γ.A (compE Γ.env scope oc C) fun e s' => R (.error e) s') s7 := by
        intro s7 g7 hpd
        refine he d (hmem d (.head _)) hpd φ6 s7 (I6.grow g7) _ _ fun y s8 g8 l8 => ?_
        have g68 := g7.trans g8
        have I8 := I6.grow g68
        have hp8 := plainL_grow hp6 g68
        have hlen := layL_length hl6
        rw [Array.length_toList] at hlen
        have hsz' : its.size ≤ sizeLine := by
          have : acc.length ≤ ds.length := by simp at hcnt; omega
          omega
        obtain ⟨oD, nD, hoD, _, _, hdD⟩ := id hp8
        refine list_append_plainL hp8 (fun h9 hp9 hs9 => ?_) hsz'
        obtain ⟨oD', nD', hoD', _, _, _⟩ := id hp9
        have I9 := I8.butD (tk := s8.toks) (D := L) (.inr rfl) h1L hoD hdD hoD' hs9.2
        have C9 : Carry (fun a => Forb Γ φ a ∨ a = L) (fun a => Forb Γ φ a ∨ a = L) s8.heap h9 := fun a o xs n ho hd hf => ⟨(hs9.2 a fun q => hf (.inr q)).trans ho, hf⟩
        have gs8 : Grow s s8 := g6.trans g68
        refine ⟨ds'.length, by simp, ds', acc ++ [f d], its.push y, φ6, .dat d, rfl, I9, hoa6, ?_, ?_, hp9, ?_, ?_, fun e he' => hmem e (.tail _ he'), ?_⟩
        · exact ⟨fun a o _ e => (hs9.2 a fun q => by rw [q, hLn] at e; cases e).trans (Grow.keep gs8 e), gs8.os, gs8.bare, gs8.gsize, gs8.gens⟩
        · refine hit.carry _ _ _ _ _ hS6 (fun a o q e => ?_) (fun g q hg => g68.gens g hg) g68.gsize I9.old (fun a o xs n ho hd hf => C9 a o xs n (Grow.keep g68 ho) hd hf)
          refine (hs9.2 a fun w => ?_).trans (Grow.keep g68 e)
          subst w
          obtain ⟨o', n', ho', _, _, hd'⟩ := hp6
          exact hit.noseq _ _ _ hS6 a o' its n' q ho' hd'
        · rw [Array.toList_push]
          rw [W φ6 hoa6] at l8
          exact layL_append (l8.carry C9) (LayL.carry C9 _ _ (LayL.grow (s := s6) hl6 g68))
        · rw [← hacc, List.filter_cons, if_pos hpd]
          simp
        · simp at hcnt ⊢; omega
      rcases ht d (hmem d (.head _)) with ⟨e1, e2⟩ | ⟨c, e1, e2⟩
      · subst e1
        refine wpAny_tests_nil ?_
        rw [if_pos rfl]
        exact turn s6 (Step.refl _ _) e2
      · subst e1
        refine wpAny_tests_one (e2 φ6 s6 I6 _ _ fun s7 g7 => ?_)
        cases hpd : p d with
        | true => rw [if_pos rfl]; exact turn s7 g7 hpd
        | false =>
          rw [if_neg (by decide)]
          refine ⟨ds'.length, by simp, ds', acc, its, φ6, .dat d, rfl, I6.grow g7, hoa6, g6.trans g7, ?_, plainL_grow hp6 g7, LayL.grow (s := s6) hl6 g7, ?_, fun e he' => hmem e (.tail _ he'), by simp at hcnt; omega⟩
          · exact hit.carry _ _ _ _ _ hS6 (fun a o q e => g7.keep e) (fun g q hg => g7.gens g hg) g7.gsize (I6.grow g7).old (Carry.grow g7)
          · rw [← hacc, List.filter_cons, if_neg (by rw [hpd]; decide)]
  · refine ⟨ds, [], #[], ⟨fun _ => none, fun _ => none⟩, (ρc[0]?).getD .any, rfl, ?_, fun _ => rfl, g4, hS, hp4, rfl, by simp, fun _ h => h, by simp⟩
    have : ρc.set 0 ((ρc[0]?).getD .any) = ρc := by cases ρc <;> rfl
    rw [this]; exact I4
end
end Mine

namespace Mine
open PySem PyProof.Rows PySem.W PySem.Calls

section
variable {Γ : Fx} {ρ ρ' : List Sl} {φ φ' : FS} {s s' : Shared} {pos : Pos}

/-- the heap behind the making of a comprehension's frame -/
def compHeap (h : Heap) (oc : Option Str) : Heap := frameHeap (h.push { cls := .type "list", data := .seq #[] }) oc

theorem compHeap_keep {h : Heap} {oc : Option Str} {a : Addr} {o : Obj} (e : h.get? a = some o) : (compHeap h oc).get? a = some o := by
  cases oc with
  | none => exact Heap.get?_push_of_some _ (Heap.get?_push_of_some _ e)
  | some r => exact Heap.get?_push_of_some _ (Heap.get?_push_of_some _ (Heap.get?_push_of_some _ e))

theorem size_none {h : Heap} {a : Addr} (ha : h.objs.size ≤ a) : h.get? a = none := by
  cases q : h.get? a with
  | none => rfl
  | some ob => exact absurd (Heap.lt_size q) (Nat.not_lt_of_le ha)

theorem comp_in {x : Str} {scope : Scope} {oc : Option Str} {names : List Str} {ρc : List Sl} {tk : Nat} (I : In Γ ρ φ s) (H : CompOk Γ scope oc x names)
    (hρ : ∀ (j : Nat) (σ : Sl) (n : Str), ρc[j]? = some σ → names[j]? = some n → σ = Sl.any ∨ ∃ (i : Nat) (d : D), σ = Sl.dat d ∧ ρ[i]? = some (Sl.dat d) ∧ Γ.names[i]? = some n ∧ Γ.env.kindOf n = some .cell ∧ n ≠ x) :
    In (compF Γ φ s.heap.objs.size scope oc (s.heap.objs.size + 1) names) ρc ⟨fun _ => none, fun _ => none⟩ { s with heap := compHeap s.heap oc, toks := tk } := by
  have keep : ∀ a o, s.heap.get? a = some o → (compHeap s.heap oc).get? a = some o := fun a o e => compHeap_keep e
  have h1 : ∀ a, s.heap.objs.size ≤ a → Γ.h₁.get? a = none := fun a ha => by
    cases z : Γ.h₁.get? a with
    | none => rfl
    | some ob => have := I.old a ob z; rw [size_none ha] at this; cases this
  have sz : (s.heap.push { cls := .type "list", data := .seq #[] }).objs.size = s.heap.objs.size + 1 := Heap.size_push ..
  have ns : (compHeap s.heap oc).Ns (s.heap.objs.size + 1) (fun _ => none) := by
    have := Heap.Ns.new (s.heap.push { cls := .type "list", data := .seq #[] }) (.type "dict")
    rw [sz] at this
    cases oc with
    | none => exact this
    | some r => exact ns_keeps this fun b o e => Heap.get?_push_of_some _ e
  have hL : (compHeap s.heap oc).get? s.heap.objs.size = some { cls := .type "list", data := .seq #[] } := by
    cases oc with
    | none => exact Heap.get?_push_of_some _ (Heap.get?_push_size _ rfl)
    | some r => exact Heap.get?_push_of_some _ (Heap.get?_push_of_some _ (Heap.get?_push_size _ rfl))
  refine ⟨⟨H.kind, I.ok.room, H.nodup, fun y hy => ?_, fun y z c e1 e2 => ?_, I.ok.glob, I.ok.bltn⟩, fun a o e => keep a o (I.old a o e), ns, h1 _ (by show s.heap.objs.size ≤ s.heap.objs.size + 1; omega), fun y c e => ?_, fun j σ n hj hn => ?_, fun i j a e => (nomatch e), fun i a e => (nomatch e), fun a q => ?_, I.bare⟩
  · by_cases q : y = x
    · subst q
      rcases H.xk with ⟨k, _⟩ | ⟨k, e⟩
      · exact .inl k
      · refine .inr ⟨k, s.heap.objs.size + 1 + 1, ?_⟩
        show (compE Γ.env scope oc _).cells.lookup y = _
        unfold compE; rw [e]; simp
    · obtain ⟨k, hm⟩ := H.others y hy q
      refine .inr ⟨k, ?_⟩
      obtain ⟨c, hc⟩ := H.free _ hm rfl
      have z := closL_some Γ.env scope.names [] y (.inr ⟨hm, by rw [hc]; rfl⟩)
      obtain ⟨c', hc'⟩ := Option.isSome_iff_exists.mp z
      show ∃ c, (compE Γ.env scope oc _).cells.lookup y = some c
      unfold compE
      cases oc with
      | none => exact ⟨c', hc'⟩
      | some r =>
        have := H.ocx r rfl
        subst this
        simp only [List.lookup_cons]
        have : (y == r) = false := by simpa using q
        simp only [this]
        exact ⟨c', hc'⟩
  · have lt : ∀ y c, Γ.env.cells.lookup y = some c → c < s.heap.objs.size := fun y c e => by
      obtain ⟨⟨v, ob, ho, _⟩, _⟩ := I.cells y c e
      exact Heap.lt_size ho
    rcases comp_cell H e1 with ⟨a1, a2, a3⟩ | a <;> rcases comp_cell H e2 with ⟨b1, b2, b3⟩ | b
    · rw [a1, b1]
    · exact absurd (a3 ▸ lt _ _ b) (Nat.not_lt_of_le (Nat.le_trans (Nat.le_succ _) (Nat.le_succ _)))
    · exact absurd (b3 ▸ lt _ _ a) (Nat.not_lt_of_le (Nat.le_trans (Nat.le_succ _) (Nat.le_succ _)))
    · exact I.ok.inj y z c a b
  · rcases comp_cell H e with ⟨a1, a2, a3⟩ | a
    · subst a3
      refine ⟨⟨none, ?_⟩, h1 _ (by omega)⟩
      subst a2
      have := Heap.get?_push_size ((s.heap.push { cls := .type "list", data := .seq #[] }).push { cls := .type "dict", data := .dict #[] }) (o := { cls := .type "cell", data := .cell none }) rfl
      rw [Heap.size_push, Heap.size_push] at this
      exact ⟨_, this, rfl⟩
    · obtain ⟨⟨v, ob, ho, hd⟩, n⟩ := I.cells y c a
      exact ⟨⟨v, ob, keep _ _ ho, hd⟩, n⟩
  · rcases hρ j σ n hj hn with q | ⟨i, d, q, hi, hin, hk, hx⟩
    · subst q; trivial
    · subst q
      obtain ⟨v, hv, hl⟩ := I.slots i _ n hi hin
      refine ⟨v, ?_, hl.carry fun a o xs m ho hd hf => ⟨keep a o ho, ?_⟩⟩
      · rcases hv with ⟨k, _⟩ | ⟨k, c, hc, hcv⟩
        · rw [hk] at k; cases k
        · obtain ⟨k', hm⟩ := H.others n (List.mem_of_getElem? hn) hx
          have z := closL_some Γ.env scope.names [] n (.inr ⟨hm, by rw [hc]; rfl⟩)
          obtain ⟨c', hc'⟩ := Option.isSome_iff_exists.mp z
          have lk : (compE Γ.env scope oc (s.heap.objs.size + 1)).cells.lookup n = some c' := by
            unfold compE
            cases oc with
            | none => exact hc'
            | some r =>
              have := H.ocx r rfl
              subst this
              simp only [List.lookup_cons]
              have : (n == r) = false := by simpa using hx
              simp only [this]
              exact hc'
          have e2 : c' = c := by
            have := closL_sound Γ.env scope.names [] (fun _ _ q => by cases q) n c' hc'
            rw [hc] at this; exact (Option.some.inj this).symm
          subst e2
          obtain ⟨oc', ho', hd'⟩ := hcv
          exact .inr ⟨k', c', lk, oc', keep _ _ ho', hd'⟩
      · rintro (q | ⟨_, q⟩)
        · rcases q with q | q
          · exact hf q
          · exact absurd (q ▸ Heap.lt_size ho) (Nat.lt_irrefl _)
        · cases q
  · rcases q with q | q
    · rcases q with q | ⟨i, q⟩
      · obtain ⟨o, ho⟩ := I.w0 a q; exact ⟨o, keep _ _ ho⟩
      · obtain ⟨⟨its, o, n, ho, _⟩, _⟩ := I.own i a q; exact ⟨o, keep _ _ ho⟩
    · subst q; exact ⟨_, hL⟩

/-- a comprehension: what is asked of it -/
structure CompT (Γ : Fx) (ρ : List Sl) (elt iter : Expr) (x : Str) (ifs : List Expr) (scope : Scope) (oc : Option Str) (names : List Str) (ρc : List Sl) (ds : List D) (f : D → D) (p : D → Bool) : Prop where
  src : SrcC Γ iter ρ ds
  ok : CompOk Γ scope oc x names
  regs : ∀ (j : Nat) (σ : Sl) (n : Str), ρc[j]? = some σ → names[j]? = some n → σ = Sl.any ∨ ∃ (i : Nat) (d : D), σ = Sl.dat d ∧ ρ[i]? = some (Sl.dat d) ∧ Γ.names[i]? = some n ∧ Γ.env.kindOf n = some .cell ∧ n ≠ x
  test : ∀ φ L C, ∀ d ∈ ds, (ifs = [] ∧ p d = true) ∨ ∃ c, ifs = [c] ∧ TsT (compF Γ φ L scope oc C names) c (ρc.set 0 (.dat d)) (p d)
  elt : ∀ φ L C, ∀ d ∈ ds, p d = true → EvT (compF Γ φ L scope oc C names) elt (ρc.set 0 (.dat d)) (f d)
  size : ds.length ≤ sizeLine
  fold : ∀ y, foldedSetIterable iter Γ.env y = pure y

theorem comp_all {elt iter : Expr} {x : Str} {px : Pos} {ifs : List Expr} {scope : Scope} {oc : Option Str} {names : List Str} {ρc : List Sl} {ds : List D} {f : D → D} {p : D → Bool} {p' : Pos} {use : Option (Value → Sem Unit)} {Q : Value → Shared → Prop} {E : Value → Shared → Prop}
    (T : CompT Γ ρ elt iter x ifs scope oc names ρc ds f p) (I : In Γ ρ φ s)
    (k : ∀ sk L C, Grow s sk → s.heap.get? C = none → (∃ m, sk.heap.Ns C m) → Lay (Forb Γ φ) sk.heap (.list ((ds.filter p).map f)) (.ref L) → compPost Γ.M Γ.A E use Q (.ref L) C (.ok .next) sk) :
    wpAny Γ.M Γ.A (comprehension (.ListComp elt [⟨.Name x px, iter, ifs, 0⟩] scope pos) scope Γ.env p' (newList []) false (eval iter Γ.env) use) Q E s := by
  have hfree : ∀ y ∈ scope.names, y.2 = .free → (Γ.env.cells.lookup y.1).isSome = true := fun y hy hk => by
    obtain ⟨c, hc⟩ := T.ok.free y hy hk
    rw [hc]; rfl
  refine wpAny_comprehension_free (g := ⟨.Name x px, iter, ifs, 0⟩) (gs := []) rfl T.fold (closureFor_eq hfree) T.ok.kind T.ok.local_ ?_
  refine T.src φ s I _ _ fun it s2 F G S g2 hit hF hG hS => ?_
  have I2 := I.grow g2
  refine wpAny_newList ?_ (by decide)
  refine comp_env T.ok.cell ?_
  have sz : (s2.heap.push { cls := .type "list", data := .seq #[] }).objs.size = s2.heap.objs.size + 1 := Heap.size_push ..
  have keep : ∀ a o, s2.heap.get? a = some o → (compHeap s2.heap oc).get? a = some o := fun a o e => compHeap_keep e
  have g4 : Grow s2 { s2 with heap := compHeap s2.heap oc, toks := s2.toks } := Grow.heap keep
  have I4 := comp_in (tk := s2.toks) I2 T.ok T.regs
  have fr : ∀ a, s2.heap.objs.size ≤ a → s.heap.get? a = none := fun a ha => by
    cases z : s.heap.get? a with
    | none => rfl
    | some ob => have := g2.keep z; rw [size_none ha] at this; cases this
  have nF : ∀ a, s2.heap.objs.size ≤ a → ¬ F a := fun a ha q => absurd (hF a q).2 (Nat.not_lt_of_le ha)
  have hp4 : PlainL (compHeap s2.heap oc) s2.heap.objs.size #[] := by
    refine ⟨{ cls := .type "list", data := .seq #[] }, 0, ?_, rfl, rfl, rfl⟩
    cases oc with
    | none => exact Heap.get?_push_of_some _ (Heap.get?_push_size _ rfl)
    | some r => exact Heap.get?_push_of_some _ (Heap.get?_push_of_some _ (Heap.get?_push_size _ rfl))
  have hS4 : S (fun a => Forb Γ φ a ∨ a = s2.heap.objs.size) ds { s2 with heap := compHeap s2.heap oc, toks := s2.toks } := by
    refine hit.carry _ _ _ _ _ hS (fun a o _ e => keep a o e) (fun _ _ _ => rfl) (Nat.le_refl _) I4.old (fun a o xs n ho hd hf => ⟨keep a o ho, ?_⟩)
    rintro (q | q)
    · exact hf q
    · exact absurd (q ▸ Heap.lt_size ho) (Nat.lt_irrefl _)
  have run : ∀ it', it' = it → codeAny Γ.M Γ.A (.compLoop (.ListComp elt [⟨.Name x px, iter, ifs, 0⟩] scope pos) 0 it' (.ref s2.heap.objs.size) (compE Γ.env scope oc (s2.heap.objs.size + 1)))
      (compPost Γ.M Γ.A E use Q (.ref s2.heap.objs.size) (s2.heap.objs.size + 1)) { s2 with heap := compHeap s2.heap oc, toks := s2.toks } := by
    rintro it' rfl
    refine comp_run (ds := ds) (f := f) (p := p) (ρc := ρc) (names := names) (φ := φ) I hit (fun a q => (hF a q).1) hG (fr _ (Nat.le_refl _)) (fr _ (Nat.le_succ _)) (fun r _ => fr _ (Nat.le_trans (Nat.le_succ _) (Nat.le_succ _))) (nF _ (Nat.le_succ _)) (nF _ (Nat.le_trans (Nat.le_succ _) (Nat.le_succ _))) T.ok
      (T.test φ _ _) (T.elt φ _ _) T.size ?_ (g2.trans g4) hS4 hp4 fun sk its gk hpk hlk hns => ?_
    · exact I4
    · refine k sk _ _ gk (fr _ (Nat.le_succ _)) hns ?_
      simp only [Lay]
      exact ⟨_, its, rfl, I.fresh (fr _ (Nat.le_refl _)), hpk, hlk.carry fun a o xs n ho hd hf => ⟨ho, fun q => hf (.inl q)⟩⟩
  have goal : codeAny Γ.M Γ.A (.compStart (.ListComp elt [⟨.Name x px, iter, ifs, 0⟩] scope pos) 0 it (.ref s2.heap.objs.size) (compE Γ.env scope oc (s2.heap.objs.size + 1)))
      (compPost Γ.M Γ.A E use Q (.ref s2.heap.objs.size) (s2.heap.objs.size + 1)) { s2 with heap := compHeap s2.heap oc, toks := s2.toks } := by
    refine codeAny_compStart_list (run it rfl) (hit.self _ _ _ hS4 _ _ (run it rfl))
  have e1 : ({ s2 with heap := s2.heap.push { cls := .type "list", data := .seq #[] } } : Shared).heap.objs.size = s2.heap.objs.size + 1 := sz
  rw [e1]
  exact goal
end
end Mine

namespace Mine
open PySem PyProof.Rows PySem.W PySem.Calls

section
variable {Γ : Fx} {ρ ρ' : List Sl} {φ φ' : FS} {s s' : Shared} {pos : Pos}

theorem Ev.comp {elt iter : Expr} {x : Str} {px : Pos} {ifs : List Expr} {scope : Scope} {oc : Option Str} {names : List Str} {ρc : List Sl} {ds : List D} {f : D → D} {p : D → Bool}
    (T : CompT Γ ρ elt iter x ifs scope oc names ρc ds f p) : EvT Γ (.ListComp elt [⟨.Name x px, iter, ifs, 0⟩] scope pos) ρ (.list ((ds.filter p).map f)) := fun φ s I Q E k => by
  rw [eval_ListComp]
  refine comp_all T I fun sk L C gk hC hns hl => ?_
  obtain ⟨m, hm⟩ := hns
  obtain ⟨oC, es, ep, hoC, hdC, hr⟩ := id hm
  refine ⟨m, hm, fun h' hs => k _ _ ?_ ?_⟩
  · exact ⟨fun a o _ e => (hs.2 a fun q => by rw [q, hC] at e; cases e).trans (gk.keep e), gk.os, gk.bare, gk.gsize, gk.gens⟩
  · exact hl.carry fun a o xs n ho hd hf => ⟨(hs.2 a (seq_ne_dict ho hd hoC hdC)).trans ho, hf⟩

theorem St.comp {elt iter : Expr} {x y : Str} {px py p' : Pos} {ifs : List Expr} {scope : Scope} {oc : Option Str} {names : List Str} {ρc : List Sl} {ds : List D} {f : D → D} {p : D → Bool} (i : Nat) (hy : Γ.names[i]? = some y)
    (T : CompT Γ ρ elt iter x ifs scope oc names ρc ds f p) (hsw : swapsWith (.ListComp elt [⟨.Name x px, iter, ifs, 0⟩] scope p') (some (.Name y py)) pos.line Γ.env = pure true) :
    StT Γ (.Assign [.Name y py] (.ListComp elt [⟨.Name x px, iter, ifs, 0⟩] scope p') pos) ρ (.next (ρ.set i (.dat (.list ((ds.filter p).map f))))) := fun φ s I Q E k => by
  rw [exec_Assign_Name_used _ _ _ _ hsw]
  refine wpAny_bind (wpAny_standAt (wpAny_bind ?_))
  show wpAny Γ.M Γ.A (do let _ ← comprehension (.ListComp elt [⟨.Name x px, iter, ifs, 0⟩] scope p') scope Γ.env _ (newList []) false (eval iter Γ.env) (some (PySem.assign (.Name y py) Γ.env))) _ _ s
  refine wpAny_bind (comp_all T I fun sk L C gk hC hns hl => ?_)
  have Ik := I.grow gk
  have hCL : Γ.env.locals ≠ C := fun q => by
    obtain ⟨oL, _, _, hL, _⟩ := I.ns
    rw [q, hC] at hL; cases hL
  have hCc : ∀ z c, Γ.env.cells.lookup z = some c → c ≠ C := fun z c e q => by
    obtain ⟨⟨v, oc, ho, _⟩, _⟩ := I.cells z c e
    rw [q, hC] at ho; cases ho
  have hC1 : Γ.h₁.get? C = none := by
    cases z : Γ.h₁.get? C with
    | none => rfl
    | some ob => have := I.old C ob z; rw [hC] at this; cases this
  refine wpAny_assign_Name (store_datF Ik hy hl fun φ' s2 I2 st2 ev2 _ => ?_)
  obtain ⟨m, oC, es, ep, hoC, hdC, hr⟩ := hns
  have nT : ¬ Tgt Γ y C := fun q => by
    rcases q with ⟨_, q⟩ | ⟨_, q⟩
    · exact hCL q.symm
    · exact hCc y C q rfl
  have hoC2 := st2.keep C oC nT hoC
  refine ⟨m, ⟨oC, es, ep, hoC2, hdC, hr⟩, fun h' hs => ?_⟩
  have t : Touch (· = C) (fun _ => False) s2 { s2 with heap := h' } := ⟨fun a o n e => (hs.2 a n).trans e, rfl, id, Nat.le_refl _, fun _ _ _ => rfl⟩
  have I3 := I2.touch t hCL (fun z c e => hCc z c e) (fun a q => by rw [q]; exact hC1) (fun a q w => by
    obtain ⟨ob, ho⟩ := I.w0 a w
    rw [q, hC] at ho; cases ho) (fun a o xs n q ho hd => by
    subst q
    rw [hoC2] at ho; cases ho
    rw [hdC] at hd; cases hd)
  refine wpAny_pure (wpAny_pure (k _ _ ⟨rfl, φ', I3, ⟨fun a o n e => (hs.2 a fun q => by rw [q, hC] at e; cases e).trans (st2.keep a o (fun q => n q.mut) (gk.keep e)), st2.os.trans gk.os, st2.bare ∘ gk.bare, Nat.le_trans gk.gsize st2.gsize, fun g hg => (st2.gens g (Nat.lt_of_lt_of_le hg gk.gsize)).trans (gk.gens g hg)⟩, Evo.trans_grow gk ev2⟩))
end
end Mine

namespace Mine
open PySem PySem.Sre

/-- the pattern's code -/
def pcode : Array Nat := #[14, 8, 1, 2, 4294967295, 1, 1, 46, 0, 16, 46, 24, 9, 1, 4294967295, 13, 4, 8, 0, 0, 1, 6, 5, 1]

def digs (t : Array Nat) : Nat → Nat → Nat
  | 0, _ => 0
  | n + 1, p => if Sre.isDigit (t.getD p 0) then digs t n (p + 1) + 1 else 0
def atEnd (t : Array Nat) (p : Nat) : Bool := p == t.size || (p + 1 == t.size && t.getD p 0 == 10)
/-- some of the figures behind the dot at s end the text -/
def ends (t : Array Nat) (s : Nat) : Nat → Bool
  | 0 => false
  | n + 1 => atEnd t (s + 1 + (n + 1)) || ends t s n
def hit (t : Array Nat) (s : Nat) : Bool := decide (s < t.size) && (t.getD s 0 == 46 && ends t s (digs t (t.size - (s + 1)) (s + 1)))
def found (t : Array Nat) : Nat → Nat → Bool
  | 0, s => hit t s
  | n + 1, s => hit t s || found t n (s + 1)
def ipv4 (t : Array Nat) : Bool := decide (2 ≤ t.size) && found t t.size 0

def mkM (t : Array Nat) (start pc pos handed : Nat) (om : Bool) (frames : List Sre.Frame) (weight : Nat) (ans : Option Bool) (seen : Seen) : M :=
  { code := pcode, text := t, lim := t.size, start := start, lastStart := t.size, pc := pc, pos := pos, handed := handed, outermost := om, marks := #[], frames := frames, weight := weight, answer := ans, seen := seen }

def FN (s : Nat) (om : Bool) : Sre.Frame := { wait := .nextStart, pc := 9, pos := s, outermost := om }
def FG (p : Nat) (om : Bool) (n : Nat) : Sre.Frame := { wait := .giveBack, pc := 11, pos := p, outermost := om, count := n, kept := { lastmark := -1, lastindex := -1, whole := false, marks := #[] } }

theorem acc_dig (c : Nat) (seen : Seen) : ∃ seen', accepts pcode 15 c seen = .ok (Sre.isDigit c, seen') := by
  have h0 : accepts pcode 15 c seen = inSet pcode c 24 17 true seen := rfl
  have h1 : inSet pcode c 24 17 true seen = (category 0 c).bind fun b => if b = true then Except.ok (true, (seen.add 8).add 55) else inSet pcode c 23 19 true ((seen.add 8).add 55) := rfl
  have h2 : category 0 c = .ok (Sre.isDigit c) := by
    have : category 0 c = (Except.ok (Sre.isDigit c)).map (· != false) := rfl
    rw [this]
    simp [Except.map]
  rw [h0, h1, h2]
  cases h : Sre.isDigit c with
  | true => exact ⟨_, rfl⟩
  | false => exact ⟨_, rfl⟩

theorem run_digs (t : Array Nat) : ∀ (n p found : Nat) (seen : Seen), ∃ seen', Sre.run pcode t 15 n p found seen = .ok (found + digs t n p, seen')
  | 0, p, f, seen => ⟨seen, rfl⟩
  | n + 1, p, f, seen => by
    unfold Sre.run
    obtain ⟨s1, h1⟩ := acc_dig (t.getD p 0) seen
    rw [h1]
    unfold digs
    cases h : Sre.isDigit (t.getD p 0) with
    | true =>
      obtain ⟨s2, h2⟩ := run_digs t n (p + 1) (f + 1) s1
      refine ⟨s2, ?_⟩
      show Sre.run pcode t 15 n (p + 1) (f + 1) s1 = _
      rw [h2]
      simp only [if_true]
      congr 2; omega
    | false => exact ⟨s1, rfl⟩

/-- k steps -/
def stepN : Nat → M → M
  | 0, m => m
  | n + 1, m => stepN n m.step
theorem stepN_one (m : M) : stepN 1 m = m.step := rfl
theorem stepN_add : ∀ (a b : Nat) (m : M), stepN (a + b) m = stepN b (stepN a m)
  | 0, b, m => by rw [Nat.zero_add]; rfl
  | a + 1, b, m => by
    rw [show a + 1 + b = (a + b) + 1 by omega]
    exact stepN_add a b m.step

section
variable {t : Array Nat} {start pos handed : Nat} {om om2 : Bool} {s w : Nat} {seen : Seen} {fs : List Sre.Frame}

theorem step_lit : ∃ seen', (mkM t start 9 s handed om fs w none seen).step = if s < t.size ∧ t.getD s 0 = 46 then mkM t start 11 (s + 1) handed om fs w none seen' else mkM t start 9 s handed om fs w (some false) seen' := by
  by_cases h : s < t.size
  · by_cases h2 : t.getD s 0 = 46
    · refine ⟨seen.add 16, ?_⟩
      rw [if_pos ⟨h, h2⟩]
      have h3 : ¬ (s ≥ t.size) := by omega
      show (M.exec (mkM t start 9 s handed om fs w none seen)) = _
      unfold M.exec
      show (if s ≥ t.size then _ else match accepts pcode 9 (t.getD s 0) _ with | .error why => _ | .ok (false, seen) => _ | .ok (true, seen) => _) = _
      rw [if_neg h3]
      have : ∀ sn, accepts pcode 9 (t.getD s 0) sn = .ok (true, sn) := fun sn => by
        unfold accepts
        show Except.ok ((t.getD s 0) == 46, sn) = _
        rw [h2]; rfl
      rw [this]
      rfl
    · refine ⟨seen.add 16, ?_⟩
      rw [if_neg (fun q => h2 q.2)]
      have h3 : ¬ (s ≥ t.size) := by omega
      show (M.exec (mkM t start 9 s handed om fs w none seen)) = _
      unfold M.exec
      show (if s ≥ t.size then _ else match accepts pcode 9 (t.getD s 0) _ with | .error why => _ | .ok (false, seen) => _ | .ok (true, seen) => _) = _
      rw [if_neg h3]
      have : ∀ sn, accepts pcode 9 (t.getD s 0) sn = .ok (false, sn) := fun sn => by
        unfold accepts
        show Except.ok ((t.getD s 0) == 46, sn) = _
        rw [show ((t.getD s 0) == 46) = false by simpa using h2]
      rw [this]
      rfl
  · refine ⟨seen.add 16, ?_⟩
    rw [if_neg (fun q => h q.1)]
    show (M.exec (mkM t start 9 s handed om fs w none seen)) = _
    unfold M.exec
    show (if s ≥ t.size then _ else _) = _
    rw [if_pos (by omega)]
    rfl


theorem step_next (hs : s < t.size) {pc p hd : Nat} : (mkM t start pc p hd om [FN s om2] 1 (some false) seen).step = mkM t (s + 1) 9 (s + 1) (s + 1) false [FN (s + 1) false] 1 none seen := by
  have h1 : (mkM t start pc p hd om [FN s om2] 1 (some false) seen).step = if s < t.size then mkM t (s + 1) 9 (s + 1) (s + 1) false [FN (s + 1) false] 1 none seen else (mkM t start 9 s hd om2 [] 0 (some false) seen) := rfl
  rw [h1, if_pos hs]

theorem step_last (hs : ¬ s < t.size) {pc p hd : Nat} : (mkM t start pc p hd om [FN s om2] 1 (some false) seen).step = mkM t start 9 s hd om2 [] 0 (some false) seen := by
  have h1 : (mkM t start pc p hd om [FN s om2] 1 (some false) seen).step = if s < t.size then mkM t (s + 1) 9 (s + 1) (s + 1) false [FN (s + 1) false] 1 none seen else (mkM t start 9 s hd om2 [] 0 (some false) seen) := rfl
  rw [h1, if_neg hs]

theorem step_yes {pc p hd : Nat} : (mkM t start pc p hd om [FN s om2] 1 (some true) seen).step = mkM t start 9 s hd om2 [] 0 (some true) seen := rfl

/-- the repeat -/
theorem step_rep (hz : t.size < 4294967295) : ∃ seen', (mkM t start 11 s handed om [FN pos om2] 1 none seen).step =
    if 1 ≤ digs t (t.size - s) s then mkM t start 21 (s + digs t (t.size - s) s) (s + digs t (t.size - s) s) om [FG (s + digs t (t.size - s) s) om (digs t (t.size - s) s), FN pos om2] 2 none seen'
    else mkM t start 11 s handed om [FN pos om2] 1 (some false) seen' := by
  by_cases hr : (1 : Int) > (t.size : Int) - (s : Int)
  · refine ⟨seen.add 24, ?_⟩
    have : t.size - s = 0 := by omega
    rw [this, show digs t 0 s = 0 from rfl, if_neg (by omega)]
    have h1 : (mkM t start 11 s handed om [FN pos om2] 1 none seen).step = if (1 : Int) > (t.size : Int) - (s : Int) then mkM t start 11 s handed om [FN pos om2] 1 (some false) (seen.add 24) else
      match Sre.run pcode t 15 (min 4294967295 ((t.size : Int) - (s : Int)).toNat) s 0 ((seen.add 24).add 13) with
      | .error why => M.stick (mkM t start 11 s handed om [FN pos om2] 1 none (seen.add 24)) why
      | .ok (n, seen) => if n < 1 then mkM t start 11 s handed om [FN pos om2] 1 (some false) seen else
        mkM t start 21 (s + n) (s + n) om [FG (s + n) om n, FN pos om2] 2 none seen := rfl
    rw [h1, if_pos hr]
  · obtain ⟨sn, h2⟩ := run_digs t (t.size - s) s 0 ((seen.add 24).add 13)
    refine ⟨sn, ?_⟩
    have h1 : (mkM t start 11 s handed om [FN pos om2] 1 none seen).step = if (1 : Int) > (t.size : Int) - (s : Int) then mkM t start 11 s handed om [FN pos om2] 1 (some false) (seen.add 24) else
      match Sre.run pcode t 15 (min 4294967295 ((t.size : Int) - (s : Int)).toNat) s 0 ((seen.add 24).add 13) with
      | .error why => M.stick (mkM t start 11 s handed om [FN pos om2] 1 none (seen.add 24)) why
      | .ok (n, seen) => if n < 1 then mkM t start 11 s handed om [FN pos om2] 1 (some false) seen else
        mkM t start 21 (s + n) (s + n) om [FG (s + n) om n, FN pos om2] 2 none seen := rfl
    rw [h1, if_neg hr, show min 4294967295 ((t.size : Int) - (s : Int)).toNat = t.size - s by omega, h2, Nat.zero_add]
    by_cases h3 : 1 ≤ digs t (t.size - s) s
    · rw [if_pos h3]
      show (if _ then _ else _) = _
      rw [if_neg (by omega)]
    · rw [if_neg h3]
      show (if _ then _ else _) = _
      rw [if_pos (by omega)]

theorem step_at : ∃ seen', (mkM t start 21 s handed om fs w none seen).step = if atEnd t s = true then mkM t start 23 s handed om fs w none seen' else mkM t start 21 s handed om fs w (some false) seen' := ⟨(seen.add 6).add 48, rfl⟩
theorem step_ok : ∃ seen', (mkM t start 23 s handed om fs w none seen).step = mkM t start 23 s s om fs w (some true) seen' := by
  refine ⟨seen.add 1, ?_⟩
  have : (mkM t start 23 s handed om fs w none seen).step = if (om && ((false && s != t.size) || (false && s == start))) = true then mkM t start 23 s handed om fs w (some false) (seen.add 1) else mkM t start 23 s s om fs w (some true) (seen.add 1) := rfl
  rw [this, if_neg (by cases om <;> simp)]
theorem step_giveYes {pc p hd n q : Nat} : (mkM t start pc p hd om (FG q om2 n :: fs) 2 (some true) seen).step = mkM t start 11 q hd om2 fs 1 (some true) seen := rfl
theorem step_giveNo {pc p hd n q : Nat} (hn : 2 ≤ n) : (mkM t start pc p hd om (FG q om2 n :: fs) 2 (some false) seen).step = mkM t start 21 (q - 1) (q - 1) om2 (FG (q - 1) om2 (n - 1) :: fs) 2 none seen := by
  have : (mkM t start pc p hd om (FG q om2 n :: fs) 2 (some false) seen).step = if (n : Int) - 1 < (1 : Nat) then mkM t start 11 q hd om2 fs 1 (some false) seen else
    mkM t start 21 (q - 1) (q - 1) om2 ({ wait := .giveBack, pc := 11, pos := q - 1, outermost := om2, count := (n : Int) - 1, kept := { lastmark := -1, lastindex := -1, whole := false, marks := #[] } } :: fs) 2 none seen := rfl
  rw [this, if_neg (by omega), show (n : Int) - 1 = ((n - 1 : Nat) : Int) by omega]
  rfl
theorem step_giveEnd {pc p hd q : Nat} : (mkM t start pc p hd om (FG q om2 1 :: fs) 2 (some false) seen).step = mkM t start 11 q hd om2 fs 1 (some false) seen := rfl

/-- giving back -/
theorem give : ∀ (n : Nat) (handed : Nat) (seen : Seen), 1 ≤ n → ∃ k pc p hd seen', k ≤ 2 * n + 1 ∧ stepN k (mkM t start 21 (s + 1 + n) handed om (FG (s + 1 + n) om n :: fs) 2 none seen) = mkM t start pc p hd om fs 1 (some (ends t s n)) seen'
  | 0, _, _, h => by omega
  | n + 1, handed, seen, _ => by
    obtain ⟨s1, h1⟩ := step_at (t := t) (start := start) (s := s + 1 + (n + 1)) (handed := handed) (om := om) (fs := FG (s + 1 + (n + 1)) om (n + 1) :: fs) (w := 2) (seen := seen)
    by_cases he : atEnd t (s + 1 + (n + 1)) = true
    · rw [if_pos he] at h1
      obtain ⟨s2, h2⟩ := step_ok (t := t) (start := start) (s := s + 1 + (n + 1)) (handed := handed) (om := om) (fs := FG (s + 1 + (n + 1)) om (n + 1) :: fs) (w := 2) (seen := s1)
      refine ⟨3, 11, s + 1 + (n + 1), s + 1 + (n + 1), s2, by omega, ?_⟩
      show M.step (M.step (M.step _)) = _
      rw [h1, h2, step_giveYes]
      simp only [ends, he, Bool.true_or]
    · rw [if_neg he] at h1
      have he' : atEnd t (s + 1 + (n + 1)) = false := by simpa using he
      cases n with
      | zero =>
        refine ⟨2, 11, s + 1 + 1, handed, s1, by omega, ?_⟩
        show M.step (M.step _) = _
        rw [h1, step_giveEnd]
        simp only [ends, he', Bool.false_or]
      | succ n =>
        obtain ⟨k, pc, p, hd, s3, hk, h3⟩ := give (n + 1) (s + 1 + (n + 1)) s1 (by omega)
        refine ⟨2 + k, pc, p, hd, s3, by omega, ?_⟩
        rw [stepN_add]
        show stepN k (M.step (M.step _)) = _
        rw [h1, step_giveNo (by omega)]
        rw [show s + 1 + (n + 1 + 1) - 1 = s + 1 + (n + 1) by omega, show n + 1 + 1 - 1 = n + 1 by omega, h3]
        rw [show ends t s (n + 1 + 1) = (atEnd t (s + 1 + (n + 1 + 1)) || ends t s (n + 1)) from rfl, he', Bool.false_or]

/-- one start -/
theorem one (hz : t.size < 4294967295) : ∃ k pc p hd seen', k ≤ 2 * digs t (t.size - (s + 1)) (s + 1) + 3 ∧ stepN k (mkM t start 9 s handed om [FN s om] 1 none seen) = mkM t start pc p hd om [FN s om] 1 (some (hit t s)) seen' := by
  obtain ⟨s1, h1⟩ := step_lit (t := t) (start := start) (s := s) (handed := handed) (om := om) (fs := [FN s om]) (w := 1) (seen := seen)
  by_cases hl : s < t.size ∧ t.getD s 0 = 46
  · rw [if_pos hl] at h1
    have hh : hit t s = ends t s (digs t (t.size - (s + 1)) (s + 1)) := by
      unfold hit
      rw [hl.2]; simp [hl.1]
    obtain ⟨s2, h2⟩ := step_rep (t := t) (start := start) (s := s + 1) (handed := handed) (om := om) (om2 := om) (pos := s) (seen := s1) hz
    by_cases hd : 1 ≤ digs t (t.size - (s + 1)) (s + 1)
    · rw [if_pos hd] at h2
      obtain ⟨k, pc, p, hd', s3, hk, h3⟩ := give (t := t) (start := start) (s := s) (om := om) (fs := [FN s om]) (digs t (t.size - (s + 1)) (s + 1)) (s + 1 + digs t (t.size - (s + 1)) (s + 1)) s2 hd
      refine ⟨2 + k, pc, p, hd', s3, by omega, ?_⟩
      rw [stepN_add]
      show stepN k (M.step (M.step _)) = _
      rw [h1, h2, h3, hh]
    · rw [if_neg hd] at h2
      refine ⟨2, 11, s + 1, handed, s2, by omega, ?_⟩
      show M.step (M.step _) = _
      rw [h1, h2, hh, show digs t (t.size - (s + 1)) (s + 1) = 0 by omega]
      rfl
  · rw [if_neg hl] at h1
    refine ⟨1, 9, s, handed, s1, by omega, ?_⟩
    rw [stepN_one, h1]
    have : hit t s = false := by
      unfold hit
      by_cases q : s < t.size
      · have : ¬ t.getD s 0 = 46 := fun e => hl ⟨q, e⟩
        rw [show (t.getD s 0 == 46) = false by simpa using this]; simp
      · simp [q]
    rw [this]

theorem digs_le (t : Array Nat) : ∀ n p, digs t n p ≤ n
  | 0, _ => Nat.le_refl _
  | n + 1, p => by
    unfold digs
    split
    · have := digs_le t n (p + 1); omega
    · omega

/-- the whole search -/
theorem search (hz : t.size < 4294967295) : ∀ (n s start : Nat) (om : Bool) (handed : Nat) (seen : Seen), s + n = t.size → ∃ k start' pc p hd om' seen', k ≤ (n + 1) * (2 * t.size + 4) ∧ stepN k (mkM t start 9 s handed om [FN s om] 1 none seen) = mkM t start' pc p hd om' [] 0 (some (found t n s)) seen'
  | n, s, start, om, handed, seen, hn => by
    obtain ⟨k, pc, p, hd, s1, hk, h1⟩ := one (t := t) (start := start) (s := s) (handed := handed) (om := om) (seen := seen) hz
    have hd' := digs_le t (t.size - (s + 1)) (s + 1)
    have hk' : k + 1 ≤ 2 * t.size + 4 := by omega
    by_cases hh : hit t s = true
    · refine ⟨k + 1, start, 9, s, hd, om, s1, Nat.le_trans hk' (Nat.le_mul_of_pos_left _ (by omega)), ?_⟩
      rw [stepN_add, h1, hh, stepN_one, step_yes]
      cases n <;> simp [found, hh]
    · have hh' : hit t s = false := by simpa using hh
      cases n with
      | zero =>
        refine ⟨k + 1, start, 9, s, hd, om, s1, by omega, ?_⟩
        rw [stepN_add, h1, hh', stepN_one, step_last (by omega)]
        simp [found, hh']
      | succ n =>
        obtain ⟨k2, st2, pc2, p2, hd2, om2, s2, hk2, h2⟩ := search hz n (s + 1) (s + 1) false (s + 1) s1 (by omega)
        refine ⟨k + 1 + k2, st2, pc2, p2, hd2, om2, s2, ?_, ?_⟩
        · rw [Nat.add_mul (n + 1) 1]; omega
        · rw [stepN_add, stepN_add, h1, hh', stepN_one, step_next (by omega), h2]
          simp [found, hh']
end

/-- from the machine's start to its end -/
theorem reEnd (t : Array Nat) (hz : t.size < 4294967295) : ∃ k, k ≤ (t.size + 1) * (2 * t.size + 4) + 1 ∧ (stepN k (Sre.forSearch pcode t 0 0 t.size false)).outcome = some (if ipv4 t = true then .matched else .failed) := by
  have h0 : Sre.forSearch pcode t 0 0 t.size false = if (decide (0 > t.size) || decide (t.size - 0 < 2)) = true then { mkM t 0 9 0 0 true [] 0 (some false) (({} : Seen).add 14) with lastStart := 0 } else mkM t 0 9 0 0 true [FN 0 true] 1 none (({} : Seen).add 14) := rfl
  rw [h0]
  by_cases h : t.size < 2
  · rw [if_pos (by simp [h])]
    refine ⟨1, by omega, ?_⟩
    rw [stepN_one]
    have : ipv4 t = false := by unfold ipv4; simp; intro q; omega
    rw [this]
    rfl
  · rw [if_neg (by simp; omega)]
    obtain ⟨k, st, pc, p, hd, om, sn, hk, h1⟩ := search hz t.size 0 0 true 0 (({} : Seen).add 14) (by omega)
    refine ⟨k + 1, by omega, ?_⟩
    rw [stepN_add, h1, stepN_one]
    have : ipv4 t = found t t.size 0 := by unfold ipv4; simp; intro; omega
    rw [this]
    cases found t t.size 0 <;> rfl

theorem stepN_done (m : M) (h : m.outcome.isSome = true) : ∀ k, stepN k m = m
  | 0 => rfl
  | k + 1 => by
    show stepN k m.step = m
    have : m.step = m := by unfold M.step; rw [if_pos h]
    rw [this, stepN_done m h k]
theorem runFor_stepN : ∀ (n : Nat) (m : M), M.runFor n m = stepN n m
  | 0, _ => rfl
  | n + 1, m => by
    unfold M.runFor
    split
    · rename_i h; rw [stepN_done m h]
    · exact runFor_stepN n m.step

theorem drive {MM : Model} {A : Around} {Q : M → Shared → Prop} {E : Value → Shared → Prop} {s : Shared} : ∀ (turns k : Nat) (m : M), k ≤ 4 * turns → 0 < turns → (stepN k m).outcome.isSome = true → (∀ m', m'.outcome = (stepN k m).outcome → Q m' s) → wpAny MM A (Builtin.Re.reDrive turns m) Q E s
  | 0, _, _, _, h, _, _ => by omega
  | turns + 1, k, m, hk, _, ho, hq => by
    unfold Builtin.Re.reDrive
    rw [show Builtin.Re.reTurnSteps = 4 from rfl, runFor_stepN]
    dsimp only
    by_cases h4 : (stepN 4 m).outcome.isSome = true
    · rw [if_pos h4]
      refine wpAny_pure (hq _ ?_)
      by_cases hk4 : k ≤ 4
      · rw [show 4 = k + (4 - k) by omega, stepN_add, stepN_done _ ho]
      · rw [show k = 4 + (k - 4) by omega, stepN_add, stepN_done _ h4]
    · rw [if_neg h4]
      have hk4 : 4 < k := by
        refine Nat.lt_of_not_le fun q => h4 ?_
        rw [show 4 = k + (4 - k) by omega, stepN_add, stepN_done _ ho]; exact ho
      have e : stepN k m = stepN (k - 4) (stepN 4 m) := by rw [← stepN_add, show 4 + (k - 4) = k by omega]
      refine wpAny_bind (wpAny_rule (drive turns (k - 4) _ (by omega) ?_ (e ▸ ho) (e ▸ hq)))
      omega
end Mine

namespace Mine
open PySem PyProof.Rows PySem.W PySem.Calls

theorem plainAttrs_pat : PlainAttrs "re.Pattern" :=
  ⟨⟨"object.__getattribute__", by rw [typeLookup_type, builtinLookup_eq_fast]; kernel_rfl, by decide +kernel⟩, by rw [typeLookup_type, builtinLookup_eq_fast]; kernel_rfl⟩
theorem slot_search : Slot "re.Pattern" "search" "re.Pattern.search" :=
  .of (owner := "re.Pattern") (n := "search") (by rw [typeLookup_type, builtinLookup_eq_fast]; kernel_rfl) (by decide +kernel) (by decide +kernel) (by decide +kernel)
    (by first | exact .inl (by decide +kernel) | exact .inr (by decide +kernel)) (by rw [isSubtype_type]; kernel_rfl)
theorem type_search : typeOf (.builtin "re.Pattern.search") = pure (.type "method_descriptor") := by show builtinType _ = _; rw [builtinType_eq_fast]; kernel_rfl
theorem entry_search : entryFor table "re.Pattern.search" = some Builtin.«re.Pattern.search» := entryFor_of_tree (by kernel_rfl)
theorem noBool_match : typeLookup (.type "re.Match") "__bool__" = pure none := by rw [typeLookup_type, builtinLookup_eq_fast]; kernel_rfl
theorem noLen_match : typeLookup (.type "re.Match") "__len__" = pure none := by rw [typeLookup_type, builtinLookup_eq_fast]; kernel_rfl
theorem owner_pat : Manifest.owners.lookup (String.ofList ['n', 'r', 'e', 't', 't', 'a', 'P', '.', 'e', 'r'].reverse) = some Manifest.sig_re_Pattern := by kernel_rfl
theorem args_search (a b : Value) : argsOk "re.Pattern.search" ⟨[a, b], []⟩ := by
  unfold argsOk; rw [signature?_of (id := "re.Pattern.search") (n := ['h', 'c', 'r', 'a', 'e', 's']) (o := ['n', 'r', 'e', 't', 't', 'a', 'P', '.', 'e', 'r']) (by kernel_rfl) owner_pat]; kernel_rfl

/-- the compiled pattern stands in the heap -/
def PatAt (h : Heap) (a : Addr) : Prop := ∃ o c oc f0 f1 f3 f4, h.get? a = some o ∧ o.cls = .type "re.Pattern" ∧ o.dict = none ∧ o.data = .fields #[f0, f1, .int 0 0, f3, f4, .ref c, .int 0 0] ∧ h.get? c = some oc ∧
  ∃ its n, oc.data = .seq its n ∧ its.map (fun v => (Builtin.Re.reRawOf v).toNat) = pcode

section
variable {M : Model} {A : Around} {E : Value → Shared → Prop} {s : Shared}
open Builtin.Re

theorem truthy_match {v : Value} {Q : Bool → Shared → Prop} (hT : s.TypeIs v "re.Match") (hn : ∃ a, v = .ref a) (h : Q true s) : wpAny M A (truthy v) Q E s := by
  obtain ⟨a, rfl⟩ := hn
  unfold truthy
  refine wpAny_bind (wpAny_callSpecial?_none (name := Str.ofString "__bool__") hT noBool_match ?_)
  refine wpAny_bind (wpAny_specialOf (name := Str.ofString "__len__") hT noLen_match ?_)
  exact wpAny_pure h

theorem runToEnd {m : Sre.M} {k : Nat} {b : Bool} {Q : Option Sre.M → Shared → Prop} (hk : k ≤ 4 * 2 ^ 64) (ho : (stepN k m).outcome = some (if b = true then .matched else .failed))
    (h1 : b = true → ∀ m', Q (some m') s) (h2 : b = false → Q none s) : wpAny M A (reRunToEnd m) Q E s := by
  unfold reRunToEnd
  refine wpAny_bind (drive (2 ^ 64) k m hk (by decide) (by rw [ho]; rfl) fun m' e => ?_)
  rw [ho] at e
  refine wpAny_bind ?_
  refine wpAny_forIn_list _ (fun _ _ s' => s' = s) _ (fun x rest b s' e => ?_) (fun b' s' e' => ?_) _ _ rfl
  · subst e
    split
    · exact wpAny_bind (wpAny_rule (wpAny_pure rfl))
    · exact wpAny_pure rfl
  · subst e'
    rw [e]
    cases b with
    | true => exact wpAny_pure (h1 rfl m')
    | false => exact wpAny_pure (h2 rfl)

theorem reTextOf_str {x : Str} {t : Tok} {Q : Array Nat × Nat → Shared → Prop} (h : Q (x.cps, 0) s) : wpAny M A (reTextOf (.str x t)) Q E s := by
  unfold reTextOf
  exact wpAny_bind (wpAny_pure (wpAny_pure h))

theorem reNamed_ok (v : Value) : reNamed "re.Pattern.search" "search" ["string", "pos", "endpos"] 1 [v] [] = pure [some v, none, none] := by
  rfl

theorem reTarget_ok {a : Addr} {x : Str} {t : Tok} {Q : ReTarget → Shared → Prop} (hp : PatAt s.heap a)
    (h : Q ⟨.ref a, .str x t, pcode, x.cps, 0, 0, 0, min (2 ^ 63 - 1) x.cps.size⟩ s) : wpAny M A (reTarget "re.Pattern.search" "search" ⟨[.ref a, .str x t], []⟩) Q E s := by
  obtain ⟨o, c, oc, f0, f1, f3, f4, h1, h2, h3, h4, h5, its, n, h6, h7⟩ := hp
  obtain ⟨ocl, odi, oda, osl⟩ := o
  obtain ⟨ccl, cdi, cda, csl⟩ := oc
  simp only at h2 h3 h4 h6
  subst h2 h3 h4 h6
  unfold reTarget
  refine wpAny_bind (wpAny_of_eq (reNamed_ok _) ?_)
  refine wpAny_bind (wpAny_pure ?_)
  refine wpAny_bind (wpAny_pure ?_)
  unfold fieldsOf
  refine wpAny_bind (wpAny_bind (wpAny_load h1 (wpAny_pure ?_)))
  refine wpAny_bind (reTextOf_str ?_)
  show wpAny M A (do reNoCollectionInside (.str x t) 0; _) Q E s
  refine wpAny_bind (wpAny_pure ?_)
  unfold reRawItems
  refine wpAny_bind (wpAny_bind ?_)
  unfold seqItems?
  refine wpAny_bind (wpAny_load h5 (wpAny_pure ?_))
  refine wpAny_pure (wpAny_pure ?_)
  have e1 : Array.map (fun x : Int => x.toNat) (Array.map reRawOf ((some its).getD #[])) = pcode := by
    rw [Option.getD_some, Array.map_map]; exact h7
  have e2 : (fun i : Int => min i.toNat x.cps.size) 0 = 0 := by simp
  have e3 : (fun i : Int => min i.toNat x.cps.size) (2 ^ 63 - 1) = min (2 ^ 63 - 1) x.cps.size := rfl
  rw [e1, e2, e3]
  exact h

theorem PatAt.keeps {h h' : Heap} {a : Addr} (H : PatAt h a) (hk : ∀ b o, h.get? b = some o → h'.get? b = some o) : PatAt h' a := by
  obtain ⟨o, c, oc, f0, f1, f3, f4, h1, h2, h3, h4, h5, r⟩ := H
  exact ⟨o, c, oc, f0, f1, f3, f4, hk _ _ h1, h2, h3, h4, hk _ _ h5, r⟩

theorem search_meets {a : Addr} {x : Str} {t : Tok} (hx : x.cps.size ≤ 1000000) : Meets (Builtin.«re.Pattern.search» ⟨[.ref a, .str x t], []⟩) (fun A R s => PatAt s.heap a ∧
    (ipv4 x.cps = false → R (.ok (.ret .none)) s) ∧ (ipv4 x.cps = true → ∀ v s', Grow s s' → (∃ b, v = .ref b) → s'.TypeIs v "re.Match" → R (.ok (.ret v)) s')) := by
  refine Meets.of_wp fun prog w A R s ⟨hp, hn, hy⟩ => ?_
  unfold Builtin.«re.Pattern.search»
  refine wpAny_bind (reTarget_ok hp ?_)
  have hm : min (2 ^ 63 - 1) x.cps.size = x.cps.size := by omega
  rw [hm]
  obtain ⟨k, hk, ho⟩ := reEnd x.cps (by omega)
  unfold reAnswer
  have hk' : k ≤ 4 * 2 ^ 64 := by
    refine Nat.le_trans hk ?_
    have : (x.cps.size + 1) * (2 * x.cps.size + 4) ≤ 1000001 * 2000004 := Nat.mul_le_mul (by omega) (by omega)
    omega
  refine wpAny_bind (runToEnd hk' ho (fun e m' => ?_) (fun e => wpAny_pure ⟨_, rfl, hn e⟩))
  refine wpAny_bind ?_
  unfold reNewMatch
  refine wpAny_bind (wpAny_newTuple ?_ (show 2 ≤ sizeLine by decide))
  unfold newFields
  refine wpAny_newObj_type ?_
  refine wpAny_pure ⟨_, rfl, hy e _ _ ?_ ⟨_, rfl⟩ ⟨_, Heap.get?_push_size _ rfl, rfl⟩⟩
  exact (Grow.push (s := s)).trans Grow.push
end

section
variable {Γ : Fx} {ρ : List Sl} {pos : Pos}
theorem Ts.search {e : Expr} {x : Str} {a : Addr} {np apos : Pos} (hg : GlobIs Γ.h₁ "IPV4_RE" (.ref a)) (hp : PatAt Γ.h₁ a) (hk : Γ.env.kindOf "IPV4_RE" = some .globalImplicit) (h : EvT Γ e ρ (.str x)) (hx : x.cps.size ≤ 1000000)
    (hl : (apos.endLine == pos.line) = true := by rfl) (hs : starEach [e] Γ.env = [(false, eval e Γ.env)] := by rfl) :
    TsT Γ (.Call (.Attribute (.Name "IPV4_RE" np) "search" apos) [e] [] pos) ρ (ipv4 x.cps) := fun φ s I Q E k => by
  refine isTrue_plain ?_ rfl
  refine Call_method1 rfl hs hl (name_glob I hg hk (by decide +kernel) ?_)
  have hp' := hp.keeps I.old
  obtain ⟨o, c, oc, f0, f1, f3, f4, h1, h2, h3, _⟩ := id hp'
  refine ⟨"re.Pattern", "re.Pattern.search", plainAttrs_pat, slot_search, type_search, ⟨o, h1, h2⟩, fun b e => by cases e; exact ⟨o, h1, h3⟩, ?_⟩
  refine Calls.callWith_builtin rfl (Calls.evalArgs_plain (Calls.spliced_cons (h φ s I _ _ fun v s1 g l => Calls.spliced_nil ?_)))
  obtain ⟨t, rfl⟩ := l
  have I1 := I.grow g
  refine call_meets slot_search ⟨o, g.keep h1, h2⟩ entry_search (args_search _ _) (search_meets hx) ⟨hp.keeps I1.old, fun e => ?_, fun e v s2 g2 hv hT => ?_⟩
  · exact truthy_none (by rw [e] at k; exact k _ g)
  · exact truthy_match hT hv (by rw [e] at k; exact k _ (g.trans g2))
end
end Mine

namespace Mine
open PySem PyProof.Rows PySem.W PySem.Calls
section
variable {Γ : Fx} {ρ ρ' : List Sl} {φ φ' : FS} {s s' : Shared} {o : Out} {pos : Pos}

/-- one character of a text -/
theorem Ev.char {e e' : Expr} {x : Str} {k : Int} (h : EvT Γ e ρ (.str x)) (h' : EvT Γ e' ρ (.int k)) (hr : fitsSsize k = true) (hin : (Txt.charAt x k).isSome = true) : EvT Γ (.Subscript e e' pos) ρ (.str (Txt.item x k)) := fun φ s I Q E q =>
  Subscript_ (h φ s I _ _ fun v s1 g1 l1 => h' φ s1 (I.grow g1) _ _ fun v' s2 g2 l2 => by
    obtain ⟨t, rfl⟩ := l1
    obtain ⟨u, rfl⟩ := l2
    exact sub_tail (typeIs_str _ _ _) F.slot_str_getitem.lookup (SB.getItem hr hin (q _ _ ((g1.trans g2).trans Grow.toks) ⟨_, rfl⟩)))

theorem Ev.text {e : Expr} {lo hi : Option Expr} {a b : Option Int} {p : Pos} {x : Str} (h : EvT Γ e ρ (.str x)) (h1 : PartT Γ ρ lo a) (h2 : PartT Γ ρ hi b) (hs : x.length ≤ sizeLine) :
    EvT Γ (.Subscript e (.Slice lo hi Option.none p) pos) ρ (.str (Txt.slice x a b)) := fun φ s I Q E q =>
  Subscript_ (h φ s I _ _ fun v s1 g1 l1 => wpAny_Slice (part_ev h1 (I.grow g1) fun v1 s2 g2 _ p1 => part_ev h2 ((I.grow g1).grow g2) fun v2 s3 g3 _ p2 => by
    obtain ⟨t, rfl⟩ := l1
    obtain ⟨l, rfl, rfl⟩ := p1
    obtain ⟨u, rfl, rfl⟩ := p2
    rw [evalPart_none]
    refine wpAny_pure (sub_tail (typeIs_str _ _ _) F.slot_str_getitem.lookup (wpAny_getItem_str_slice (l := l) (u := u) (st := Option.none) ⟨_, Heap.get?_push_size _ rfl, rfl, rfl⟩ rfl ?_))
    exact post_val_or_str ⟨Nat.le_trans (Txt.slice_le x _ _) hs, fun t' k => q _ _ (((g1.trans g2).trans g3).trans (Grow.heap (h' := s3.heap.push _) fun _ _ e => Heap.get?_push_of_some _ e)) ⟨_, rfl⟩⟩))
end
end Mine

namespace Mine
open PySem PyProof.Rows PySem.W PySem.Calls
open PySem.W.X (SegX)

section
variable {prog : Program} {w : World} {A : Around} {c : Code} {fs : List PySem.Frame} {s : Shared} {P : End → Shared → Prop} {env : Env}
  {K : Flow → Sem Fin} {H : Value → Sem Fin} {gd : Bool → Bool} {lv : List Value → List Value}

theorem x_wrap {M : Model} {α : Type} {m : Sem α} {K : α → Sem Fin} {H : Value → Sem Fin} (h : wpAny M (A.over c fs) m (fun a s' => SegX M A c (K a) fs s' P) (fun _ _ => False) s) :
    SegX M A c (m.wrap K H gd lv) fs s P := by
  rintro Γ p rfl hΓ
  exact runs_wrap_of_wp (Φ := fun e s' => e.quiet = true ∧ P e s') K H gd lv m (h (Γ.over fs) p (hΓ.over fs)) (fun a p' s' h' => h' Γ p' rfl hΓ) (fun x p' s' h' => h'.elim)

theorem x_bind {M : Model} {α : Type} {m : Sem α} {f : α → Sem β} {K : β → Sem Fin} {H : Value → Sem Fin} (h : wpAny M (A.over c fs) m (fun a s' => SegX M A c ((f a).wrap K H gd lv) fs s' P) (fun _ _ => False) s) :
    SegX M A c ((m >>= f).wrap K H gd lv) fs s P := by
  rw [Sem.bind_eq_wrap', Sem.wrap_wrap]; exact x_wrap h

theorem x_func {body : List Stmt} (h : SegX (model prog w) A (.func body env) ((execs body env).wrap (fun f => .pure (.done (.ret (match f with | .ret v => v | _ => .none))))
      (fun e => (leaving env e).wrap (fun _ => .raise e) .raise id id) id id) fs s P) : SegX (model prog w) A (.func body env) ((model prog w).den (.func body env)) fs s P := by
  show SegX _ A _ (.point [] fun _ => ((execs body env).onRaise (leaving env)) >>= _) fs s P
  have y : SegX (model prog w) A (.func body env) (point.wrap (fun (_ : Unit) => ((execs body env).onRaise (leaving env)) >>= fun f => match f with | .ret v => ret v | _ => ret .none) .raise id (fun _ => [])) fs s P := by
    refine x_wrap (wpAny_point ?_)
    rw [Sem.onRaise_eq_wrap, Sem.bind_eq_wrap', Sem.wrap_wrap]
    rw [Sem.wrap_congr (execs body env) _ _ (K' := fun f => .pure (.done (.ret (match f with | .ret v => v | _ => .none))))
      (H' := fun e => (leaving env e).wrap (fun _ => .raise e) .raise id id) (fun f => by cases f <;> rfl)
      (fun e => by rw [Sem.bind_eq_wrap, Sem.wrap_wrap]; rfl)]
    exact h
  exact y

theorem x_nil {M : Model} (h : SegX M A c (K .next) fs s P) : SegX M A c ((execs [] env).wrap K H gd lv) fs s P := h
theorem x_cons {M : Model} {st : Stmt} {rest : List Stmt} (h : SegX M A c ((exec st env).wrap (fun f => match f with | .next => (execs rest env).wrap K H gd lv | f => K f) H gd lv) fs s P) :
    SegX M A c ((execs (st :: rest) env).wrap K H gd lv) fs s P := by rw [execs_cons_wrap]; exact h

theorem x_If {M : Model} {test : Expr} {body orelse : List Stmt} {pos : Pos} (h : wpAny M (A.over c fs) (isTrue test env (eval test env)) (fun b s' => SegX M A c ((execs (if b = true then body else orelse) env).wrap K H gd lv) fs s' P) (fun _ _ => False) s) :
    SegX M A c ((exec (.If test body orelse pos) env).wrap K H gd lv) fs s P := by
  have e : exec (.If test body orelse pos) env = (standAt pos >>= fun _ => isTrue test env (eval test env) >>= fun b => if b = true then execs body env else execs orelse env) := rfl
  rw [e]
  refine x_bind (wpAny_standAt (x_bind (wpAny_mono h (fun b s' h' => ?_) fun _ _ q => q)))
  cases b with
  | true => exact h'
  | false => exact h'

theorem x_Yield {M : Model} {e : Expr} {ypos pos : Pos} (hfs : splitAtGen fs = none) (hgd : gd false = false) (hfg : fs.any Frame.guarded = false)
    (h : wpAny M (A.over c fs) (eval e env) (fun v s' => ∀ l kk p, (∀ s'' P'', SegX M A c (K .next) fs s'' P'' → SegX M A c (kk (.send .none)) fs s'' P'') → P (.susp v false l kk c p fs) s') (fun _ _ => False) s)
    (hco : env.scope.isCoroutine = false := by rfl) (hi : interactive env = false := by rfl) :
    SegX M A c ((exec (.Expr (.Yield (some e) ypos) pos) env).wrap K H gd lv) fs s P := by
  rw [exec_Expr env _ pos hi rfl]
  have hy : ∀ v, yieldOut env v = yieldValue v := fun v => by simp only [yieldOut, hco, Bool.false_eq_true, if_false]
  have e1 : (do standAt pos; let x ← eval (.Yield (some e) ypos) env; dropValue (.Yield (some e) ypos) pos x : Sem Flow) = (standAt pos >>= fun _ => (eval e env >>= fun v => (standAt ypos >>= fun _ => yieldOut env v)) >>= fun x => dropValue (.Yield (some e) ypos) pos x) := rfl
  rw [e1]
  simp only [hy]
  refine x_bind (wpAny_standAt ?_)
  rw [Sem.bind_eq_wrap', Sem.bind_eq_wrap', Sem.wrap_wrap, Sem.wrap_wrap]
  refine x_wrap (wpAny_mono h (fun v s' h' => ?_) fun _ _ q => q)
  rw [Sem.bind_eq_wrap', Sem.wrap_wrap]
  refine x_wrap (wpAny_standAt ?_)
  rintro Γ p rfl hΓ
  refine ⟨_, s', Runs.yield' fs hfs, ?_, ?_⟩
  · simp [End.quiet, hgd, hfg]
  · rw [show (fun g => gd (id g)) false = false from hgd]
    refine h' _ _ p fun s'' P'' q => ?_
    exact q

/-- what a loop's end hands on -/
def backK (env : Env) (K : Flow → Sem Fin) (H : Value → Sem Fin) (gd : Bool → Bool) (lv : List Value → List Value) (r : Result) : Sem Fin :=
  ((match r with | .ok f => (.pure f : Sem Flow) | .error e => .raise e).onRaise fun (x : Value) => do
        if (← field x 1) == Value.none then unsupported "frame.own-activation:exception-without-traceback"
        setFlight x env.frame).wrap K H gd lv
theorem backK_ok (f : Flow) : backK env K H gd lv (.ok f) = K f := rfl

theorem x_For {M : Model} {target iter : Expr} {body orelse : List Stmt} {pos : Pos} (hs : ∀ x, foldedSetIterable iter env x = pure x)
    (h : wpAny M (A.over c fs) (eval iter env) (fun x s₁ => wpAny M (A.over c fs) (pyIter x) (fun it s₂ => ∀ p, SegX M A (.forLoop target it body orelse env) (M.den (.forLoop target it body orelse env)) (.ret (backK env K H gd lv) none (gd false) (lv []) c p [] :: fs) s₂ P) (fun _ _ => False) s₁) (fun _ _ => False) s) :
    SegX M A c ((exec (.For target iter body orelse pos) env).wrap K H gd lv) fs s P := by
  rw [exec_For]
  refine x_bind (wpAny_standAt (x_bind (wpAny_mono h (fun x s₁ h₁ => ?_) fun _ _ q => q)))
  rw [hs x]
  refine x_bind (wpAny_pure (x_bind (wpAny_standAt (x_bind (wpAny_holding (wpAny_mono h₁ (fun it s₂ h₂ => ?_) fun _ _ q => q))))))
  rintro Γ p rfl hΓ
  obtain ⟨e, s', hr, hq, hp⟩ := h₂ p (Γ.goto _) p rfl (hΓ.goto _)
  exact ⟨e, s', runs_call_seg hr, hq, hp⟩

def turnK (c : Code) (f : Flow) : Sem Fin := match f with
  | .next | .cont => .pure (.again c)
  | .brk => .pure (.done .next)
  | .ret v => .pure (.done (.ret v))

theorem x_turn {target : Expr} {it : Value} {body orelse : List Stmt} (hc : c = .forLoop target it body orelse env)
    (h : wpAny (model prog w) (A.over c fs) (pyNext it) (fun r s₁ => match r with
      | none => SegX (model prog w) A (.block orelse env) ((model prog w).den (.block orelse env)) fs s₁ P
      | some v => wpAny (model prog w) (A.over c fs) (letOwnedTupleGo target it v) (fun _ s₂ => wpAny (model prog w) (A.over c fs) (assign target env v) (fun _ s₃ => ∀ H, SegX (model prog w) A c ((execs body env).wrap (turnK c) H id id) fs s₃ P) (fun _ _ => False) s₂) (fun _ _ => False) s₁) (fun _ _ => False) s) :
    SegX (model prog w) A c ((model prog w).den c) fs s P := by
  subst hc
  show SegX _ A _ ((forTurn target it body orelse env).onRaise _) fs s P
  rw [Sem.onRaise_eq_wrap]
  unfold forTurn
  refine x_bind (wpAny_standAt (x_bind (wpAny_onRaise (wpAny_mono h (fun r s₁ h₁ => ?_) fun _ _ q => q.elim))))
  cases r with
  | none => exact PySem.W.X.s_again prog w A _ fs P s₁ _ rfl h₁
  | some v =>
    refine x_bind (wpAny_mono h₁ (fun _ s₂ h₂ => x_bind (wpAny_mono h₂ (fun _ s₃ h₃ => ?_) fun _ _ q => q)) fun _ _ q => q)
    rw [Sem.bind_eq_wrap', Sem.wrap_wrap]
    rw [Sem.wrap_congr (execs body env) _ _ (K' := turnK (.forLoop target it body orelse env)) (fun f => by cases f <;> rfl) (fun e => rfl)]
    exact h₃ _

theorem x_again {c' : Code} (hq : c'.quiet = true) (x : SegX (model prog w) A c' ((model prog w).den c') fs s P) : SegX (model prog w) A c (.pure (.again c')) fs s P := PySem.W.X.s_again prog w A _ fs P s _ hq x

/-- a loop's end without else -/
theorem x_blockEnd {k : Result → Sem Fin} {hd : Option Value} {g : Bool} {l : List Value} {c₁ : Code} {p₁ : Pos} {kp} (x : SegX (model prog w) A c₁ (k (.ok .next)) fs s P) : SegX (model prog w) A (.block [] env) ((model prog w).den (.block [] env)) (.ret k hd g l c₁ p₁ kp :: fs) s P :=
  PySem.W.X.s_pop prog w A _ fs P s (.ok .next) _ rfl k hd g l c₁ p₁ kp x
end
end Mine

namespace Mine
open PySem PyProof.Rows PySem.W PySem.Calls
open PySem.W.X (SegX)

def Resumes (M : Model) (A : Around) (gs : GenState) (s : Shared) (P : End → Shared → Prop) : Prop := match gs with
  | .fresh c => SegX M A c (M.den c) [] s P
  | .suspended k _ c _ fs _ => SegX M A c (k (.send .none)) fs s P
  | _ => False

theorem segQuiet {M : Model} {A : Around} {c : Code} {t : Sem Fin} {fs : List PySem.Frame} {s : Shared} {P : End → Shared → Prop} (x : SegX M A c t fs s P) : SegX M A c t fs s (fun e s' => e.quiet = true ∧ P e s') := fun Γ p hc hΓ => by
  obtain ⟨e, s', hr, hq, hp⟩ := x Γ p hc hΓ
  exact ⟨e, s', hr, hq, hq, hp⟩

section
variable {prog : Program} {w : World} {A : Around} {E : Value → Shared → Prop} {s : Shared}
theorem x_resume {α : Type} {g : Nat} {gs : GenState} {l : List Value} {k : GenResult → Sem α} {Q : α → Shared → Prop} (hg : s.gens[g]? = some gs)
    (x : Resumes (model prog w) A gs (s.setGen g .running) (fun e s₁ => e.quiet = true → wpAny (model prog w) A (k e.result) Q E (s₁.setGen g e.genState))) : wpAny (model prog w) A (.resume g (.send .none) l k) Q E s := by
  intro Γ p hΓ
  cases gs with
  | fresh c =>
    exact PySem.W.X.wake_any α prog w hg (.inl ⟨rfl, rfl, rfl, rfl⟩) (fun Γ => Γ.In A) (fun _ h => h) ((segQuiet x).mono fun e s₁ h Γ p hC => (h.2 h.1) Γ p hC) Γ p hΓ
  | suspended k₀ l₀ c₀ p₀ fs₀ cl =>
    exact PySem.W.X.wake_any α prog w hg (.inr ⟨k₀, l₀, p₀, cl, rfl, rfl⟩) (fun Γ => Γ.In A) (fun _ h => h) ((segQuiet x).mono fun e s₁ h Γ p hC => (h.2 h.1) Γ p hC) Γ p hΓ
  | running => exact x.elim
  | finished => exact x.elim

theorem Resumes.mono {M : Model} {gs : GenState} {P P' : End → Shared → Prop} (x : Resumes M A gs s P) (h : ∀ e s', P e s' → P' e s') : Resumes M A gs s P' := by
  cases gs with
  | fresh c => exact SegX.mono x h
  | suspended k₀ l₀ c₀ p₀ fs₀ cl => exact SegX.mono x h
  | running => exact x.elim
  | finished => exact x.elim

theorem next_gen {a : Addr} {g : Nat} {gs : GenState} {Q : Option Value → Shared → Prop} (hh : A.handled = none) (hl : s.heap.NoLimit) (hroom : A.depth < recursionLimit) (hg : s.heap.IsGen a g) (hgs : s.gens[g]? = some gs)
    (x : Resumes (model prog w) A.in1 gs (s.setGen g .running) (fun e s₁ => e.quiet = true → (e = .ret (.ok (.ret .none)) ∧ ∀ h', (∀ b o, s₁.heap.get? b = some o → h'.get? b = some o) → Q none { s₁.setGen g .finished with heap := h' }) ∨
      (∃ v l k c p fs, e = .susp v false l k c p fs ∧ Q (some v) (s₁.setGen g e.genState)))) : wpAny (model prog w) A (pyNext (.ref a)) Q E s := by
  unfold pyNext
  refine wpAny_bind (wpAny_attempt (wpAny_callSpecial?_slot (name := Str.ofString "__next__") hg.typeIs slot_gen_next
    (wpAny_call_entry slot_gen_next hg.typeIs entry_gen_next ?_ (args_gen_next _))))
  show wpAny _ _ (Builtin.Generator.genWake (.ref a) (.send .none)) _ _ s
  unfold Builtin.Generator.genWake
  refine wpAny_bind (wpAny_holding (wpAny_genNumber hg (wpAny_bind (wpAny_genState hgs ?_))))
  cases gs with
  | running => exact x.elim
  | finished => exact x.elim
  | _ =>
    refine wpAny_bind (wpAny_roomToWake hl hroom ?_)
    show wpAny _ _ (.resume g (.send .none) [] _) _ _ s
    refine x_resume hgs (Resumes.mono x fun e s₁ hx hq => ?_)
    rcases hx hq with ⟨rfl, hp⟩ | ⟨v, l, k, c, p, fs, rfl, hv⟩
    · show wpAny _ _ (newExc (.type "StopIteration") [] >>= _) _ _ _
      refine wpAny_bind ?_
      simp only [newExc, newTuple]
      refine wpAny_bind (wpAny_newObj_type ?_ (by size_fits))
      refine wpAny_bind (m := firstArgMember _ _) (wpAny_of_eq (a := Value.none) (by first | rfl | (simp only [firstArgMember]; rfl)) ?_)
      refine wpAny_newObj_type ?_ (by size_fits)
      simp only [raiseNew]
      refine wpAny_bind (wpAny_bind (wpAny_handled ?_))
      rw [show A.in1.handled = none from hh]
      refine wpAny_throw ?_
      refine wpAny_bind (wpAny_isInstance (T := "StopIteration") (b := true) ⟨_, Heap.get?_push_size _ rfl, rfl⟩ isSubtype_stop ?_)
      exact wpAny_pure (hp _ fun b o hb => Heap.get?_push_of_some _ (Heap.get?_push_of_some _ hb))
    · exact wpAny_pure ⟨v, rfl, wpAny_pure hv⟩
end

def Kept (F : Addr → Prop) (s s' : Shared) : Prop := ∀ a o, F a → s.heap.get? a = some o → s'.heap.get? a = some o
def FOk (F : Addr → Prop) (s : Shared) : Prop := ∀ a, F a → ∃ o, s.heap.get? a = some o ∧ ∀ xs n, o.data ≠ .seq xs n
theorem FOk.kept {F : Addr → Prop} {s s' : Shared} (h : FOk F s) (k : Kept F s s') : FOk F s' := fun a q => let ⟨o, ho, r⟩ := h a q; ⟨o, k a o q ho, r⟩

/-- what a waking generator hands out -/
def GoD (M : Model) (A : Around) (h₁ : Heap) : List D → (Addr → Prop) → GenState → Shared → Prop
  | [], F, gs, s => ∀ s', Kept F s s' → (∀ a o, h₁.get? a = some o → s'.heap.get? a = some o) → AllBare s'.gens → Resumes M A gs s' (fun e s₁ => e = .ret (.ok (.ret .none)) ∧ Step F s' s₁)
  | d :: ds, F, gs, s => ∀ s', Kept F s s' → (∀ a o, h₁.get? a = some o → s'.heap.get? a = some o) → AllBare s'.gens → Resumes M A gs s' (fun e s₁ => ∃ v l k c p fs F', e = .susp v false l k c p fs ∧ Step F s' s₁ ∧
      (∀ a, F' a → F a ∨ s'.heap.get? a = none) ∧ FOk F' s₁ ∧ (∀ W : Addr → Prop, (∀ a, W a → (∃ o, s'.heap.get? a = some o) ∧ ¬ F a) → Lay W s₁.heap d v) ∧ GoD M A h₁ ds F' e.genState s₁)
theorem GoD.kept {M : Model} {A : Around} {h₁ : Heap} {ds : List D} {F : Addr → Prop} {gs : GenState} {s s' : Shared} (h : GoD M A h₁ ds F gs s) (k : Kept F s s') : GoD M A h₁ ds F gs s' := by
  cases ds with
  | nil => intro s2 k2; exact h s2 fun a o q e => k2 a o q (k a o q e)
  | cons d ds => intro s2 k2; exact h s2 fun a o q e => k2 a o q (k a o q e)

structure GenS (M : Model) (A : Around) (h₁ : Heap) (a : Addr) (g : Nat) (F : Addr → Prop) (ds : List D) (s : Shared) : Prop where
  gen : s.heap.IsGen a g
  out : ¬ F a
  ok : FOk F s
  go : ∃ gs, s.gens[g]? = some gs ∧ GoD M A h₁ ds F gs s

def withA (F : Addr → Prop) (a : Addr) (b : Addr) : Prop := F b ∨ b = a

section
variable {prog : Program} {w : World} {A : Around} {s : Shared} {h₁ : Heap} {a : Addr} {g : Nat} {F : Addr → Prop}
theorem set_get {gens : Array GenState} {g g' : Nat} {x : GenState} (h : g' ≠ g) : (gens.setIfInBounds g x)[g']? = gens[g']? := by
  rw [Array.getElem?_setIfInBounds_ne (Ne.symm h)]
theorem set_bare {gens : Array GenState} {g : Nat} {x : GenState} (hx : x.bare = true) (h : AllBare gens) : AllBare (gens.setIfInBounds g x) := fun y hy => by
  rcases Array.mem_or_eq_of_mem_setIfInBounds hy with q | q
  · exact h y q
  · exact q ▸ hx

theorem GenS.nil (G : GenS (model prog w) A.in1 h₁ a g F [] s) (hh : A.handled = none) (hnl : h₁.NoLimit) (hroom : A.depth < recursionLimit) (old : ∀ a o, h₁.get? a = some o → s.heap.get? a = some o) (bare : AllBare s.gens)
    {Q : Option Value → Shared → Prop} {E : Value → Shared → Prop} (k : ∀ s', Touch (withA F a) (· = g) s s' → Q none s') : wpAny (model prog w) A (pyNext (.ref a)) Q E s := by
  obtain ⟨gs, hgs, go⟩ := G.go
  refine next_gen hh (hnl.keeps old) hroom G.gen hgs (Resumes.mono (go (s.setGen g .running) (fun _ _ _ e => e) old (set_bare rfl bare)) fun e s₁ ⟨he, st⟩ hq => .inl ⟨he, fun h' hk => k _ ?_⟩)
  refine ⟨fun b o n e => hk b o (st.keep b o (fun q => n (.inl q)) e), st.os, fun _ => set_bare rfl (st.bare (set_bare rfl bare)), ?_, fun g' hg' n => ?_⟩
  · have := st.gsize
    simp only [Shared.setGen, Array.size_setIfInBounds] at this ⊢
    exact this
  · have := st.gens g' (by simp only [Shared.setGen, Array.size_setIfInBounds]; exact hg')
    simp only [Shared.setGen] at this ⊢
    rw [set_get n, this, set_get n]

theorem GenS.cons {d : D} {ds : List D} (G : GenS (model prog w) A.in1 h₁ a g F (d :: ds) s) (hh : A.handled = none) (hnl : h₁.NoLimit) (hroom : A.depth < recursionLimit) (old : ∀ a o, h₁.get? a = some o → s.heap.get? a = some o) (bare : AllBare s.gens)
    {Q : Option Value → Shared → Prop} {E : Value → Shared → Prop} (k : ∀ v s' F', Touch (withA F a) (· = g) s s' → (∀ b, F' b → F b ∨ s.heap.get? b = none) → GenS (model prog w) A.in1 h₁ a g F' ds s' →
      (∀ W : Addr → Prop, (∀ a, W a → (∃ o, s.heap.get? a = some o) ∧ ¬ F a) → Lay W s'.heap d v) → Q (some v) s') : wpAny (model prog w) A (pyNext (.ref a)) Q E s := by
  obtain ⟨gs, hgs, go⟩ := G.go
  refine next_gen hh (hnl.keeps old) hroom G.gen hgs (Resumes.mono (go (s.setGen g .running) (fun _ _ _ e => e) old (set_bare rfl bare)) fun e s₁ hx hq => .inr ?_)
  obtain ⟨v, l, k', c, p, fs, F', rfl, st, hF', fok, lay, go'⟩ := hx
  have hgl : g < s.gens.size := by
    rw [Array.getElem?_eq_some_iff] at hgs
    exact hgs.1
  have hgl1 : g < s₁.gens.size := Nat.lt_of_lt_of_le hgl (by have := st.gsize; simpa [Shared.setGen] using this)
  refine ⟨v, l, k', c, p, fs, rfl, k v _ F' ⟨fun b o n e => st.keep b o (fun q => n (.inl q)) e, st.os, fun _ => set_bare (End.bare_of_quiet hq) (st.bare (set_bare rfl bare)), ?_, fun g' hg' n => ?_⟩ hF' ⟨?_, fun q => ?_, fok, _, ?_, go'.kept fun _ _ _ e => e⟩ lay⟩
  · have := st.gsize
    simp only [Shared.setGen, Array.size_setIfInBounds] at this ⊢
    exact this
  · have := st.gens g' (by simp only [Shared.setGen, Array.size_setIfInBounds]; exact hg')
    simp only [Shared.setGen] at this ⊢
    rw [set_get n, this, set_get n]
  · obtain ⟨o, nm, qn, ho, r⟩ := G.gen
    exact ⟨o, nm, qn, st.keep a o G.out ho, r⟩
  · obtain ⟨o, nm, qn, ho, r⟩ := G.gen
    rcases hF' a q with z | z
    · exact G.out z
    · rw [show (s.setGen g .running).heap = s.heap from rfl, ho] at z; cases z
  · simp only [Shared.setGen]
    rw [Array.getElem?_setIfInBounds_self_of_lt hgl1]

theorem GenS.carry {M : Model} {ds : List D} {s' : Shared} (G : GenS M A h₁ a g F ds s) (hk : ∀ b o, withA F a b → s.heap.get? b = some o → s'.heap.get? b = some o) (hg : s'.gens[g]? = s.gens[g]?) : GenS M A h₁ a g F ds s' where
  gen := let ⟨o, nm, qn, ho, r⟩ := G.gen; ⟨o, nm, qn, hk a o (.inr rfl) ho, r⟩
  out := G.out
  ok := G.ok.kept fun b o q e => hk b o (.inl q) e
  go := let ⟨gs, h1, h2⟩ := G.go; ⟨gs, hg.trans h1, h2.kept fun b o q e => hk b o (.inl q) e⟩
theorem GenS.noseq {M : Model} {ds : List D} (G : GenS M A h₁ a g F ds s) : ∀ b o xs n, withA F a b → s.heap.get? b = some o → o.data ≠ .seq xs n := by
  rintro b o xs n (q | rfl) ho
  · obtain ⟨o', ho', r⟩ := G.ok b q
    rw [ho] at ho'; cases ho'; exact r xs n
  · obtain ⟨o', nm, qn, ho', _, hd, _⟩ := G.gen
    rw [ho] at ho'; cases ho'
    rw [hd]; intro z; cases z
end
end Mine

namespace Mine
open PySem PyProof.Rows PySem.W PySem.Calls

section
variable {Γ : Fx} {ρ ρ' : List Sl} {φ φ' : FS} {s s' : Shared} {o : Out} {pos : Pos}

/-- an expression that gives a generator of these items -/
def SrcG (Γ : Fx) (e : Expr) (ρ : List Sl) (ds : List D) : Prop := ∀ φ s, In Γ ρ φ s → ∀ (Q : Value → Shared → Prop) (E : Value → Shared → Prop),
  (∀ a g F s2, Grow s s2 → (∀ b, withA F a b → s.heap.get? b = none) → s.gens.size ≤ g → GenS Γ.M Γ.A.in1 Γ.h₁ a g F ds s2 → Q (.ref a) s2) →
  wpAny Γ.M Γ.A (eval e Γ.env) (fun x s1 => wpAny Γ.M Γ.A (pyIter x) Q E s1) E s

theorem letGo_gen {M : Model} {A : Around} {E : Value → Shared → Prop} {target : Expr} {a : Addr} {g : Nat} {v : Value} {Q : Unit → Shared → Prop} (hg : s.heap.IsGen a g) (hQ : Q () s) : wpAny M A (letOwnedTupleGo target (.ref a) v) Q E s := by
  obtain ⟨o, nm, qn, ho, hc, hd, _⟩ := hg
  exact letGo_other ho hc hd (by decide) hQ

/-- a footprint that is the generator's own -/
structure Free (Γ : Fx) (φ : FS) (s : Shared) (F : Addr → Prop) : Prop where
  loc : ¬ F Γ.env.locals
  cell : ∀ x c, Γ.env.cells.lookup x = some c → ¬ F c
  base : ∀ a, F a → Γ.h₁.get? a = none
  forb : ∀ a, F a → ¬ Γ.W₀ a
  new : ∀ a, F a → s.heap.get? a = none ∨ Mut Γ φ a

theorem In.forbAlive (I : In Γ ρ φ s) : ∀ a, Forb Γ φ a → ∃ o, s.heap.get? a = some o := by
  rintro a (q | ⟨i, q⟩)
  · exact I.w0 a q
  · obtain ⟨⟨its, ob, n, ho, _⟩, _⟩ := I.own i a q
    exact ⟨ob, ho⟩

theorem apartF {M : Model} {A : Around} {h₁ : Heap} {a : Addr} {g : Nat} {F : Addr → Prop} {ds : List D} {φ0 : FS} {s0 : Shared} (I : In Γ ρ φ s) (fr : Free Γ φ0 s0 (withA F a)) (G : GenS M A h₁ a g F ds s) : ∀ b, Forb Γ φ b → (∃ o, s.heap.get? b = some o) ∧ ¬ F b := fun b q => by
  refine ⟨I.forbAlive b q, fun z => ?_⟩
  rcases q with q | ⟨i, q⟩
  · exact fr.forb b (.inl z) q
  · obtain ⟨⟨its, ob, n, ho, _, _, hd⟩, _⟩ := I.own i b q
    exact G.noseq b ob its n (.inl z) ho hd

theorem St.forG {target e : Expr} {body : List Stmt} {ds : List D} {b : D → List Sl → Option (List Sl)} (hnl : Γ.h₁.NoLimit) (hsrc : SrcG Γ e ρ ds) (hasg : AsgT Γ target b) (hl : LoopR Γ b body ds ρ o)
    (hf : ∀ x, foldedSetIterable e Γ.env x = pure x := by intro _; rfl) : StT Γ (.For target e body [] pos) ρ o := fun φ s I Q E k => by
  have hroom : Γ.A.depth < recursionLimit := by have := I.ok.room.depth; omega
  refine wpAny_For (hsrc φ s I _ _ fun a g F s2 g2 hF hG hS => ?_) hf
  have I2 := I.grow g2
  have fr0 : Free Γ φ s (withA F a) := by
    refine ⟨fun q => ?_, fun x c e q => ?_, fun b q => ?_, fun b q w => ?_, fun b q => .inl (hF b q)⟩
    · obtain ⟨oL, _, _, hL, _⟩ := I.ns
      rw [hF _ q] at hL; cases hL
    · obtain ⟨⟨v, oc, ho, _⟩, _⟩ := I.cells x c e
      rw [hF _ q] at ho; cases ho
    · cases z : Γ.h₁.get? b with
      | none => rfl
      | some ob => have := I.old b ob z; rw [hF b q] at this; cases this
    · obtain ⟨ob, ho⟩ := I.w0 b w
      rw [hF b q] at ho; cases ho
  have tst : ∀ {F' : Addr → Prop} {s' s'' : Shared}, Free Γ φ s F' → Step (Mut Γ φ) s s' → Touch F' (· = g) s' s'' → Step (Mut Γ φ) s s'' := fun fr st t =>
    ⟨fun a ob n e => t.keep a ob (fun q => by
        rcases fr.new a q with z | z
        · rw [z] at e; cases e
        · exact n z) (st.keep a ob n e), t.os.trans st.os, t.bare ∘ st.bare, Nat.le_trans st.gsize t.gsize,
      fun g' hg => (t.gens g' (Nat.lt_of_lt_of_le hg st.gsize) fun q => absurd (q ▸ hG) (Nat.not_le_of_lt hg)).trans (st.gens g' hg)⟩
  refine codeAny_forLoop_any (fun n s' => ∃ ds ρ φ' F, n = ds.length ∧ LoopR Γ b body ds ρ o ∧ In Γ ρ φ' s' ∧ Step (Mut Γ φ) s s' ∧ Evo φ φ' s ∧ Free Γ φ s (withA F a) ∧ GenS Γ.M Γ.A.in1 Γ.h₁ a g F ds s') ?_ ds.length ⟨ds, ρ, φ, F, rfl, hl, I2, Step.ofGrow g2, Evo.refl _ _, fr0, hS⟩
  rintro n s3 ⟨ds, ρ, φ3, F, rfl, hl, I3, st3, ev3, fr3, hS3⟩
  have next : ∀ F', (∀ b, F' b → F b ∨ s3.heap.get? b = none) → Free Γ φ s (withA F' a) := fun F' hF' => by
    have sp : ∀ b, withA F' a b → withA F a b ∨ s3.heap.get? b = none := by
      rintro b (q | q)
      · rcases hF' b q with z | z
        · exact .inl (.inl z)
        · exact .inr z
      · exact .inl (.inr q)
    refine ⟨fun q => ?_, fun x c e q => ?_, fun b q => ?_, fun b q w => ?_, fun b q => ?_⟩
    · rcases sp _ q with z | z
      · exact fr3.loc z
      · obtain ⟨oL, _, _, hL, _⟩ := I3.ns
        rw [z] at hL; cases hL
    · rcases sp _ q with z | z
      · exact fr3.cell x c e z
      · obtain ⟨⟨v, oc, ho, _⟩, _⟩ := I3.cells x c e
        rw [z] at ho; cases ho
    · rcases sp _ q with z | z
      · exact fr3.base b z
      · cases y : Γ.h₁.get? b with
        | none => rfl
        | some ob => have := I3.old b ob y; rw [z] at this; cases this
    · rcases sp _ q with z | z
      · exact fr3.forb b z w
      · obtain ⟨ob, ho⟩ := I3.w0 b w
        rw [z] at ho; cases ho
    · rcases sp _ q with z | z
      · exact fr3.new b z
      · by_cases m : Mut Γ φ b
        · exact .inr m
        · left
          cases y : s.heap.get? b with
          | none => rfl
          | some ob => have := st3.keep b ob m y; rw [z] at this; cases this
  cases hl with
  | nil =>
    refine hS3.nil I.ok.room.handled hnl hroom I3.old I3.bare fun s4 t4 => wpAny_execs_nil (k _ _ ?_)
    exact ⟨rfl, φ3, I3.touch t4 fr3.loc fr3.cell fr3.base fr3.forb hS3.noseq, tst fr3 st3 t4, ev3⟩
  | @next d ds _ ρ₁ ρ₂ _ hb hbody hrest =>
    refine hS3.cons I.ok.room.handled hnl hroom I3.old I3.bare fun v s4 F' t4 hF' hS4 l4 => ?_
    have fr4 := next F' hF'
    have I4 := I3.touch t4 fr3.loc fr3.cell fr3.base fr3.forb hS3.noseq
    refine letGo_gen hS4.gen ?_
    refine hasg ρ ρ₁ φ3 s4 d v I4 hb (l4 _ (apartF I3 fr3 hS3)) _ _ fun φ5 s5 I5 st5 ev5 => ?_
    refine hbody φ5 s5 I5 _ _ fun fl s6 p => ?_
    obtain ⟨rfl, φ6, I6, st6, ev6⟩ := p
    have z := I4.then st5 ev5 I5 st6 ev6
    have z2 := I.then (tst fr3 st3 t4) (fun i a e => ev3 i a e) I4 z.1 z.2
    refine ⟨ds.length, by simp, ds, ρ₂, φ6, F', rfl, hrest, I6, z2.1, z2.2, fr4, ?_⟩
    have hgl : g < s4.gens.size := by
      obtain ⟨gs, h1, _⟩ := hS4.go
      exact (Array.getElem?_eq_some_iff.mp h1).1
    refine hS4.carry (fun c ob q e => z.1.keep c ob ?_ e) (z.1.gens g hgl)
    rintro (w | ⟨x, w⟩ | ⟨i, w⟩)
    · exact fr4.loc (w ▸ q)
    · exact fr4.cell x c w q
    · obtain ⟨⟨its, ob', n', ho', _, _, hd'⟩, _⟩ := I4.own i c w
      exact hS4.noseq c ob' its n' q ho' hd'
  | @ret d ds _ ρ₁ r hb hbody =>
    refine hS3.cons I.ok.room.handled hnl hroom I3.old I3.bare fun v s4 F' t4 hF' hS4 l4 => ?_
    have I4 := I3.touch t4 fr3.loc fr3.cell fr3.base fr3.forb hS3.noseq
    refine letGo_gen hS4.gen ?_
    refine hasg ρ ρ₁ φ3 s4 d v I4 hb (l4 _ (apartF I3 fr3 hS3)) _ _ fun φ5 s5 I5 st5 ev5 => ?_
    refine hbody φ5 s5 I5 _ _ fun fl s6 p => ?_
    have p' := Post.then I4 st5 ev5 I5 p
    have p'' := Post.then I (tst fr3 st3 t4) ev3 I4 p'
    obtain ⟨v', rfl, r'⟩ := id p''
    exact k _ _ p''
end
end Mine

namespace Mine
open PySem PyProof.Rows PySem.W PySem.Calls

section
variable {Γ : Fx} {ρ ρ' : List Sl} {φ φ' : FS} {s s' : Shared} {o : Out} {pos : Pos}

def bind2 (i j : Nat) (d : D) (ρ : List Sl) : Option (List Sl) := match d with
  | .tuple [a, b] => some ((ρ.set i (.dat a)).set j (.dat b))
  | _ => none

theorem Asg.pair {x y : Str} {px py p : Pos} {c : Nat} (i j : Nat) (hx : Γ.names[i]? = some x) (hy : Γ.names[j]? = some y) : AsgT Γ (.Tuple [.Name x px, .Name y py] c p) (bind2 i j) := fun ρ ρ' φ s d v I hb hl Q E k => by
  unfold bind2 at hb
  split at hb
  · rename_i a b
    cases hb
    simp only [Lay] at hl
    obtain ⟨t, its, rfl, hw, ht, ll⟩ := hl
    simp only [LayL] at ll
    obtain ⟨va, r, e, la, vb, r', e', lb, e''⟩ := ll
    subst e'' e'
    have hits : its = #[va, vb] := by
      apply Array.toList_inj.mp; rw [e]
    subst hits
    refine wpAny_assign_Tuple I.ok.room.handled ht rfl rfl fun h' he => ?_
    have g1 : Grow s { s with heap := h', toks := s.toks } := Grow.heap fun b o e => he b o (fun q => by subst q; rw [newAt (h := s.heap) default] at e; cases e) e
    have I1 := I.grow g1
    show wpAny _ _ (assignInOrder [assign (.Name x px) Γ.env, assign (.Name y py) Γ.env] [va, vb]) _ _ _
    unfold assignInOrder
    refine wpAny_bind (wpAny_holding (wpAny_assign_Name (store_dat I1 hx (la.grow g1) fun φ2 s2 I2 st2 ev2 => ?_)))
    unfold assignInOrder
    have lb2 := (lb.grow g1).carry (I1.carry st2 ev2)
    refine wpAny_bind (wpAny_holding (wpAny_assign_Name (store_dat I2 hy lb2 fun φ3 s3 I3 st3 ev3 => ?_)))
    unfold assignInOrder
    have z := I1.then st2 ev2 I2 st3 ev3
    exact wpAny_pure (k φ3 s3 I3 ((Step.ofGrow g1).trans z.1) (Evo.trans_grow g1 z.2))
  · cases hb
end
end Mine

namespace Mine
open PySem PyProof.Rows PySem.W PySem.Calls
open PySem.W.X (SegX)

theorem room_top {A : Around} {k : Nat} {body : List Stmt} {env : Env} (R : Room (k + 2) A) : Room k (A.in1.over (.func body env) []) := by
  have h1 := R.depth
  have h2 := R.units
  refine ⟨R.handled, ?_, ?_⟩
  · have : (A.in1.over (.func body env) []).depth = A.depth + 0 + 1 := rfl
    omega
  · have : (A.in1.over (.func body env) []).units = A.units + 1 + 0 + 3 := rfl
    omega
theorem room_loop {A : Around} {k : Nat} {target : Expr} {it : Value} {body body' : List Stmt} {env : Env} {kk : Result → Sem Fin} {l : List Value} {p : Pos} (R : Room (k + 2) A) :
    Room k (A.in1.over (.forLoop target it body' [] env) [.ret kk none false l (.func body env) p []]) := by
  have h1 := R.depth
  have h2 := R.units
  refine ⟨?_, ?_, ?_⟩
  · have : (A.in1.over (.forLoop target it body' [] env) [.ret kk none false l (.func body env) p []]).handled = markOver none A.handled A.handled := rfl
    rw [this, R.handled]; rfl
  · have : (A.in1.over (.forLoop target it body' [] env) [.ret kk none false l (.func body env) p []]).depth = A.depth + (1 + 0) + 0 := rfl
    omega
  · have : (A.in1.over (.forLoop target it body' [] env) [.ret kk none false l (.func body env) p []]).units = A.units + 1 + (3 + 0) + 0 := rfl
    omega

/-- the generator's frame -/
def gF (prog : Program) (w : World) (h₁ : Heap) (A : Around) (env : Env) (W : Addr → Prop) : Fx := ⟨prog, w, h₁, A, env, W, ["addr", "pos", "escape", "ch"], 0⟩

structure GEnv (h₁ : Heap) (env : Env) : Prop where
  kind : env.scope.kind = .function
  kinds : ∀ x ∈ (["addr", "pos", "escape", "ch"] : List Str), env.kindOf x = some .local
  cells : env.cells = []
  glob : env.globals = mainGlobals
  bltn : env.builtins = builtinsNs
  new : h₁.get? env.locals = none
  co : env.scope.isCoroutine = false
  inter : interactive env = false
  enum : env.kindOf "enumerate" = some .globalImplicit

/-- plain slots -/
def small : Sl → Bool
  | .any => true
  | .dat (.int _) => true
  | .dat (.bool _) => true
  | .dat (.str _) => true
  | _ => false
def Small (ρ : List Sl) : Prop := ∀ σ ∈ ρ, small σ = true

section
variable {prog : Program} {w : World} {h₁ : Heap} {A A' : Around} {env : Env} {W W' : Addr → Prop} {ρ : List Sl} {φ : FS} {s s' : Shared}

/-- the frame between two wakings -/
theorem In.wake (I : In (gF prog w h₁ A env W) ρ φ s) (G : GEnv h₁ env) (hρ : Small ρ) (R : Room 0 A') (hL : ∀ o, s.heap.get? env.locals = some o → s'.heap.get? env.locals = some o)
    (old : ∀ a o, h₁.get? a = some o → s'.heap.get? a = some o) (hW : ∀ a, W' a → ∃ o, s'.heap.get? a = some o) (bare : AllBare s'.gens) : In (gF prog w h₁ A' env W') ρ ⟨φ.m, fun _ => none⟩ s' := by
  have nc : ∀ x, env.cells.lookup x = none := fun x => by rw [G.cells]; rfl
  refine ⟨⟨G.kind, R, I.ok.nodup, fun x hx => .inl (G.kinds x hx), fun x y c e => ?_, G.glob, G.bltn⟩, old, ?_, G.new, fun x c e => ?_, fun i σ x hi hx => ?_, fun i j a e => (nomatch e), fun i a e => (nomatch e), hW, bare⟩
  · rw [show (gF prog w h₁ A' env W').env.cells.lookup x = none from nc x] at e; cases e
  · obtain ⟨o, es, ep, ho, r⟩ := I.ns
    exact ⟨o, es, ep, hL o ho, r⟩
  · rw [show (gF prog w h₁ A' env W').env.cells.lookup x = none from nc x] at e; cases e
  · have z := I.slots i σ x hi hx
    have hs := hρ σ (List.mem_of_getElem? hi)
    have var : ∀ v, Var (gF prog w h₁ A env W) φ s.heap x v → Var (gF prog w h₁ A' env W') ⟨φ.m, fun _ => none⟩ s'.heap x v := fun v hv => by
      rcases hv with ⟨h1, h2⟩ | ⟨h1, c, h2, _⟩
      · exact .inl ⟨h1, h2⟩
      · rw [show (gF prog w h₁ A env W).env.cells.lookup x = none from nc x] at h2; cases h2
    cases σ with
    | any => trivial
    | dat d =>
      obtain ⟨v, h2, h3⟩ := z
      refine ⟨v, var v h2, ?_⟩
      cases d with
      | int i => exact h3
      | bool b => exact h3
      | str x => exact h3
      | _ => cases hs
    | own l => cases hs
    | val v => cases hs
end
end Mine

namespace Mine
open PySem PyProof.Rows PySem.W PySem.Calls
open PySem.W.X (SegX)

def fdAt (i : Nat) : Option (Str × Arguments × List Stmt × Scope) := match PySem.Challenge.pw_rs0080_01.main.body[i]? with
  | some (.FunctionDef n a b _ _ _ sc _ _ _) => some (n, a, b, sc)
  | _ => none
def bodyAt (i : Nat) : List Stmt := match fdAt i with | some (_, _, b, _) => b | none => []

def gTarget : Expr := match bodyAt 2 with | [_, _, .For t _ _ _ _, _] => t | _ => .Name "" default
def gIter : Expr := match bodyAt 2 with | [_, _, .For _ i _ _ _, _] => i | _ => .Name "" default
def gLoop : List Stmt := match bodyAt 2 with | [_, _, .For _ _ b _ _, _] => b | _ => []
def gTail : List Stmt := match bodyAt 2 with | [_, _, _, x] => [x] | _ => []

def pairD (i : Int) (x : Str) : D := .tuple [.int i, .str x]
/-- what the generator hands out: the characters left, the next index, the flag -/
def outs : List Nat → Nat → Bool → List D
  | [], i, esc => if esc = true then [pairD ((i : Int) - 1) ⟨#[92]⟩] else []
  | c :: cs, i, true => pairD i ⟨#[92, c]⟩ :: outs cs (i + 1) false
  | c :: cs, i, false => if c = 92 then outs cs (i + 1) true else pairD i ⟨#[c]⟩ :: outs cs (i + 1) false

theorem draws_str {prog : Program} {w : World} {A : Around} (hh : A.handled = none) (it : Addr) (x : Str) (t : Tok) :
    Draws prog w A it [it] x.cps.size (fun i v => ∃ c u, x.cps[i]? = some c ∧ v = .str ⟨#[c]⟩ u) (fun i h => h.IsStrIter it (strIterType x) x t i) := by
  unfold strIterType
  split
  · exact Draws.strAscii hh it x t
  · exact Draws.strWide hh it x t

/-- the end of a segment that owes these items -/
def EndD (M : Model) (A : Around) (h₁ : Heap) (ds : List D) (F : Addr → Prop) (s' : Shared) (e : End) (s₁ : Shared) : Prop := match ds with
  | [] => e = .ret (.ok (.ret .none)) ∧ Step F s' s₁
  | d :: ds => ∃ v l k c p fs F', e = .susp v false l k c p fs ∧ Step F s' s₁ ∧
      (∀ a, F' a → F a ∨ s'.heap.get? a = none) ∧ FOk F' s₁ ∧ (∀ W : Addr → Prop, (∀ a, W a → (∃ o, s'.heap.get? a = some o) ∧ ¬ F a) → Lay W s₁.heap d v) ∧ GoD M A h₁ ds F' e.genState s₁
theorem GoD.of {M : Model} {A : Around} {h₁ : Heap} {ds : List D} {F : Addr → Prop} {gs : GenState} {s : Shared}
    (h : ∀ s', Kept F s s' → (∀ a o, h₁.get? a = some o → s'.heap.get? a = some o) → AllBare s'.gens → Resumes M A gs s' (EndD M A h₁ ds F s')) : GoD M A h₁ ds F gs s := by
  cases ds with
  | nil => exact h
  | cons d ds => exact h
end Mine

namespace Mine
open PySem PyProof.Rows PySem.W PySem.Calls
open PySem.W.X (SegX)

def aliveAt (s : Shared) (F : Addr → Prop) (a : Addr) : Prop := (∃ o, s.heap.get? a = some o) ∧ ¬ F a
/-- the generator's frame, nothing being built -/
def GI (prog : Program) (w : World) (h₁ : Heap) (A : Around) (env : Env) (W : Addr → Prop) (ρ : List Sl) (s : Shared) : Prop := ∃ m, In (gF prog w h₁ A env W) ρ ⟨m, fun _ => none⟩ s

section
variable {prog : Program} {w : World} {h₁ : Heap} {A A' : Around} {env : Env} {W W' : Addr → Prop} {ρ ρ' : List Sl} {φ : FS} {s s' s0 : Shared}

theorem GI.of (I : In (gF prog w h₁ A env W) ρ φ s) (G : GEnv h₁ env) (hρ : Small ρ) : GI prog w h₁ A env W ρ s :=
  ⟨φ.m, I.wake G hρ I.ok.room (fun _ e => e) I.old I.w0 I.bare⟩
theorem GI.move (I : GI prog w h₁ A env W ρ s) (G : GEnv h₁ env) (hρ : Small ρ) (R : Room 0 A') (hL : ∀ o, s.heap.get? env.locals = some o → s'.heap.get? env.locals = some o)
    (old : ∀ a o, h₁.get? a = some o → s'.heap.get? a = some o) (hW : ∀ a, W' a → ∃ o, s'.heap.get? a = some o) (bare : AllBare s'.gens) : GI prog w h₁ A' env W' ρ s' :=
  let ⟨m, I⟩ := I; ⟨m, I.wake G hρ R hL old hW bare⟩
theorem GI.weak (I : GI prog w h₁ A env W ρ s) (hw : ∀ (i : Nat) σ, ρ'[i]? = some σ → σ = .any ∨ ρ[i]? = some σ) : GI prog w h₁ A env W ρ' s :=
  let ⟨m, I⟩ := I; ⟨m, I.weak hw⟩

theorem mut_loc (G : GEnv h₁ env) {m : Str → Option Value} {a : Addr} (h : Mut (gF prog w h₁ A env W) ⟨m, fun _ => none⟩ a) : a = env.locals := by
  rcases h with h | ⟨x, h⟩ | ⟨i, h⟩
  · exact h
  · rw [show (gF prog w h₁ A env W).env.cells = [] from G.cells] at h; cases h
  · cases h

/-- a plain statement within a segment -/
theorem x_st {c : Code} {fs : List PySem.Frame} {st : Stmt} {K : Flow → Sem Fin} {H : Value → Sem Fin} {gd : Bool → Bool} {lv : List Value → List Value} {P : End → Shared → Prop}
    (G : GEnv h₁ env) (hρ : Small ρ') (h : StT (gF prog w h₁ (A.over c fs) env W) st ρ (.next ρ')) (I : GI prog w h₁ (A.over c fs) env W ρ s)
    (k : ∀ s', GI prog w h₁ (A.over c fs) env W ρ' s' → Step (· = env.locals) s s' → SegX (model prog w) A c (K .next) fs s' P) : SegX (model prog w) A c ((exec st env).wrap K H gd lv) fs s P := by
  obtain ⟨m, I⟩ := I
  refine x_wrap (h _ s I _ _ fun fl s' p => ?_)
  obtain ⟨rfl, φ', I', st', _⟩ := p
  exact k s' (GI.of I' G hρ) (st'.mono fun a q => mut_loc G q)

/-- an item is handed out -/
theorem x_out {c : Code} {fs : List PySem.Frame} {e : Expr} {ypos pos : Pos} {K : Flow → Sem Fin} {H : Value → Sem Fin} {lv : List Value → List Value} {d : D} {ds : List D} {F0 F : Addr → Prop}
    (G : GEnv h₁ env) (hfs : splitAtGen fs = none) (hfg : fs.any Frame.guarded = false) (h : EvT (gF prog w h₁ (A.over c fs) env (aliveAt s0 F0)) e ρ d) (I : GI prog w h₁ (A.over c fs) env (aliveAt s0 F0) ρ s)
    (st : Step F0 s0 s) (hF : ∀ a, F a → F0 a ∨ s0.heap.get? a = none) (ok : FOk F s)
    (k : ∀ s1 s', Grow s s1 → Kept F s1 s' → (∀ a o, h₁.get? a = some o → s'.heap.get? a = some o) → AllBare s'.gens → SegX (model prog w) A c (K .next) fs s' (EndD (model prog w) A h₁ ds F s')) :
    SegX (model prog w) A c ((exec (.Expr (.Yield (some e) ypos) pos) env).wrap K H id lv) fs s (EndD (model prog w) A h₁ (d :: ds) F0 s0) := by
  obtain ⟨m, I⟩ := I
  refine x_Yield hfs rfl hfg (h _ s I _ _ fun v s1 g l => fun lv' kk p hk => ?_) G.co G.inter
  refine ⟨v, lv', kk, c, p, fs, F, rfl, st.trans (Step.ofGrow g), hF, ok.kept fun a o _ e => g.keep e, fun W hW => l.less fun a q => .inl (hW a q), GoD.of fun s' kp old bare => ?_⟩
  exact hk _ _ (k s1 s' g kp old bare)
end
end Mine

namespace Mine
open PySem PyProof.Rows PySem.W PySem.Calls
open PySem.W.X (SegX)

def Fp (env : Env) (e it : Addr) (a : Addr) : Prop := a = env.locals ∨ a = e ∨ a = it

/-- at the loop's head -/
structure GLoop (prog : Program) (w : World) (h₁ : Heap) (A : Around) (env : Env) (W : Addr → Prop) (x : Str) (t : Tok) (e it : Addr) (i : Nat) (p : Int) (esc : Bool) (s : Shared) : Prop where
  gi : GI prog w h₁ A env W [.dat (.str x), .dat (.int p), .dat (.bool esc), .any] s
  enum : ∃ old, IsEnum s.heap e it i old
  iter : s.heap.IsStrIter it (strIterType x) x t i

structure Apart (h₁ : Heap) (env : Env) (e it : Addr) : Prop where
  ei : e ≠ it
  eL : e ≠ env.locals
  iL : it ≠ env.locals
  e1 : h₁.get? e = none
  i1 : h₁.get? it = none

section
variable {prog : Program} {w : World} {h₁ : Heap} {A A' : Around} {env : Env} {W W' : Addr → Prop} {ρ ρ' : List Sl} {φ : FS} {s s' s0 : Shared} {x : Str} {t : Tok} {e it : Addr} {i : Nat} {p : Int} {esc : Bool}

theorem small4 {a : Str} {b : Int} {c : Bool} {σ : Sl} (h : small σ = true) : Small [.dat (.str a), .dat (.int b), .dat (.bool c), σ] := by
  intro τ hτ
  rcases List.mem_cons.mp hτ with q | hτ
  · subst q; rfl
  rcases List.mem_cons.mp hτ with q | hτ
  · subst q; rfl
  rcases List.mem_cons.mp hτ with q | hτ
  · subst q; rfl
  · rw [List.mem_singleton.mp hτ]; exact h

theorem isEnum_keep {h h' : Heap} {i : Int} {old : Value} (H : IsEnum h e it i old) (k : ∀ o, h.get? e = some o → h'.get? e = some o) : IsEnum h' e it i old := k _ H
theorem isIter_keep {h h' : Heap} {T : String} (H : h.IsStrIter it T x t i) (k : ∀ o, h.get? it = some o → h'.get? it = some o) : h'.IsStrIter it T x t i := by
  obtain ⟨o, ho, r⟩ := H; exact ⟨o, k o ho, r⟩

/-- the loop's state, later on -/
theorem GLoop.later (L : GLoop prog w h₁ A env W x t e it i p esc s) (G : GEnv h₁ env) (R : Room 0 A') (hk : Kept (Fp env e it) s s') (old : ∀ a o, h₁.get? a = some o → s'.heap.get? a = some o)
    (hW : ∀ a, W' a → ∃ o, s'.heap.get? a = some o) (bare : AllBare s'.gens) : GLoop prog w h₁ A' env W' x t e it i p esc s' where
  gi := L.gi.move G (small4 rfl) R (fun o ho => hk _ o (.inl rfl) ho) old hW bare
  enum := let ⟨old, h⟩ := L.enum; ⟨old, isEnum_keep h fun o ho => hk _ o (.inr (.inl rfl)) ho⟩
  iter := isIter_keep L.iter fun o ho => hk _ o (.inr (.inr rfl)) ho

theorem Fp.ok {ρ : List Sl} (I : GI prog w h₁ A env W ρ s) (he : ∃ i old, IsEnum s.heap e it i old) (hi : s.heap.IsStrIter it (strIterType x) x t i) : FOk (Fp env e it) s := by
  rintro a (q | q | q)
  · obtain ⟨m, I⟩ := I
    obtain ⟨o, es, ep, ho, hd, _⟩ := I.ns
    subst q
    exact ⟨o, ho, fun xs n z => by rw [hd] at z; cases z⟩
  · subst q
    obtain ⟨i, old, h⟩ := he
    exact ⟨_, h, fun xs n z => by cases z⟩
  · subst q
    obtain ⟨o, ho, hc, hd⟩ := hi
    exact ⟨o, ho, fun xs n z => by rw [hd] at z; cases z⟩

/-- the next pair -/
theorem enum_item {c : Nat} {elts : List Expr} {n0 : Nat} {tp : Pos} {Q : Value → Shared → Prop} (R : Room 0 A) (G : GEnv h₁ env) (ap : Apart h₁ env e it) (L : GLoop prog w h₁ A env W x t e it i p esc s) (hc : x.cps[i]? = some c)
    (k : ∀ v s', GLoop prog w h₁ A env W x t e it (i + 1) p esc s' → Step (fun a => a = e ∨ a = it) s s' → Lay W s'.heap (pairD i ⟨#[c]⟩) v → Q v s') :
    wpAny (model prog w) A (pyNext (.ref e)) (fun r s₁ => match r with
      | none => False
      | some v => wpAny (model prog w) A (letOwnedTupleGo (.Tuple elts n0 tp) (.ref e) v) (fun _ s₂ => Q v s₂) (fun _ _ => False) s₁) (fun _ _ => False) s := by
  obtain ⟨⟨m, I⟩, ⟨old, hen⟩, hit⟩ := L
  have hlt : i < x.cps.size := (Array.getElem?_eq_some_iff.mp hc).1
  refine wpAny_pyNext_enum_itemD (draws_str (A := A.in1) R.handled it x t) hen hit hlt ap.ei (by simp [ap.ei]) fun v h' tk hP heo hit' hT hsz hkp => ?_
  obtain ⟨c', u, hc', rfl⟩ := hP
  rw [hc] at hc'; cases hc'
  refine wpAny_letOwnedTupleGo_enum heo fun h2 he2 hs2 => ?_
  have hTe : s.heap.objs.size ≠ e := fun q => by
    have := Heap.lt_size (show s.heap.get? e = some _ from hen)
    rw [q] at this; exact Nat.lt_irrefl _ this
  have keep : ∀ a o, ¬ (a = e ∨ a = it) → s.heap.get? a = some o → h2.get? a = some o := fun a o n ho => (hs2.2 a fun q => n (.inl q)).trans (hkp a o (fun q => n (.inl q)) (fun q => n (.inr q)) ho)
  have old : ∀ a o, h₁.get? a = some o → h2.get? a = some o := fun a o ho => keep a o (by
    rintro (q | q)
    · rw [q, ap.e1] at ho; cases ho
    · rw [q, ap.i1] at ho; cases ho) (I.old a o ho)
  have hit2 := isIter_keep hit' (h' := h2) fun o ho => (hs2.2 it (Ne.symm ap.ei)).trans ho
  have st : Step (fun a => a = e ∨ a = it) s { s with heap := h2, toks := tk + 1 } := Step.heap keep
  refine k _ _ ⟨GI.move ⟨m, I⟩ G (small4 rfl) R (fun o ho => keep _ o (by rintro (q | q); exact ap.eL q.symm; exact ap.iL q.symm) ho) old (fun a ha => ?_) I.bare, ⟨_, he2⟩, hit2⟩ st ?_
  · by_cases q : a = e
    · subst q; exact ⟨_, he2⟩
    by_cases q' : a = it
    · subst q'; obtain ⟨o, ho, _⟩ := hit2; exact ⟨o, ho⟩
    · obtain ⟨o, ho⟩ := I.w0 a ha
      exact ⟨o, keep a o (by rintro (z | z); exact q z; exact q' z) ho⟩
  · unfold pairD
    simp only [Lay, LayL]
    refine ⟨_, #[.int i tk, .str ⟨#[c]⟩ u], rfl, fun ha => ?_, ⟨_, (hs2.2 _ hTe).trans hT, rfl, _, rfl⟩, _, _, rfl, ⟨_, rfl⟩, _, _, rfl, ⟨_, rfl⟩, rfl⟩
    obtain ⟨o, ho⟩ := I.w0 _ ha
    exact Nat.lt_irrefl _ (Heap.lt_size ho)
end
end Mine

namespace Mine
open PySem PyProof.Rows PySem.W PySem.Calls
open PySem.W.X (SegX)

def LC (e : Addr) (env : Env) : Code := .forLoop gTarget (.ref e) gLoop [] env
def LF (K0 : Flow → Sem Fin) (H0 : Value → Sem Fin) (body : List Stmt) (env : Env) (pp : Pos) : List PySem.Frame := [.ret (backK env K0 H0 id id) none false [] (.func body env) pp []]

section
variable {prog : Program} {w : World} {h₁ : Heap} {A A' : Around} {env : Env} {W W' : Addr → Prop} {ρ ρ' : List Sl} {φ : FS} {s s' s0 : Shared} {x : Str} {t : Tok} {e it : Addr}
variable {body : List Stmt} {pp : Pos} {K0 K1 : Flow → Sem Fin} {H0 H1 : Value → Sem Fin} {F0 : Addr → Prop}

/-- behind the loop -/
theorem tail_seg (G : GEnv h₁ env) (hK1 : K1 .next = .pure (.done (.ret .none))) {i : Nat} {p : Int} {esc : Bool} (hp : esc = true → p = (i : Int) - 1)
    (L : GI prog w h₁ (A.in1.over (.func body env) []) env (aliveAt s0 F0) [.dat (.str x), .dat (.int p), .dat (.bool esc), .any] s) (st : Step F0 s0 s) (hF : F0 env.locals ∨ s0.heap.get? env.locals = none) :
    SegX (model prog w) A.in1 (.func body env) ((execs gTail env).wrap K1 H1 id id) [] s (EndD (model prog w) A.in1 h₁ (outs [] i esc) F0 s0) := by
  obtain ⟨m, I⟩ := id L
  refine x_cons (x_If (Ts.bool (b := esc) (Ev.var 2 rfl rfl) (fun _ => rfl) _ s I _ _ fun s1 g1 => ?_))
  have L1 : GI prog w h₁ (A.in1.over (.func body env) []) env (aliveAt s0 F0) [.dat (.str x), .dat (.int p), .dat (.bool esc), .any] s1 := ⟨m, I.grow g1⟩
  cases esc with
  | false =>
    rw [if_neg (by decide)]
    refine x_nil ?_
    show SegX _ _ _ ((execs [] env).wrap K1 H1 id id) _ _ _
    refine x_nil ?_
    rw [hK1]
    exact PySem.W.X.s_end prog w _ _ _ s1 (.ok (.ret .none)) _ rfl ⟨rfl, st.trans (Step.ofGrow g1)⟩
  | true =>
    rw [if_pos rfl, hp rfl] at *
    refine x_cons (x_out (F := (· = env.locals)) G rfl rfl (Ev.tuple (EvL.cons (Ev.var 1 rfl rfl) (EvL.cons Ev.str EvL.nil)) (show 2 ≤ sizeLine by decide)) L1 (st.trans (Step.ofGrow g1)) (fun a q => q ▸ hF) (fun a q => ?_) fun s2 s3 g2 k3 old3 bare3 => ?_)
    · obtain ⟨o, es, ep, ho, hd, _⟩ := (I.grow g1).ns
      subst q
      exact ⟨o, ho, fun xs n z => by rw [hd] at z; cases z⟩
    refine x_nil ?_
    show SegX _ _ _ ((execs [] env).wrap K1 H1 id id) _ _ _
    refine x_nil ?_
    rw [hK1]
    exact PySem.W.X.s_end prog w _ _ _ s3 (.ok (.ret .none)) _ rfl ⟨rfl, Step.refl _ _⟩

theorem ch92 (c : Nat) : (((⟨#[c]⟩ : Str) == (⟨#[92]⟩ : Str)) : Bool) = decide (c = 92) := by
  by_cases h : c = 92
  · subst h; decide
  · have : ¬ ((⟨#[c]⟩ : Str) = ⟨#[92]⟩) := fun q => h (by injection q with q; simpa using q)
    simp [h, this]

theorem loop_seg (G : GEnv h₁ env) (R : Room 2 A) (ap : Apart h₁ env e it) (hK0 : K0 .next = (execs gTail env).wrap K1 H1 id id) (hK1 : K1 .next = .pure (.done (.ret .none))) :
    ∀ (cs : List Nat) (i : Nat) (p : Int) (esc : Bool) (s s0 : Shared) (F0 : Addr → Prop), x.cps.toList.drop i = cs → i ≤ x.cps.size → (esc = true → p = (i : Int) - 1) →
      GLoop prog w h₁ (A.in1.over (LC e env) (LF K0 H0 body env pp)) env (aliveAt s0 F0) x t e it i p esc s → Step F0 s0 s → (∀ a, Fp env e it a → F0 a ∨ s0.heap.get? a = none) →
      SegX (model prog w) A.in1 (LC e env) ((model prog w).den (LC e env)) (LF K0 H0 body env pp) s (EndD (model prog w) A.in1 h₁ (outs cs i esc) F0 s0)
  | [], i, p, esc, s, s0, F0, hcs, hi, hp, L, st, hF => by
    obtain ⟨⟨m, I⟩, ⟨old, hen⟩, hit⟩ := id L
    have hR := I.ok.room
    refine x_turn rfl ?_
    have hi' : i = x.cps.size := by
      have := congrArg List.length hcs
      simp at this; omega
    subst hi'
    refine wpAny_pyNext_enum_endD (draws_str (A := (A.in1.over (LC e env) (LF K0 H0 body env pp)).in1) hR.handled it x t) hen hit fun h' hx => ?_
    refine x_blockEnd ?_
    rw [backK_ok, hK0]
    have keep : ∀ a o, ¬ Fp env e it a ∨ a ≠ it → s.heap.get? a = some o → h'.get? a = some o := fun a o n ho => hx a o (by
      rcases n with n | n
      · exact fun q => n (.inr (.inr q))
      · exact n) ho
    refine tail_seg G hK1 hp (GI.move ⟨m, I⟩ G (small4 rfl) (room_top R) (fun o ho => hx _ o (Ne.symm ap.iL) ho) (fun a o ho => hx _ o (fun q => by rw [q, ap.i1] at ho; cases ho) (I.old a o ho)) (fun a ha => ?_) I.bare) ?_ (hF _ (.inl rfl))
    · by_cases q : a = it
      · subst q
        rcases hF a (.inr (.inr rfl)) with z | z
        · exact absurd z ha.2
        · obtain ⟨⟨o, ho⟩, _⟩ := ha; rw [ho] at z; cases z
      · obtain ⟨o, ho⟩ := I.w0 a ha
        exact ⟨o, hx a o q ho⟩
    · refine ⟨fun a o n ho => hx a o (fun q => ?_) (st.keep a o n ho), st.os, st.bare, st.gsize, st.gens⟩
      rcases hF it (.inr (.inr rfl)) with z | z
      · exact n (q ▸ z)
      · rw [q, z] at ho; cases ho
  | c :: cs, i, p, esc, s, s0, F0, hcs, hi, hp, L, st, hF => by
    have hR : Room 0 (A.in1.over (LC e env) (LF K0 H0 body env pp)) := room_loop R
    have hlt : i < x.cps.size := by
      have := congrArg List.length hcs
      simp at this; omega
    have hc : x.cps[i]? = some c := by
      have : (x.cps.toList.drop i)[0]? = some c := by rw [hcs]; rfl
      simpa using this
    have hcs' : x.cps.toList.drop (i + 1) = cs := by rw [← List.drop_drop, hcs]; rfl
    refine x_turn rfl ?_
    refine wpAny_mono (enum_item (Q := fun v s' => wpAny (model prog w) (A.in1.over (LC e env) (LF K0 H0 body env pp)) (assign gTarget env v) (fun _ s₃ => ∀ H, SegX (model prog w) A.in1 (LC e env) ((execs gLoop env).wrap (turnK (LC e env)) H id id) (LF K0 H0 body env pp) s₃ (EndD (model prog w) A.in1 h₁ (outs (c :: cs) i esc) F0 s0)) (fun _ _ => False) s')
      hR G ap L hc fun v s1 L1 st1 l1 => ?_) (fun r s1 h1 => by cases r with | none => exact h1.elim | some v => exact h1) fun _ _ q => q
    obtain ⟨⟨m, I1⟩, hen1, hit1⟩ := L1
    refine Asg.pair (Γ := gF prog w h₁ (A.in1.over (LC e env) (LF K0 H0 body env pp)) env (aliveAt s0 F0)) 1 3 rfl rfl _ _ _ s1 (pairD i ⟨#[c]⟩) v I1 rfl (l1.less fun a q => ?_) _ _ fun φ2 s2 I2 st2 ev2 H => ?_
    · rcases q with q | ⟨_, q⟩
      · exact q
      · cases q
    have st2' : Step (· = env.locals) s1 s2 := st2.mono fun a q => mut_loc G q
    have st02 : Step F0 s0 s2 := by
      refine ⟨fun a o n ho => st2'.keep a o (fun q => ?_) (st1.keep a o (fun q => ?_) (st.keep a o n ho)), st2'.os.trans (st1.os.trans st.os), st2'.bare ∘ st1.bare ∘ st.bare, Nat.le_trans st.gsize (Nat.le_trans st1.gsize st2'.gsize), fun g hg => ?_⟩
      · rcases hF a (.inl q) with z | z
        · exact n z
        · rw [z] at ho; cases ho
      · rcases hF a (.inr q) with z | z
        · exact n z
        · rw [z] at ho; cases ho
      · exact (st2'.gens g (Nat.lt_of_lt_of_le hg (Nat.le_trans st.gsize st1.gsize))).trans ((st1.gens g (Nat.lt_of_lt_of_le hg st.gsize)).trans (st.gens g hg))
    have hsm : Small [Sl.dat (.str x), .dat (.int i), .dat (.bool esc), .dat (.str ⟨#[c]⟩)] := small4 rfl
    have L2 : GI prog w h₁ (A.in1.over (LC e env) (LF K0 H0 body env pp)) env (aliveAt s0 F0) [Sl.dat (.str x), .dat (.int i), .dat (.bool esc), .dat (.str ⟨#[c]⟩)] s2 := GI.of I2 G hsm
    have en2 : ∃ old, IsEnum s2.heap e it ((i + 1 : Nat) : Int) old := let ⟨old, h⟩ := hen1; ⟨old, isEnum_keep h fun o ho => st2'.keep _ o ap.eL ho⟩
    have it2 : s2.heap.IsStrIter it (strIterType x) x t (i + 1) := isIter_keep hit1 fun o ho => st2'.keep _ o ap.iL ho
    -- the rest of the turns, from a later state
    have again : ∀ (esc' : Bool) (s3 s4 s5 : Shared) (F5 : Addr → Prop), (∃ σ, GI prog w h₁ (A.in1.over (LC e env) (LF K0 H0 body env pp)) env (aliveAt s5 F5) [Sl.dat (.str x), .dat (.int i), .dat (.bool esc'), σ] s4) →
        Kept (fun a => a = e ∨ a = it) s2 s4 → Step F5 s5 s4 → (∀ a, Fp env e it a → F5 a ∨ s5.heap.get? a = none) →
        SegX (model prog w) A.in1 (LC e env) (.pure (.again (LC e env))) (LF K0 H0 body env pp) s4 (EndD (model prog w) A.in1 h₁ (outs cs (i + 1) esc') F5 s5) := by
      rintro esc' s3 s4 s5 F5 ⟨σ, I4⟩ k4 st4 hF5
      refine x_again rfl (loop_seg G R ap hK0 hK1 cs (i + 1) i esc' s4 s5 F5 hcs' hlt (fun _ => by omega) ⟨I4.weak ?_, ?_, ?_⟩ st4 hF5)
      · intro j τ hj
        match j with
        | 0 => exact .inr hj
        | 1 => exact .inr hj
        | 2 => exact .inr hj
        | 3 => left; simpa using hj.symm
        | j + 4 => simp at hj
      · obtain ⟨old, h⟩ := en2; exact ⟨old, isEnum_keep h fun o ho => k4 _ o (.inl rfl) ho⟩
      · exact isIter_keep it2 fun o ho => k4 _ o (.inr rfl) ho
    obtain ⟨m2, J2⟩ := id L2
    refine x_cons (x_If (Ts.bool (b := esc) (Ev.var 2 rfl rfl) (fun _ => rfl) _ s2 J2 _ _ fun s3 g3 => ?_))
    have L3 : GI prog w h₁ (A.in1.over (LC e env) (LF K0 H0 body env pp)) env (aliveAt s0 F0) [Sl.dat (.str x), .dat (.int i), .dat (.bool esc), .dat (.str ⟨#[c]⟩)] s3 := ⟨m2, J2.grow g3⟩
    have fok : ∀ {s' : Shared}, Grow s2 s' → GI prog w h₁ (A.in1.over (LC e env) (LF K0 H0 body env pp)) env (aliveAt s0 F0) [Sl.dat (.str x), .dat (.int i), .dat (.bool esc), .dat (.str ⟨#[c]⟩)] s' → FOk (Fp env e it) s' := fun g I => by
      refine Fp.ok I ⟨((i + 1 : Nat) : Int), ?_⟩ (isIter_keep it2 fun o ho => g.keep ho)
      obtain ⟨old, h⟩ := en2
      exact ⟨old, isEnum_keep h fun o ho => g.keep ho⟩
    -- the frame at a later waking
    have wake : ∀ (s4 s5 : Shared), Grow s3 s4 → Kept (Fp env e it) s4 s5 → (∀ a o, h₁.get? a = some o → s5.heap.get? a = some o) → AllBare s5.gens →
        GI prog w h₁ (A.in1.over (LC e env) (LF K0 H0 body env pp)) env (aliveAt s5 (Fp env e it)) [Sl.dat (.str x), .dat (.int i), .dat (.bool esc), .dat (.str ⟨#[c]⟩)] s5 := fun s4 s5 g4 k5 old5 bare5 =>
      L3.move G hsm hR (fun o ho => k5 _ o (.inl rfl) (g4.keep ho)) old5 (fun a ha => ha.1) bare5
    have keptEI : ∀ (s4 s5 : Shared), Grow s3 s4 → Kept (Fp env e it) s4 s5 → Kept (fun a => a = e ∨ a = it) s2 s5 := fun s4 s5 g4 k5 a o q ho => k5 a o (.inr q) (g4.keep (g3.keep ho))
    cases esc with
    | true =>
      rw [if_pos rfl]
      refine x_cons (x_out (d := pairD i ⟨#[92, c]⟩) (F := Fp env e it) G rfl rfl (Ev.tuple (EvL.cons (Ev.var 1 rfl rfl) (EvL.cons (Ev.cat (a := ⟨#[92]⟩) (b := ⟨#[c]⟩) Ev.str (Ev.var 3 rfl rfl) (show 1 + 1 ≤ sizeLine by decide)) EvL.nil)) (show 2 ≤ sizeLine by decide)) L3 (st02.trans (Step.ofGrow g3)) hF (fok g3 L3) fun s4 s5 g4 k5 old5 bare5 => ?_)
      have I5 := wake s4 s5 g4 k5 old5 bare5
      refine x_cons (x_st (ρ' := [Sl.dat (.str x), .dat (.int i), .dat (.bool false), .dat (.str ⟨#[c]⟩)]) G (small4 rfl) (St.assign 2 Ev.bool rfl) I5 fun s6 I6 st6 => ?_)
      refine x_nil ?_
      show SegX _ _ _ ((execs [] env).wrap _ _ id id) _ _ _
      refine x_nil (again false s6 s6 s5 _ ⟨_, I6⟩ (fun a o q ho => st6.keep a o (fun z => ?_) (keptEI s4 s5 g4 k5 a o q ho)) (st6.mono fun a q => .inl q) fun a q => .inl q)
      rcases q with q | q
      · exact ap.eL (q ▸ z)
      · exact ap.iL (q ▸ z)
    | false =>
      rw [if_neg (by decide)]
      obtain ⟨m3, J3⟩ := id L3
      have cmp : CmpT (gF prog w h₁ (A.in1.over (LC e env) (LF K0 H0 body env pp)) env (aliveAt s0 F0)) .Eq (.str ⟨#[c]⟩) (.str ⟨#[92]⟩) (decide (c = 92)) := by rw [← ch92]; exact Cmp.eqS
      refine x_cons (x_If (Ts.cmp (Ev.var 3 rfl rfl) Ev.str cmp rfl _ s3 J3 _ _ fun s4 g4 => ?_))
      have L4 : GI prog w h₁ (A.in1.over (LC e env) (LF K0 H0 body env pp)) env (aliveAt s0 F0) [Sl.dat (.str x), .dat (.int i), .dat (.bool false), .dat (.str ⟨#[c]⟩)] s4 := ⟨m3, J3.grow g4⟩
      by_cases h92 : c = 92
      · rw [if_pos (by simp [h92])]
        refine x_cons (x_st (ρ' := [Sl.dat (.str x), .dat (.int i), .dat (.bool true), .dat (.str ⟨#[c]⟩)]) G (small4 rfl) (St.assign 2 Ev.bool rfl) L4 fun s6 I6 st6 => ?_)
        refine x_nil (x_nil (x_nil ?_))
        show SegX _ _ _ (.pure (.again _)) _ _ (EndD _ _ _ (if c = 92 then outs cs (i + 1) true else _) _ _)
        rw [if_pos h92]
        have st04 := st02.trans (Step.ofGrow (X := F0) (g3.trans g4))
        refine again true s6 s6 s0 F0 ⟨_, I6⟩ (fun a o q ho => st6.keep a o (fun z => ?_) (g4.keep (g3.keep ho))) ⟨fun a o n ho => st6.keep a o (fun q => ?_) (st04.keep a o n ho), st6.os.trans st04.os, st6.bare ∘ st04.bare, Nat.le_trans st04.gsize st6.gsize, fun g hg => (st6.gens g (Nat.lt_of_lt_of_le hg st04.gsize)).trans (st04.gens g hg)⟩ hF
        · rcases q with q | q
          · exact ap.eL (q ▸ z)
          · exact ap.iL (q ▸ z)
        · rcases hF a (.inl q) with z | z
          · exact n z
          · rw [z] at ho; cases ho
      · rw [if_neg (by simp [h92])]
        show SegX _ _ _ _ _ _ (EndD _ _ _ (if c = 92 then _ else pairD i ⟨#[c]⟩ :: outs cs (i + 1) false) _ _)
        rw [if_neg h92]
        refine x_cons (x_out (d := pairD i ⟨#[c]⟩) (F := Fp env e it) G rfl rfl (Ev.tuple (EvL.cons (Ev.var 1 rfl rfl) (EvL.cons (Ev.var 3 rfl rfl) EvL.nil)) (show 2 ≤ sizeLine by decide)) L4 (st02.trans (Step.ofGrow (g3.trans g4))) hF (fok (g3.trans g4) L4) fun s5 s6 g5 k6 old6 bare6 => ?_)
        refine x_nil (x_nil (x_nil ?_))
        exact again false s6 s6 s6 _ ⟨_, wake s5 s6 (g4.trans g5) k6 old6 bare6⟩ (keptEI s5 s6 (g4.trans g5) k6) (Step.refl _ _) fun a q => .inl q
end
end Mine

namespace Mine
open PySem PyProof.Rows PySem.W PySem.Calls
open PySem.W.X (SegX)

section
variable {prog : Program} {w : World} {h₁ : Heap} {A A' : Around} {env : Env} {W W' : Addr → Prop} {ρ ρ' : List Sl} {φ : FS} {s s' s0 : Shared} {x : Str} {t : Tok}

/-- the generator that was just made -/
theorem gen_fresh (G : GEnv h₁ env) (R : Room 2 A) (hen : BltnIs h₁ "enumerate" (.type "enumerate")) (I : GI prog w h₁ (A.in1.over (.func (bodyAt 2) env) []) env (aliveAt s (· = env.locals)) [.dat (.str x), .any, .any, .any] s) :
    GoD (model prog w) A.in1 h₁ (outs x.cps.toList 0 false) (· = env.locals) (.fresh (.func (bodyAt 2) env)) s := by
  refine GoD.of fun s1 kp old bare => ?_
  have hsm : Small [Sl.dat (.str x), .any, .any, .any] := by
    intro τ hτ
    rcases List.mem_cons.mp hτ with q | hτ
    · subst q; rfl
    · have : τ ∈ List.replicate 3 Sl.any := hτ
      rw [(List.mem_replicate.mp this).2]; rfl
  have I1 : GI prog w h₁ (A.in1.over (.func (bodyAt 2) env) []) env (aliveAt s1 (· = env.locals)) [.dat (.str x), .any, .any, .any] s1 :=
    I.move G hsm (room_top R) (fun o ho => kp _ o rfl ho) old (fun a ha => ha.1) bare
  show SegX _ _ _ _ _ _ _
  refine x_func (x_cons (x_st (ρ' := [Sl.dat (.str x), .dat (.int 0), .any, .any]) G ?_ (St.assign 1 Ev.int rfl) I1 fun s2 I2 st2 => ?_))
  · intro τ hτ
    rcases List.mem_cons.mp hτ with q | hτ
    · subst q; rfl
    rcases List.mem_cons.mp hτ with q | hτ
    · subst q; rfl
    · have : τ ∈ List.replicate 2 Sl.any := hτ
      rw [(List.mem_replicate.mp this).2]; rfl
  refine x_cons (x_st (ρ' := [Sl.dat (.str x), .dat (.int 0), .dat (.bool false), .any]) G (small4 rfl) (St.assign 2 Ev.bool rfl) I2 fun s3 I3 st3 => ?_)
  obtain ⟨m3, J3⟩ := id I3
  refine x_cons (x_For (fun _ => rfl) ?_)
  refine Call_ (name_bltn J3 hen G.enum (by decide +kernel) (PyProof.Rows.callWith_type1 (args_cons (Ev.var 0 rfl rfl (by decide +kernel) _ s3 J3 _ _ fun v s4 g4 l4 => args_nil ?_) rfl) rfl rfl))
  obtain ⟨t, rfl⟩ := l4
  refine call_enumerate_str fun h' he hit hsz hk => ?_
  refine wpAny_pyIter_enum he fun pp => ?_
  have g5 : Grow s4 { s4 with heap := h' } := Grow.heap (tk := s4.toks) hk
  have g35 := g4.trans g5
  have frs : ∀ a, s4.heap.objs.size ≤ a → s4.heap.get? a = none := fun a ha => size_none ha
  have nL : ∀ a, s4.heap.objs.size ≤ a → a ≠ env.locals := fun a ha q => by
    obtain ⟨o, es, ep, ho, _⟩ := (J3.grow g4).ns
    have : s4.heap.get? env.locals = some o := ho
    rw [← q, frs a ha] at this; cases this
  have n1 : ∀ a, s4.heap.objs.size ≤ a → h₁.get? a = none := fun a ha => by
    cases z : h₁.get? a with
    | none => rfl
    | some ob => have := (J3.grow g4).old a ob z; rw [frs a ha] at this; cases this
  have ap : Apart h₁ env (s4.heap.objs.size + 1) s4.heap.objs.size := ⟨Nat.succ_ne_self _, nL _ (Nat.le_succ _), nL _ (Nat.le_refl _), n1 _ (Nat.le_succ _), n1 _ (Nat.le_refl _)⟩
  have st15 : Step (· = env.locals) s1 { s4 with heap := h' } := (st2.trans st3).trans (Step.ofGrow g35)
  refine loop_seg (x := x) (t := t) (p := 0) (i := 0) (esc := false) G R ap rfl rfl x.cps.toList _ s1 _ (by rfl) (Nat.zero_le _) (fun q => nomatch q) ⟨?_, ⟨.none, he⟩, hit⟩ st15 ?_
  · refine GI.move (⟨m3, J3.grow g35⟩) G (small4 rfl) (room_loop R) (fun o ho => ho) (J3.grow g35).old (J3.grow g35).w0 (J3.grow g35).bare
  · rintro a (q | q | q)
    · exact .inl q
    all_goals
      right
      subst q
      cases z : s1.heap.get? _ with
      | none => rfl
      | some ob =>
        have := (Step.keep ((st2.trans st3).trans (Step.ofGrow g4)) _ ob (nL _ (by omega)) z)
        rw [frs _ (by omega)] at this; cases this
end
end Mine

namespace Mine
open PySem PyProof.Rows PySem.W PySem.Calls
open PySem.W.X (SegX)

structure GenFn (fd : FuncData) : Prop where
  body : fd.body = .stmts (bodyAt 2)
  co : fd.scope.isCoroutine = false
  gen : fd.scope.isGenerator = true
  kind : fd.scope.kind = .function
  closure : fd.closure = []
  glob : fd.globals = mainGlobals
  bltn : fd.builtins = builtinsNs
  kinds : ∀ x ∈ (["addr", "pos", "escape", "ch"] : List Str), fd.scope.names.lookup x = some .local
  cells : ∀ n, cellsFrom n fd.scope.names [] = []
  enum : fd.scope.names.lookup ("enumerate" : Str) = some .globalImplicit
  bind : ∀ v, bindArgs fd ⟨[v], []⟩ = pure [(("addr" : Str), v)]

section
variable {Γ : Fx} {ρ : List Sl} {pos : Pos}

theorem genv {fd : FuncData} {a L : Addr} {h₁ : Heap} (P : GenFn fd) (hL : h₁.get? L = none) : GEnv h₁ (callE fd a L) where
  kind := P.kind
  kinds := fun x hx => P.kinds x hx
  cells := P.cells _
  glob := P.glob
  bltn := P.bltn
  new := hL
  co := P.co
  inter := by unfold interactive; rw [show (callE fd a L).scope.kind = .function from P.kind, show (ScopeKind.function == ScopeKind.module) = false by decide, Bool.false_and]
  enum := P.enum

theorem Src.gen {e : Expr} {x : Str} {f : Str} {np : Pos} {a : Addr} {fd : FuncData} (hg : GlobIs Γ.h₁ f (.ref a)) (hf : FnAt Γ.h₁ a fd) (P : GenFn fd) (hnl : Γ.h₁.NoLimit) (hen : BltnIs Γ.h₁ "enumerate" (.type "enumerate"))
    (hx : Γ.env.kindOf f = some .globalImplicit) (h : EvT Γ e ρ (.str x)) (hk : 2 ≤ Γ.k) (hd : (f == ("__debug__" : Str)) = false := by decide +kernel) (he : starEach [e] Γ.env = [(false, eval e Γ.env)] := by rfl) :
    SrcG Γ (.Call (.Name f np) [e] [] pos) ρ (outs x.cps.toList 0 false) := fun φ s I Q E k => by
  obtain ⟨ob, ho, hod, hcode⟩ := hf
  refine Call_ (name_glob I hg hx hd (callWith_def hod (EvL.cons h EvL.nil he φ s I _ _ _ fun vs s1 g l => ⟨(I.grow g).old _ _ ho, ?_⟩) he))
  have I1 := I.grow g
  simp only [LayL, Lay] at l
  obtain ⟨v, r, rfl, ⟨t, rfl⟩, rfl⟩ := l
  have R := I.ok.room
  refine wpAny_call (codeAny_call_generator (by have := R.depth; omega) (I1.old _ _ ho) hod P.co P.gen P.body (hcode.keeps I1.old) ?_)
  rw [P.bind]
  refine wpAny_pure ?_
  rw [P.closure]
  refine wpAny_newFunctionEnv_cells P.kind (fun x hx => ?_) fun env he s' y => ?_
  · rw [List.mem_singleton.mp hx]
    exact .inl (P.kinds _ (by simp))
  have he' : env = callE fd a s1.heap.objs.size := he
  subst he'
  obtain ⟨h', tk, rfl, _⟩ := y.done
  have hk₁ := y.toInCall.keep
  refine ⟨(hnl.keeps I1.old).keeps hk₁, ?_⟩
  have hn1 : ∀ b, s1.heap.objs.size ≤ b → Γ.h₁.get? b = none := fun b hb => by
    cases z : Γ.h₁.get? b with
    | none => rfl
    | some ob => have := I1.old b ob z; rw [size_none hb] at this; cases this
  have hns : ∀ b, s1.heap.objs.size ≤ b → s.heap.get? b = none := fun b hb => by
    cases z : s.heap.get? b with
    | none => rfl
    | some ob => have := g.keep z; rw [size_none hb] at this; cases this
  have hLs : s1.heap.objs.size < h'.objs.size := y.toInCall.ns.lt
  have G : GEnv Γ.h₁ (callE fd a s1.heap.objs.size) := genv P (hn1 _ (Nat.le_refl _))
  have bL : ∀ y c, (callE fd a s1.heap.objs.size).cells.lookup y = some c → False := fun y c q => by rw [G.cells] at q; cases q
  have I0 : In (gF Γ.prog Γ.w Γ.h₁ (Γ.A.in1.over (.func (bodyAt 2) (callE fd a s1.heap.objs.size)) []) (callE fd a s1.heap.objs.size) (fun _ => False)) [.dat (.str x), .any, .any, .any] ⟨bindL (callE fd a s1.heap.objs.size).kindOf [(("addr" : Str), .str x t)] fun _ => none, fun _ => none⟩ { s1 with heap := h', toks := tk } := by
    refine ⟨⟨G.kind, (room_top (R.less hk : Room (0 + 2) Γ.A)), (show (["addr", "pos", "escape", "ch"] : List Str).Nodup by decide +kernel), fun x hx => .inl (G.kinds x hx), fun y z c q => (bL y c q).elim, G.glob, G.bltn⟩, fun b o e => hk₁ b o (I1.old b o e), y.toInCall.ns, hn1 _ (Nat.le_refl _), fun y c q => (bL y c q).elim, fun i σ y hi hy => ?_, fun i j b e => (nomatch e), fun i b e => (nomatch e), fun b q => q.elim, I1.bare⟩
    match i with
    | 0 =>
      simp at hi; subst hi
      have : y = "addr" := by
        have : some ("addr" : Str) = some y := hy
        exact (Option.some.inj this).symm
      subst this
      refine ⟨.str x t, .inl ⟨P.kinds _ (by simp), ?_⟩, ⟨t, rfl⟩⟩
      simp [bindL, show (callE fd a s1.heap.objs.size).kindOf ("addr" : Str) = some .local from P.kinds _ (by simp)]
    | 1 => simp at hi; subst hi; trivial
    | 2 => simp at hi; subst hi; trivial
    | 3 => simp at hi; subst hi; trivial
    | i + 4 => simp at hi
  have hsm : Small [Sl.dat (.str x), .any, .any, .any] := by
    intro τ hτ
    rcases List.mem_cons.mp hτ with q | hτ
    · subst q; rfl
    · have : τ ∈ List.replicate 3 Sl.any := hτ
      rw [(List.mem_replicate.mp this).2]; rfl
  have g2 : Grow s1 { s1 with heap := h', toks := tk } := Grow.heap hk₁
  have hb : (GenState.fresh (.func (bodyAt 2) (callE fd a s1.heap.objs.size))).bare = true := rfl
  have hgen : ((s1.gens.push (GenState.fresh (.func (bodyAt 2) (callE fd a s1.heap.objs.size)))))[s1.gens.size]? = some (.fresh (.func (bodyAt 2) (callE fd a s1.heap.objs.size))) := by simp
  have g3 : Grow s1 { s1 with gens := s1.gens.push (.fresh (.func (bodyAt 2) (callE fd a s1.heap.objs.size))), toks := tk + 1 + 1, heap := h'.push { cls := .type "generator", data := .fields #[.int s1.gens.size 0, .str fd.name tk, .str fd.qualname (tk + 1)] } } :=
    ⟨fun b o _ e => Heap.get?_push_of_some _ (hk₁ b o e), rfl, fun hb' y hy => by
      rcases Array.mem_push.mp hy with q | q
      · exact hb' y q
      · exact q ▸ hb, by simp, fun g' hg' => by
      show (s1.gens.push _)[g']? = _
      rw [Array.getElem?_push_lt hg', Array.getElem?_eq_getElem hg']⟩
  have hIs : (h'.push { cls := .type "generator", data := .fields #[.int s1.gens.size 0, .str fd.name tk, .str fd.qualname (tk + 1)] }).IsGen h'.objs.size s1.gens.size := ⟨_, _, _, Heap.get?_push_size _ rfl, rfl, rfl, rfl⟩
  refine wpAny_pyIter_gen hIs (k _ s1.gens.size (· = s1.heap.objs.size) _ (g.trans g3) ?_ g.gsize ⟨hIs, fun q => ?_, fun b q => ?_, _, hgen, ?_⟩)
  · rintro b (q | q)
    · exact hns b (Nat.le_of_eq q.symm)
    · subst q
      cases z : s.heap.get? h'.objs.size with
      | none => rfl
      | some ob => exact absurd (Heap.lt_size (hk₁ _ _ (g.keep z))) (Nat.lt_irrefl _)
  · have : h'.objs.size = s1.heap.objs.size := q
    omega
  · subst q
    obtain ⟨o, es, ep, ho', hd', _⟩ := I0.ns
    exact ⟨o, Heap.get?_push_of_some _ ho', fun xs n z => by rw [hd'] at z; cases z⟩
  · refine gen_fresh G (R.less hk) hen ?_
    refine GI.move ⟨_, I0⟩ G hsm (room_top (R.less hk : Room (0 + 2) Γ.A)) (fun o ho => Heap.get?_push_of_some _ ho) (fun b o e => Heap.get?_push_of_some _ (I0.old b o e)) (fun b q => q.1) (g3.bare I1.bare)
end
end Mine

namespace Mine
open PySem PyProof.Rows PySem.W PySem.Calls

section
variable {α : Type}
theorem fm_range (l : List α) (a : Nat) : ∀ m, (List.range m).filterMap (fun k => l[a + k]?) = (l.drop a).take m
  | 0 => rfl
  | m + 1 => by
    rw [List.range_succ, List.filterMap_append, fm_range l a m, List.take_add_one, List.getElem?_drop]
    cases h : l[a + m]? <;> simp [h]

theorem pickL_nat {lo hi : Option Int} {l : List α} {a b : Nat} (h : sliceBounds lo hi none l.length = ((a : Int), (b : Int), 1)) : pickL lo hi none l = (l.drop a).take (b - a) := by
  unfold pickL
  rw [h]
  dsimp only
  rw [sliceRange_one, List.filterMap_map]
  exact fm_range l a _

theorem pick_to (l : List α) (n : Nat) : pickL none (some (n : Int)) none l = l.take n := by
  rw [pickL_nat (a := 0) (b := min n l.length)]
  · rw [List.drop_zero, Nat.sub_zero, ← List.take_eq_take_min]
  · unfold sliceBounds
    have h1 : ¬ ((n : Int) < 0) := by omega
    simp [h1]; omega
theorem pick_from (l : List α) (n : Nat) : pickL (some (n : Int)) none none l = l.drop n := by
  rw [pickL_nat (a := min n l.length) (b := l.length)]
  · rw [List.take_of_length_le (by simp)]
    by_cases h : n ≤ l.length
    · rw [Nat.min_eq_left h]
    · rw [Nat.min_eq_right (by omega), List.drop_length, List.drop_eq_nil_of_le (by omega)]
  · unfold sliceBounds
    have h1 : ¬ ((n : Int) < 0) := by omega
    simp [h1]; omega
theorem pick_run (l : List α) (m n : Nat) (h : n ≤ l.length) (h2 : m ≤ n) : pickL (some (m : Int)) (some (n : Int)) none l = (l.take n).drop m := by
  rw [pickL_nat (a := m) (b := n)]
  · rw [List.drop_take]
  · unfold sliceBounds
    have h1 : ¬ ((n : Int) < 0) := by omega
    have h2 : ¬ ((m : Int) < 0) := by omega
    simp [h1, h2]; omega
theorem pick_last (l : List α) : pickL (some (-1)) none none l = l.drop (l.length - 1) := by
  rw [pickL_nat (a := l.length - 1) (b := l.length)]
  · rw [List.take_of_length_le (by simp)]
  · unfold sliceBounds
    simp; omega
theorem pick_rev (l : List α) : pickL none none (some (-1)) l = l.reverse := by
  unfold pickL
  rw [krv_bounds]
  dsimp only
  rw [krv_sliceRange, List.filterMap_map]
  apply List.ext_getElem?
  intro i
  have key : ∀ m, m ≤ l.length → (List.range m).filterMap ((fun x => l[x]?) ∘ fun k => l.length - 1 - k) = l.reverse.take m := by
    intro m
    induction m with
    | zero => intro _; rfl
    | succ m ih =>
      intro hm
      rw [List.range_succ, List.filterMap_append, ih (by omega), List.take_add_one, List.getElem?_reverse (by omega)]
      have : l.length - 1 - m < l.length := by omega
      simp [Function.comp, List.getElem?_eq_getElem this]
  rw [key _ (Nat.le_refl _), List.take_of_length_le (by simp)]
end
end Mine

namespace Mine
open PySem PyProof.Rows PySem.W PySem.Calls

abbrev S (l : List Nat) : Str := ⟨l.toArray⟩
abbrev Asc (l : List Nat) : Prop := ∀ c ∈ l, c < 128

def lowA (c : Nat) : Nat := if 65 ≤ c ∧ c ≤ 90 then c + 32 else c
def upA (c : Nat) : Nat := if 97 ≤ c ∧ c ≤ 122 then c - 32 else c

theorem lowA_ok : ∀ c, c < 128 → Unicode.lowerOf c = [lowA c] := by decide +kernel
theorem upA_ok : ∀ c, c < 128 → Unicode.upperOf c = [upA c] := by decide +kernel
theorem lowA_lt : ∀ c, c < 128 → lowA c < 128 := by decide +kernel
theorem upA_lt : ∀ c, c < 128 → upA c < 128 := by decide +kernel

theorem flat_one (l : List Nat) (f : Nat → Nat → List Nat) (g : Nat → Nat) (h : ∀ i c, l[i]? = some c → f i c = [g c]) : (l.toArray.mapIdx fun i c => (f i c).toArray).flatten = (l.map g).toArray := by
  have e : (l.toArray.mapIdx fun i c => (f i c).toArray) = ((l.map g).map fun c => #[c]).toArray := by
    apply Array.ext_getElem?
    intro i
    simp only [Array.getElem?_mapIdx, List.getElem?_toArray, List.getElem?_map]
    cases q : l[i]? with
    | none => rfl
    | some c => simp [h i c q]
  rw [e]
  apply Array.toList_inj.mp
  simp [Function.comp_def]
  clear h e
  induction l with
  | nil => rfl
  | cons c r ih => simp [ih]

theorem lower_S {l : List Nat} (h : Asc l) : Txt.lower (S l) = S (l.map lowA) := by
  unfold Txt.lower placed S
  congr 1
  refine flat_one l _ lowA fun i c q => ?_
  have hc := h c (List.mem_of_getElem? q)
  unfold Unicode.lowerAt
  simp only [List.getElem?_toArray, q]
  have : (c == 0x3A3) = false := by
    simp; omega
  rw [this]
  simp [lowA_ok c hc]
theorem upper_S {l : List Nat} (h : Asc l) : Txt.upper (S l) = S (l.map upA) := by
  unfold Txt.upper placed S
  congr 1
  exact flat_one l _ upA fun i c q => upA_ok c (h c (List.mem_of_getElem? q))

theorem Asc.low {l : List Nat} (h : Asc l) : Asc (l.map lowA) := fun c hc => by
  obtain ⟨d, hd, rfl⟩ := List.mem_map.mp hc
  exact lowA_lt d (h d hd)
theorem Asc.up {l : List Nat} (h : Asc l) : Asc (l.map upA) := fun c hc => by
  obtain ⟨d, hd, rfl⟩ := List.mem_map.mp hc
  exact upA_lt d (h d hd)
theorem Asc.app {l r : List Nat} (h : Asc l) (k : Asc r) : Asc (l ++ r) := fun c hc => by
  rcases List.mem_append.mp hc with q | q
  · exact h c q
  · exact k c q
theorem S_app (l r : List Nat) : S l ++ S r = S (l ++ r) := by
  show Str.mk (l.toArray ++ r.toArray) = _
  simp
theorem S_len (l : List Nat) : (S l).length = l.length := by simp [Str.length]
theorem S_inj {l r : List Nat} (h : S l = S r) : l = r := by
  have := congrArg (fun x : Str => x.cps.toList) h
  simpa using this
theorem S_beq (l r : List Nat) : (S l == S r) = (l == r) := by
  rw [Bool.eq_iff_iff, beq_iff_eq, beq_iff_eq]
  exact ⟨S_inj, fun e => by rw [e]⟩

theorem strIdx_eq (lo hi : Option Int) (n : Nat) : Builtin.Str.strSliceIndices lo hi 1 n = sliceRange (sliceBounds lo hi none n).1 (sliceBounds lo hi none n).2.1 (sliceBounds lo hi none n).2.2 := by
  unfold Builtin.Str.strSliceIndices sliceBounds
  cases lo <;> cases hi <;> rfl

theorem slice_S (l : List Nat) (lo hi : Option Int) : Txt.slice (S l) lo hi = S (pickL lo hi none l) := by
  have hp : pickL lo hi none l = (Builtin.Str.strSliceIndices lo hi 1 l.length).filterMap (l[·]?) := by
    rw [strIdx_eq]; rfl
  unfold Txt.slice
  split
  · rename_i h
    simp only [beq_self_eq_true, Bool.true_and, beq_iff_eq, S_len] at h
    have hb : ∃ a b : Nat, sliceBounds lo hi none l.length = ((a : Int), (b : Int), 1) ∧ b ≤ l.length := by
      unfold sliceBounds
      simp only [Option.getD_none, show (1 : Int) > 0 by decide, if_true]
      refine ⟨(match lo with | none => 0 | some i => max 0 (min (if i < 0 then i + (l.length : Int) else i) (l.length : Int))).toNat, (match hi with | none => (l.length : Int) | some i => max 0 (min (if i < 0 then i + (l.length : Int) else i) (l.length : Int))).toNat, ?_, ?_⟩
      · cases lo <;> cases hi <;> simp <;> omega
      · cases hi <;> simp <;> omega
    obtain ⟨a, b, e, hb⟩ := hb
    rw [pickL_nat e]
    rw [strIdx_eq, e] at h
    dsimp only at h
    rw [sliceRange_one] at h
    simp at h
    have : a = 0 ∧ b = l.length ∨ l.length = 0 := by omega
    rcases this with ⟨q1, q2⟩ | q
    · subst q1 q2; simp
    · have : l = [] := List.length_eq_zero_iff.mp q
      subst this; simp
  · rw [hp]
    simp [S_len, Str.length]
end Mine

namespace Mine
open PySem PyProof.Rows PySem.W PySem.Calls

/-- a heap's part -/
noncomputable def part (h : Heap) (p : Addr → Prop) : Heap := by
  classical exact ⟨h.objs.mapIdx fun a o => if p a then o else { o with data := .freed }, h.life⟩
theorem part_get (h : Heap) (p : Addr → Prop) (a : Addr) (o : Obj) : (part h p).get? a = some o ↔ p a ∧ h.get? a = some o := by
  unfold part Heap.get?
  simp only [Array.getElem?_mapIdx]
  cases q : h.objs[a]? with
  | none => simp
  | some ob =>
    obtain ⟨c, d, dt, sl⟩ := ob
    by_cases hp : p a
    · simp [hp]
    · simp [hp]

inductive Lits : List (Option Expr) → List Expr → List (Str × Str) → Prop
  | nil : Lits [] [] []
  | cons {a b : Str} {k1 k2 : Nat} {p1 p2 : Pos} {ks : List (Option Expr)} {vs : List Expr} {r : List (Str × Str)} : Lits ks vs r → Lits (some (.Constant (.str a) k1 p1) :: ks) (.Constant (.str b) k2 p2 :: vs) ((a, b) :: r)

theorem Lits.eval {prog : Program} {w : World} {A : Around} {E : Value → Shared → Prop} {env : Env} {pos : Pos} : ∀ {ks : List (Option Expr)} {vs : List Expr} {r : List (Str × Str)} {s : Shared} {Q : List (Value × Value) → Shared → Prop}, Lits ks vs r →
    (∀ vals tk, allStrKeys vals = true → (strPairs vals).map (·.1) = r.map (·.1) → (∀ k b, r.lookup k = some b → ∃ t, valueAt (strPairs vals) k = some (.str b t)) → Q vals { s with toks := tk }) →
    wpAny (model prog w) A (evalPairs (pairTrees ks vs env pos)) Q E s
  | _, _, _, s, Q, .nil, h => pairTrees_nil_walk (h [] s.toks rfl rfl (fun k b q => by cases q))
  | _, _, _, s, Q, .cons (a := a) (b := b) L, h => pairTrees_cons_walk (wpAny_Constant_str (wpAny_Constant_str (L.eval fun vals tk h1 h2 h3 => h _ tk (by simpa [allStrKeys] using h1) (by simp [strPairs, h2]) fun k b' q => by
      rw [List.lookup_cons] at q
      by_cases z : (k == a) = true
      · simp only [z] at q; cases q
        have := beq_iff_eq.mp z
        subst this
        exact ⟨s.toks + 1, by simp [strPairs, valueAt]⟩
      · simp only [z] at q
        obtain ⟨t, ht⟩ := h3 k b' q
        refine ⟨t, ?_⟩
        have : a ≠ k := fun e => z (by simp [e])
        simpa [strPairs, valueAt, this] using ht)))

/-- the table stands -/
def TabIs (Γ : Fx) (d : Addr) (r : List (Str × Str)) : Prop := ∃ o pairs, Γ.h₁.get? d = some o ∧ o.IsDictOf (strKind Γ.prog Γ.w) pairs ∧ ∀ k b, r.lookup k = some b → ∃ t, valueAt pairs k = some (.str b t)

section
variable {Γ : Fx} {ρ ρ' : List Sl} {φ φ' : FS} {s s' : Shared} {o : Out} {pos : Pos}

theorem Ev.tab {e : Expr} {x k b : Str} {px : Pos} {d : Addr} {r : List (Str × Str)} (i : Nat) (hx : Γ.names[i]? = some x) (hi : ρ[i]? = some (.val (.ref d))) (T : TabIs Γ d r) (h : EvT Γ e ρ (.str k)) (hk : r.lookup k = some b)
    (hd : (x == ("__debug__" : Str)) = false := by decide +kernel) : EvT Γ (.Subscript (.Name x px) e pos) ρ (.str b) := fun φ s I Q E q =>
  Subscript_ (wpAny_Name (load_var I (I.slots i _ x hi hx) (h φ s I _ _ fun v' s2 g2 l2 => by
    obtain ⟨u, rfl⟩ := l2
    obtain ⟨o, pairs, ho, hp, hl⟩ := T
    obtain ⟨t, ht⟩ := hl k b hk
    have hm : s2.heap.DictOf (strKind Γ.prog Γ.w) d pairs := Heap.dictOf_iff.mpr ⟨o, (I.grow g2).old _ _ ho, hp⟩
    exact sub_tail hm.mapOf.typeIs slot_dict_getitem.lookup (wpAny_getItem_of (strKind_is _ _ _ _) hm.mapOf ht (q _ _ (g2.trans Grow.toks) ⟨_, rfl⟩)))) hd)

/-- the frame with more that stays -/
def Fx.more (Γ : Fx) (h : Heap) : Fx := { Γ with h₁ := h }

theorem In.rebase (I : In Γ ρ φ s) {h : Heap} (hh : ∀ a o, h.get? a = some o → s.heap.get? a = some o ∧ ¬ Mut Γ φ a) : In (Γ.more h) ρ φ s where
  ok := ⟨I.ok.kind, I.ok.room, I.ok.nodup, I.ok.kinds, I.ok.inj, I.ok.glob, I.ok.bltn⟩
  old := fun a o e => (hh a o e).1
  ns := I.ns
  nsNew := by
    cases z : h.get? Γ.env.locals with
    | none => exact z
    | some o => exact absurd (.inl rfl) (hh _ _ z).2
  cells := fun x c e => ⟨(I.cells x c e).1, by
    cases z : h.get? c with
    | none => exact z
    | some o => exact absurd (.inr (.inl ⟨x, e⟩)) (hh _ _ z).2⟩
  slots := fun i σ x hi hx => by
    have z := I.slots i σ x hi hx
    cases σ with
    | any => trivial
    | dat d => exact z
    | own l => exact z
    | val v => exact z
  inj := I.inj
  own := fun i a e => ⟨(I.own i a e).1, by
    cases z : h.get? a with
    | none => exact z
    | some o => exact absurd (.inr (.inr ⟨i, e⟩)) (hh _ _ z).2, (I.own i a e).2.2⟩
  w0 := I.w0
  bare := I.bare

/-- x = {..}, a table of texts that stays -/
theorem Ex.table {x : Str} {px p : Pos} {ks : List (Option Expr)} {vs : List Expr} {r : List (Str × Str)} {ss : List Stmt} {dr : D} (i : Nat) (hx : Γ.names[i]? = some x) (L : Lits ks vs r) (hn : (r.map (·.1)).Nodup)
    (hall : ks.all (·.isSome) = true) (hl : ks.length = vs.length) (h0 : ks ≠ []) (hlen : ks.length ≤ 15) (hsw : swapsWith (.Dict ks vs p) (some (.Name x px)) pos.line Γ.env = pure false)
    (h : ∀ h' d, (∀ a o, Γ.h₁.get? a = some o → h'.get? a = some o) → TabIs (Γ.more h') d r → ExT (Γ.more h') ss (ρ.set i (.val (.ref d))) (.ret dr)) :
    ExT Γ (.Assign [.Name x px] (.Dict ks vs p) pos :: ss) ρ (.ret dr) := fun φ s I Q E k => by
  refine wpAny_execs_cons (wpAny_Assign_Name (wpAny_Dict_walk (knd := strKind Γ.prog Γ.w) hall hl h0 hlen (L.eval fun vals tk h1 h2 h3 => ?_)) hsw)
  refine display_done_str h1 (by rw [h2]; exact hn) ?_ fun h' hd hs => ?_
  · exact ⟨_, _, _, Heap.get?_push_size _ rfl, ⟨rfl, rfl, rfl⟩, rfl, fun e he => by simp at he, .nil, by simp⟩
  have g : Grow s { s with heap := h', toks := tk + vals.length } := Grow.heap fun a o e => (hs.2 a (Nat.ne_of_lt (Heap.lt_size e))).trans (Heap.get?_push_of_some _ e)
  have I1 := I.grow g
  obtain ⟨od, hod, hdo⟩ := Heap.dictOf_iff.mp hd
  have new : s.heap.get? s.heap.objs.size = none := size_none (Nat.le_refl _)
  have h1n : Γ.h₁.get? s.heap.objs.size = none := by
    cases z : Γ.h₁.get? s.heap.objs.size with
    | none => rfl
    | some ob => have := I.old _ ob z; rw [new] at this; cases this
  have nm : ¬ Mut Γ φ s.heap.objs.size := by
    rintro (q | ⟨y, q⟩ | ⟨j, q⟩)
    · obtain ⟨o, es, ep, ho, _⟩ := I.ns; rw [← q, new] at ho; cases ho
    · obtain ⟨⟨v, o, ho, _⟩, _⟩ := I.cells y _ q; rw [new] at ho; cases ho
    · obtain ⟨⟨its, o, n, ho, _⟩, _⟩ := I.own j _ q; rw [new] at ho; cases ho
  refine store_fine (σ := .val (.ref s.heap.objs.size)) I1 none hx (fun _ e => nomatch e) (fun h2 φ2 eo hv seqs => hv) fun φ2 s2 I2 st2 ev2 eo2 => ?_
  have hk2 : s2.heap.get? s.heap.objs.size = some od := st2.keep _ _ (fun q => nm (Tgt.mut q)) hod
  have nm2 : ∀ a, ¬ Mut Γ φ a → ¬ Mut Γ φ2 a := by
    rintro a n (q | q | ⟨j, q⟩)
    · exact n (.inl q)
    · exact n (.inr (.inl q))
    · rw [eo2] at q
      by_cases hj : j = i
      · simp [hj] at q
      · simp [hj] at q; exact n (.inr (.inr ⟨j, q⟩))
  have I3 : In (Γ.more (part s2.heap fun a => a = s.heap.objs.size ∨ ∃ o, Γ.h₁.get? a = some o)) (ρ.set i (.val (.ref s.heap.objs.size))) φ2 s2 := by
    refine I2.rebase fun a o e => ?_
    obtain ⟨p1, p2⟩ := (part_get _ _ _ _).mp e
    refine ⟨p2, ?_⟩
    rcases p1 with q | ⟨ob, q⟩
    · rw [q]; exact nm2 _ nm
    · rintro (z | ⟨y, z⟩ | ⟨j, z⟩)
      · rw [z, I.nsNew] at q; cases q
      · rw [(I.cells y a z).2] at q; cases q
      · rw [(I2.own j a z).2.1] at q; cases q
  refine h _ s.heap.objs.size (fun a o e => (part_get _ _ _ _).mpr ⟨.inr ⟨o, e⟩, I2.old a o e⟩) ⟨od, _, (part_get _ _ _ _).mpr ⟨.inl rfl, hk2⟩, hdo, h3⟩ φ2 s2 I3 _ _ fun fl s3 p => k fl s3 ?_
  have p' : Post Γ φ2 s2 (.ret dr) fl s3 := p
  exact Post.then I ((Step.ofGrow g).trans (st2.mono fun a q => q.mut)) (Evo.less fun j a e => by
    rw [eo2] at e
    by_cases hj : j = i
    · simp [hj] at e
    · simpa [hj] using e) I2 p'
end
end Mine

namespace Mine
open PySem PyProof.Rows PySem.W PySem.Calls

def argsAt (i : Nat) : Arguments := match fdAt i with | some (_, a, _, _) => a | none => default
def scopeAt (i : Nat) : Scope := match fdAt i with | some (_, _, _, sc) => sc | none => default

structure DefIs (i : Nat) (fd : FuncData) : Prop where
  params : fd.params = argsAt i
  body : fd.body = .stmts (bodyAt i)
  scope : fd.scope = scopeAt i
  globals : fd.globals = mainGlobals
  closure : fd.closure = []
  defaults : fd.defaults = .none
  kwdefaults : fd.kwdefaults = .none
  builtins : fd.builtins = builtinsNs



/-- a def of the text stands -/
def HasDef (h : Heap) (i : Nat) (name : Str) (a : Addr) (fd : FuncData) : Prop := GlobIs h name (.ref a) ∧ FnAt h a fd ∧ DefIs i fd

/-- what stands before the call, and stays -/
structure Base (h : Heap) : Prop where
  nolimit : h.NoLimit
  enumerate : BltnIs h "enumerate" (.type "enumerate")
  len : BltnIs h "len" (.builtin "len")
  range : BltnIs h "range" (.type "range")
  sum : BltnIs h "sum" (.builtin "sum")
  max : BltnIs h "max" (.builtin "max")
  str : BltnIs h "str" (.type "str")
  pat : ∃ a, GlobIs h "IPV4_RE" (.ref a) ∧ PatAt h a
  f2 : ∃ a fd, HasDef h 2 "_iter_escaped_chars" a fd
  f3 : ∃ a fd, HasDef h 3 "_strip_quoted_realnames" a fd
  f4 : ∃ a fd, HasDef h 4 "_check_parenthesis" a fd
  f7 : ∃ a fd, HasDef h 7 "is_HDN" a fd
  f8 : ∃ a fd, HasDef h 8 "liberal_is_HDN" a fd
  f9 : ∃ a fd, HasDef h 9 "user_domain_match" a fd
  f10 : ∃ a fd, HasDef h 10 "reach" a fd
  f12 : ∃ a fd, HasDef h 12 "_law_rows" a fd
  f13 : ∃ a fd, HasDef h 13 "_law_names" a fd
  f14 : ∃ a fd, HasDef h 14 "_law_holds" a fd
  f15 : ∃ a fd, HasDef h 15 "_law_common" a fd
  f16 : ∃ a fd, HasDef h 16 "law" a fd

section
variable {h h' : Heap}
theorem GlobIs.keeps {x : Str} {v : Value} (H : GlobIs h x v) (k : ∀ a o, h.get? a = some o → h'.get? a = some o) : GlobIs h' x v := let ⟨m, h1, h2⟩ := H; ⟨m, ns_keeps h1 k, h2⟩
theorem BltnIs.keeps {x : Str} {v : Value} (H : BltnIs h x v) (k : ∀ a o, h.get? a = some o → h'.get? a = some o) : BltnIs h' x v := let ⟨m, b, h1, h2, h3, h4⟩ := H; ⟨m, b, ns_keeps h1 k, h2, ns_keeps h3 k, h4⟩
theorem FnAt.keeps {a : Addr} {fd : FuncData} (H : FnAt h a fd) (k : ∀ a o, h.get? a = some o → h'.get? a = some o) : FnAt h' a fd := let ⟨o, h1, h2, h3⟩ := H; ⟨o, k _ _ h1, h2, h3.keeps k⟩
theorem HasDef.keeps {i : Nat} {x : Str} {a : Addr} {fd : FuncData} (H : HasDef h i x a fd) (k : ∀ a o, h.get? a = some o → h'.get? a = some o) : HasDef h' i x a fd := ⟨H.1.keeps k, H.2.1.keeps k, H.2.2⟩
theorem exDef {i : Nat} {x : Str} (H : ∃ a fd, HasDef h i x a fd) (k : ∀ a o, h.get? a = some o → h'.get? a = some o) : ∃ a fd, HasDef h' i x a fd := let ⟨a, fd, z⟩ := H; ⟨a, fd, z.keeps k⟩
theorem Base.keeps (B : Base h) (k : ∀ a o, h.get? a = some o → h'.get? a = some o) : Base h' :=
  ⟨B.nolimit.keeps k, B.enumerate.keeps k, B.len.keeps k, B.range.keeps k, B.sum.keeps k, B.max.keeps k, B.str.keeps k, (let ⟨a, h1, h2⟩ := B.pat; ⟨a, h1.keeps k, h2.keeps k⟩),
    exDef B.f2 k, exDef B.f3 k, exDef B.f4 k, exDef B.f7 k, exDef B.f8 k, exDef B.f9 k, exDef B.f10 k, exDef B.f12 k, exDef B.f13 k, exDef B.f14 k, exDef B.f15 k, exDef B.f16 k⟩
end

theorem TsT.eq {Γ : Fx} {ρ : List Sl} {e : Expr} {b b' : Bool} (h : TsT Γ e ρ b) (q : b = b') : TsT Γ e ρ b' := q ▸ h
theorem EvT.eq {Γ : Fx} {ρ : List Sl} {e : Expr} {b b' : D} (h : EvT Γ e ρ b) (q : b = b') : EvT Γ e ρ b' := q ▸ h

/-- the def i, called, is this function of data, for every room of k frames -/
def FunIs (prog : Program) (w : World) (h : Heap) (k i : Nat) (name : Str) (ds : List D) (d : D) : Prop := ∃ a fd, HasDef h i name a fd ∧ Fun prog w h k a ds d

theorem Ev.callF {Γ : Fx} {ρ : List Sl} {pos : Pos} {f : Str} {np : Pos} {e : Expr} {es : List Expr} {i : Nat} {ds : List D} {d : D} {k : Nat} (hF : FunIs Γ.prog Γ.w Γ.h₁ k i f ds d) (hx : Γ.env.kindOf f = some .globalImplicit)
    (hk : k ≤ Γ.k) (ha : EvL Γ (e :: es) ρ ds) (hd : (f == ("__debug__" : Str)) = false := by decide +kernel)
    (he : starEach (e :: es) Γ.env = (false, eval e Γ.env) :: starEach es Γ.env := by rfl) : EvT Γ (.Call (.Name f np) (e :: es) [] pos) ρ d := by
  obtain ⟨a, fd, H, hf⟩ := hF
  exact Ev.call H.1 H.2.1 hx hf hk ha hd he

section
variable {prog : Program} {w : World} {h : Heap} {k i : Nat} {name : Str}

/-- a def of one argument -/
theorem FunIs.one {names : List Str} {p : Str} {d dr : D} {n : Nat} (hnl : h.NoLimit) (H : ∃ a fd, HasDef h i name a fd)
    (hs : (scopeAt i).isCoroutine = false ∧ (scopeAt i).isGenerator = false ∧ (scopeAt i).kind = .function) (hn : names.Nodup) (hkd : ∀ x ∈ names, (scopeAt i).names.lookup x = some .local ∨ (scopeAt i).names.lookup x = some .cell)
    (hb : ∀ (fd : FuncData) v, fd.params = argsAt i → fd.defaults = .none → fd.kwdefaults = .none → bindArgs fd ⟨[v], []⟩ = pure [(p, v)]) (hp : names[0]? = some p)
    (hE : ∀ (fd : FuncData) a A W₀ L, ExT (mkF prog w h names { fd with scope := scopeAt i } a k A W₀ L) (bodyAt i) (.dat d :: List.replicate n .any) (.ret dr)) : FunIs prog w h (k + 1) i name [d] dr := by
  obtain ⟨a, fd, H⟩ := H
  refine ⟨a, fd, H, ?_⟩
  have D := H.2.2
  refine fun1 ⟨D.body, by rw [D.scope]; exact hs.1, by rw [D.scope]; exact hs.2.1, by rw [D.scope]; exact hs.2.2, D.closure, D.globals, D.builtins, hn, fun x hx => by rw [D.scope]; exact hkd x hx⟩ H.2.1 hnl (fun v => hb fd v D.params D.defaults D.kwdefaults) hp fun A W₀ L => (show { fd with scope := scopeAt i } = fd by rw [← D.scope]) ▸ hE fd a A W₀ L
theorem FunIs.two {names : List Str} {p q : Str} {d e dr : D} {n : Nat} (hnl : h.NoLimit) (H : ∃ a fd, HasDef h i name a fd)
    (hs : (scopeAt i).isCoroutine = false ∧ (scopeAt i).isGenerator = false ∧ (scopeAt i).kind = .function) (hn : names.Nodup) (hkd : ∀ x ∈ names, (scopeAt i).names.lookup x = some .local ∨ (scopeAt i).names.lookup x = some .cell)
    (hb : ∀ (fd : FuncData) v u, fd.params = argsAt i → fd.defaults = .none → fd.kwdefaults = .none → bindArgs fd ⟨[v, u], []⟩ = pure [(p, v), (q, u)]) (hp : names[0]? = some p) (hq : names[1]? = some q)
    (hE : ∀ (fd : FuncData) a A W₀ L, ExT (mkF prog w h names { fd with scope := scopeAt i } a k A W₀ L) (bodyAt i) (.dat d :: .dat e :: List.replicate n .any) (.ret dr)) : FunIs prog w h (k + 1) i name [d, e] dr := by
  obtain ⟨a, fd, H⟩ := H
  refine ⟨a, fd, H, ?_⟩
  have D := H.2.2
  refine fun2 ⟨D.body, by rw [D.scope]; exact hs.1, by rw [D.scope]; exact hs.2.1, by rw [D.scope]; exact hs.2.2, D.closure, D.globals, D.builtins, hn, fun x hx => by rw [D.scope]; exact hkd x hx⟩ H.2.1 hnl (fun v u => hb fd v u D.params D.defaults D.kwdefaults) hp hq fun A W₀ L => (show { fd with scope := scopeAt i } = fd by rw [← D.scope]) ▸ hE fd a A W₀ L
theorem FunIs.mono {ds : List D} {d : D} {h' : Heap} (H : FunIs prog w h k i name ds d) (kp : ∀ a o, h.get? a = some o → h'.get? a = some o) : FunIs prog w h' k i name ds d := by
  obtain ⟨a, fd, H, hf⟩ := H
  exact ⟨a, fd, H.keeps kp, fun A W₀ s vs Q E R old bare w0 l q => hf A W₀ s vs Q E R (fun b o e => old b o (kp b o e)) bare w0 l q⟩
end
end Mine

namespace Mine
open PySem PyProof.Rows PySem.W PySem.Calls

theorem bind_8 (fd : FuncData) (v : Value) (h1 : fd.params = argsAt 8) (h2 : fd.defaults = .none) (h3 : fd.kwdefaults = .none) : bindArgs fd ⟨[v], []⟩ = pure [(("text" : Str), v)] := by
  obtain ⟨a, b, c, d, e, f, g, h, i, j, k, l, m, n⟩ := fd
  simp only at h1 h2 h3
  subst h1 h2 h3
  rfl

theorem bind_7 (fd : FuncData) (v : Value) (h1 : fd.params = argsAt 7) (h2 : fd.defaults = .none) (h3 : fd.kwdefaults = .none) : bindArgs fd ⟨[v], []⟩ = pure [(("text" : Str), v)] := by
  obtain ⟨a, b, c, d, e, f, g, h, i, j, k, l, m, n⟩ := fd
  simp only at h1 h2 h3
  subst h1 h2 h3
  rfl

section
variable {prog : Program} {w : World} {h : Heap}

theorem liberal_ok (B : Base h) {k : Nat} {x : Str} (hx : x.cps.size ≤ 1000000) : FunIs prog w h (k + 1) 8 "liberal_is_HDN" [.str x] (.bool (!ipv4 x.cps)) := by
  refine FunIs.one (names := ["text"]) (p := "text") (n := 0) B.nolimit B.f8 (by decide +kernel) (by decide +kernel) (by decide +kernel) bind_8 rfl fun fd a A W₀ L => ?_
  obtain ⟨pa, hg, hp⟩ := B.pat
  cases hb : ipv4 x.cps with
  | true => exact Ex.done (St.ifT (TsT.eq (Ts.search hg hp rfl (Ev.var 0 rfl rfl) hx) hb) (Ex.done (St.ret Ev.bool)))
  | false => exact Ex.cons (St.ifF (TsT.eq (Ts.search hg hp rfl (Ev.var 0 rfl rfl) hx) hb) Ex.nil) (Ex.done (St.ret Ev.bool))

theorem Ev.neg {Γ : Fx} {ρ : List Sl} {e : Expr} {pos : Pos} {i : Int} (h : EvT Γ e ρ (.int i)) : EvT Γ (.UnaryOp .USub e pos) ρ (.int (-i)) := fun φ s I Q E k =>
  wpAny_UnaryOp (h φ s I _ _ fun v s1 g l => by
    obtain ⟨t, rfl⟩ := l
    exact PyProof.Rows.neg_int (k _ _ (g.trans Grow.toks) ⟨_, rfl⟩))

def isHDN (x : Str) : Bool := !ipv4 x.cps && (!(x == "") && !(Txt.item x 0 == "." || Txt.item x (-1) == "."))
theorem isHDN_ok (B : Base h) {k : Nat} {x : Str} (hx : x.cps.size ≤ 1000000) : FunIs prog w h (k + 1) 7 "is_HDN" [.str x] (.bool (isHDN x)) := by
  refine FunIs.one (names := ["text"]) (p := "text") (n := 0) B.nolimit B.f7 (by decide +kernel) (by decide +kernel) (by decide +kernel) bind_7 rfl fun fd a A W₀ L => ?_
  obtain ⟨pa, hg, hp⟩ := B.pat
  unfold isHDN
  cases hb : ipv4 x.cps with
  | true => exact Ex.done (St.ifT (TsT.eq (Ts.search hg hp rfl (Ev.var 0 rfl rfl) hx) hb) (Ex.done (St.ret Ev.bool)))
  | false =>
    refine Ex.cons (St.ifF (TsT.eq (Ts.search hg hp rfl (Ev.var 0 rfl rfl) hx) hb) Ex.nil) ?_
    cases he : x == "" with
    | true => exact Ex.done (St.ifT (TsT.eq (Ts.cmp (Ev.var 0 rfl rfl) Ev.str Cmp.eqS) he) (Ex.done (St.ret Ev.bool)))
    | false =>
      refine Ex.cons (St.ifF (TsT.eq (Ts.cmp (Ev.var 0 rfl rfl) Ev.str Cmp.eqS) he) Ex.nil) ?_
      have hne : x.length ≠ 0 := fun q => by
        have : x = "" := by
          obtain ⟨a⟩ := x
          have : a = #[] := Array.eq_empty_of_size_eq_zero q
          subst this; rfl
        subst this; cases he
      have hc0 : (Txt.charAt x 0).isSome = true := by
        unfold Txt.charAt seqIndex?
        have : 0 < x.cps.size := by unfold Str.length at hne; omega
        simp [this, Str.length]
      have hc1 : (Txt.charAt x (-1)).isSome = true := by
        unfold Txt.charAt seqIndex?
        have : 0 < x.cps.size := by unfold Str.length at hne; omega
        have h2 : (-1 + (x.cps.size : Int)).toNat < x.cps.size := by omega
        have h3 : 0 ≤ -1 + (x.cps.size : Int) := by omega
        have h4 : -1 + (x.cps.size : Int) < x.cps.size := by omega
        simp [Str.length, h3, h4, h2]
      have T : ∀ {Γ : Fx} {ρ : List Sl} {e1 e2 e3 e4 e5 e6 : Expr} {p1 p2 p3 p4 pos : Pos} (q1 : EvT Γ e1 ρ (.str x)) (q2 : EvT Γ e2 ρ (.int 0)) (q3 : EvT Γ e3 ρ (.str ".")) (q4 : EvT Γ e4 ρ (.str x)) (q5 : EvT Γ e5 ρ (.int (-1))) (q6 : EvT Γ e6 ρ (.str "."))
          (m1 : behindInMarks .Eq e3 = false) (m2 : behindInMarks .Eq e6 = false),
          TsT Γ (.BoolOp .Or [.Compare (.Subscript e1 e2 p1) [.Eq] [e3] p2, .Compare (.Subscript e4 e5 p3) [.Eq] [e6] p4] pos) ρ (Txt.item x 0 == "." || Txt.item x (-1) == ".") := fun q1 q2 q3 q4 q5 q6 m1 m2 =>
        Ts.or (Ts.cmp (Ev.char q1 q2 (by decide) hc0) q3 Cmp.eqS m1) fun _ => Ts.cmp (Ev.char q4 q5 (by decide) hc1) q6 Cmp.eqS m2
      cases hd : (Txt.item x 0 == "." || Txt.item x (-1) == ".") with
      | true => exact Ex.done (St.ifT (TsT.eq (T (Ev.var 0 rfl rfl) Ev.int Ev.str (Ev.var 0 rfl rfl) (Ev.neg Ev.int) Ev.str rfl rfl) hd) (Ex.done (St.ret Ev.bool)))
      | false => exact Ex.cons (St.ifF (TsT.eq (T (Ev.var 0 rfl rfl) Ev.int Ev.str (Ev.var 0 rfl rfl) (Ev.neg Ev.int) Ev.str rfl rfl) hd) Ex.nil) (Ex.done (St.ret Ev.bool))
end
end Mine

namespace Mine
open PySem PyProof.Rows PySem.W PySem.Calls

theorem bind_9 (fd : FuncData) (v u : Value) (h1 : fd.params = argsAt 9) (h2 : fd.defaults = .none) (h3 : fd.kwdefaults = .none) : bindArgs fd ⟨[v, u], []⟩ = pure [(("A" : Str), v), ("B", u)] := by
  obtain ⟨a, b, c, d, e, f, g, h, i, j, k, l, m, n⟩ := fd
  simp only at h1 h2 h3
  subst h1 h2 h3
  rfl
theorem bind_10 (fd : FuncData) (v : Value) (h1 : fd.params = argsAt 10) (h2 : fd.defaults = .none) (h3 : fd.kwdefaults = .none) : bindArgs fd ⟨[v], []⟩ = pure [(("h" : Str), v)] := by
  obtain ⟨a, b, c, d, e, f, g, h, i, j, k, l, m, n⟩ := fd
  simp only at h1 h2 h3
  subst h1 h2 h3
  rfl

def udmLow (a b : Str) : Bool := if (!ipv4 a.cps && !ipv4 b.cps) = true then (if Txt.startswith b "." = true then Txt.endswith a b else a == b) else a == b
def udm (A B : Str) : Bool := udmLow (Txt.lower A) (Txt.lower B)

section
variable {prog : Program} {w : World} {h : Heap}

theorem udm_ok (B : Base h) {k : Nat} {x y : Str} (hx : (Txt.lower x).cps.size ≤ 1000000) (hy : (Txt.lower y).cps.size ≤ 1000000) : FunIs prog w h (k + 2) 9 "user_domain_match" [.str x, .str y] (.bool (udm x y)) := by
  have tl : ∀ {z : Str}, (Txt.lower z).cps.size ≤ 1000000 → Builtin.Str.tooLong (Txt.lower z).length = false := fun {z} q => by
    unfold Builtin.Str.tooLong Str.length
    have : sizeLine = 16777216 := rfl
    simp; omega
  refine FunIs.two (names := ["A", "B", "initial_dot"]) (p := "A") (q := "B") (n := 1) B.nolimit B.f9 (by decide +kernel) (by decide +kernel) (by decide +kernel) bind_9 rfl rfl fun fd a A W₀ L => ?_
  unfold udm
  generalize hu : Txt.lower x = u at *
  generalize hv : Txt.lower y = v at *
  refine Ex.cons (St.assign 0 ((Ev.lower (Ev.var 0 rfl rfl) (by rw [hu]; exact hu ▸ tl (by rw [hu]; exact hx))).eq (b' := .str u) (by rw [hu])) rfl) ?_
  refine Ex.cons (St.assign 1 ((Ev.lower (Ev.var 1 rfl rfl) (by rw [hv]; exact hv ▸ tl (by rw [hv]; exact hy))).eq (b' := .str v) (by rw [hv])) rfl) ?_
  unfold udmLow
  refine Ex.weak (ρ' := [.dat (.str u), .dat (.str v), .any]) (fun j σ hj => .inr hj) ?_
  cases hl : (!ipv4 u.cps && !ipv4 v.cps) with
  | false =>
    refine Ex.done (St.ifT (TsT.eq (Ts.not (Ts.and (Ts.bool (Ev.callF (liberal_ok (B.keeps fun _ _ e => e) (k := 0) hx) rfl (by show 0 + 1 ≤ k + 1; omega) (EvL.cons (Ev.var 0 rfl rfl) EvL.nil))) fun _ => (Ts.bool (Ev.callF (liberal_ok (B.keeps fun _ _ e => e) (k := 0) hy) rfl (by show 0 + 1 ≤ k + 1; omega) (EvL.cons (Ev.var 1 rfl rfl) EvL.nil))))) (by rw [hl]; rfl)) ?_)
    rw [if_neg (by decide)]
    cases he : u == v with
    | true => exact Ex.done (St.ifT (TsT.eq (Ts.cmp (Ev.var 0 rfl rfl) (Ev.var 1 rfl rfl) Cmp.eqS) he) (Ex.done (St.ret Ev.bool)))
    | false => exact Ex.cons (St.ifF (TsT.eq (Ts.cmp (Ev.var 0 rfl rfl) (Ev.var 1 rfl rfl) Cmp.eqS) he) Ex.nil) (Ex.done (St.ret Ev.bool))
  | true =>
    refine Ex.cons (St.ifF (TsT.eq (Ts.not (Ts.and (Ts.bool (Ev.callF (liberal_ok (B.keeps fun _ _ e => e) (k := 0) hx) rfl (by show 0 + 1 ≤ k + 1; omega) (EvL.cons (Ev.var 0 rfl rfl) EvL.nil))) fun _ => (Ts.bool (Ev.callF (liberal_ok (B.keeps fun _ _ e => e) (k := 0) hy) rfl (by show 0 + 1 ≤ k + 1; omega) (EvL.cons (Ev.var 1 rfl rfl) EvL.nil))))) (by rw [hl]; rfl)) Ex.nil) ?_
    rw [if_pos rfl]
    refine Ex.cons (St.assign 2 (Ev.startswith (Ev.var 1 rfl rfl) Ev.str) rfl) ?_
    have hd : ∀ z : Bool, (z == true) = z := fun z => by cases z <;> rfl
    cases hdot : Txt.startswith v "." with
    | true =>
      rw [if_pos rfl]
      cases hen : Txt.endswith u v with
      | true => exact Ex.done (St.ifT (TsT.eq (Ts.and (Ts.bool (Ev.var 2 rfl rfl)) fun _ => Ts.bool (Ev.endswith (Ev.var 0 rfl rfl) (Ev.var 1 rfl rfl))) (by first | rfl | (rw [hen]; rfl) | (rw [hdot, hen]; rfl))) (Ex.done (St.ret Ev.bool)))
      | false =>
        refine Ex.cons (St.ifF (TsT.eq (Ts.and (Ts.bool (Ev.var 2 rfl rfl)) fun _ => Ts.bool (Ev.endswith (Ev.var 0 rfl rfl) (Ev.var 1 rfl rfl))) (by first | rfl | (rw [hen]; rfl) | (rw [hdot, hen]; rfl))) Ex.nil) ?_
        exact Ex.cons (St.ifF (TsT.eq (Ts.and (Ts.not (Ts.bool (Ev.var 2 rfl rfl))) fun _ => Ts.cmp (Ev.var 0 rfl rfl) (Ev.var 1 rfl rfl) Cmp.eqS) (by first | rfl | (rw [hdot]; rfl))) Ex.nil) (Ex.done (St.ret Ev.bool))
    | false =>
      rw [if_neg (by decide)]
      refine Ex.cons (St.ifF (TsT.eq (Ts.and (Ts.bool (Ev.var 2 rfl rfl)) fun _ => Ts.bool (Ev.endswith (Ev.var 0 rfl rfl) (Ev.var 1 rfl rfl))) (by first | rfl | (rw [hdot]; rfl))) Ex.nil) ?_
      cases he : u == v with
      | true => exact Ex.done (St.ifT (TsT.eq (Ts.and (Ts.not (Ts.bool (Ev.var 2 rfl rfl))) fun _ => Ts.cmp (Ev.var 0 rfl rfl) (Ev.var 1 rfl rfl) Cmp.eqS) (by first | rfl | (rw [he]; rfl) | (rw [hdot, he]; rfl))) (Ex.done (St.ret Ev.bool)))
      | false => exact Ex.cons (St.ifF (TsT.eq (Ts.and (Ts.not (Ts.bool (Ev.var 2 rfl rfl))) fun _ => Ts.cmp (Ev.var 0 rfl rfl) (Ev.var 1 rfl rfl) Cmp.eqS) (by first | rfl | (rw [he]; rfl) | (rw [hdot, he]; rfl))) Ex.nil) (Ex.done (St.ret Ev.bool))

def reachF (x : Str) : Str :=
  if 0 ≤ Txt.find x "." then
    (let b := Txt.slice x (some (Txt.find x "." + 1)) none
     if (isHDN x && (decide (0 ≤ Txt.find b ".") || b == "local")) = true then (⟨#[46]⟩ : Str) ++ b else x)
  else x
theorem reach_ok (B : Base h) {k : Nat} {x : Str} (hx : x.cps.size ≤ 1000000) : FunIs prog w h (k + 2) 10 "reach" [.str x] (.str (reachF x)) := by
  refine FunIs.one (names := ["h", "i", "b"]) (p := "h") (n := 2) B.nolimit B.f10 (by decide +kernel) (by decide +kernel) (by decide +kernel) bind_10 rfl fun fd a A W₀ L => ?_
  unfold reachF
  have hsz : sizeLine = 16777216 := rfl
  refine Ex.cons (St.assign 1 (Ev.find (Ev.var 0 rfl rfl) Ev.str) rfl) ?_
  by_cases hf : 0 ≤ Txt.find x "."
  · rw [if_pos hf]
    have hl : (Txt.slice x (some (Txt.find x "." + 1)) none).length ≤ x.length := Txt.slice_le _ _ _
    have hx' : x.length ≤ 1000000 := hx
    generalize hb : Txt.slice x (some (Txt.find x "." + 1)) none = b at *
    cases hc : (isHDN x && (decide (0 ≤ Txt.find b ".") || b == "local")) with
    | true =>
      refine Ex.done (St.ifT (TsT.eq (Ts.cmp (Ev.var 1 rfl rfl) Ev.int Cmp.geI) (by simpa using hf)) ?_)
      refine Ex.cons (St.assign 2 (EvT.eq (b' := .str b) (Ev.text (lo := some _) (hi := none) (a := some (Txt.find x "." + 1)) (b := none) (Ev.var 0 rfl rfl) (Ev.add (Ev.var 1 rfl rfl) Ev.int) trivial (by rw [hsz]; omega)) (by rw [hb])) rfl) ?_
      refine Ex.cons (St.assign 1 (Ev.find (Ev.var 2 rfl rfl) Ev.str) rfl) ?_
      refine Ex.done (St.ifT (TsT.eq (Ts.and (Ts.bool (Ev.callF (isHDN_ok (B.keeps fun _ _ e => e) (k := 0) hx) rfl (by show 0 + 1 ≤ k + 1; omega) (EvL.cons (Ev.var 0 rfl rfl) EvL.nil))) fun _ => Ts.or (Ts.cmp (Ev.var 1 rfl rfl) Ev.int Cmp.geI) fun _ => Ts.cmp (Ev.var 2 rfl rfl) Ev.str Cmp.eqS) hc) ?_)
      refine Ex.done (St.ret (EvT.eq (b := .str ((⟨#[46]⟩ : Str) ++ b)) ?_ (by first | rfl | (rw [if_pos hc]) | (simp only [hc]; rfl))))
      exact Ev.cat Ev.str (Ev.var 2 rfl rfl) (by rw [hsz]; show 1 + b.length ≤ _; omega)
    | false =>
      refine Ex.cons (ρ' := [.dat (.str x), .dat (.int (Txt.find b ".")), .dat (.str b)]) (St.ifT (TsT.eq (Ts.cmp (Ev.var 1 rfl rfl) Ev.int Cmp.geI) (by simpa using hf)) ?_) (Ex.done (St.ret (EvT.eq (b := .str x) (Ev.var 0 rfl rfl) (by first | rfl | (rw [if_neg (by rw [hc]; decide)]) | (simp only [hc]; rfl)))))
      refine Ex.cons (St.assign 2 (EvT.eq (b' := .str b) (Ev.text (lo := some _) (hi := none) (a := some (Txt.find x "." + 1)) (b := none) (Ev.var 0 rfl rfl) (Ev.add (Ev.var 1 rfl rfl) Ev.int) trivial (by rw [hsz]; omega)) (by rw [hb])) rfl) ?_
      refine Ex.cons (St.assign 1 (Ev.find (Ev.var 2 rfl rfl) Ev.str) rfl) ?_
      refine Ex.cons (St.ifF (TsT.eq (Ts.and (Ts.bool (Ev.callF (isHDN_ok (B.keeps fun _ _ e => e) (k := 0) hx) rfl (by show 0 + 1 ≤ k + 1; omega) (EvL.cons (Ev.var 0 rfl rfl) EvL.nil))) fun _ => Ts.or (Ts.cmp (Ev.var 1 rfl rfl) Ev.int Cmp.geI) fun _ => Ts.cmp (Ev.var 2 rfl rfl) Ev.str Cmp.eqS) hc) Ex.nil) Ex.nil
  · rw [if_neg hf]
    refine Ex.cons (St.ifF (TsT.eq (Ts.cmp (Ev.var 1 rfl rfl) Ev.int Cmp.geI) (by simpa using hf)) Ex.nil) (Ex.done (St.ret (Ev.var 0 rfl rfl)))
end
end Mine

namespace Mine
open PySem PyProof.Rows PySem.W PySem.Calls

theorem bind_3 (fd : FuncData) (v : Value) (h1 : fd.params = argsAt 3) (h2 : fd.defaults = .none) (h3 : fd.kwdefaults = .none) : bindArgs fd ⟨[v], []⟩ = pure [(("addr" : Str), v)] := by
  obtain ⟨a, b, c, d, e, f, g, h, i, j, k, l, m, n⟩ := fd
  simp only at h1 h2 h3
  subst h1 h2 h3
  rfl
theorem bind_4 (fd : FuncData) (v : Value) (h1 : fd.params = argsAt 4) (h2 : fd.defaults = .none) (h3 : fd.kwdefaults = .none) : bindArgs fd ⟨[v], []⟩ = pure [(("addr" : Str), v)] := by
  obtain ⟨a, b, c, d, e, f, g, h, i, j, k, l, m, n⟩ := fd
  simp only at h1 h2 h3
  subst h1 h2 h3
  rfl
theorem bind_2 (fd : FuncData) (v : Value) (h1 : fd.params = argsAt 2) (h2 : fd.defaults = .none) (h3 : fd.kwdefaults = .none) : bindArgs fd ⟨[v], []⟩ = pure [(("addr" : Str), v)] := by
  obtain ⟨a, b, c, d, e, f, g, h, i, j, k, l, m, n⟩ := fd
  simp only at h1 h2 h3
  subst h1 h2 h3
  rfl

/-- the items that the generator hands out -/
def outsP : List Nat → Nat → Bool → List (Int × Str)
  | [], i, esc => if esc = true then [((i : Int) - 1, ⟨#[92]⟩)] else []
  | c :: cs, i, true => ((i : Int), ⟨#[92, c]⟩) :: outsP cs (i + 1) false
  | c :: cs, i, false => if c = 92 then outsP cs (i + 1) true else ((i : Int), ⟨#[c]⟩) :: outsP cs (i + 1) false
def pairP (p : Int × Str) : D := pairD p.1 p.2
theorem outs_eq : ∀ (cs : List Nat) (i : Nat) (esc : Bool), outs cs i esc = (outsP cs i esc).map pairP
  | [], i, esc => by cases esc <;> rfl
  | c :: cs, i, true => by simp [outs, outsP, pairP, outs_eq cs]
  | c :: cs, i, false => by
    unfold outs outsP
    by_cases h : c = 92
    · rw [if_pos h, if_pos h, outs_eq cs]
    · rw [if_neg h, if_neg h, List.map_cons, outs_eq cs]; rfl
theorem outsP_len : ∀ (cs : List Nat) (i : Nat) (esc : Bool), (outsP cs i esc).length ≤ cs.length + 1
  | [], i, esc => by cases esc <;> simp [outsP]
  | c :: cs, i, true => by have := outsP_len cs (i + 1) false; simp [outsP]; omega
  | c :: cs, i, false => by
    unfold outsP
    by_cases h : c = 92
    · rw [if_pos h]; have := outsP_len cs (i + 1) true; simp; omega
    · rw [if_neg h]; have := outsP_len cs (i + 1) false; simp; omega

theorem DefIs.genFn {fd : FuncData} (H : DefIs 2 fd) : GenFn fd where
  body := H.body
  co := by rw [H.scope]; rfl
  gen := by rw [H.scope]; rfl
  kind := by rw [H.scope]; rfl
  closure := H.closure
  glob := H.globals
  bltn := H.builtins
  kinds := by rw [H.scope]; decide +kernel
  cells := fun n => by rw [H.scope]; rfl
  enum := by rw [H.scope]; decide +kernel
  bind := fun v => bind_2 fd v H.params H.defaults H.kwdefaults

theorem Src.iter {Γ : Fx} {ρ : List Sl} {pos np : Pos} {e : Expr} {x : Str} (B : Base Γ.h₁) (hx : Γ.env.kindOf "_iter_escaped_chars" = some .globalImplicit) (h : EvT Γ e ρ (.str x)) (hk : 2 ≤ Γ.k) (he : starEach [e] Γ.env = [(false, eval e Γ.env)] := by rfl) :
    SrcG Γ (.Call (.Name "_iter_escaped_chars" np) [e] [] pos) ρ ((outsP x.cps.toList 0 false).map pairP) := by
  obtain ⟨a, fd, H⟩ := B.f2
  rw [← outs_eq]
  exact Src.gen H.1 H.2.1 H.2.2.genFn B.nolimit B.enumerate hx h hk (by decide +kernel) he

/-- the loop of _strip_quoted_realnames -/
def stripL (x : Str) : List (Int × Str) → Int → Option Int → List Str → Int × List Str
  | [], a, _, rs => (a, rs)
  | (p, c) :: r, a, o, rs => if (c == (⟨#[34]⟩ : Str)) = true then (match o with
      | none => stripL x r a (some p) rs
      | some q => stripL x r (p + 1) none (if (a != q) = true then rs ++ [Txt.slice x (some a) (some q)] else rs)) else stripL x r a o rs
def optD : Option Int → D
  | none => .none
  | some i => .int i

def sTarget : Expr := match bodyAt 3 with | [_, _, _, _, .For t _ _ _ _, _, _] => t | _ => .Name "" default
def sLoop : List Stmt := match bodyAt 3 with | [_, _, _, _, .For _ _ b _ _, _, _] => b | _ => []

def sNames : List Str := ["addr", "start", "open_pos", "result", "pos", "ch"]

theorem strsD_app (rs : List Str) (x : Str) : strsD rs ++ [.str x] = strsD (rs ++ [x]) := by simp [strsD]

theorem strip_turn {prog : Program} {w : World} {h : Heap} {fd : FuncData} {a0 : Addr} {k : Nat} {A : Around} {W₀ : Addr → Prop} {L : Addr} {x : Str} (hx : x.length ≤ 1000) {p : Int} {c : Str} {a : Int} {o : Option Int} {rs : List Str} (hl : rs.length ≤ 10000) :
    ExT (mkF prog w h sNames { fd with scope := scopeAt 3 } a0 k A W₀ L) sLoop [.dat (.str x), .dat (.int a), .dat (optD o), .own (strsD rs), .dat (.int p), .dat (.str c)]
      (.next (if (c == (⟨#[34]⟩ : Str)) = true then (match o with
        | none => [.dat (.str x), .dat (.int a), .dat (.int p), .own (strsD rs), .dat (.int p), .dat (.str c)]
        | some q => [.dat (.str x), .dat (.int (p + 1)), .dat .none, .own (strsD (if (a != q) = true then rs ++ [Txt.slice x (some a) (some q)] else rs)), .dat (.int p), .dat (.str c)])
        else [.dat (.str x), .dat (.int a), .dat (optD o), .own (strsD rs), .dat (.int p), .dat (.str c)])) := by
  have hsz : sizeLine = 16777216 := rfl
  cases hc : c == (⟨#[34]⟩ : Str) with
  | false => exact Ex.cons (St.ifF (TsT.eq (Ts.cmp (Ev.var 5 rfl rfl) Ev.str Cmp.eqS) hc) Ex.nil) Ex.nil
  | true =>
    rw [if_pos rfl]
    refine Ex.cons (St.ifT (TsT.eq (Ts.cmp (Ev.var 5 rfl rfl) Ev.str Cmp.eqS) hc) ?_) Ex.nil
    cases o with
    | none =>
      exact Ex.cons (St.ifT (Ts.cmp (a := .none) (Ev.var 2 rfl rfl) Ev.none Cmp.isNoneN) (Ex.cons (St.assign 2 (Ev.var 4 rfl rfl) rfl) Ex.nil)) Ex.nil
    | some q =>
      dsimp only
      refine Ex.cons (St.ifF (Ts.cmp (a := .int q) (Ev.var 2 rfl rfl) Ev.none Cmp.isNoneI) ?_) Ex.nil
      cases ha : a != q with
      | false =>
        rw [if_neg (by decide)]
        exact Ex.cons (St.ifF (TsT.eq (Ts.cmp (a := .int a) (b := .int q) (Ev.var 1 rfl rfl) (Ev.var 2 rfl rfl) Cmp.neI) ha) Ex.nil) (Ex.cons (St.assign 1 (Ev.add (Ev.var 4 rfl rfl) Ev.int) rfl) (Ex.cons (St.assign 2 Ev.none rfl) Ex.nil))
      | true =>
        rw [if_pos rfl, ← strsD_app]
        refine Ex.cons (ρ' := [.dat (.str x), .dat (.int a), .dat (.int q), .own (strsD rs ++ [.str (Txt.slice x (some a) (some q))]), .dat (.int p), .dat (.str c)]) (St.ifT (TsT.eq (Ts.cmp (a := .int a) (b := .int q) (Ev.var 1 rfl rfl) (Ev.var 2 rfl rfl) Cmp.neI) ha) ?_) (Ex.cons (St.assign 1 (Ev.add (Ev.var 4 rfl rfl) Ev.int) rfl) (Ex.cons (St.assign 2 Ev.none rfl) Ex.nil))
        exact Ex.cons (St.append 3 rfl rfl (Ev.text (lo := some _) (hi := some _) (a := some a) (b := some q) (Ev.var 0 rfl rfl) (Ev.var 1 rfl rfl) (Ev.var 2 rfl rfl) (by rw [hsz]; omega)) (by simp [strsD, hsz]; omega)) Ex.nil

theorem strip_loop {prog : Program} {w : World} {h : Heap} {fd : FuncData} {a0 : Addr} {k : Nat} {A : Around} {W₀ : Addr → Prop} {L : Addr} {x : Str} (hx : x.length ≤ 1000) : ∀ (ps : List (Int × Str)) (a : Int) (o : Option Int) (rs : List Str) (σ τ : Sl), rs.length + ps.length ≤ 10000 →
    ∃ o' σ' τ', LoopR (mkF prog w h sNames { fd with scope := scopeAt 3 } a0 k A W₀ L) (bind2 4 5) sLoop (ps.map pairP) [.dat (.str x), .dat (.int a), .dat (optD o), .own (strsD rs), σ, τ]
      (.next [.dat (.str x), .dat (.int (stripL x ps a o rs).1), .dat o', .own (strsD (stripL x ps a o rs).2), σ', τ'])
  | [], a, o, rs, σ, τ, _ => ⟨_, _, _, .nil⟩
  | (p, c) :: r, a, o, rs, σ, τ, hl => by
    have T := strip_turn (prog := prog) (w := w) (h := h) (fd := fd) (a0 := a0) (k := k) (A := A) (W₀ := W₀) (L := L) hx (p := p) (c := c) (a := a) (o := o) (rs := rs) (by simp at hl; omega)
    unfold stripL
    cases hc : c == (⟨#[34]⟩ : Str) with
    | false =>
      rw [hc, if_neg (by decide)] at T
      obtain ⟨o', σ', τ', ih⟩ := strip_loop hx r a o rs (.dat (.int p)) (.dat (.str c)) (by simp at hl; omega)
      exact ⟨o', σ', τ', .next rfl T ih⟩
    | true =>
      rw [hc, if_pos rfl] at T
      rw [if_pos rfl]
      cases o with
      | none =>
        obtain ⟨o', σ', τ', ih⟩ := strip_loop hx r a (some p) rs (.dat (.int p)) (.dat (.str c)) (by simp at hl; omega)
        exact ⟨o', σ', τ', .next rfl T ih⟩
      | some q =>
        have hl2 : (if (a != q) = true then rs ++ [Txt.slice x (some a) (some q)] else rs).length ≤ rs.length + 1 := by split <;> simp
        obtain ⟨o', σ', τ', ih⟩ := strip_loop hx r (p + 1) none (if (a != q) = true then rs ++ [Txt.slice x (some a) (some q)] else rs) (.dat (.int p)) (.dat (.str c)) (by simp at hl; omega)
        exact ⟨o', σ', τ', .next rfl T ih⟩
end Mine

namespace Mine
open PySem PyProof.Rows PySem.W PySem.Calls

theorem stripL_fit {x : Str} (hx : x.length ≤ 1000) : ∀ (ps : List (Int × Str)) (a : Int) (o : Option Int) (rs : List Str), (∀ y ∈ rs, y.length ≤ 1000) → (∀ y ∈ (stripL x ps a o rs).2, y.length ≤ 1000) ∧ (stripL x ps a o rs).2.length ≤ rs.length + ps.length
  | [], a, o, rs, h => ⟨h, by simp [stripL]⟩
  | (p, c) :: r, a, o, rs, h => by
    unfold stripL
    split
    · cases o with
      | none => have := stripL_fit hx r a (some p) rs h; exact ⟨this.1, by have := this.2; simp; omega⟩
      | some q =>
        have hs : (Txt.slice x (some a) (some q)).length ≤ 1000 := Nat.le_trans (Txt.slice_le _ _ _) hx
        have := stripL_fit hx r (p + 1) none (if (a != q) = true then rs ++ [Txt.slice x (some a) (some q)] else rs) (fun y hy => by
          split at hy
          · rcases List.mem_append.mp hy with hy | hy
            · exact h y hy
            · rw [List.mem_singleton.mp hy]; exact hs
          · exact h y hy)
        refine ⟨this.1, ?_⟩
        have h2 := this.2
        have hl2 : (if (a != q) = true then rs ++ [Txt.slice x (some a) (some q)] else rs).length ≤ rs.length + 1 := by split <;> simp
        dsimp only at h2 ⊢
        simp only [List.length_cons]; omega
    · have := stripL_fit hx r a o rs h; exact ⟨this.1, by have := this.2; simp; omega⟩

def sTail : List Stmt := match bodyAt 3 with | [_, _, _, _, _, _, z] => [z] | _ => []
def stripF (x : Str) : Str :=
  if (!Txt.contains x (⟨#[34]⟩ : Str)) = true then x
  else
    (let r := stripL x (outsP x.cps.toList 0 false) 0 none []
     Txt.join "" (if decide (r.1 < x.length) = true then r.2 ++ [Txt.slice x (some r.1) none] else r.2))

theorem sum_le {ys : List Str} {n : Nat} (h : ∀ y ∈ ys, y.length ≤ n) : (ys.map (·.length)).sum ≤ ys.length * n := by
  induction ys with
  | nil => simp
  | cons y r ih =>
    have := ih fun z hz => h z (.tail _ hz)
    have := h y (.head _)
    simp only [List.map_cons, List.sum_cons, List.length_cons, Nat.add_mul]
    omega

section
variable {prog : Program} {w : World} {h : Heap}
theorem strip_ok (B : Base h) {k : Nat} {x : Str} (hx : x.length ≤ 1000) : FunIs prog w h (k + 3) 3 "_strip_quoted_realnames" [.str x] (.str (stripF x)) := by
  have hsz : sizeLine = 16777216 := rfl
  refine FunIs.one (names := sNames) (p := "addr") (n := 5) B.nolimit B.f3 (by decide +kernel) (by decide +kernel) (by decide +kernel) bind_3 rfl fun fd a A W₀ L => ?_
  unfold stripF
  cases hq : (!Txt.contains x (⟨#[34]⟩ : Str)) with
  | true => exact Ex.done (St.ifT (TsT.eq (Ts.cmp Ev.str (Ev.var 0 rfl rfl) Cmp.notInS) hq) (Ex.done (St.ret (Ev.var 0 rfl rfl))))
  | false =>
    rw [if_neg (by decide)]
    refine Ex.cons (St.ifF (TsT.eq (Ts.cmp Ev.str (Ev.var 0 rfl rfl) Cmp.notInS) hq) Ex.nil) ?_
    refine Ex.cons (St.assign 1 Ev.int rfl) (Ex.cons (St.assign 2 Ev.none rfl) (Ex.cons (St.make 3 EvL.nil rfl) ?_))
    have hlen := outsP_len x.cps.toList 0 false
    have hlen' : x.cps.toList.length ≤ 1000 := by simpa [Str.length] using hx
    obtain ⟨o', σ', τ', hl⟩ := strip_loop (prog := prog) (w := w) (h := h) (fd := fd) (a0 := a) (k := k + 2) (A := A) (W₀ := W₀) (L := L) hx (outsP x.cps.toList 0 false) 0 none [] .any .any (by simp; omega)
    have fit := stripL_fit hx (outsP x.cps.toList 0 false) 0 none [] (fun _ h => nomatch h)
    refine Ex.cons (St.forG B.nolimit (Src.iter (x := x) B rfl (Ev.var 0 rfl rfl) (by show 2 ≤ k + 2; omega)) (Asg.pair 4 5 rfl rfl) hl) ?_
    generalize stripL x (outsP x.cps.toList 0 false) 0 none [] = r at *
    dsimp only
    have hx' : x.length ≤ sizeLine := by rw [hsz]; omega
    have fin : ∀ (ys : List Str), (∀ y ∈ ys, y.length ≤ 1000) → ys.length ≤ 1002 → ExT (mkF prog w h sNames { fd with scope := scopeAt 3 } a (k + 2) A W₀ L) sTail [.dat (.str x), .dat (.int r.1), .dat o', .own (strsD ys), σ', τ'] (.ret (.str (Txt.join "" ys))) := fun ys h1 h2 =>
      Ex.freeze 3 rfl rfl (Ex.done (St.ret (Ev.join (ys := ys) Ev.str (Ev.var 3 rfl rfl) (by
        have := sum_le h1
        have : ys.length * 1000 ≤ 1002 * 1000 := Nat.mul_le_mul_right _ h2
        show _ + ys.length * 0 ≤ _
        omega))))
    cases hb : decide (r.1 < (x.length : Int)) with
    | true =>
      rw [if_pos rfl]
      refine Ex.cons (St.ifT (TsT.eq (Ts.cmp (Ev.var 1 rfl rfl) (Ev.bcall B.len rfl (EvL.cons (Ev.var 0 rfl rfl) EvL.nil) (Bt.lenS hx')) Cmp.ltI) hb) (Ex.cons (St.append 3 rfl rfl (Ev.text (lo := some _) (hi := none) (a := some r.1) (b := none) (Ev.var 0 rfl rfl) (Ev.var 1 rfl rfl) trivial hx') (by simp [strsD, hsz]; have := fit.2; simp at this; omega)) Ex.nil)) ?_
      rw [strsD_app]
      refine fin _ (fun y hy => ?_) (by have := fit.2; simp at this ⊢; omega)
      rcases List.mem_append.mp hy with hy | hy
      · exact fit.1 y hy
      · rw [List.mem_singleton.mp hy]; exact Nat.le_trans (Txt.slice_le _ _ _) hx
    | false =>
      rw [if_neg (by decide)]
      refine Ex.cons (St.ifF (TsT.eq (Ts.cmp (Ev.var 1 rfl rfl) (Ev.bcall B.len rfl (EvL.cons (Ev.var 0 rfl rfl) EvL.nil) (Bt.lenS hx')) Cmp.ltI) hb) Ex.nil) ?_
      exact fin _ fit.1 (by have := fit.2; simp at this ⊢; omega)
end
end Mine

namespace Mine
open PySem PyProof.Rows PySem.W PySem.Calls

/-- the loop of _check_parenthesis: none, it left with False -/
def checkL : List (Int × Str) → Int → Option Int
  | [], n => some n
  | (_, c) :: r, n => if (c == (⟨#[40]⟩ : Str)) = true then checkL r (n + 1) else if (c == (⟨#[41]⟩ : Str)) = true then (if decide (n - 1 < 0) = true then none else checkL r (n - 1)) else checkL r n
def checkF (x : Str) : Bool := match checkL (outsP (stripF x).cps.toList 0 false) 0 with
  | none => false
  | some n => n == 0

def cLoop : List Stmt := match bodyAt 4 with | [_, _, .For _ _ b _ _, _] => b | _ => []
def cNames : List Str := ["addr", "opens", "pos", "ch"]

theorem check_loop {prog : Program} {w : World} {h : Heap} {fd : FuncData} {a0 : Addr} {k : Nat} {A : Around} {W₀ : Addr → Prop} {L : Addr} {x : Str} : ∀ (ps : List (Int × Str)) (n : Int) (σ τ : Sl),
    (checkL ps n = none → LoopR (mkF prog w h cNames { fd with scope := scopeAt 4 } a0 k A W₀ L) (bind2 2 3) cLoop (ps.map pairP) [.dat (.str x), .dat (.int n), σ, τ] (.ret (.bool false))) ∧
    (∀ m, checkL ps n = some m → ∃ σ' τ', LoopR (mkF prog w h cNames { fd with scope := scopeAt 4 } a0 k A W₀ L) (bind2 2 3) cLoop (ps.map pairP) [.dat (.str x), .dat (.int n), σ, τ] (.next [.dat (.str x), .dat (.int m), σ', τ']))
  | [], n, σ, τ => ⟨(fun q => by cases q), fun m q => by cases q; exact ⟨_, _, .nil⟩⟩
  | (p, c) :: r, n, σ, τ => by
    unfold checkL
    have hb : bind2 2 3 (pairP (p, c)) [Sl.dat (.str x), .dat (.int n), σ, τ] = some [Sl.dat (.str x), .dat (.int n), .dat (.int p), .dat (.str c)] := rfl
    cases h1 : c == (⟨#[40]⟩ : Str) with
    | true =>
      rw [if_pos rfl]
      have T : ExT (mkF prog w h cNames { fd with scope := scopeAt 4 } a0 k A W₀ L) cLoop [Sl.dat (.str x), .dat (.int n), .dat (.int p), .dat (.str c)] (.next [Sl.dat (.str x), .dat (.int (n + 1)), .dat (.int p), .dat (.str c)]) :=
        Ex.cons (St.ifT (TsT.eq (Ts.cmp (Ev.var 3 rfl rfl) Ev.str Cmp.eqS) h1) (Ex.cons (St.iadd 1 rfl rfl Ev.int) Ex.nil)) Ex.nil
      have ih := check_loop (prog := prog) (w := w) (h := h) (fd := fd) (a0 := a0) (k := k) (A := A) (W₀ := W₀) (L := L) (x := x) r (n + 1) (.dat (.int p)) (.dat (.str c))
      refine ⟨fun q => .next hb T (ih.1 q), fun m q => ?_⟩
      obtain ⟨σ', τ', z⟩ := ih.2 m q
      exact ⟨σ', τ', .next hb T z⟩
    | false =>
      rw [if_neg (by decide)]
      cases h2 : c == (⟨#[41]⟩ : Str) with
      | false =>
        rw [if_neg (by decide)]
        have T : ExT (mkF prog w h cNames { fd with scope := scopeAt 4 } a0 k A W₀ L) cLoop [Sl.dat (.str x), .dat (.int n), .dat (.int p), .dat (.str c)] (.next [Sl.dat (.str x), .dat (.int n), .dat (.int p), .dat (.str c)]) :=
          Ex.cons (St.ifF (TsT.eq (Ts.cmp (Ev.var 3 rfl rfl) Ev.str Cmp.eqS) h1) (Ex.cons (St.ifF (TsT.eq (Ts.cmp (Ev.var 3 rfl rfl) Ev.str Cmp.eqS) h2) Ex.nil) Ex.nil)) Ex.nil
        have ih := check_loop (prog := prog) (w := w) (h := h) (fd := fd) (a0 := a0) (k := k) (A := A) (W₀ := W₀) (L := L) (x := x) r n (.dat (.int p)) (.dat (.str c))
        refine ⟨fun q => .next hb T (ih.1 q), fun m q => ?_⟩
        obtain ⟨σ', τ', z⟩ := ih.2 m q
        exact ⟨σ', τ', .next hb T z⟩
      | true =>
        rw [if_pos rfl]
        cases h3 : decide (n - 1 < 0) with
        | true =>
          rw [if_pos rfl]
          have T : ExT (mkF prog w h cNames { fd with scope := scopeAt 4 } a0 k A W₀ L) cLoop [Sl.dat (.str x), .dat (.int n), .dat (.int p), .dat (.str c)] (.ret (.bool false)) :=
            Ex.done (St.ifF (TsT.eq (Ts.cmp (Ev.var 3 rfl rfl) Ev.str Cmp.eqS) h1) (Ex.done (St.ifT (TsT.eq (Ts.cmp (Ev.var 3 rfl rfl) Ev.str Cmp.eqS) h2) (Ex.cons (St.isub 1 rfl rfl Ev.int) (Ex.done (St.ifT (TsT.eq (Ts.cmp (Ev.var 1 rfl rfl) Ev.int Cmp.ltI) h3) (Ex.done (St.ret Ev.bool))))))))
          exact ⟨fun _ => .ret hb T, fun m q => by cases q⟩
        | false =>
          rw [if_neg (by decide)]
          have T : ExT (mkF prog w h cNames { fd with scope := scopeAt 4 } a0 k A W₀ L) cLoop [Sl.dat (.str x), .dat (.int n), .dat (.int p), .dat (.str c)] (.next [Sl.dat (.str x), .dat (.int (n - 1)), .dat (.int p), .dat (.str c)]) :=
            Ex.cons (St.ifF (TsT.eq (Ts.cmp (Ev.var 3 rfl rfl) Ev.str Cmp.eqS) h1) (Ex.cons (St.ifT (TsT.eq (Ts.cmp (Ev.var 3 rfl rfl) Ev.str Cmp.eqS) h2) (Ex.cons (St.isub 1 rfl rfl Ev.int) (Ex.cons (St.ifF (TsT.eq (Ts.cmp (Ev.var 1 rfl rfl) Ev.int Cmp.ltI) h3) Ex.nil) Ex.nil))) Ex.nil)) Ex.nil
          have ih := check_loop (prog := prog) (w := w) (h := h) (fd := fd) (a0 := a0) (k := k) (A := A) (W₀ := W₀) (L := L) (x := x) r (n - 1) (.dat (.int p)) (.dat (.str c))
          refine ⟨fun q => .next hb T (ih.1 q), fun m q => ?_⟩
          obtain ⟨σ', τ', z⟩ := ih.2 m q
          exact ⟨σ', τ', .next hb T z⟩

section
variable {prog : Program} {w : World} {h : Heap}
theorem check_ok (B : Base h) {k : Nat} {x : Str} (hx : x.length ≤ 1000) : FunIs prog w h (k + 4) 4 "_check_parenthesis" [.str x] (.bool (checkF x)) := by
  refine FunIs.one (names := cNames) (p := "addr") (n := 3) B.nolimit B.f4 (by decide +kernel) (by decide +kernel) (by decide +kernel) bind_4 rfl fun fd a A W₀ L => ?_
  refine Ex.cons (St.assign 0 (Ev.callF (strip_ok (B.keeps fun _ _ e => e) (k := 0) hx) rfl (by show 0 + 3 ≤ k + 3; omega) (EvL.cons (Ev.var 0 rfl rfl) EvL.nil)) rfl) ?_
  refine Ex.cons (St.assign 1 Ev.int rfl) ?_
  unfold checkF
  have ih := check_loop (prog := prog) (w := w) (h := h) (fd := fd) (a0 := a) (k := k + 3) (A := A) (W₀ := W₀) (L := L) (x := stripF x) (outsP (stripF x).cps.toList 0 false) 0 .any .any
  have S : ∀ {pos np p2 : Pos}, SrcG (mkF prog w h cNames { fd with scope := scopeAt 4 } a (k + 3) A W₀ L) (.Call (.Name "_iter_escaped_chars" np) [.Name "addr" p2] [] pos) [Sl.dat (.str (stripF x)), .dat (.int 0), .any, .any] ((outsP (stripF x).cps.toList 0 false).map pairP) :=
    Src.iter (x := stripF x) B rfl (Ev.var 0 rfl rfl) (by show 2 ≤ k + 3; omega)
  cases hc : checkL (outsP (stripF x).cps.toList 0 false) 0 with
  | none => exact Ex.done (St.forG B.nolimit S (Asg.pair 2 3 rfl rfl) (ih.1 hc))
  | some m =>
    obtain ⟨σ', τ', z⟩ := ih.2 m hc
    exact Ex.cons (St.forG B.nolimit S (Asg.pair 2 3 rfl rfl) z) (Ex.done (St.ret (Ev.cmp (Ev.var 1 rfl rfl) Ev.int Cmp.eqI)))
end
end Mine

namespace Mine
open PySem PyProof.Rows PySem.W PySem.Calls

theorem bind_12 (fd : FuncData) (v : Value) (h1 : fd.params = argsAt 12) (h2 : fd.defaults = .none) (h3 : fd.kwdefaults = .none) : bindArgs fd ⟨[v], []⟩ = pure [(("script" : Str), v)] := by
  obtain ⟨a, b, c, d, e, f, g, h, i, j, k, l, m, n⟩ := fd
  simp only at h1 h2 h3
  subst h1 h2 h3
  rfl

def labN (d : Nat) : Str := if d = 0 then ⟨#[40]⟩ else if d = 1 then ⟨#[55, 41]⟩ else ⟨#[92, 34, 40]⟩
def rowN (n : Nat) : List Str := (List.range (n % 4)).map fun k => labN (n / 4 / 3 ^ k % 3)
def rowD (r : List Str) : D := .list (strsD r)
def rowsD (rs : List (List Str)) : D := .list (rs.map rowD)

def rBody : List Stmt := match bodyAt 12 with | [_, .For _ _ b _ _, _] => b | _ => []
def rComp : Expr := match rBody with | [_, .Expr (.Call _ [c] _ _) _] => c | _ => .Name "" default
def rScope : Scope := match rComp with | .ListComp _ _ s _ => s | _ => default
def rNames : List Str := ["script", "rows", "x", "n"]

section
variable {prog : Program} {w : World} {h : Heap} {fd : FuncData} {a0 : Addr} {k : Nat} {A : Around} {W₀ : Addr → Prop} {L : Addr}

theorem rows_compOk : CompOk (mkF prog w h rNames { fd with scope := scopeAt 12 } a0 k A W₀ L) rScope none "k" ["k", "n"] where
  kind := rfl
  cell := ⟨fun _ _ => rfl, fun _ => rfl⟩
  nodup := by decide +kernel
  free := fun y hy hk => by
    have : y ∈ [((".0" : Str), NameKind.local), ("k", .local), ("n", .free)] := hy
    simp only [List.mem_cons, List.not_mem_nil, or_false] at this
    rcases this with q | q | q
    · subst q; cases hk
    · subst q; cases hk
    · subst q; exact ⟨L + 1, rfl⟩
  local_ := fun y hy hk => by
    have : y ∈ [((".0" : Str), NameKind.local), ("k", .local), ("n", .free)] := hy
    simp only [List.mem_cons, List.not_mem_nil, or_false] at this
    rcases this with q | q | q
    · subst q; rfl
    · subst q; rfl
    · subst q; cases hk
  x0 := rfl
  xk := .inl ⟨rfl, rfl⟩
  others := fun y hy hx => by
    have : y ∈ [("k" : Str), "n"] := hy
    simp only [List.mem_cons, List.not_mem_nil, or_false] at this
    rcases this with q | q
    · exact absurd q hx
    · subst q
      refine ⟨rfl, ?_⟩
      show _ ∈ [((".0" : Str), NameKind.local), ("k", .local), ("n", .free)]
      simp
  ocx := fun r q => by cases q

def rF (n : Nat) : D → D
  | .int j => .str (labN (n / 4 / 3 ^ j.toNat % 3))
  | d => d

theorem digit_int (n j : Nat) : (((n : Int).fdiv 4).fdiv (3 ^ (j : Int).toNat)).fmod 3 = ((n / 4 / 3 ^ j % 3 : Nat) : Int) := by
  have e3 : ((3 : Int) ^ j) = ((3 ^ j : Nat) : Int) := by simp
  rw [Int.toNat_natCast, e3]
  rw [Int.fdiv_eq_ediv_of_nonneg _ (Int.natCast_nonneg _ : (0 : Int) ≤ ((3 ^ j : Nat) : Int)), Int.fdiv_eq_ediv_of_nonneg _ (by decide : (0 : Int) ≤ 4), Int.fmod_eq_emod_of_nonneg _ (by decide)]
  simp

theorem mem_range {n : Nat} {d : D} (h : d ∈ rangeD 0 1 n) : ∃ j : Nat, j < n ∧ d = .int j := by
  unfold rangeD at h
  obtain ⟨j, hj, rfl⟩ := List.mem_map.mp h
  exact ⟨j, List.mem_range.mp hj, by simp⟩

theorem lab_get : ∀ (q : Nat), q < 3 → [D.str ⟨#[40]⟩, .str ⟨#[55, 41]⟩, .str ⟨#[92, 34, 40]⟩][q]? = some (.str (labN q))
  | 0, _ => rfl
  | 1, _ => rfl
  | 2, _ => rfl

theorem rows_compT (hr : BltnIs h "range" (.type "range")) (n : Nat) (hn : n < 1000000) {ρ : List Sl} (h3 : ρ[3]? = some (.dat (.int n))) : ∃ elt iter px pos, rComp = .ListComp elt [⟨.Name "k" px, iter, [], 0⟩] rScope pos ∧
    CompT (mkF prog w h rNames { fd with scope := scopeAt 12 } a0 k A W₀ L) ρ elt iter "k" [] rScope none ["k", "n"] [.any, .dat (.int n)] (rangeD 0 1 (n % 4)) (rF n) (fun _ => true) := by
  have hsz : sizeLine = 16777216 := rfl
  refine ⟨_, _, _, _, rfl, ?_, rows_compOk, ?_, fun φ L' C d hd => .inl ⟨rfl, rfl⟩, ?_, ?_, fun _ => rfl⟩
  · refine Src.range1 hr rfl (EvT.eq (b' := .int ((n % 4 : Nat) : Int)) (Ev.mod (Ev.var 3 rfl h3) Ev.int) ?_) (n % 4) rfl (by omega)
    rw [Int.fmod_eq_emod_of_nonneg _ (by decide)]; simp
  · intro j σ m hj hm
    match j with
    | 0 => left; simpa using hj.symm
    | 1 =>
      right
      have e1 : σ = .dat (.int n) := by simpa using hj.symm
      have e2 : m = "n" := by
        have : some ("n" : Str) = some m := hm
        exact (Option.some.inj this).symm
      subst e1 e2
      exact ⟨3, _, rfl, h3, rfl, rfl, by decide +kernel⟩
    | j + 2 => simp at hj
  · intro φ L' C d hd _
    obtain ⟨j, hj, rfl⟩ := mem_range hd
    have hlt : n / 4 / 3 ^ j % 3 < 3 := Nat.mod_lt _ (by decide)
    have hp1 : (3 : Int) ^ (j : Int).toNat ≠ 0 := by
      have : (3 : Int) ^ (j : Int).toNat = ((3 ^ j : Nat) : Int) := by simp
      rw [this]
      have : 0 < 3 ^ j := Nat.pow_pos (by decide)
      omega
    have hp2 : ((3 : Int) ^ (j : Int).toNat).natAbs < 1073741824 := by
      have : (3 : Int) ^ (j : Int).toNat = ((3 ^ j : Nat) : Int) := by simp
      rw [this, Int.natAbs_natCast]
      have : 3 ^ j ≤ 3 ^ 3 := Nat.pow_le_pow_right (by decide) (by omega)
      omega
    refine Ev.item (ds := [.str ⟨#[40]⟩, .str ⟨#[55, 41]⟩, .str ⟨#[92, 34, 40]⟩]) (k := ((n / 4 / 3 ^ j % 3 : Nat) : Int)) (Ev.list (EvL.cons Ev.str (EvL.cons Ev.str (EvL.cons Ev.str EvL.nil))) (show 3 ≤ sizeLine by decide))
      (EvT.eq (Ev.mod (Ev.fdiv (Ev.fdiv (a := (n : Int)) (Ev.var 1 rfl rfl) Ev.int (by decide) (PyProof.noPylong_small (by decide))) (Ev.pow (n := (j : Int)) Ev.int (Ev.var 0 rfl rfl) (by omega) ?_) hp1 (PyProof.noPylong_small hp2)) Ev.int) (by rw [digit_int])) (by omega) (by omega) ?_
    · have : ((Builtin.Int.intBits 3 : Nat) : Int) = 2 := by decide +kernel
      rw [this]; omega
    · rw [Int.toNat_natCast]
      unfold rF
      simp only [Int.toNat_natCast]
      exact lab_get _ hlt
  · simp [rangeD, hsz]; omega
end
end Mine

namespace Mine
open PySem PyProof.Rows PySem.W PySem.Calls

def rowOf (x : Int) : List Str := rowN (x.fmod 1000000).toNat
def rowsF (sc : List Int) : List (List Str) := ([14, 26, 22] ++ sc.take 2).map rowOf

section
variable {prog : Program} {w : World} {h : Heap} {fd : FuncData} {a0 : Addr} {k : Nat} {A : Around} {W₀ : Addr → Prop} {L : Addr}

theorem filter_tt {α : Type} (l : List α) : l.filter (fun _ => true) = l := List.filter_eq_self.mpr fun _ _ => rfl
theorem rF_row (n : Nat) : ((rangeD 0 1 (n % 4)).filter (fun _ => true)).map (rF n) = strsD (rowN n) := by
  rw [filter_tt]
  simp [rangeD, rowN, strsD, rF, Function.comp_def]

theorem rows_turn (hr : BltnIs h "range" (.type "range")) {d : D} (x : Int) (rs : List (List Str)) (hl : rs.length ≤ 100) {σ : Sl} :
    ExT (mkF prog w h rNames { fd with scope := scopeAt 12 } a0 k A W₀ L) rBody [.dat d, .own (rs.map rowD), .dat (.int x), σ] (.next [.dat d, .own ((rs ++ [rowOf x]).map rowD), .dat (.int x), .dat (.int ((x.fmod 1000000).toNat : Nat))]) := by
  have hsz : sizeLine = 16777216 := rfl
  have h1 : x.fmod 1000000 = ((x.fmod 1000000).toNat : Int) := by
    have : 0 ≤ x.fmod 1000000 := Int.fmod_nonneg_of_pos _ (by decide)
    omega
  have h2 : (x.fmod 1000000).toNat < 1000000 := by
    have : x.fmod 1000000 < 1000000 := Int.fmod_lt_of_pos _ (by decide)
    omega
  unfold rowOf
  generalize (x.fmod 1000000).toNat = n at *
  refine Ex.cons (St.assign 3 (EvT.eq (Ev.mod (Ev.var 2 rfl rfl) Ev.int) (by rw [h1])) rfl) ?_
  obtain ⟨elt, iter, px, pos, he, T⟩ := rows_compT (prog := prog) (w := w) (h := h) (fd := fd) (a0 := a0) (k := k) (A := A) (W₀ := W₀) (L := L) hr n h2 (ρ := [.dat d, .own (rs.map rowD), .dat (.int x), .dat (.int n)]) rfl
  have C : EvT (mkF prog w h rNames { fd with scope := scopeAt 12 } a0 k A W₀ L) rComp [.dat d, .own (rs.map rowD), .dat (.int x), .dat (.int n)] (rowD (rowN n)) := by
    rw [he]
    exact EvT.eq (Ev.comp T) (by rw [rF_row]; rfl)
  rw [List.map_append]
  exact Ex.cons (St.append 1 rfl rfl C (by simp [hsz]; omega)) Ex.nil

theorem rows_loop (hr : BltnIs h "range" (.type "range")) {d : D} : ∀ (xs : List Int) (rs : List (List Str)) (σ τ : Sl), rs.length + xs.length ≤ 100 →
    ∃ σ' τ', LoopR (mkF prog w h rNames { fd with scope := scopeAt 12 } a0 k A W₀ L) (bind1 2) rBody (intsD xs) [.dat d, .own (rs.map rowD), σ, τ] (.next [.dat d, .own ((rs ++ xs.map rowOf).map rowD), σ', τ'])
  | [], rs, σ, τ, _ => ⟨σ, τ, by simp [intsD]; exact .nil⟩
  | x :: xs, rs, σ, τ, hl => by
    obtain ⟨σ', τ', ih⟩ := rows_loop hr xs (rs ++ [rowOf x]) (.dat (.int x)) (.dat (.int ((x.fmod 1000000).toNat : Nat))) (by simp at hl ⊢; omega)
    refine ⟨σ', τ', .next rfl (rows_turn hr x rs (by simp at hl; omega)) ?_⟩
    rw [List.append_assoc] at ih
    exact ih
end

section
variable {prog : Program} {w : World} {h : Heap}
theorem rows_ok (B : Base h) {k : Nat} {sc : List Int} (hs : sc.length ≤ 63) : FunIs prog w h (k + 1) 12 "_law_rows" [.list (intsD sc)] (rowsD (rowsF sc)) := by
  have hsz : sizeLine = 16777216 := rfl
  refine FunIs.one (names := rNames) (p := "script") (n := 3) B.nolimit B.f12 (by decide +kernel) (by decide +kernel) (by decide +kernel) bind_12 rfl fun fd a A W₀ L => ?_
  refine Ex.cons (St.make 1 EvL.nil rfl) ?_
  obtain ⟨σ', τ', hl⟩ := rows_loop (prog := prog) (w := w) (h := h) (fd := fd) (a0 := a) (k := k) (A := A) (W₀ := W₀) (L := L) B.range (d := .list (intsD sc)) ([14, 26, 22] ++ sc.take 2) [] .any .any (by simp; omega)
  have hls : (intsD sc).length ≤ sizeLine := by simp [intsD, hsz]; omega
  have hp : intsD ([14, 26, 22] ++ sc.take 2) = [.int 14, .int 26, .int 22] ++ pickL none (some ((2 : Nat) : Int)) none (intsD sc) := by
    rw [pick_to]; simp [intsD, List.map_take]
  rw [hp] at hl
  refine Ex.cons (St.for (SrcC.src (Src.list (Ev.addL (Ev.list (EvL.cons Ev.int (EvL.cons Ev.int (EvL.cons Ev.int EvL.nil))) (show 3 ≤ sizeLine by decide)) (Ev.slice (lo := none) (hi := some _) (st := none) (a := none) (b := some 2) (c := none) (Ev.var 0 rfl rfl) trivial Ev.int trivial (by decide) hls) (by rw [show (some (2 : Int)) = some ((2 : Nat) : Int) from rfl, pick_to]; simp [intsD, hsz]; omega)))) (Asg.name 2 rfl) hl) ?_
  exact Ex.freeze 1 rfl rfl (Ex.done (St.ret (Ev.var 1 rfl rfl)))
end
end Mine

namespace Mine
open PySem PyProof.Rows PySem.W PySem.Calls

theorem bind_13 (fd : FuncData) (v : Value) (h1 : fd.params = argsAt 13) (h2 : fd.defaults = .none) (h3 : fd.kwdefaults = .none) : bindArgs fd ⟨[v], []⟩ = pure [(("host" : Str), v)] := by
  obtain ⟨a, b, c, d, e, f, g, h, i, j, k, l, m, n⟩ := fd
  simp only at h1 h2 h3
  subst h1 h2 h3
  rfl

def namesL : Nat → Str → Str → List Str → List Str
  | 0, _, _, ns => ns
  | n + 1, host, wide, ns => if (wide != host && decide ((ns.length : Int) < 5)) = true then
      namesL n (Txt.slice wide (some 1) none) (reachF (Txt.slice wide (some 1) none)) (ns ++ [Txt.slice wide (some 1) none]) else ns
def namesF (x : Str) : List Str := namesL 6 x ((⟨#[46]⟩ : Str) ++ x) []

def nNames : List Str := ["host", "names", "wide"]
def nTest : Expr := match bodyAt 13 with | [_, _, .While t _ _ _, _] => t | _ => .Name "" default
def nBody : List Stmt := match bodyAt 13 with | [_, _, .While _ b _ _, _] => b | _ => []

theorem reachF_len (x : Str) : (reachF x).length ≤ x.length + 1 := by
  unfold reachF
  split
  · dsimp only
    split
    · show (#[46] ++ (Txt.slice x (some (Txt.find x "." + 1)) none).cps).size ≤ _
      have : (Txt.slice x (some (Txt.find x "." + 1)) none).length ≤ x.length := Txt.slice_le _ _ _
      unfold Str.length at this
      simp [Str.length]; omega
    · omega
  · omega

section
variable {prog : Program} {w : World} {h : Heap} {fd : FuncData} {a0 : Addr} {k : Nat} {A : Around} {W₀ : Addr → Prop} {L : Addr}

theorem names_loop (B : Base h) : ∀ (n : Nat) (host wide : Str) (ns : List Str), n + ns.length = 6 → wide.length + 2 * n ≤ 2000 →
    ∃ σ τ, WhR (mkF prog w h nNames { fd with scope := scopeAt 13 } a0 (k + 2) A W₀ L) nTest nBody n [.dat (.str host), .own (strsD ns), .dat (.str wide)] (.next [σ, .own (strsD (namesL n host wide ns)), τ])
  | 0, host, wide, ns, hn, hl => by
    refine ⟨_, _, .stop ?_⟩
    refine TsT.eq (Ts.and (Ts.cmp (Ev.var 2 rfl rfl) (Ev.var 0 rfl rfl) Cmp.neS) fun _ => Ts.cmp (Ev.lenOwn 1 B.len rfl rfl rfl (by simp [strsD]; have : sizeLine = 16777216 := rfl; omega)) Ev.int Cmp.ltI) ?_
    have : ns.length = 6 := by omega
    simp [strsD, this]
  | n + 1, host, wide, ns, hn, hl => by
    have hsz : sizeLine = 16777216 := rfl
    have T : TsT (mkF prog w h nNames { fd with scope := scopeAt 13 } a0 (k + 2) A W₀ L) nTest [.dat (.str host), .own (strsD ns), .dat (.str wide)] (wide != host && decide ((ns.length : Int) < 5)) := by
      refine TsT.eq (Ts.and (Ts.cmp (Ev.var 2 rfl rfl) (Ev.var 0 rfl rfl) Cmp.neS) fun _ => Ts.cmp (Ev.lenOwn 1 B.len rfl rfl rfl (by simp [strsD]; omega)) Ev.int Cmp.ltI) ?_
      simp [strsD]
    unfold namesL
    cases hb : (wide != host && decide ((ns.length : Int) < 5)) with
    | false =>
      rw [if_neg (by decide)]
      exact ⟨_, _, .stop (T.eq hb)⟩
    | true =>
      rw [if_pos rfl]
      have h1 : (Txt.slice wide (some 1) none).length ≤ wide.length := Txt.slice_le _ _ _
      have h2 := reachF_len (Txt.slice wide (some 1) none)
      obtain ⟨σ, τ, ih⟩ := names_loop B n (Txt.slice wide (some 1) none) (reachF (Txt.slice wide (some 1) none)) (ns ++ [Txt.slice wide (some 1) none]) (by simp; omega) (by omega)
      refine ⟨σ, τ, .next (T.eq hb) ?_ ih⟩
      refine Ex.cons (St.assign 0 (Ev.text (lo := some _) (hi := none) (a := some 1) (b := none) (Ev.var 2 rfl rfl) Ev.int trivial (by rw [hsz]; omega)) rfl) ?_
      rw [← strsD_app]
      refine Ex.cons (St.append 1 rfl rfl (Ev.var 0 rfl rfl) (by simp [strsD, hsz]; omega)) ?_
      exact Ex.cons (St.assign 2 (Ev.callF (reach_ok (B.keeps fun _ _ e => e) (k := 0) (show (Txt.slice wide (some 1) none).length ≤ _ by omega)) rfl (by show 0 + 2 ≤ k + 2; omega) (EvL.cons (Ev.var 0 rfl rfl) EvL.nil)) rfl) Ex.nil
end

section
variable {prog : Program} {w : World} {h : Heap}
theorem names_ok (B : Base h) {k : Nat} {x : Str} (hx : x.length ≤ 1000) : FunIs prog w h (k + 3) 13 "_law_names" [.str x] (.list (strsD (namesF x))) := by
  have hsz : sizeLine = 16777216 := rfl
  refine FunIs.one (names := nNames) (p := "host") (n := 2) B.nolimit B.f13 (by decide +kernel) (by decide +kernel) (by decide +kernel) bind_13 rfl fun fd a A W₀ L => ?_
  have hw : ((⟨#[46]⟩ : Str) ++ x).length ≤ 1001 := by
    show (#[46] ++ x.cps).size ≤ _
    unfold Str.length at hx
    simp; omega
  obtain ⟨σ, τ, hl⟩ := names_loop (prog := prog) (w := w) (fd := fd) (a0 := a) (k := k) (A := A) (W₀ := W₀) (L := L) B 6 x ((⟨#[46]⟩ : Str) ++ x) [] rfl (by omega)
  refine Ex.cons (St.make 1 EvL.nil rfl) (Ex.cons (St.assign 2 (Ev.cat (a := ⟨#[46]⟩) Ev.str (Ev.var 0 rfl rfl) (by rw [hsz]; show 1 + x.length ≤ _; omega)) rfl) ?_)
  exact Ex.cons (St.while hl) (Ex.freeze 1 rfl rfl (Ex.done (St.ret (Ev.var 1 rfl rfl))))
end
end Mine

namespace Mine
open PySem PyProof.Rows PySem.W PySem.Calls

theorem bind_14 (fd : FuncData) (v u : Value) (h1 : fd.params = argsAt 14) (h2 : fd.defaults = .none) (h3 : fd.kwdefaults = .none) : bindArgs fd ⟨[v, u], []⟩ = pure [(("name" : Str), v), ("hosts", u)] := by
  obtain ⟨a, b, c, d, e, f, g, h, i, j, k, l, m, n⟩ := fd
  simp only at h1 h2 h3
  subst h1 h2 h3
  rfl

/-- a short text of small codes -/
structure Ok (x : Str) : Prop where
  asc : Asc x.cps.toList
  len : x.length ≤ 1001
theorem eq_S (x : Str) : x = S x.cps.toList := by simp
theorem Ok.lower {x : Str} (h : Ok x) : Ok (Txt.lower x) := by
  rw [eq_S x, lower_S h.asc]
  refine ⟨by simpa using h.asc.low, ?_⟩
  have := h.len
  simp [Str.length] at this ⊢; omega
theorem Ok.upper {x : Str} (h : Ok x) : Ok (Txt.upper x) := by
  rw [eq_S x, upper_S h.asc]
  refine ⟨by simpa using h.asc.up, ?_⟩
  have := h.len
  simp [Str.length] at this ⊢; omega
theorem Ok.tooLong {x : Str} (h : Ok x) : Builtin.Str.tooLong x.length = false := by
  have := h.len
  unfold Builtin.Str.tooLong
  have : sizeLine = 16777216 := rfl
  simp; omega
theorem Ok.size {x : Str} (h : Ok x) : x.cps.size ≤ 1000000 := by
  have := h.len
  unfold Str.length at this; omega
theorem Ok.dot {x : Str} (h : Ok x) (hl : x.length ≤ 1000) : Ok ((⟨#[46]⟩ : Str) ++ x) := by
  refine ⟨?_, ?_⟩
  · show Asc (#[46] ++ x.cps).toList
    rw [Array.toList_append]
    exact Asc.app (by decide) h.asc
  · show (#[46] ++ x.cps).size ≤ _
    unfold Str.length at hl
    simp; omega

def holdsF (name : Str) (hosts : List Str) : Bool := hosts.all fun h => udm (Txt.upper h) ((⟨#[46]⟩ : Str) ++ name) || udm h (Txt.upper name)

def hNames : List Str := ["name", "hosts", "host"]
def hBody : List Stmt := match bodyAt 14 with | [.For _ _ b _ _, _] => b | _ => []

section
variable {prog : Program} {w : World} {h : Heap}

theorem udm_ok' (B : Base h) {k : Nat} {x y : Str} (hx : Ok x) (hy : Ok y) : FunIs prog w h (k + 2) 9 "user_domain_match" [.str x, .str y] (.bool (udm x y)) := udm_ok B hx.lower.size hy.lower.size

theorem holds_loop (B : Base h) {fd : FuncData} {a0 : Addr} {k : Nat} {A : Around} {W₀ : Addr → Prop} {L : Addr} {name : Str} {hs : List Str} (hn : Ok name) (hnl : name.length ≤ 1000) : ∀ (hosts : List Str) (σ : Sl), (∀ x ∈ hosts, Ok x) →
    (holdsF name hosts = true → ∃ σ', LoopR (mkF prog w h hNames { fd with scope := scopeAt 14 } a0 (k + 2) A W₀ L) (bind1 2) hBody (strsD hosts) [.dat (.str name), .dat (.list (strsD hs)), σ] (.next [.dat (.str name), .dat (.list (strsD hs)), σ'])) ∧
    (holdsF name hosts = false → LoopR (mkF prog w h hNames { fd with scope := scopeAt 14 } a0 (k + 2) A W₀ L) (bind1 2) hBody (strsD hosts) [.dat (.str name), .dat (.list (strsD hs)), σ] (.ret (.bool false)))
  | [], σ, _ => ⟨fun _ => ⟨σ, .nil⟩, fun q => by cases q⟩
  | x :: r, σ, ho => by
    have hx := ho x (.head _)
    have hsz : sizeLine = 16777216 := rfl
    have hb : bind1 2 (D.str x) [Sl.dat (.str name), .dat (.list (strsD hs)), σ] = some [Sl.dat (.str name), .dat (.list (strsD hs)), .dat (.str x)] := rfl
    have e : holdsF name (x :: r) = ((udm (Txt.upper x) ((⟨#[46]⟩ : Str) ++ name) || udm x (Txt.upper name)) && holdsF name r) := rfl
    rw [e]
    have ih := holds_loop B (fd := fd) (a0 := a0) (k := k) (A := A) (W₀ := W₀) (L := L) (name := name) (hs := hs) hn hnl r (.dat (.str x)) (fun y hy => ho y (.tail _ hy))
    have dot := hn.dot hnl
    cases hb1 : (udm (Txt.upper x) ((⟨#[46]⟩ : Str) ++ name) || udm x (Txt.upper name)) with
    | true =>
      have T : ExT (mkF prog w h hNames { fd with scope := scopeAt 14 } a0 (k + 2) A W₀ L) hBody [Sl.dat (.str name), .dat (.list (strsD hs)), .dat (.str x)] (.next [Sl.dat (.str name), .dat (.list (strsD hs)), .dat (.str x)]) := by
        refine Ex.cons (St.ifF (TsT.eq (Ts.and (Ts.not (Ts.bool (Ev.callF (udm_ok' (B.keeps fun _ _ e => e) (k := 0) hx.upper dot) rfl (by show 0 + 2 ≤ k + 2; omega) (EvL.cons (Ev.upper (Ev.var 2 rfl rfl) hx.upper.tooLong) (EvL.cons (Ev.cat (a := ⟨#[46]⟩) Ev.str (Ev.var 0 rfl rfl) (by rw [hsz]; show 1 + name.length ≤ _; omega)) EvL.nil))))) fun _ =>
          Ts.not (Ts.bool (Ev.callF (udm_ok' (B.keeps fun _ _ e => e) (k := 0) hx hn.upper) rfl (by show 0 + 2 ≤ k + 2; omega) (EvL.cons (Ev.var 2 rfl rfl) (EvL.cons (Ev.upper (Ev.var 0 rfl rfl) hn.upper.tooLong) EvL.nil))))) ?_) Ex.nil) Ex.nil
        rw [← Bool.not_or, hb1]; rfl
      refine ⟨fun q => ?_, fun q => .next hb T (ih.2 q)⟩
      obtain ⟨σ', z⟩ := ih.1 q
      exact ⟨σ', .next hb T z⟩
    | false =>
      have T : ExT (mkF prog w h hNames { fd with scope := scopeAt 14 } a0 (k + 2) A W₀ L) hBody [Sl.dat (.str name), .dat (.list (strsD hs)), .dat (.str x)] (.ret (.bool false)) := by
        refine Ex.done (St.ifT (TsT.eq (Ts.and (Ts.not (Ts.bool (Ev.callF (udm_ok' (B.keeps fun _ _ e => e) (k := 0) hx.upper dot) rfl (by show 0 + 2 ≤ k + 2; omega) (EvL.cons (Ev.upper (Ev.var 2 rfl rfl) hx.upper.tooLong) (EvL.cons (Ev.cat (a := ⟨#[46]⟩) Ev.str (Ev.var 0 rfl rfl) (by rw [hsz]; show 1 + name.length ≤ _; omega)) EvL.nil))))) fun _ =>
          Ts.not (Ts.bool (Ev.callF (udm_ok' (B.keeps fun _ _ e => e) (k := 0) hx hn.upper) rfl (by show 0 + 2 ≤ k + 2; omega) (EvL.cons (Ev.var 2 rfl rfl) (EvL.cons (Ev.upper (Ev.var 0 rfl rfl) hn.upper.tooLong) EvL.nil))))) ?_) (Ex.done (St.ret Ev.bool)))
        rw [← Bool.not_or, hb1]; rfl
      exact ⟨fun q => by simp at q, fun _ => .ret hb T⟩

theorem holds_ok (B : Base h) {k : Nat} {name : Str} {hosts : List Str} (hn : Ok name) (hnl : name.length ≤ 1000) (ho : ∀ x ∈ hosts, Ok x) : FunIs prog w h (k + 3) 14 "_law_holds" [.str name, .list (strsD hosts)] (.bool (holdsF name hosts)) := by
  refine FunIs.two (names := hNames) (p := "name") (q := "hosts") (n := 1) B.nolimit B.f14 (by decide +kernel) (by decide +kernel) (by decide +kernel) bind_14 rfl rfl fun fd a A W₀ L => ?_
  have ih := holds_loop (prog := prog) (w := w) B (fd := fd) (a0 := a) (k := k) (A := A) (W₀ := W₀) (L := L) (name := name) (hs := hosts) hn hnl hosts .any ho
  have Sr : ∀ {p : Pos}, SrcT (mkF prog w h hNames { fd with scope := scopeAt 14 } a (k + 2) A W₀ L) (.Name "hosts" p) [Sl.dat (.str name), .dat (.list (strsD hosts)), .any] (strsD hosts) := SrcC.src (Src.list (Ev.var 1 rfl rfl))
  cases hb : holdsF name hosts with
  | true =>
    obtain ⟨σ', z⟩ := ih.1 hb
    exact Ex.cons (St.for Sr (Asg.name 2 rfl) z) (Ex.done (St.ret Ev.bool))
  | false => exact Ex.done (St.for Sr (Asg.name 2 rfl) (ih.2 hb))
end
end Mine

namespace Mine
open PySem PyProof.Rows PySem.W PySem.Calls

theorem Ok.strOk {x : Str} (h : Ok x) : PySem.PyData.strOk x = true := by
  unfold PySem.PyData.strOk
  rw [Array.all_eq_true']
  intro c hc
  have := h.asc c (Array.mem_toList_iff.mpr hc)
  simp; omega

theorem pys_strs (ys : List Str) : D.pys (strsD ys) = ys.map .str := by
  induction ys with
  | nil => rfl
  | cons y r ih => simp only [strsD, List.map_cons, D.pys, D.py] at ih ⊢; rw [ih]
theorem canLay_strs {ys : List Str} (h : ∀ y ∈ ys, Ok y) : (D.list (strsD ys)).py.canLay0 = true := by
  show PyData.canLay0 (.list (D.pys (strsD ys))) = true
  rw [pys_strs]
  induction ys with
  | nil => rfl
  | cons y r ih =>
    have := ih fun z hz => h z (.tail _ hz)
    simp only [List.map_cons, PyData.canLay0, PyData.canLayAll0] at this ⊢
    rw [this, (h y (.head _)).strOk]; rfl
theorem depth_strs (ys : List Str) : (D.list (strsD ys)).py.depth = 1 := by
  show PyData.depth (.list (D.pys (strsD ys))) = 1
  rw [pys_strs]
  simp only [PyData.depth]
  have : ∀ ys : List Str, PyData.depthAll (ys.map .str) = 0 := by
    intro ys
    induction ys with
    | nil => rfl
    | cons y r ih => simp [PyData.depthAll, PyData.depth, ih]
  rw [this]
theorem eqv_strs (ys zs : List Str) : PyData.eqv (D.list (strsD ys)).py (D.list (strsD zs)).py = (ys == zs) := by
  show PyData.eqv (.list (D.pys (strsD ys))) (.list (D.pys (strsD zs))) = _
  rw [pys_strs, pys_strs]
  simp only [PyData.eqv]
  induction ys generalizing zs with
  | nil => cases zs <;> rfl
  | cons y r ih =>
    cases zs with
    | nil => rfl
    | cons z t =>
      simp only [List.map_cons, PyData.eqvAll, PyData.eqv, ih]
      rfl

theorem Cmp.eqSL {Γ : Fx} {ys zs : List Str} (h1 : ∀ y ∈ ys, Ok y) (h2 : ∀ y ∈ zs, Ok y) (hk : 1 ≤ Γ.k) : CmpT Γ .Eq (.list (strsD ys)) (.list (strsD zs)) (ys == zs) := by
  rw [← eqv_strs]; exact Cmp.eqD (canLay_strs h1) (canLay_strs h2) (by rw [depth_strs, depth_strs]; decide) hk
theorem Cmp.neSL {Γ : Fx} {ys zs : List Str} (h1 : ∀ y ∈ ys, Ok y) (h2 : ∀ y ∈ zs, Ok y) (hk : 1 ≤ Γ.k) : CmpT Γ .NotEq (.list (strsD ys)) (.list (strsD zs)) (ys != zs) := by
  have := Cmp.neD (Γ := Γ) (canLay_strs h1) (canLay_strs h2) (by rw [depth_strs, depth_strs]; decide) hk
  rw [eqv_strs] at this; exact this

theorem pys_map (rs : List (List Str)) : D.pys (rs.map rowD) = rs.map fun r => (rowD r).py := by
  induction rs with
  | nil => rfl
  | cons y r ih => simp only [List.map_cons, D.pys, ih]
theorem canLay_rows {rs : List (List Str)} (h : ∀ r ∈ rs, ∀ y ∈ r, Ok y) : (rowsD rs).py.canLay0 = true := by
  show PyData.canLay0 (.list (D.pys (rs.map rowD))) = true
  rw [pys_map]
  induction rs with
  | nil => rfl
  | cons r rs ih =>
    have := ih fun z hz => h z (.tail _ hz)
    simp only [List.map_cons, PyData.canLay0, PyData.canLayAll0] at this ⊢
    rw [this]
    have h1 : (rowD r).py.canLay0 = true := canLay_strs (h r (.head _))
    rw [h1]; rfl
theorem depth_rows (rs : List (List Str)) : (rowsD rs).py.depth ≤ 2 := by
  show PyData.depth (.list (D.pys (rs.map rowD))) ≤ 2
  rw [pys_map]
  simp only [PyData.depth]
  have : ∀ rs : List (List Str), PyData.depthAll (rs.map fun r => (rowD r).py) ≤ 1 := by
    intro rs
    induction rs with
    | nil => simp [PyData.depthAll]
    | cons y r ih =>
      have h1 : (rowD y).py.depth = 1 := depth_strs y
      simp only [List.map_cons, PyData.depthAll, h1]; omega
  have := this rs
  omega
theorem eqv_rows (ys zs : List (List Str)) : PyData.eqv (rowsD ys).py (rowsD zs).py = (ys == zs) := by
  show PyData.eqv (.list (D.pys (ys.map rowD))) (.list (D.pys (zs.map rowD))) = _
  rw [pys_map, pys_map]
  simp only [PyData.eqv]
  induction ys generalizing zs with
  | nil => cases zs <;> rfl
  | cons y r ih =>
    cases zs with
    | nil => rfl
    | cons z t =>
      simp only [List.map_cons, PyData.eqvAll, ih]
      have : PyData.eqv (rowD y).py (rowD z).py = (y == z) := eqv_strs y z
      rw [this]; rfl
theorem Cmp.eqRL {Γ : Fx} {ys zs : List (List Str)} (h1 : ∀ r ∈ ys, ∀ y ∈ r, Ok y) (h2 : ∀ r ∈ zs, ∀ y ∈ r, Ok y) (hk : 1 ≤ Γ.k) : CmpT Γ .Eq (rowsD ys) (rowsD zs) (ys == zs) := by
  rw [← eqv_rows]; exact Cmp.eqD (canLay_rows h1) (canLay_rows h2) (by have := depth_rows ys; omega) hk
theorem Cmp.neRL {Γ : Fx} {ys zs : List (List Str)} (h1 : ∀ r ∈ ys, ∀ y ∈ r, Ok y) (h2 : ∀ r ∈ zs, ∀ y ∈ r, Ok y) (hk : 1 ≤ Γ.k) : CmpT Γ .NotEq (rowsD ys) (rowsD zs) (ys != zs) := by
  have := Cmp.neD (Γ := Γ) (canLay_rows h1) (canLay_rows h2) (by have := depth_rows ys; omega) hk
  rw [eqv_rows] at this; exact this
end Mine

namespace Mine
open PySem PyProof.Rows PySem.W PySem.Calls

theorem bind_15 (fd : FuncData) (v : Value) (h1 : fd.params = argsAt 15) (h2 : fd.defaults = .none) (h3 : fd.kwdefaults = .none) : bindArgs fd ⟨[v], []⟩ = pure [(("rows" : Str), v)] := by
  obtain ⟨a, b, c, d, e, f, g, h, i, j, k, l, m, n⟩ := fd
  simp only at h1 h2 h3
  subst h1 h2 h3
  rfl

def bad (r0 : List Str) (many : Nat) (r : List Str) : Bool := decide (r.length = many) || r.take (many + 1) != r0.take (many + 1)
def commonL (rows : List (List Str)) (r0 : List Str) : Nat → Nat → Nat
  | 0, many => many
  | n + 1, many => if (rows.filter (bad r0 many) == []) = true then commonL rows r0 n (many + 1) else many
def commonF (rows : List (List Str)) : Nat := commonL rows (rows.headD []) (rows.headD []).length 0

def mNames : List Str := ["rows", "many"]
def mTest : Expr := match bodyAt 15 with | [_, .While t _ _ _, _] => t | _ => .Name "" default
def mBody : List Stmt := match bodyAt 15 with | [_, .While _ b _ _, _] => b | _ => []
def mComp : Expr := match mTest with | .Compare l _ _ _ => l | _ => .Name "" default
def mScope : Scope := match mComp with | .ListComp _ _ s _ => s | _ => default

def badD (r0 : List Str) (many : Nat) : D → Bool
  | .list l => decide (l.length = many) || !(PyData.eqv (D.list (l.take (many + 1))).py (D.list (strsD (r0.take (many + 1)))).py)
  | _ => false
theorem badD_eq (r0 : List Str) (many : Nat) (r : List Str) : badD r0 many (rowD r) = bad r0 many r := by
  unfold badD rowD bad
  dsimp only
  have : (strsD r).take (many + 1) = strsD (r.take (many + 1)) := by simp [strsD, List.map_take]
  rw [this, eqv_strs]
  simp [strsD]; rfl

section
variable {prog : Program} {w : World} {h : Heap} {fd : FuncData} {a0 : Addr} {k : Nat} {A : Around} {W₀ : Addr → Prop} {L : Addr}

theorem com_compOk : CompOk (mkF prog w h mNames { fd with scope := scopeAt 15 } a0 k A W₀ L) mScope none "row" ["row", "many", "rows"] where
  kind := rfl
  cell := ⟨fun _ _ => rfl, fun _ => rfl⟩
  nodup := by decide +kernel
  free := fun y hy hk => by
    have : y ∈ [((".0" : Str), NameKind.local), ("row", .local), ("len", .globalImplicit), ("many", .free), ("rows", .free)] := hy
    simp only [List.mem_cons, List.not_mem_nil, or_false] at this
    rcases this with q | q | q | q | q
    · subst q; cases hk
    · subst q; cases hk
    · subst q; cases hk
    · subst q; exact ⟨_, rfl⟩
    · subst q; exact ⟨_, rfl⟩
  local_ := fun y hy hk => by
    have : y ∈ [((".0" : Str), NameKind.local), ("row", .local), ("len", .globalImplicit), ("many", .free), ("rows", .free)] := hy
    simp only [List.mem_cons, List.not_mem_nil, or_false] at this
    rcases this with q | q | q | q | q
    · subst q; rfl
    · subst q; rfl
    · subst q; cases hk
    · subst q; cases hk
    · subst q; cases hk
  x0 := rfl
  xk := .inl ⟨rfl, rfl⟩
  others := fun y hy hx => by
    have : y ∈ [("row" : Str), "many", "rows"] := hy
    simp only [List.mem_cons, List.not_mem_nil, or_false] at this
    rcases this with q | q | q
    · exact absurd q hx
    · subst q
      refine ⟨rfl, ?_⟩
      show _ ∈ [((".0" : Str), NameKind.local), ("row", .local), ("len", .globalImplicit), ("many", .free), ("rows", .free)]
      simp
    · subst q
      refine ⟨rfl, ?_⟩
      show _ ∈ [((".0" : Str), NameKind.local), ("row", .local), ("len", .globalImplicit), ("many", .free), ("rows", .free)]
      simp
  ocx := fun r q => by cases q

theorem com_compT (B : Base h) (hk : 1 ≤ k) {rows : List (List Str)} {r0 : List Str} (h0 : rows[0]? = some r0) (hr : ∀ r ∈ rows, ∀ y ∈ r, Ok y) (hl : ∀ r ∈ rows, r.length ≤ 1000) (hrl : rows.length ≤ 1000) (many : Nat) (hm : many ≤ 1000) :
    ∃ elt iter px pos ifs, mComp = .ListComp elt [⟨.Name "row" px, iter, ifs, 0⟩] mScope pos ∧
    CompT (mkF prog w h mNames { fd with scope := scopeAt 15 } a0 k A W₀ L) [.dat (rowsD rows), .dat (.int many)] elt iter "row" ifs mScope none ["row", "many", "rows"] [.any, .dat (.int many), .dat (rowsD rows)] (rows.map rowD) id (badD r0 many) := by
  have hsz : sizeLine = 16777216 := rfl
  refine ⟨_, _, _, _, _, rfl, Src.list (Ev.var 0 rfl rfl), com_compOk, ?_, ?_, ?_, by simp [hsz]; omega, fun _ => rfl⟩
  · intro j σ m hj hm
    match j with
    | 0 => left; simpa using hj.symm
    | 1 =>
      right
      have e1 : σ = .dat (.int many) := by simpa using hj.symm
      have e2 : m = "many" := by
        have : some ("many" : Str) = some m := hm
        exact (Option.some.inj this).symm
      subst e1 e2
      exact ⟨1, _, rfl, rfl, rfl, rfl, by decide +kernel⟩
    | 2 =>
      right
      have e1 : σ = .dat (rowsD rows) := by simpa using hj.symm
      have e2 : m = "rows" := by
        have : some ("rows" : Str) = some m := hm
        exact (Option.some.inj this).symm
      subst e1 e2
      exact ⟨0, _, rfl, rfl, rfl, rfl, by decide +kernel⟩
    | j + 3 => simp at hj
  · intro φ L' C d hd
    obtain ⟨r, hmem, rfl⟩ := List.mem_map.mp hd
    refine .inr ⟨_, rfl, ?_⟩
    have hok := hr r hmem
    have hlen := hl r hmem
    have h0m : r0 ∈ rows := List.mem_of_getElem? h0
    have hok0 := hr r0 h0m
    have hlen0 := hl r0 h0m
    rw [badD_eq]
    have pk : ∀ r : List Str, pickL none (some ((many : Int) + 1)) none (strsD r) = strsD (r.take (many + 1)) := fun r => by
      rw [show (many : Int) + 1 = ((many + 1 : Nat) : Int) by omega, pick_to]; simp [strsD, List.map_take]
    have P : ∀ {Γ : Fx} {e : Expr} {ρ : List Sl} {pos p1 : Pos} {hi : Expr} (r : List Str), r.length ≤ 1000 → EvT Γ e ρ (.list (strsD r)) → EvT Γ hi ρ (.int ((many : Int) + 1)) →
        EvT Γ (.Subscript e (.Slice none (some hi) none p1) pos) ρ (.list (strsD (r.take (many + 1)))) := fun r hlr he hh => by
      rw [← pk]
      exact Ev.slice (lo := none) (hi := some _) (st := none) (a := none) (b := some ((many : Int) + 1)) (c := none) he trivial hh trivial (by decide) (by simp [strsD, hsz]; omega)
    refine TsT.eq (Ts.or (Ts.cmp (Ev.bcall (ds := [rowD r]) B.len rfl (EvL.cons (Ev.var 0 rfl rfl) EvL.nil) (Bt.lenL (ds := strsD r) (by simp [strsD, hsz]; omega))) (Ev.var 1 rfl rfl) Cmp.eqI) fun _ =>
      Ts.cmp (P r hlen (Ev.var 0 rfl rfl) (Ev.add (Ev.var 1 rfl rfl) Ev.int)) (P r0 hlen0 (Ev.item (ds := rows.map rowD) (k := 0) (Ev.var 2 rfl rfl) Ev.int (by decide) (by decide) (by simp [h0, rowD])) (Ev.add (Ev.var 1 rfl rfl) Ev.int))
        (Cmp.neSL (fun y hy => hok y (List.mem_of_mem_take hy)) (fun y hy => hok0 y (List.mem_of_mem_take hy)) hk)) ?_
    unfold bad
    congr 1
    rw [Bool.eq_iff_iff, beq_iff_eq, decide_eq_true_iff]
    have : (strsD r).length = r.length := by simp [strsD]
    rw [this]
    omega
  · intro φ L' C d hd _
    exact Ev.var 0 rfl rfl

theorem com_filter (r0 : List Str) (many : Nat) (rows : List (List Str)) : ((rows.map rowD).filter (badD r0 many)).map id = (rows.filter (bad r0 many)).map rowD := by
  rw [List.map_id, List.filter_map]
  congr 1
  apply List.filter_congr
  intro r _
  exact badD_eq r0 many r

theorem com_loop (B : Base h) (hk : 1 ≤ k) {rows : List (List Str)} {r0 : List Str} (h0 : rows[0]? = some r0) (hr : ∀ r ∈ rows, ∀ y ∈ r, Ok y) (hl : ∀ r ∈ rows, r.length ≤ 900) (hrl : rows.length ≤ 1000) : ∀ (n many : Nat), n + many = r0.length →
    WhR (mkF prog w h mNames { fd with scope := scopeAt 15 } a0 k A W₀ L) mTest mBody n [.dat (rowsD rows), .dat (.int many)] (.next [.dat (rowsD rows), .dat (.int (commonL rows r0 n many : Nat))]) := by
  have T : ∀ many : Nat, many ≤ 1000 → TsT (mkF prog w h mNames { fd with scope := scopeAt 15 } a0 k A W₀ L) mTest [.dat (rowsD rows), .dat (.int many)] (rows.filter (bad r0 many) == []) := fun many hm => by
    obtain ⟨elt, iter, px, pos, ifs, he, C⟩ := com_compT (prog := prog) (w := w) (fd := fd) (a0 := a0) (A := A) (W₀ := W₀) (L := L) B hk h0 hr (fun r q => Nat.le_trans (hl r q) (by decide)) hrl many hm
    have E : EvT (mkF prog w h mNames { fd with scope := scopeAt 15 } a0 k A W₀ L) mComp [.dat (rowsD rows), .dat (.int many)] (rowsD (rows.filter (bad r0 many))) := by
      rw [he]
      exact EvT.eq (Ev.comp C) (by rw [com_filter]; rfl)
    exact Ts.cmp E (Ev.list (ds := []) EvL.nil) (Cmp.eqRL (zs := []) (fun r hr' => hr r (List.mem_filter.mp hr').1) (fun r hr' => nomatch hr') hk)
  have h0m : r0 ∈ rows := List.mem_of_getElem? h0
  have hlen0 := hl r0 h0m
  intro n
  induction n with
  | zero =>
    intro many hn
    refine .stop ((T many (by omega)).eq ?_)
    have : r0 ∈ rows.filter (bad r0 many) := List.mem_filter.mpr ⟨h0m, by unfold bad; simp; omega⟩
    cases q : rows.filter (bad r0 many) with
    | nil => rw [q] at this; cases this
    | cons x y => rfl
  | succ n ih =>
    intro many hn
    unfold commonL
    cases hb : (rows.filter (bad r0 many) == []) with
    | false =>
      rw [if_neg (by decide)]
      exact .stop ((T many (by omega)).eq hb)
    | true =>
      rw [if_pos rfl]
      refine .next ((T many (by omega)).eq hb) (ρ₁ := [.dat (rowsD rows), .dat (.int ((many + 1 : Nat) : Int))]) ?_ (ih (many + 1) (by omega))
      exact Ex.cons (St.assign 1 (EvT.eq (Ev.add (Ev.var 1 rfl rfl) Ev.int) (by simp)) rfl) Ex.nil
end

section
variable {prog : Program} {w : World} {h : Heap}
theorem common_ok (B : Base h) {k : Nat} {rows : List (List Str)} (h0 : rows ≠ []) (hr : ∀ r ∈ rows, ∀ y ∈ r, Ok y) (hl : ∀ r ∈ rows, r.length ≤ 900) (hrl : rows.length ≤ 1000) : FunIs prog w h (k + 2) 15 "_law_common" [rowsD rows] (.int (commonF rows : Nat)) := by
  refine FunIs.one (names := mNames) (p := "rows") (n := 1) B.nolimit B.f15 (by decide +kernel) (by decide +kernel) (by decide +kernel) bind_15 rfl fun fd a A W₀ L => ?_
  refine Ex.cons (St.assign 1 Ev.int rfl) ?_
  cases rows with
  | nil => exact absurd rfl h0
  | cons r0 rs =>
    exact Ex.cons (St.while (com_loop (prog := prog) (w := w) B (by omega) (rows := r0 :: rs) (r0 := r0) rfl hr hl hrl r0.length 0 (by omega))) (Ex.done (St.ret (Ev.var 1 rfl rfl)))
end
end Mine

namespace Mine
open PySem PyProof.Rows PySem.W PySem.Calls

theorem bind_16 (fd : FuncData) (v : Value) (h1 : fd.params = argsAt 16) (h2 : fd.defaults = .none) (h3 : fd.kwdefaults = .none) : bindArgs fd ⟨[v], []⟩ = pure [(("script" : Str), v)] := by
  obtain ⟨a, b, c, d, e, f, g, h, i, j, k, l, m, n⟩ := fd
  simp only at h1 h2 h3
  subst h1 h2 h3
  rfl

def lNames : List Str := ["script", "top", "rows", "hosts", "names", "number", "shown", "hops", "t", "held", "name", "behind_a_dot", "alike", "up", "i", "j", "between", "common", "down", "shift", "ahead", "behind", "due", "told"]

def lComp1 : Expr := match bodyAt 16 with | _ :: _ :: .Assign _ c _ :: _ => c | _ => .Name "" default
def lScope1 : Scope := match lComp1 with | .ListComp _ _ s _ => s | _ => default
def lComp2 : Expr := match bodyAt 16 with | _ :: _ :: _ :: .Assign _ c _ :: _ => c | _ => .Name "" default
def lScope2 : Scope := match lComp2 with | .ListComp _ _ s _ => s | _ => default
def lComp3 : Expr := match bodyAt 16 with | _ :: _ :: _ :: _ :: .If (.Compare _ _ [c] _) _ _ _ :: _ => c | _ => .Name "" default
def lScope3 : Scope := match lComp3 with | .ListComp _ _ s _ => s | _ => default
def lComp4 : Expr := match lComp3 with | .ListComp c _ _ _ => c | _ => .Name "" default
def lScope4 : Scope := match lComp4 with | .ListComp _ _ s _ => s | _ => default

def hostF (top : Str) (row : List Str) : Str := Txt.join (⟨#[46]⟩ : Str) (row.reverse ++ [top])
def expect (top : Str) (row : List Str) : List Str := (List.range (row.length + 1)).map fun j => hostF top (row.take (row.length - j))

section
variable {prog : Program} {w : World} {h : Heap} {fd : FuncData} {a0 : Addr} {k : Nat} {A : Around} {W₀ : Addr → Prop} {L : Addr}

theorem l1_ok : CompOk (mkF prog w h lNames { fd with scope := scopeAt 16 } a0 k A W₀ L) lScope1 none "row" ["row", "top"] where
  kind := rfl
  cell := ⟨fun _ _ => rfl, fun _ => rfl⟩
  nodup := by decide +kernel
  free := fun y hy hk => by
    have : y ∈ [((".0" : Str), NameKind.local), ("row", .local), ("top", .free)] := hy
    simp only [List.mem_cons, List.not_mem_nil, or_false] at this
    rcases this with q | q | q
    · subst q; cases hk
    · subst q; cases hk
    · subst q; exact ⟨_, rfl⟩
  local_ := fun y hy hk => by
    have : y ∈ [((".0" : Str), NameKind.local), ("row", .local), ("top", .free)] := hy
    simp only [List.mem_cons, List.not_mem_nil, or_false] at this
    rcases this with q | q | q
    · subst q; rfl
    · subst q; rfl
    · subst q; cases hk
  x0 := rfl
  xk := .inl ⟨rfl, rfl⟩
  others := fun y hy hx => by
    have : y ∈ [("row" : Str), "top"] := hy
    simp only [List.mem_cons, List.not_mem_nil, or_false] at this
    rcases this with q | q
    · exact absurd q hx
    · subst q
      refine ⟨rfl, ?_⟩
      show _ ∈ [((".0" : Str), NameKind.local), ("row", .local), ("top", .free)]
      simp
  ocx := fun r q => by cases q

theorem l2_ok : CompOk (mkF prog w h lNames { fd with scope := scopeAt 16 } a0 k A W₀ L) lScope2 none "host" ["host"] where
  kind := rfl
  cell := ⟨fun _ _ => rfl, fun _ => rfl⟩
  nodup := by decide +kernel
  free := fun y hy hk => by
    have : y ∈ [((".0" : Str), NameKind.local), ("host", .local), ("_law_names", .globalImplicit)] := hy
    simp only [List.mem_cons, List.not_mem_nil, or_false] at this
    rcases this with q | q | q
    · subst q; cases hk
    · subst q; cases hk
    · subst q; cases hk
  local_ := fun y hy hk => by
    have : y ∈ [((".0" : Str), NameKind.local), ("host", .local), ("_law_names", .globalImplicit)] := hy
    simp only [List.mem_cons, List.not_mem_nil, or_false] at this
    rcases this with q | q | q
    · subst q; rfl
    · subst q; rfl
    · subst q; cases hk
  x0 := rfl
  xk := .inl ⟨rfl, rfl⟩
  others := fun y hy hx => by
    have : y ∈ [("host" : Str)] := hy
    simp only [List.mem_cons, List.not_mem_nil, or_false] at this
    exact absurd this hx
  ocx := fun r q => by cases q

theorem l3_ok : CompOk (mkF prog w h lNames { fd with scope := scopeAt 16 } a0 k A W₀ L) lScope3 (some "row") "row" ["row", "top"] where
  kind := rfl
  cell := ⟨fun _ _ => rfl, fun _ => rfl⟩
  nodup := by decide +kernel
  free := fun y hy hk => by
    have : y ∈ [((".0" : Str), NameKind.local), ("row", .cell), ("range", .globalImplicit), ("len", .globalImplicit), ("top", .free)] := hy
    simp only [List.mem_cons, List.not_mem_nil, or_false] at this
    rcases this with q | q | q | q | q
    · subst q; cases hk
    · subst q; cases hk
    · subst q; cases hk
    · subst q; cases hk
    · subst q; exact ⟨_, rfl⟩
  local_ := fun y hy hk => by
    have : y ∈ [((".0" : Str), NameKind.local), ("row", .cell), ("range", .globalImplicit), ("len", .globalImplicit), ("top", .free)] := hy
    simp only [List.mem_cons, List.not_mem_nil, or_false] at this
    rcases this with q | q | q | q | q
    · subst q; rfl
    · subst q; cases hk
    · subst q; cases hk
    · subst q; cases hk
    · subst q; cases hk
  x0 := rfl
  xk := .inr ⟨rfl, rfl⟩
  others := fun y hy hx => by
    have : y ∈ [("row" : Str), "top"] := hy
    simp only [List.mem_cons, List.not_mem_nil, or_false] at this
    rcases this with q | q
    · exact absurd q hx
    · subst q
      refine ⟨rfl, ?_⟩
      show _ ∈ [((".0" : Str), NameKind.local), ("row", .cell), ("range", .globalImplicit), ("len", .globalImplicit), ("top", .free)]
      simp
  ocx := fun r q => (Option.some.inj q).symm

theorem l4_ok {φ : FS} {L' C : Addr} : CompOk (compF (mkF prog w h lNames { fd with scope := scopeAt 16 } a0 k A W₀ L) φ L' lScope3 (some "row") C ["row", "top"]) lScope4 none "k" ["k", "row", "top"] where
  kind := rfl
  cell := ⟨fun _ _ => rfl, fun _ => rfl⟩
  nodup := by decide +kernel
  free := fun y hy hk => by
    have : y ∈ [((".0" : Str), NameKind.local), ("k", .local), ("row", .free), ("top", .free)] := hy
    simp only [List.mem_cons, List.not_mem_nil, or_false] at this
    rcases this with q | q | q | q
    · subst q; cases hk
    · subst q; cases hk
    · subst q; exact ⟨_, rfl⟩
    · subst q; exact ⟨_, rfl⟩
  local_ := fun y hy hk => by
    have : y ∈ [((".0" : Str), NameKind.local), ("k", .local), ("row", .free), ("top", .free)] := hy
    simp only [List.mem_cons, List.not_mem_nil, or_false] at this
    rcases this with q | q | q | q
    · subst q; rfl
    · subst q; rfl
    · subst q; cases hk
    · subst q; cases hk
  x0 := rfl
  xk := .inl ⟨rfl, rfl⟩
  others := fun y hy hx => by
    have : y ∈ [("k" : Str), "row", "top"] := hy
    simp only [List.mem_cons, List.not_mem_nil, or_false] at this
    rcases this with q | q | q
    · exact absurd q hx
    · subst q
      refine ⟨rfl, ?_⟩
      show _ ∈ [((".0" : Str), NameKind.local), ("k", .local), ("row", .free), ("top", .free)]
      simp
    · subst q
      refine ⟨rfl, ?_⟩
      show _ ∈ [((".0" : Str), NameKind.local), ("k", .local), ("row", .free), ("top", .free)]
      simp
  ocx := fun r q => by cases q
end
end Mine

namespace Mine
open PySem PyProof.Rows PySem.W PySem.Calls

def strOfD : D → Str
  | .str x => x
  | _ => ""
def rowOfD : D → List Str
  | .list l => l.map strOfD
  | _ => []
theorem rowOfD_row (r : List Str) : rowOfD (rowD r) = r := by
  simp [rowOfD, rowD, strsD, Function.comp_def, strOfD]

theorem evHost {Γ : Fx} {ρ : List Sl} {apos pos p1 p2 p3 p4 p5 : Pos} {er et e1 : Expr} {k1 : Nat} {row : List Str} {top : Str} (hr : EvT Γ er ρ (rowD row)) (ht : EvT Γ et ρ (.str top)) (h1 : EvT Γ e1 ρ (.int (-1))) (hlen : row.length ≤ 900) (hs : ((row.reverse ++ [top]).map (·.length)).sum ≤ 100000)
    (hb : attributeBase (.Constant (.str "." ) k1 p1) "join" Γ.env (eval (.Constant (.str ".") k1 p1) Γ.env) = eval (.Constant (.str ".") k1 p1) Γ.env := by rfl) (hl : (apos.endLine == pos.line) = true := by rfl)
    (hst : starEach [.BinOp (.Subscript er (.Slice none none (some e1) p4) p3) .Add (.List [et] p5) p2] Γ.env = [(false, eval (.BinOp (.Subscript er (.Slice none none (some e1) p4) p3) .Add (.List [et] p5) p2) Γ.env)] := by rfl) (het : starEach [et] Γ.env = (false, eval et Γ.env) :: starEach [] Γ.env := by rfl) :
    EvT Γ (.Call (.Attribute (.Constant (.str ".") k1 p1) "join" apos) [.BinOp (.Subscript er (.Slice none none (some e1) p4) p3) .Add (.List [et] p5) p2] [] pos) ρ (.str (hostF top row)) := by
  have hsz : sizeLine = 16777216 := rfl
  refine Ev.join (x := ⟨#[46]⟩) (ys := row.reverse ++ [top]) Ev.str (EvT.eq (Ev.addL (Ev.slice (lo := none) (hi := none) (st := some _) (a := none) (b := none) (c := some (-1)) hr trivial trivial h1 (by decide) (by simp [strsD, hsz]; omega)) (Ev.list (EvL.cons ht EvL.nil het) (show 1 ≤ sizeLine by decide)) ?_) ?_) ?_ hb hl hst
  · rw [pick_rev]; simp [strsD, hsz]; omega
  · rw [pick_rev]; simp [strsD]
  · have : (row.reverse ++ [top]).length ≤ 901 := by simp; omega
    show _ + _ * 1 ≤ _
    omega

section
variable {prog : Program} {w : World} {h : Heap} {fd : FuncData} {a0 : Addr} {k : Nat} {A : Around} {W₀ : Addr → Prop} {L : Addr}

/-- texts short enough -/
def ShortRow (top : Str) (row : List Str) : Prop := row.length ≤ 3 ∧ (∀ y ∈ row, y.length ≤ 3) ∧ top.length ≤ 20
theorem ShortRow.sum {top : Str} {row : List Str} (h : ShortRow top row) : ((row.reverse ++ [top]).map (·.length)).sum ≤ 100000 := by
  have := sum_le (ys := row.reverse ++ [top]) (n := 20) (fun y hy => by
    rcases List.mem_append.mp hy with q | q
    · have := h.2.1 y (List.mem_reverse.mp q); omega
    · rw [List.mem_singleton.mp q]; exact h.2.2)
  have h1 := h.1
  have : (row.reverse ++ [top]).length ≤ 4 := by simp; omega
  have : (row.reverse ++ [top]).length * 20 ≤ 4 * 20 := Nat.mul_le_mul_right _ this
  omega
theorem ShortRow.take {top : Str} {row : List Str} (h : ShortRow top row) (n : Nat) : ShortRow top (row.take n) :=
  ⟨by simp; have := h.1; omega, fun y hy => h.2.1 y (List.mem_of_mem_take hy), h.2.2⟩

def f1 (top : Str) (d : D) : D := .str (hostF top (rowOfD d))
theorem l1_compT {top : Str} {rows : List (List Str)} {ρ : List Sl} (h1 : ρ[1]? = some (.dat (.str top))) (h2 : ρ[2]? = some (.dat (rowsD rows))) (hr : ∀ r ∈ rows, ShortRow top r) (hl : rows.length ≤ 100) :
    ∃ elt iter px pos, lComp1 = .ListComp elt [⟨.Name "row" px, iter, [], 0⟩] lScope1 pos ∧
    CompT (mkF prog w h lNames { fd with scope := scopeAt 16 } a0 k A W₀ L) ρ elt iter "row" [] lScope1 none ["row", "top"] [.any, .dat (.str top)] (rows.map rowD) (f1 top) (fun _ => true) := by
  have hsz : sizeLine = 16777216 := rfl
  refine ⟨_, _, _, _, rfl, Src.list (Ev.var 2 rfl h2), l1_ok, ?_, fun φ L' C d hd => .inl ⟨rfl, rfl⟩, ?_, by simp [hsz]; omega, fun _ => rfl⟩
  · intro j σ m hj hm
    match j with
    | 0 => left; simpa using hj.symm
    | 1 =>
      right
      have e1 : σ = .dat (.str top) := by simpa using hj.symm
      have e2 : m = "top" := by
        have : some ("top" : Str) = some m := hm
        exact (Option.some.inj this).symm
      subst e1 e2
      exact ⟨1, _, rfl, h1, rfl, rfl, by decide +kernel⟩
    | j + 2 => simp at hj
  · intro φ L' C d hd _
    obtain ⟨r, hmem, rfl⟩ := List.mem_map.mp hd
    have sr := hr r hmem
    unfold f1
    rw [rowOfD_row]
    exact evHost (Ev.var 0 rfl rfl) (Ev.var 1 rfl rfl) (Ev.neg Ev.int) (by have := sr.1; omega) sr.sum
theorem l1_map (top : Str) (rows : List (List Str)) : ((rows.map rowD).filter fun _ => true).map (f1 top) = strsD (rows.map (hostF top)) := by
  rw [filter_tt]
  simp [f1, rowOfD_row, strsD, Function.comp_def]

def f2 (d : D) : D := .list (strsD (namesF (strOfD d)))
theorem l2_compT (B : Base h) (hk : 3 ≤ k) {hosts : List Str} {ρ : List Sl} (h3 : ρ[3]? = some (.dat (.list (strsD hosts)))) (hr : ∀ r ∈ hosts, r.length ≤ 1000) (hl : hosts.length ≤ 100) :
    ∃ elt iter px pos, lComp2 = .ListComp elt [⟨.Name "host" px, iter, [], 0⟩] lScope2 pos ∧
    CompT (mkF prog w h lNames { fd with scope := scopeAt 16 } a0 k A W₀ L) ρ elt iter "host" [] lScope2 none ["host"] [.any] (strsD hosts) f2 (fun _ => true) := by
  have hsz : sizeLine = 16777216 := rfl
  refine ⟨_, _, _, _, rfl, Src.list (Ev.var 3 rfl h3), l2_ok, ?_, fun φ L' C d hd => .inl ⟨rfl, rfl⟩, ?_, by simp [strsD, hsz]; omega, fun _ => rfl⟩
  · intro j σ m hj hm
    match j with
    | 0 => left; simpa using hj.symm
    | j + 1 => simp at hj
  · intro φ L' C d hd _
    obtain ⟨r, hmem, rfl⟩ := List.mem_map.mp hd
    exact Ev.callF (names_ok (B.keeps fun _ _ e => e) (k := 0) (hr r hmem)) rfl (by show 0 + 3 ≤ k; omega) (EvL.cons (Ev.var 0 rfl rfl) EvL.nil)
theorem l2_map (hosts : List Str) : ((strsD hosts).filter fun _ => true).map f2 = (hosts.map namesF).map rowD := by
  rw [filter_tt]
  simp [f2, strsD, Function.comp_def, strOfD, rowD]

def f3 (top : Str) (d : D) : D := rowD (expect top (rowOfD d))
def f4 (top : Str) (row : List Str) : D → D
  | .int j => .str (hostF top (row.take j.toNat))
  | d => d
theorem l4_map (top : Str) (row : List Str) : ((rangeD row.length (-1) (row.length + 1)).filter fun _ => true).map (f4 top row) = strsD (expect top row) := by
  rw [filter_tt]
  unfold rangeD expect strsD
  rw [List.map_map, List.map_map]
  apply List.map_congr_left
  intro j hj
  have := List.mem_range.mp hj
  simp only [Function.comp, f4]
  congr 3
  omega

theorem l3_compT (B : Base h) {top : Str} {rows : List (List Str)} {ρ : List Sl} (h1 : ρ[1]? = some (.dat (.str top))) (h2 : ρ[2]? = some (.dat (rowsD rows))) (hr : ∀ r ∈ rows, ShortRow top r) (hl : rows.length ≤ 100) :
    ∃ elt iter px pos, lComp3 = .ListComp elt [⟨.Name "row" px, iter, [], 0⟩] lScope3 pos ∧
    CompT (mkF prog w h lNames { fd with scope := scopeAt 16 } a0 k A W₀ L) ρ elt iter "row" [] lScope3 (some "row") ["row", "top"] [.any, .dat (.str top)] (rows.map rowD) (f3 top) (fun _ => true) := by
  have hsz : sizeLine = 16777216 := rfl
  refine ⟨_, _, _, _, rfl, Src.list (Ev.var 2 rfl h2), l3_ok, ?_, fun φ L' C d hd => .inl ⟨rfl, rfl⟩, ?_, by simp [hsz]; omega, fun _ => rfl⟩
  · intro j σ m hj hm
    match j with
    | 0 => left; simpa using hj.symm
    | 1 =>
      right
      have e1 : σ = .dat (.str top) := by simpa using hj.symm
      have e2 : m = "top" := by
        have : some ("top" : Str) = some m := hm
        exact (Option.some.inj this).symm
      subst e1 e2
      exact ⟨1, _, rfl, h1, rfl, rfl, by decide +kernel⟩
    | j + 2 => simp at hj
  · intro φ L' C d hd _
    obtain ⟨row, hmem, rfl⟩ := List.mem_map.mp hd
    have sr := hr row hmem
    have hlen : ((strsD row).length : Int) = row.length := by simp [strsD]
    have T : ∃ elt iter px pos, lComp4 = .ListComp elt [⟨.Name "k" px, iter, [], 0⟩] lScope4 pos ∧
        CompT (compF (mkF prog w h lNames { fd with scope := scopeAt 16 } a0 k A W₀ L) φ L' lScope3 (some "row") C ["row", "top"]) [.dat (rowD row), .dat (.str top)] elt iter "k" [] lScope4 none ["k", "row", "top"] [.any, .dat (rowD row), .dat (.str top)]
          (rangeD row.length (-1) (row.length + 1)) (f4 top row) (fun _ => true) := by
      refine ⟨_, _, _, _, rfl, ?_, l4_ok, ?_, fun φ L' C d hd => .inl ⟨rfl, rfl⟩, ?_, by simp [rangeD, hsz]; have := sr.1; omega, fun _ => rfl⟩
      · refine Src.down (k1 := 0) (k2 := 0) (p1 := default) (p2 := default) B.range rfl (EvT.eq (Ev.bcall (ds := [rowD row]) B.len rfl (EvL.cons (Ev.var 0 rfl rfl) EvL.nil) (Bt.lenL (ds := strsD row) (by simp [strsD, hsz]; have := sr.1; omega))) (by rw [hlen])) (Ev.neg Ev.int) (Ev.neg Ev.int) (row.length + 1) (by omega) (by have := sr.1; omega)
      · intro j σ m hj hm
        match j with
        | 0 => left; simpa using hj.symm
        | 1 =>
          right
          have e1 : σ = .dat (rowD row) := by simpa using hj.symm
          have e2 : m = "row" := by
            have : some ("row" : Str) = some m := hm
            exact (Option.some.inj this).symm
          subst e1 e2
          exact ⟨0, _, rfl, rfl, rfl, rfl, by decide +kernel⟩
        | 2 =>
          right
          have e1 : σ = .dat (.str top) := by simpa using hj.symm
          have e2 : m = "top" := by
            have : some ("top" : Str) = some m := hm
            exact (Option.some.inj this).symm
          subst e1 e2
          exact ⟨1, _, rfl, rfl, rfl, rfl, by decide +kernel⟩
        | j + 3 => simp at hj
      · intro φ2 L2 C2 d hd _
        obtain ⟨j, hj, rfl⟩ := List.mem_map.mp hd
        have hj' := List.mem_range.mp hj
        have he : (row.length : Int) + (j : Int) * (-1) = ((row.length - j : Nat) : Int) := by omega
        rw [he]
        unfold f4
        simp only [Int.toNat_natCast]
        have st := sr.take (row.length - j)
        refine evHost (row := row.take (row.length - j)) (EvT.eq (Ev.slice (ds := strsD row) (lo := none) (hi := some _) (st := none) (a := none) (b := some ((row.length - j : Nat) : Int)) (c := none) (Ev.var 1 rfl rfl) trivial (Ev.var 0 rfl rfl) trivial (by decide) (by simp [strsD, hsz]; have := sr.1; omega)) ?_) (Ev.var 2 rfl rfl) (Ev.neg Ev.int) (by have := st.1; omega) st.sum
        rw [pick_to]; simp [rowD, strsD, List.map_take]
    obtain ⟨elt, iter, px, pos, he, T⟩ := T
    unfold f3
    rw [rowOfD_row]
    have : EvT (compF (mkF prog w h lNames { fd with scope := scopeAt 16 } a0 k A W₀ L) φ L' lScope3 (some "row") C ["row", "top"]) lComp4 [.dat (rowD row), .dat (.str top)] (rowD (expect top row)) := by
      rw [he]
      exact EvT.eq (Ev.comp T) (by rw [l4_map]; rfl)
    exact this
theorem l3_map (top : Str) (rows : List (List Str)) : ((rows.map rowD).filter fun _ => true).map (f3 top) = (rows.map (expect top)).map rowD := by
  rw [filter_tt]
  simp [f3, rowOfD_row, Function.comp_def]
end
end Mine

namespace Mine
open PySem PyProof.Rows PySem.W PySem.Calls

def topN (n : Nat) : Str := if n = 0 then "local" else if n = 1 then "x.com" else if n = 2 then "y.xlocal" else if n = 3 then "y.localx" else "y.LOCAL"
def numS (sm : Int) : Str := (⟨#[46]⟩ : Str) ++ Str.ofString (toString (sm.fmod 1000))
def shownT : List (Str × Str) := [("", "\"\""), ("(", "\\)"), ("7)", "\\\"\"7)\\\\\""), ("\\\"(", "\\(\"\\\"(\"")]

/-- what the law makes of a script -/
structure LD where
  sm : Int
  rows : List (List Str)
def LD.top (P : LD) : Str := topN (P.sm.fmod 5).toNat
def LD.hosts (P : LD) : List Str := P.rows.map (hostF P.top)
def LD.names (P : LD) : List (List Str) := P.hosts.map namesF
def LD.number (P : LD) : Str := numS P.sm
def LD.host0 (P : LD) : Str := hostF P.top (P.rows.headD [])

/-- the plain facts of the law's head -/
structure Head (P : LD) : Prop where
  okTop : Ok P.top
  nrows : 3 ≤ P.rows.length ∧ P.rows.length ≤ 5
  short : ∀ r ∈ P.rows, ShortRow P.top r
  okRows : ∀ r ∈ P.rows, ∀ y ∈ r, Ok y
  okHosts : ∀ x ∈ P.hosts, Ok x ∧ x.length ≤ 100
  okNames : ∀ r ∈ P.names, ∀ y ∈ r, Ok y ∧ y.length ≤ 100
  names : P.names = P.rows.map (expect P.top)
  okNumber : Ok P.number ∧ P.number.length ≤ 10
  n2 : namesF (P.host0 ++ P.number) = [P.host0 ++ P.number]
  n3 : namesF (P.host0 ++ (⟨#[46]⟩ : Str)) = [P.host0 ++ (⟨#[46]⟩ : Str)]
  n4 : udm (Txt.upper P.host0 ++ P.number) (P.host0 ++ P.number) = true
  n5 : udm (P.host0 ++ P.number) (((⟨#[46]⟩ : Str) ++ P.top) ++ P.number) = false

theorem Ok.app {x y : Str} (h : Ok x) (k : Ok y) (hl : x.length + y.length ≤ 1001) : Ok (x ++ y) := by
  refine ⟨?_, ?_⟩
  · show Asc (x.cps ++ y.cps).toList
    rw [Array.toList_append]
    exact h.asc.app k.asc
  · show (x.cps ++ y.cps).size ≤ _
    unfold Str.length at hl
    simp; omega
theorem app_len (x y : Str) : (x ++ y).length = x.length + y.length := by
  show (x.cps ++ y.cps).size = x.cps.size + y.cps.size
  simp
theorem ok_dot : Ok (⟨#[46]⟩ : Str) := ⟨by decide, by decide⟩

def lRest : List Stmt := (bodyAt 16).drop 10
def lTable : Stmt := match bodyAt 16 with | [_, _, _, _, _, _, _, _, _, s, _, _, _, _] => s | _ => .Pass default
def lρ (sc : List Int) (P : LD) (shown hops : Sl) : List Sl := [.dat (.list (intsD sc)), .dat (.str P.top), .dat (rowsD P.rows), .dat (.list (strsD P.hosts)), .dat (rowsD P.names), .dat (.str P.number), shown, hops, .any, .any, .any, .any, .any, .any, .any, .any, .any, .any, .any, .any, .any, .any, .any, .any]

theorem top_get : ∀ n : Nat, n < 5 → [D.str "local", .str "x.com", .str "y.xlocal", .str "y.localx", .str "y.LOCAL"][n]? = some (.str (topN n))
  | 0, _ => rfl
  | 1, _ => rfl
  | 2, _ => rfl
  | 3, _ => rfl
  | 4, _ => rfl

section
variable {prog : Program} {w : World} {h : Heap} {fd : FuncData} {a0 : Addr} {k : Nat} {A : Around} {W₀ : Addr → Prop} {L : Addr}

theorem ev_sum (B : Base h) {sc : List Int} {ρ : List Sl} (h0 : ρ[0]? = some (.dat (.list (intsD sc)))) {np p2 pos : Pos} : EvT (mkF prog w h lNames { fd with scope := scopeAt 16 } a0 k A W₀ L) (.Call (.Name "sum" np) [.Name "script" p2] [] pos) ρ (.int sc.sum) :=
  Ev.bcall B.sum rfl (EvL.cons (Ev.var 0 rfl h0) EvL.nil) Bt.sum

theorem st_l1 {top : Str} {rows : List (List Str)} {ρ : List Sl} {py pos : Pos} (h1 : ρ[1]? = some (.dat (.str top))) (h2 : ρ[2]? = some (.dat (rowsD rows))) (hr : ∀ r ∈ rows, ShortRow top r) (hl : rows.length ≤ 100)
    (hsw : swapsWith lComp1 (some (.Name "hosts" py)) pos.line (mkF prog w h lNames { fd with scope := scopeAt 16 } a0 k A W₀ L).env = pure true) :
    StT (mkF prog w h lNames { fd with scope := scopeAt 16 } a0 k A W₀ L) (.Assign [.Name "hosts" py] lComp1 pos) ρ (.next (ρ.set 3 (.dat (.list (strsD (rows.map (hostF top))))))) := by
  obtain ⟨elt, iter, px, p, he, T⟩ := l1_compT (prog := prog) (w := w) (h := h) (fd := fd) (a0 := a0) (k := k) (A := A) (W₀ := W₀) (L := L) h1 h2 hr hl
  rw [he] at hsw ⊢
  rw [← l1_map]
  exact St.comp 3 rfl T hsw
theorem st_l2 (B : Base h) (hk : 3 ≤ k) {hosts : List Str} {ρ : List Sl} {py pos : Pos} (h3 : ρ[3]? = some (.dat (.list (strsD hosts)))) (hr : ∀ r ∈ hosts, r.length ≤ 1000) (hl : hosts.length ≤ 100)
    (hsw : swapsWith lComp2 (some (.Name "names" py)) pos.line (mkF prog w h lNames { fd with scope := scopeAt 16 } a0 k A W₀ L).env = pure true) :
    StT (mkF prog w h lNames { fd with scope := scopeAt 16 } a0 k A W₀ L) (.Assign [.Name "names" py] lComp2 pos) ρ (.next (ρ.set 4 (.dat (rowsD (hosts.map namesF))))) := by
  obtain ⟨elt, iter, px, p, he, T⟩ := l2_compT (prog := prog) (w := w) (h := h) (fd := fd) (a0 := a0) (k := k) (A := A) (W₀ := W₀) (L := L) B hk h3 hr hl
  rw [he] at hsw ⊢
  unfold rowsD
  rw [← l2_map]
  exact St.comp 4 rfl T hsw
theorem ev_l3 (B : Base h) {top : Str} {rows : List (List Str)} {ρ : List Sl} (h1 : ρ[1]? = some (.dat (.str top))) (h2 : ρ[2]? = some (.dat (rowsD rows))) (hr : ∀ r ∈ rows, ShortRow top r) (hl : rows.length ≤ 100) :
    EvT (mkF prog w h lNames { fd with scope := scopeAt 16 } a0 k A W₀ L) lComp3 ρ (rowsD (rows.map (expect top))) := by
  obtain ⟨elt, iter, px, p, he, T⟩ := l3_compT (prog := prog) (w := w) (h := h) (fd := fd) (a0 := a0) (k := k) (A := A) (W₀ := W₀) (L := L) B h1 h2 hr hl
  rw [he]
  unfold rowsD
  rw [← l3_map]
  exact Ev.comp T

set_option maxHeartbeats 2000000 in
theorem law_head (B : Base h) (hk : 8 ≤ k) {sc : List Int} (hs : sc.length ≤ 63) {P : LD} (e1 : P.sm = sc.sum) (e2 : P.rows = rowsF sc) (H : Head P) {d : D}
    (rest : ExT (mkF prog w h lNames { fd with scope := scopeAt 16 } a0 k A W₀ L) (lTable :: lRest) (lρ sc P .any .any) (.ret d)) :
    ExT (mkF prog w h lNames { fd with scope := scopeAt 16 } a0 k A W₀ L) (bodyAt 16) (.dat (.list (intsD sc)) :: List.replicate 23 .any) (.ret d) := by
  have hsz : sizeLine = 16777216 := rfl
  have hm5 : sc.sum.fmod 5 = ((sc.sum.fmod 5).toNat : Int) := by
    have : 0 ≤ sc.sum.fmod 5 := Int.fmod_nonneg_of_pos _ (by decide)
    omega
  have hm5' : (sc.sum.fmod 5).toNat < 5 := by
    have : sc.sum.fmod 5 < 5 := Int.fmod_lt_of_pos _ (by decide)
    omega
  have htop : P.top = topN (sc.sum.fmod 5).toNat := by rw [← e1]; rfl
  -- top
  refine Ex.cons (St.assign (d := .str P.top) 1 (Ev.item (ds := [.str "local", .str "x.com", .str "y.xlocal", .str "y.localx", .str "y.LOCAL"]) (k := ((sc.sum.fmod 5).toNat : Int)) (Ev.list (EvL.cons Ev.str (EvL.cons Ev.str (EvL.cons Ev.str (EvL.cons Ev.str (EvL.cons Ev.str EvL.nil))))) (show 5 ≤ sizeLine by decide))
    (EvT.eq (Ev.mod (ev_sum B rfl) Ev.int) (by rw [← hm5])) (by omega) (by omega) (by rw [Int.toNat_natCast, htop]; exact top_get _ hm5')) rfl) ?_
  -- rows
  refine Ex.cons (St.assign (d := rowsD P.rows) 2 (e2 ▸ Ev.callF (rows_ok (B.keeps fun _ _ e => e) (k := 0) hs) rfl (by show 0 + 1 ≤ k; omega) (EvL.cons (Ev.var 0 rfl rfl) EvL.nil)) rfl) ?_
  have hl5 := H.nrows.2
  -- hosts, names
  refine Ex.cons (st_l1 rfl rfl H.short (by omega) rfl) ?_
  refine Ex.cons (st_l2 B (by omega) (hosts := P.hosts) rfl (fun x hx => by have := (H.okHosts x hx).2; omega) (by unfold LD.hosts; simp; omega) rfl) ?_
  -- names are what they must be
  have okN : ∀ r ∈ P.names, ∀ y ∈ r, Ok y := fun r hr y hy => (H.okNames r hr y hy).1
  refine Ex.cons (St.ifF (TsT.eq (Ts.cmp (Ev.var 4 rfl rfl) (ev_l3 B rfl rfl H.short (by omega)) (Cmp.neRL (ys := P.names) okN (H.names ▸ okN) (by show 1 ≤ k; omega))) (by rw [← H.names]; simp)) Ex.nil) ?_
  -- the number
  have hm : sc.sum.fmod 1000 = ((sc.sum.fmod 1000).toNat : Int) := by
    have : 0 ≤ sc.sum.fmod 1000 := Int.fmod_nonneg_of_pos _ (by decide)
    omega
  have hnum : P.number = (⟨#[46]⟩ : Str) ++ Str.ofString (toString (sc.sum.fmod 1000)) := by unfold LD.number numS; rw [e1]
  have hnl : ((⟨#[46]⟩ : Str) ++ Str.ofString (toString (sc.sum.fmod 1000))).length ≤ 10 := hnum ▸ H.okNumber.2
  rw [app_len] at hnl
  refine Ex.cons (St.assign (d := .str P.number) 5 (EvT.eq (Ev.cat (a := ⟨#[46]⟩) (b := Str.ofString (toString (sc.sum.fmod 1000))) Ev.str (Ev.tcall B.str rfl (EvL.cons (Ev.mod (ev_sum B rfl) Ev.int) EvL.nil) (Bt.str ?_)) (by rw [hsz]; omega)) (by rw [hnum])) rfl) ?_
  · have h1 : sc.sum.fmod 1000 < 1000 := Int.fmod_lt_of_pos _ (by decide)
    have h2 : (sc.sum.fmod 1000).natAbs < 2 ^ 10 := by omega
    by_cases h0 : (sc.sum.fmod 1000).natAbs = 0
    · rw [h0]; decide
    · have := (Nat.log2_lt h0).mpr h2; omega
  -- the host with the number, the host with a dot
  have hrne : P.rows[0]? = some (P.rows.headD []) := by
    cases hP : P.rows with
    | nil => have := H.nrows.1; rw [hP] at this; simp at this
    | cons r rs => rfl
  have hh0 : (strsD P.hosts)[0]? = some (.str P.host0) := by
    unfold strsD LD.hosts LD.host0
    rw [List.getElem?_map, List.getElem?_map, hrne]; rfl
  have h0m : P.host0 ∈ P.hosts := by
    unfold LD.hosts LD.host0
    exact List.mem_map.mpr ⟨_, List.mem_of_getElem? hrne, rfl⟩
  obtain ⟨ok0, len0⟩ := H.okHosts _ h0m
  obtain ⟨okn, lenn⟩ := H.okNumber
  have okA : Ok (P.host0 ++ P.number) := ok0.app okn (by omega)
  have okB : Ok (P.host0 ++ (⟨#[46]⟩ : Str)) := ok0.app ok_dot (by show P.host0.length + 1 ≤ _; omega)
  have lenA : (P.host0 ++ P.number).length ≤ 1000 := by rw [app_len]; omega
  have lenB : (P.host0 ++ (⟨#[46]⟩ : Str)).length ≤ 1000 := by rw [app_len]; show P.host0.length + 1 ≤ _; omega
  have evH : ∀ {p1 p2 pos : Pos} {k1 : Nat} {ρ : List Sl}, ρ[3]? = some (.dat (.list (strsD P.hosts))) → EvT (mkF prog w h lNames { fd with scope := scopeAt 16 } a0 k A W₀ L) (.Subscript (.Name "hosts" p1) (.Constant (.int 0) k1 p2) pos) ρ (.str P.host0) := fun q =>
    Ev.item (ds := strsD P.hosts) (k := 0) (Ev.var 3 rfl q) Ev.int (by decide) (by decide) hh0
  have ok1 : ∀ {x : Str}, Ok x → ∀ y ∈ [x], Ok y := fun {x} hx y hy => by rw [List.mem_singleton.mp hy]; exact hx
  refine Ex.cons (St.ifF (TsT.eq (Ts.or (Ts.cmp (Ev.callF (names_ok (B.keeps fun _ _ e => e) (k := 0) lenA) rfl (by show 0 + 3 ≤ k; omega) (EvL.cons (Ev.cat (evH rfl) (Ev.var 5 rfl rfl) (by rw [hsz]; omega)) EvL.nil)) (Ev.list (ds := strsD [P.host0 ++ P.number]) (EvL.cons (Ev.cat (evH rfl) (Ev.var 5 rfl rfl) (by rw [hsz]; omega)) EvL.nil) (show 1 ≤ sizeLine by decide)) (Cmp.neSL (by rw [H.n2]; exact ok1 okA) (ok1 okA) (by show 1 ≤ k; omega))) fun _ =>
    Ts.cmp (Ev.callF (names_ok (B.keeps fun _ _ e => e) (k := 0) lenB) rfl (by show 0 + 3 ≤ k; omega) (EvL.cons (Ev.cat (b := ⟨#[46]⟩) (evH rfl) Ev.str (by rw [hsz]; show P.host0.length + 1 ≤ _; omega)) EvL.nil)) (Ev.list (ds := strsD [P.host0 ++ (⟨#[46]⟩ : Str)]) (EvL.cons (Ev.cat (b := ⟨#[46]⟩) (evH rfl) Ev.str (by rw [hsz]; show P.host0.length + 1 ≤ _; omega)) EvL.nil) (show 1 ≤ sizeLine by decide)) (Cmp.neSL (by rw [H.n3]; exact ok1 okB) (ok1 okB) (by show 1 ≤ k; omega))) (by rw [H.n2, H.n3]; simp)) Ex.nil) ?_
  -- the two matches with the number
  have okU : Ok (Txt.upper P.host0) := ok0.upper
  have lenU : (Txt.upper P.host0).length ≤ 1001 := okU.len
  have lenU2 : (Txt.upper P.host0).length = P.host0.length := by rw [eq_S P.host0, upper_S ok0.asc]; simp [Str.length]
  have okUA : Ok (Txt.upper P.host0 ++ P.number) := okU.app okn (by omega)
  have okT : Ok (((⟨#[46]⟩ : Str) ++ P.top) ++ P.number) := by
    have hr0 := (H.short _ (List.mem_of_getElem? hrne)).2.2
    refine Ok.app (H.okTop.dot (by omega)) okn ?_
    rw [app_len]; show 1 + P.top.length + _ ≤ _; omega
  have lenT : P.top.length ≤ 20 := (H.short _ (List.mem_of_getElem? hrne)).2.2
  refine Ex.cons (St.ifF (TsT.eq (Ts.cmp (Ev.callF (udm_ok' (B.keeps fun _ _ e => e) (k := 0) okUA okA) rfl (by show 0 + 2 ≤ k; omega) (EvL.cons (Ev.cat (Ev.upper (evH rfl) okU.tooLong) (Ev.var 5 rfl rfl) (by rw [hsz]; omega)) (EvL.cons (Ev.cat (evH rfl) (Ev.var 5 rfl rfl) (by rw [hsz]; omega)) EvL.nil))) Ev.bool Cmp.isNotB) (by rw [H.n4]; rfl)) Ex.nil) ?_
  refine Ex.cons (St.ifF (TsT.eq (Ts.cmp (Ev.callF (udm_ok' (B.keeps fun _ _ e => e) (k := 0) okA okT) rfl (by show 0 + 2 ≤ k; omega) (EvL.cons (Ev.cat (evH rfl) (Ev.var 5 rfl rfl) (by rw [hsz]; omega)) (EvL.cons (Ev.cat (Ev.cat (a := ⟨#[46]⟩) Ev.str (Ev.var 1 rfl rfl) (by rw [hsz]; show 1 + P.top.length ≤ _; omega)) (Ev.var 5 rfl rfl) (by rw [hsz, app_len]; show 1 + P.top.length + _ ≤ _; omega)) EvL.nil))) Ev.bool Cmp.isNotB) (by rw [H.n5]; rfl)) Ex.nil) ?_
  exact rest
end
end Mine

namespace Mine
open PySem PyProof.Rows PySem.W PySem.Calls

inductive Wk : List Sl → List Sl → Prop
  | nil {ρ : List Sl} : Wk [] ρ
  | any {σ : Sl} {r r' : List Sl} : Wk r' r → Wk (.any :: r') (σ :: r)
  | same {σ : Sl} {r r' : List Sl} : Wk r' r → Wk (σ :: r') (σ :: r)
theorem Wk.ok {ρ' ρ : List Sl} (h : Wk ρ' ρ) : ∀ (i : Nat) σ, ρ'[i]? = some σ → σ = .any ∨ ρ[i]? = some σ := by
  induction h with
  | nil => intro i σ q; simp at q
  | any _ ih =>
    intro i σ q
    cases i with
    | zero => left; simpa using q.symm
    | succ i => exact ih i σ (by simpa using q)
  | same _ ih =>
    intro i σ q
    cases i with
    | zero => right; simpa using q
    | succ i => exact ih i σ (by simpa using q)
theorem Wk.anys : ∀ {n : Nat} {r : List Sl}, r.length = n → Wk (List.replicate n .any) r
  | 0, _, _ => .nil
  | n + 1, [], h => by simp at h
  | n + 1, σ :: r, h => .any (Wk.anys (by simpa using h))

section
variable {Γ : Fx} {ρ ρ' ρ₂ ρ₃ : List Sl} {o : Out}
theorem Ex.out {ss : List Stmt} (h : ExT Γ ss ρ (.next ρ₂)) (hw : Wk ρ₃ ρ₂) : ExT Γ ss ρ (.next ρ₃) := fun φ s I Q E k =>
  h φ s I Q E fun fl s' p => k fl s' (by
    obtain ⟨e, φ', I', st, ev⟩ := p
    exact ⟨e, φ', I'.weak hw.ok, st, ev⟩)
theorem Ex.inn {ss : List Stmt} (hw : Wk ρ' ρ) (h : ExT Γ ss ρ' o) : ExT Γ ss ρ o := Ex.weak hw.ok h
theorem St.out {st : Stmt} (h : StT Γ st ρ (.next ρ₂)) (hw : Wk ρ₃ ρ₂) : StT Γ st ρ (.next ρ₃) := fun φ s I Q E k =>
  h φ s I Q E fun fl s' p => k fl s' (by
    obtain ⟨e, φ', I', st, ev⟩ := p
    exact ⟨e, φ', I'.weak hw.ok, st, ev⟩)
theorem LoopR.inn {b : D → List Sl → Option (List Sl)} {body : List Stmt} {ds : List D} (h : LoopR Γ b body ds ρ o) (e : ρ = ρ') : LoopR Γ b body ds ρ' o := e ▸ h
end

def bsF (hh : Str) (nms : List Str) : List Bool := nms.map fun nm => udm (Txt.upper hh) ((⟨#[46]⟩ : Str) ++ nm) || udm hh (Txt.upper nm)

/-- the plain facts of a turn -/
structure Turn (P : LD) (t : Nat) (np nt : List Str) (hh : Str) (row : List Str) (hop : Str) : Prop where
  pos : 0 < t
  lt : t < P.rows.length
  gnp : P.names[t - 1]? = some np
  gnt : P.names[t]? = some nt
  ghh : P.hosts[t]? = some hh
  grow : P.rows[t]? = some row
  lens : np.length ≤ 4 ∧ nt.length ≤ 4
  match_ : ∀ nm ∈ np ++ [hh], udm (Txt.upper hh) ((⟨#[46]⟩ : Str) ++ nm) = (nt.drop 1).contains nm ∧ udm hh (Txt.upper nm) = (nm == hh)
  found : true ∈ bsF hh (np ++ [hh])
  ghop : ∃ nm b, np[(bsF hh (np ++ [hh])).idxOf true]? = some nm ∧ nm ∈ nt ∧ shownT.lookup (Txt.join "" (row.drop (row.length - 1))) = some b ∧ b.length ≤ 20 ∧
    hop = (Txt.mul (⟨#[41]⟩ : Str) ((bsF hh (np ++ [hh])).idxOf true : Nat) ++ Txt.mul (⟨#[40]⟩ : Str) (nt.idxOf nm : Nat)) ++ b

def tLoop : List Stmt := match lRest with | [_, .For _ _ b _ _, _, _] => b | _ => []
def iLoop : List Stmt := match tLoop with | [_, .For _ _ b _ _, _, _] => b | _ => []
def any14 : List Sl := List.replicate 14 .any
def lρ8 (sc : List Int) (P : LD) (shown hops : Sl) (r : List Sl) : List Sl := .dat (.list (intsD sc)) :: .dat (.str P.top) :: .dat (rowsD P.rows) :: .dat (.list (strsD P.hosts)) :: .dat (rowsD P.names) :: .dat (.str P.number) :: shown :: hops :: r

section
variable {prog : Program} {w : World} {h : Heap} {fd : FuncData} {a0 : Addr} {k : Nat} {A : Around} {W₀ : Addr → Prop} {L : Addr}

set_option maxHeartbeats 2000000 in
/-- one name held against the host -/
theorem name_turn (B : Base h) (hk : 8 ≤ k) {sc : List Int} {P : LD} (H : Head P) {t : Nat} {np nt row : List Str} {hh hop : Str} (T : Turn P t np nt hh row hop) {shown hops : Sl} {bs : List Bool} (hb : bs.length ≤ 100) {nm : Str} (hnm : nm ∈ np ++ [hh]) :
    ExT (mkF prog w h lNames { fd with scope := scopeAt 16 } a0 k A W₀ L) iLoop (lρ8 sc P shown hops (.dat (.int t) :: .own (bs.map .bool) :: .dat (.str nm) :: List.replicate 13 .any))
      (.next (lρ8 sc P shown hops (.dat (.int t) :: .own ((bs ++ [udm (Txt.upper hh) ((⟨#[46]⟩ : Str) ++ nm) || udm hh (Txt.upper nm)]).map .bool) :: any14))) := by
  have hsz : sizeLine = 16777216 := rfl
  obtain ⟨e1, e2⟩ := T.match_ nm hnm
  have hhm : hh ∈ P.hosts := List.mem_of_getElem? T.ghh
  obtain ⟨okh, lenh⟩ := H.okHosts hh hhm
  have hnm' : Ok nm ∧ nm.length ≤ 100 := by
    rcases List.mem_append.mp hnm with q | q
    · exact H.okNames np (List.mem_of_getElem? T.gnp) nm q
    · rw [List.mem_singleton.mp q]; exact ⟨okh, lenh⟩
  obtain ⟨okn, lenn⟩ := hnm'
  have htl : t < P.rows.length := T.lt
  have hl5 := H.nrows.2
  have hget : (strsD P.hosts)[t]? = some (.str hh) := by unfold strsD; rw [List.getElem?_map, T.ghh]; rfl
  have hget2 : (P.names.map rowD)[t]? = some (rowD nt) := by rw [List.getElem?_map, T.gnt]; rfl
  have evT : ∀ {p1 p2 pos : Pos} {ρ : List Sl}, ρ[3]? = some (.dat (.list (strsD P.hosts))) → ρ[8]? = some (.dat (.int t)) → EvT (mkF prog w h lNames { fd with scope := scopeAt 16 } a0 k A W₀ L) (.Subscript (.Name "hosts" p1) (.Name "t" p2) pos) ρ (.str hh) := fun q q8 =>
    Ev.item (ds := strsD P.hosts) (k := (t : Int)) (Ev.var 3 rfl q) (Ev.var 8 rfl q8) (by omega) (by omega) (by rw [Int.toNat_natCast]; exact hget)
  refine Ex.cons (St.assign 11 (Ev.callF (udm_ok' (B.keeps fun _ _ e => e) (k := 0) okh.upper (okn.dot (by omega))) rfl (by show 0 + 2 ≤ k; omega) (EvL.cons (Ev.upper (evT rfl rfl) okh.upper.tooLong) (EvL.cons (Ev.cat (a := ⟨#[46]⟩) Ev.str (Ev.var 10 rfl rfl) (by rw [hsz]; show 1 + nm.length ≤ _; omega)) EvL.nil))) rfl) ?_
  refine Ex.cons (St.assign 12 (Ev.callF (udm_ok' (B.keeps fun _ _ e => e) (k := 0) okh okn.upper) rfl (by show 0 + 2 ≤ k; omega) (EvL.cons (evT rfl rfl) (EvL.cons (Ev.upper (Ev.var 10 rfl rfl) okn.upper.tooLong) EvL.nil))) rfl) ?_
  have ntl := T.lens.2
  refine Ex.cons (St.ifF (TsT.eq (Ts.or (Ts.cmp (a := .bool _) (b := .bool _) (Ev.var 11 rfl rfl) (Ev.cmp (Ev.var 10 rfl rfl) (EvT.eq (b' := .list (strsD (nt.drop 1))) (Ev.slice (ds := strsD nt) (lo := some _) (hi := none) (st := none) (a := some ((1 : Nat) : Int)) (b := none) (c := none) (Ev.item (ds := P.names.map rowD) (k := (t : Int)) (Ev.var 4 rfl rfl) (Ev.var 8 rfl rfl) (by omega) (by omega) (by rw [Int.toNat_natCast]; exact hget2)) Ev.int trivial trivial (by decide) (by simp [strsD, hsz]; omega)) (by rw [pick_from]; simp [strsD])) Cmp.inL) Cmp.isNotB) fun _ =>
    Ts.cmp (a := .bool _) (b := .bool _) (Ev.var 12 rfl rfl) (Ev.cmp (Ev.var 10 rfl rfl) (evT rfl rfl) Cmp.eqS) Cmp.isNotB) (by rw [e1, e2]; simp)) Ex.nil) ?_
  refine Ex.out (Ex.cons (St.append 9 rfl rfl (Ev.or (Ev.var 11 rfl rfl) fun _ => Ev.var 12 rfl rfl) (by simp [hsz]; omega)) Ex.nil) ?_
  rw [List.map_append]
  exact .same (.same (.same (.same (.same (.same (.same (.same (.same (.same (Wk.anys rfl))))))))))
end
end Mine

namespace Mine
open PySem PyProof.Rows PySem.W PySem.Calls

theorem mul_len (c : Nat) (n : Nat) : (Txt.mul (⟨#[c]⟩ : Str) (n : Int)).length = n := by
  unfold Txt.mul
  have key : ∀ (m : Nat) (acc : Array Nat), ((List.replicate m (#[c] : Array Nat)).foldl (· ++ ·) acc).size = acc.size + m := by
    intro m
    induction m with
    | zero => intro acc; rfl
    | succ m ih => intro acc; rw [List.replicate_succ, List.foldl_cons, ih]; simp; omega
  split
  · rename_i h
    have : n = 0 := by omega
    subst this; rfl
  · split
    · rename_i h1 h
      have : n = 1 := by
        simp [Str.length] at h; omega
      subst this; rfl
    · show ((List.replicate (n : Int).toNat (#[c] : Array Nat)).foldl (· ++ ·) #[]).size = n
      rw [key]; simp
theorem mulOk (c : Nat) (n : Nat) (h : n ≤ 1000) : MulOk (⟨#[c]⟩ : Str) (n : Int) := by
  refine ⟨?_, fun h1 h2 => ?_, fun h1 h2 => ?_⟩
  · have a : ¬ ((n : Int) < -(2 ^ 63 : Int)) := by omega
    have b : ¬ ((n : Int) ≥ 2 ^ 63) := by omega
    simp [a, b]; omega
  · show ¬ ((1 : Int) > (2 ^ 63 - 1) / (n : Int))
    have : (1 : Int) ≤ (2 ^ 63 - 1) / (n : Int) := by
      rw [Int.le_ediv_iff_mul_le (by omega)]; omega
    omega
  · show Builtin.Str.tooLong (1 * (n : Int).toNat) = false
    unfold Builtin.Str.tooLong
    have : sizeLine = 16777216 := rfl
    simp; omega

section
variable {prog : Program} {w : World} {h : Heap} {fd : FuncData} {a0 : Addr} {k : Nat} {A : Around} {W₀ : Addr → Prop} {L : Addr}

theorem name_loop (B : Base h) (hk : 8 ≤ k) {sc : List Int} {P : LD} (H : Head P) {t : Nat} {np nt row : List Str} {hh hop : Str} (T : Turn P t np nt hh row hop) {shown hops : Sl} : ∀ (nms : List Str) (bs : List Bool), bs.length + nms.length ≤ 100 → (∀ nm ∈ nms, nm ∈ np ++ [hh]) →
    LoopR (mkF prog w h lNames { fd with scope := scopeAt 16 } a0 k A W₀ L) (bind1 10) iLoop (strsD nms) (lρ8 sc P shown hops (.dat (.int t) :: .own (bs.map .bool) :: any14))
      (.next (lρ8 sc P shown hops (.dat (.int t) :: .own ((bs ++ bsF hh nms).map .bool) :: any14)))
  | [], bs, _, _ => by
    have : bs ++ bsF hh [] = bs := by simp [bsF]
    rw [this]; exact .nil
  | nm :: nms, bs, hl, hm => by
    have ih := name_loop B hk (sc := sc) H T (shown := shown) (hops := hops) nms (bs ++ [udm (Txt.upper hh) ((⟨#[46]⟩ : Str) ++ nm) || udm hh (Txt.upper nm)]) (by simp at hl ⊢; omega) (fun x hx => hm x (.tail _ hx))
    have e : bs ++ bsF hh (nm :: nms) = bs ++ [udm (Txt.upper hh) ((⟨#[46]⟩ : Str) ++ nm) || udm hh (Txt.upper nm)] ++ bsF hh nms := by simp [bsF]
    rw [e]
    exact .next rfl (name_turn B hk H T (by simp at hl; omega) (hm nm (.head _))) ih

def tHop : Expr := match tLoop with | [_, _, _, .Expr (.Call _ [e] _ _) _] => e | _ => .Name "" default
set_option maxHeartbeats 4000000 in
theorem t_turn (B : Base h) (hk : 8 ≤ k) {sc : List Int} {P : LD} (H : Head P) {t : Nat} {np nt row : List Str} {hh hop : Str} (T : Turn P t np nt hh row hop) {d : Addr} (Tb : TabIs (mkF prog w h lNames { fd with scope := scopeAt 16 } a0 k A W₀ L) d shownT) {hops : List Str} (hb : hops.length ≤ 100) :
    ExT (mkF prog w h lNames { fd with scope := scopeAt 16 } a0 k A W₀ L) tLoop (lρ8 sc P (.val (.ref d)) (.own (strsD hops)) (.dat (.int t) :: List.replicate 15 .any))
      (.next (lρ8 sc P (.val (.ref d)) (.own (strsD (hops ++ [hop]))) (List.replicate 16 .any))) := by
  have hsz : sizeLine = 16777216 := rfl
  obtain ⟨okhh, lenh⟩ := H.okHosts hh (List.mem_of_getElem? T.ghh)
  have htl : t < P.rows.length := T.lt
  have hpos := T.pos
  have hl5 := H.nrows.2
  have hget : (strsD P.hosts)[t]? = some (.str hh) := by unfold strsD; rw [List.getElem?_map, T.ghh]; rfl
  have hgetnt : (P.names.map rowD)[t]? = some (rowD nt) := by rw [List.getElem?_map, T.gnt]; rfl
  have hgetnp : (P.names.map rowD)[t - 1]? = some (rowD np) := by rw [List.getElem?_map, T.gnp]; rfl
  have hgetr : (P.rows.map rowD)[t]? = some (rowD row) := by rw [List.getElem?_map, T.grow]; rfl
  have sr := H.short row (List.mem_of_getElem? T.grow)
  have sr1 := sr.1
  obtain ⟨nm, b, g1, g2, g3, g4, g5⟩ := T.ghop
  have lens := T.lens
  have hidx : (bsF hh (np ++ [hh])).idxOf true < np.length := (List.getElem?_eq_some_iff.mp g1).1
  have hidx2 : nt.idxOf nm < nt.length := List.idxOf_lt_length_iff.mpr g2
  generalize hu : (bsF hh (np ++ [hh])).idxOf true = u at *
  generalize hv : nt.idxOf nm = v at *
  have evNp : ∀ {p1 p2 p3 p4 pos : Pos} {k1 : Nat} {ρ : List Sl}, ρ[4]? = some (.dat (rowsD P.names)) → ρ[8]? = some (.dat (.int t)) → EvT (mkF prog w h lNames { fd with scope := scopeAt 16 } a0 k A W₀ L) (.Subscript (.Name "names" p1) (.BinOp (.Name "t" p2) .Sub (.Constant (.int 1) k1 p3) p4) pos) ρ (rowD np) := fun q q8 =>
    Ev.item (ds := P.names.map rowD) (k := (t : Int) - 1) (Ev.var 4 rfl q) (Ev.sub (Ev.var 8 rfl q8) Ev.int) (by omega) (by omega) (by rw [show ((t : Int) - 1).toNat = t - 1 by omega]; exact hgetnp)
  have evNt : ∀ {p1 p2 pos : Pos} {ρ : List Sl}, ρ[4]? = some (.dat (rowsD P.names)) → ρ[8]? = some (.dat (.int t)) → EvT (mkF prog w h lNames { fd with scope := scopeAt 16 } a0 k A W₀ L) (.Subscript (.Name "names" p1) (.Name "t" p2) pos) ρ (rowD nt) := fun q q8 =>
    Ev.item (ds := P.names.map rowD) (k := (t : Int)) (Ev.var 4 rfl q) (Ev.var 8 rfl q8) (by omega) (by omega) (by rw [Int.toNat_natCast]; exact hgetnt)
  have evR : ∀ {p1 p2 pos : Pos} {ρ : List Sl}, ρ[2]? = some (.dat (rowsD P.rows)) → ρ[8]? = some (.dat (.int t)) → EvT (mkF prog w h lNames { fd with scope := scopeAt 16 } a0 k A W₀ L) (.Subscript (.Name "rows" p1) (.Name "t" p2) pos) ρ (rowD row) := fun q q8 =>
    Ev.item (ds := P.rows.map rowD) (k := (t : Int)) (Ev.var 2 rfl q) (Ev.var 8 rfl q8) (by omega) (by omega) (by rw [Int.toNat_natCast]; exact hgetr)
  have evH : ∀ {p1 p2 pos : Pos} {ρ : List Sl}, ρ[3]? = some (.dat (.list (strsD P.hosts))) → ρ[8]? = some (.dat (.int t)) → EvT (mkF prog w h lNames { fd with scope := scopeAt 16 } a0 k A W₀ L) (.Subscript (.Name "hosts" p1) (.Name "t" p2) pos) ρ (.str hh) := fun q q8 =>
    Ev.item (ds := strsD P.hosts) (k := (t : Int)) (Ev.var 3 rfl q) (Ev.var 8 rfl q8) (by omega) (by omega) (by rw [Int.toNat_natCast]; exact hget)
  have e1 : strsD (np ++ [hh]) = strsD np ++ [.str hh] := by simp [strsD]
  have loop := name_loop (prog := prog) (w := w) (h := h) (fd := fd) (a0 := a0) (k := k) (A := A) (W₀ := W₀) (L := L) B hk H T (sc := sc) (shown := .val (.ref d)) (hops := .own (strsD hops)) (np ++ [hh]) [] (by simp; omega) (fun x hx => hx)
  rw [e1, List.nil_append] at loop
  refine Ex.cons (St.make 9 EvL.nil rfl) ?_
  refine Ex.cons (St.for (SrcC.src (Src.list (Ev.addL (ds := strsD np) (es := [.str hh]) (evNp rfl rfl) (Ev.list (EvL.cons (evH rfl rfl) EvL.nil) (show 1 ≤ sizeLine by decide)) (by simp [strsD, hsz]; omega)))) (Asg.name 10 rfl) loop) ?_
  refine Ex.freeze (l := (bsF hh (np ++ [hh])).map .bool) 9 rfl rfl ?_
  refine Ex.cons (St.assign 13 (Ev.indexB (ys := bsF hh (np ++ [hh])) (x := true) (Ev.var 9 rfl rfl) Ev.bool T.found (by simp [bsF, hsz]; omega)) rfl) ?_
  rw [hu]
  have hj : ((row.drop (row.length - 1)).map (·.length)).sum + (row.drop (row.length - 1)).length * 0 ≤ 16777216 := by
    have := sum_le (ys := row.drop (row.length - 1)) (n := 3) (fun y hy => sr.2.1 y (List.mem_of_mem_drop hy))
    have : (row.drop (row.length - 1)).length ≤ 1 := by simp; omega
    omega
  have ev : EvT (mkF prog w h lNames { fd with scope := scopeAt 16 } a0 k A W₀ L) tHop (lρ8 sc P (.val (.ref d)) (.own (strsD hops)) (.dat (.int t) :: .dat (.list ((bsF hh (np ++ [hh])).map .bool)) :: .any :: .any :: .any :: .dat (.int (u : Nat)) :: List.replicate 10 .any)) (.str hop) := by
    rw [g5]
    refine Ev.cat (Ev.cat (Ev.mulS (a := ⟨#[41]⟩) (n := (u : Int)) Ev.str (Ev.var 13 rfl rfl) (mulOk 41 u (by omega)))
      (Ev.mulS (a := ⟨#[40]⟩) (n := (v : Int)) Ev.str (hv ▸ Ev.indexS (ys := nt) (x := nm) (evNt rfl rfl) (Ev.item (ds := strsD np) (k := (u : Int)) (evNp rfl rfl) (Ev.var 13 rfl rfl) (by omega) (by omega) (by rw [Int.toNat_natCast]; unfold strsD; rw [List.getElem?_map, g1]; rfl)) g2 (by rw [hsz]; omega)) (mulOk 40 v (by omega))) (by rw [mul_len, mul_len, hsz]; omega))
      (Ev.tab 6 rfl rfl Tb (Ev.join (x := ⟨#[]⟩) (ys := row.drop (row.length - 1)) Ev.str (EvT.eq (b' := .list (strsD (row.drop (row.length - 1)))) (Ev.slice (ds := strsD row) (lo := some _) (hi := none) (st := none) (a := some (-1)) (b := none) (c := none) (evR rfl rfl) (Ev.neg Ev.int) trivial trivial (by decide) (by simp [strsD, hsz]; omega)) (by rw [pick_last]; simp [strsD])) hj) g3) (by rw [app_len, mul_len, mul_len, hsz]; omega)
  rw [← strsD_app]
  refine Ex.out (Ex.cons (St.append 7 rfl rfl ev (by simp [strsD, hsz]; omega)) Ex.nil) ?_
  exact .same (.same (.same (.same (.same (.same (.same (.same (Wk.anys rfl))))))))
end
end Mine

namespace Mine
open PySem PyProof.Rows PySem.W PySem.Calls

/-- the plain facts of all turns -/
structure HopsOk (P : LD) (hops : List Str) : Prop where
  len : hops.length = P.rows.length
  zero : hops[0]? = some (⟨#[]⟩ : Str)
  turn : ∀ t hop, 0 < t → hops[t]? = some hop → ∃ np nt hh row, Turn P t np nt hh row hop

def any16 : List Sl := List.replicate 16 .any

section
variable {prog : Program} {w : World} {h : Heap} {fd : FuncData} {a0 : Addr} {k : Nat} {A : Around} {W₀ : Addr → Prop} {L : Addr}

theorem t_loop (B : Base h) (hk : 8 ≤ k) {sc : List Int} {P : LD} (H : Head P) {hops : List Str} (HO : HopsOk P hops) {d : Addr} (Tb : TabIs (mkF prog w h lNames { fd with scope := scopeAt 16 } a0 k A W₀ L) d shownT) : ∀ (cnt m : Nat), m + cnt = hops.length → 1 ≤ m →
    LoopR (mkF prog w h lNames { fd with scope := scopeAt 16 } a0 k A W₀ L) (bind1 8) tLoop (rangeD m 1 cnt) (lρ8 sc P (.val (.ref d)) (.own (strsD (hops.take m))) any16)
      (.next (lρ8 sc P (.val (.ref d)) (.own (strsD hops)) any16))
  | 0, m, hm, h1 => by
    rw [List.take_of_length_le (by omega)]
    exact .nil
  | cnt + 1, m, hm, h1 => by
    have hlt : m < hops.length := by omega
    obtain ⟨np, nt, hh, row, T⟩ := HO.turn m hops[m] h1 (List.getElem?_eq_getElem hlt)
    have ih := t_loop B hk (sc := sc) H HO Tb cnt (m + 1) (by omega) (by omega)
    rw [rangeD_succ, show (m : Int) + 1 = ((m + 1 : Nat) : Int) by omega]
    have e : hops.take (m + 1) = hops.take m ++ [hops[m]] := by rw [List.take_add_one, List.getElem?_eq_getElem hlt]; rfl
    rw [e] at ih
    have hl := HO.len
    have := H.nrows.2
    exact .next rfl (t_turn B hk H T Tb (by simp; omega)) ih
end

def betweenF (hops : List Str) (i j : Nat) : Str := Txt.join (⟨#[]⟩ : Str) ((hops.take (j + 1)).drop (i + 1))
def commonIJ (P : LD) (i j : Nat) : Nat := commonF ((P.rows.take (j + 1)).drop i)
def dueF (u v a b : Nat) : Bool := decide ((u : Int) ≤ a) && ((a : Int) - b == (u : Int) - v)

/-- the plain facts of a pair of visits -/
structure Pair (P : LD) (hops : List Str) (i j : Nat) (ri rj ni nj : List Str) (u v : Nat) : Prop where
  lt : i < j
  lt2 : j < P.rows.length
  gri : P.rows[i]? = some ri
  grj : P.rows[j]? = some rj
  gni : P.names[i]? = some ni
  gnj : P.names[j]? = some nj
  nlen : ni.length ≤ 4 ∧ nj.length ≤ 4
  eu : ri.length = u + commonIJ P i j
  ev : rj.length = v + commonIJ P i j
  blen : (((hops.take (j + 1)).drop (i + 1)).map (·.length)).sum ≤ 500
  check : ∀ a b : Nat, a ≤ 20 → b ≤ 20 → checkF ((Txt.mul (⟨#[40]⟩ : Str) (a : Int) ++ betweenF hops i j) ++ Txt.mul (⟨#[41]⟩ : Str) (b : Int)) = dueF u v a b
  told : ∀ (a b : Nat) nm nm', ni[a]? = some nm → nj[b]? = some nm' → (nm == nm' && holdsF nm ((P.hosts.take (j + 1)).drop i)) = dueF u v a b

def jLoop : List Stmt := match lRest with | [_, _, .For _ _ [.For _ _ b _ _] _ _, _] => b | _ => []
def pLoop : List Stmt := match jLoop with | [_, _, _, _, _, .For _ _ b _ _] => b | _ => []

def pTest : Expr := match pLoop with | [_, _, .If t _ _ _] => t | _ => .Name "" default
def jρ (up i j between common down shift : D) (r : List Sl) : List Sl := .any :: .any :: .any :: .any :: .any :: .dat up :: .dat i :: .dat j :: .dat between :: .dat common :: .dat down :: .dat shift :: r

section
variable {prog : Program} {w : World} {h : Heap} {fd : FuncData} {a0 : Addr} {k : Nat} {A : Around} {W₀ : Addr → Prop} {L : Addr}

set_option maxHeartbeats 4000000 in
theorem p_turn (B : Base h) (hk : 8 ≤ k) {sc : List Int} {P : LD} (H : Head P) {hops : List Str} {i j : Nat} {ri rj ni nj : List Str} {u v : Nat} (Q : Pair P hops i j ri rj ni nj u v) {shown hp : Sl} {c s : D} {a b : Nat} (ha : a ≤ 20) (hb : b ≤ 20) :
    ExT (mkF prog w h lNames { fd with scope := scopeAt 16 } a0 k A W₀ L) pLoop (lρ8 sc P shown hp (jρ (.int u) (.int i) (.int j) (.str (betweenF hops i j)) c (.int v) s (.dat (.int a) :: .dat (.int b) :: List.replicate 2 .any)))
      (.next (lρ8 sc P shown hp (jρ (.int u) (.int i) (.int j) (.str (betweenF hops i j)) c (.int v) s (List.replicate 4 .any)))) := by
  have hsz : sizeLine = 16777216 := rfl
  have hlt := Q.lt
  have hlt2 := Q.lt2
  have hl5 := H.nrows.2
  have bl : (betweenF hops i j).length ≤ 500 := by
    have := StrLaws.join_length_le (⟨#[]⟩ : Str) ((hops.take (j + 1)).drop (i + 1))
    unfold betweenF
    show (Builtin.Str.glued _ _).length ≤ 500
    rw [StrLaws.glued_eq_join]
    have e0 : (⟨#[]⟩ : Str).length = 0 := rfl
    rw [e0, Nat.mul_zero] at this
    have := Q.blen
    omega
  -- due
  refine Ex.cons (St.assign (d := .bool (dueF u v a b)) 22 (Ev.and (Ev.cmp (Ev.var 20 rfl rfl) (Ev.var 13 rfl rfl) Cmp.geI) fun _ => Ev.cmp (Ev.sub (Ev.var 20 rfl rfl) (Ev.var 21 rfl rfl)) (Ev.sub (Ev.var 13 rfl rfl) (Ev.var 18 rfl rfl)) Cmp.eqI) rfl) ?_
  have hlen : ((Txt.mul (⟨#[40]⟩ : Str) (a : Int) ++ betweenF hops i j) ++ Txt.mul (⟨#[41]⟩ : Str) (b : Int)).length ≤ 1000 := by
    rw [app_len, app_len, mul_len, mul_len]; omega
  -- the check
  refine Ex.cons (St.ifF (TsT.eq (Ts.cmp (a := .bool _) (b := .bool _) (Ev.callF (check_ok (B.keeps fun _ _ e => e) (k := 0) hlen) rfl (by show 0 + 4 ≤ k; omega) (EvL.cons (Ev.cat (Ev.cat (Ev.mulS (a := ⟨#[40]⟩) (n := (a : Int)) Ev.str (Ev.var 20 rfl rfl) (mulOk 40 a (by omega))) (Ev.var 16 rfl rfl) (by rw [mul_len, hsz]; omega)) (Ev.mulS (a := ⟨#[41]⟩) (n := (b : Int)) Ev.str (Ev.var 21 rfl rfl) (mulOk 41 b (by omega))) (by rw [app_len, mul_len, mul_len, hsz]; omega)) EvL.nil)) (Ev.var 22 rfl rfl) Cmp.isNotB) (by rw [Q.check a b ha hb]; simp)) Ex.nil) ?_
  have hgetni : (P.names.map rowD)[i]? = some (rowD ni) := by rw [List.getElem?_map, Q.gni]; rfl
  have hgetnj : (P.names.map rowD)[j]? = some (rowD nj) := by rw [List.getElem?_map, Q.gnj]; rfl
  have nlen := Q.nlen
  have evNi : ∀ {p1 p2 pos : Pos} {ρ : List Sl}, ρ[4]? = some (.dat (rowsD P.names)) → ρ[14]? = some (.dat (.int i)) → EvT (mkF prog w h lNames { fd with scope := scopeAt 16 } a0 k A W₀ L) (.Subscript (.Name "names" p1) (.Name "i" p2) pos) ρ (rowD ni) := fun q q8 =>
    Ev.item (ds := P.names.map rowD) (k := (i : Int)) (Ev.var 4 rfl q) (Ev.var 14 rfl q8) (by omega) (by omega) (by rw [Int.toNat_natCast]; exact hgetni)
  have evNj : ∀ {p1 p2 pos : Pos} {ρ : List Sl}, ρ[4]? = some (.dat (rowsD P.names)) → ρ[15]? = some (.dat (.int j)) → EvT (mkF prog w h lNames { fd with scope := scopeAt 16 } a0 k A W₀ L) (.Subscript (.Name "names" p1) (.Name "j" p2) pos) ρ (rowD nj) := fun q q8 =>
    Ev.item (ds := P.names.map rowD) (k := (j : Int)) (Ev.var 4 rfl q) (Ev.var 15 rfl q8) (by omega) (by omega) (by rw [Int.toNat_natCast]; exact hgetnj)
  have lni : (strsD ni).length = ni.length := by simp [strsD]
  have lnj : (strsD nj).length = nj.length := by simp [strsD]
  have evT : ∀ (r : Bool), (decide ((a : Int) < ni.length) && decide ((b : Int) < nj.length)) = r → TsT (mkF prog w h lNames { fd with scope := scopeAt 16 } a0 k A W₀ L) pTest (lρ8 sc P shown hp (jρ (.int u) (.int i) (.int j) (.str (betweenF hops i j)) c (.int v) s (.dat (.int a) :: .dat (.int b) :: .dat (.bool (dueF u v a b)) :: List.replicate 1 .any))) r := fun r e =>
    TsT.eq (Ts.and (Ts.cmp (Ev.var 20 rfl rfl) (Ev.bcall (ds := [rowD ni]) B.len rfl (EvL.cons (evNi rfl rfl) EvL.nil) (Bt.lenL (ds := strsD ni) (by rw [lni, hsz]; omega))) Cmp.ltI) fun _ => Ts.cmp (Ev.var 21 rfl rfl) (Ev.bcall (ds := [rowD nj]) B.len rfl (EvL.cons (evNj rfl rfl) EvL.nil) (Bt.lenL (ds := strsD nj) (by rw [lnj, hsz]; omega))) Cmp.ltI) (by rw [lni, lnj]; exact e)
  cases hin : (decide ((a : Int) < ni.length) && decide ((b : Int) < nj.length)) with
  | false =>
    exact Ex.out (Ex.cons (St.ifF (evT _ hin) Ex.nil) Ex.nil) (.same (.same (.same (.same (.same (.same (.same (.same (.same (.same (.same (.same (.same (.same (.same (.same (.same (.same (.same (.same (Wk.anys rfl)))))))))))))))))))))
  | true =>
    simp only [Bool.and_eq_true, decide_eq_true_eq] at hin
    obtain ⟨hia, hib⟩ := id hin
    have hia' : a < ni.length := by omega
    have hib' : b < nj.length := by omega
    have ga : ni[a]? = some ni[a] := List.getElem?_eq_getElem hia'
    have gb : nj[b]? = some nj[b] := List.getElem?_eq_getElem hib'
    have hT := Q.told a b _ _ ga gb
    obtain ⟨okA, lenA⟩ := H.okNames ni (List.mem_of_getElem? Q.gni) _ (List.mem_of_getElem? ga)
    have okHs : ∀ x ∈ (P.hosts.take (j + 1)).drop i, Ok x := fun x hx => (H.okHosts x (List.mem_of_mem_take (List.mem_of_mem_drop hx))).1
    generalize ni[a] = nm at *
    generalize nj[b] = nm' at *
    have hhl : P.hosts.length = P.rows.length := by unfold LD.hosts; simp
    have sl : pickL (some (i : Int)) (some ((j : Int) + 1)) none (strsD P.hosts) = strsD ((P.hosts.take (j + 1)).drop i) := by
      rw [show (j : Int) + 1 = ((j + 1 : Nat) : Int) by omega, pick_run _ _ _ (by simp [strsD]; omega) (by omega)]
      simp [strsD, List.map_take, List.map_drop]
    have evA : ∀ {p1 p2 p3 p4 pos : Pos} {ρ : List Sl}, ρ[4]? = some (.dat (rowsD P.names)) → ρ[14]? = some (.dat (.int i)) → ρ[20]? = some (.dat (.int a)) → EvT (mkF prog w h lNames { fd with scope := scopeAt 16 } a0 k A W₀ L) (.Subscript (.Subscript (.Name "names" p1) (.Name "i" p2) p3) (.Name "ahead" p4) pos) ρ (.str nm) := fun q q8 q20 =>
      Ev.item (ds := strsD ni) (k := (a : Int)) (evNi q q8) (Ev.var 20 rfl q20) (by omega) (by omega) (by rw [Int.toNat_natCast]; unfold strsD; rw [List.getElem?_map, ga]; rfl)
    have evB : ∀ {p1 p2 p3 p4 pos : Pos} {ρ : List Sl}, ρ[4]? = some (.dat (rowsD P.names)) → ρ[15]? = some (.dat (.int j)) → ρ[21]? = some (.dat (.int b)) → EvT (mkF prog w h lNames { fd with scope := scopeAt 16 } a0 k A W₀ L) (.Subscript (.Subscript (.Name "names" p1) (.Name "j" p2) p3) (.Name "behind" p4) pos) ρ (.str nm') := fun q q8 q20 =>
      Ev.item (ds := strsD nj) (k := (b : Int)) (evNj q q8) (Ev.var 21 rfl q20) (by omega) (by omega) (by rw [Int.toNat_natCast]; unfold strsD; rw [List.getElem?_map, gb]; rfl)
    refine Ex.out (Ex.cons (ρ' := lρ8 sc P shown hp (jρ (.int u) (.int i) (.int j) (.str (betweenF hops i j)) c (.int v) s (.dat (.int a) :: .dat (.int b) :: .dat (.bool (dueF u v a b)) :: .dat (.bool (nm == nm' && holdsF nm ((P.hosts.take (j + 1)).drop i))) :: []))) (St.ifT (evT true (by simp [hia, hib])) ?_) Ex.nil) (.same (.same (.same (.same (.same (.same (.same (.same (.same (.same (.same (.same (.same (.same (.same (.same (.same (.same (.same (.same (Wk.anys rfl)))))))))))))))))))))
    refine Ex.cons (St.assign 23 (Ev.and (Ev.cmp (evA rfl rfl rfl) (evB rfl rfl rfl) Cmp.eqS) fun _ => Ev.callF (holds_ok (B.keeps fun _ _ e => e) (k := 0) (hosts := (P.hosts.take (j + 1)).drop i) okA (by omega) okHs) rfl (by show 0 + 3 ≤ k; omega) (EvL.cons (evA rfl rfl rfl) (EvL.cons (EvT.eq (Ev.slice (ds := strsD P.hosts) (lo := some _) (hi := some _) (st := none) (a := some (i : Int)) (b := some ((j : Int) + 1)) (c := none) (Ev.var 3 rfl rfl) (Ev.var 14 rfl rfl) (Ev.add (Ev.var 15 rfl rfl) Ev.int) trivial (by decide) (by simp [strsD, hsz]; omega)) (by rw [sl])) EvL.nil))) rfl) ?_
    exact Ex.cons (St.ifF (TsT.eq (Ts.cmp (a := .bool _) (b := .bool _) (Ev.var 23 rfl rfl) (Ev.var 22 rfl rfl) Cmp.isNotB) (by rw [hT]; simp)) Ex.nil) Ex.nil
end
end Mine

namespace Mine
open PySem PyProof.Rows PySem.W PySem.Calls

def shiftF (P : LD) (i j : Nat) : Int := (P.sm + 3 * (i : Int) + 5 * (j : Int) + 4).fmod 9
theorem shift_range (P : LD) (i j : Nat) : 0 ≤ shiftF P i j ∧ shiftF P i j < 9 := ⟨Int.fmod_nonneg_of_pos _ (by decide), Int.fmod_lt_of_pos _ (by decide)⟩
def a2F (P : LD) (i j u : Nat) : Nat := (max 0 ((u : Int) + (shiftF P i j).fmod 3 - 1)).toNat
def b2F (P : LD) (i j v : Nat) : Nat := (max 0 ((v : Int) + (shiftF P i j).fdiv 3 - 1)).toNat
theorem a2_le (P : LD) (i j u : Nat) (h : u ≤ 3) : a2F P i j u ≤ 20 ∧ (a2F P i j u : Int) = max 0 ((u : Int) + (shiftF P i j).fmod 3 - 1) := by
  have h1 : (shiftF P i j).fmod 3 < 3 := Int.fmod_lt_of_pos _ (by decide)
  have h2 : 0 ≤ (shiftF P i j).fmod 3 := Int.fmod_nonneg_of_pos _ (by decide)
  unfold a2F
  generalize (shiftF P i j).fmod 3 = z at *
  omega
theorem b2_le (P : LD) (i j u : Nat) (h : u ≤ 3) : b2F P i j u ≤ 20 ∧ (b2F P i j u : Int) = max 0 ((u : Int) + (shiftF P i j).fdiv 3 - 1) := by
  have h0 := shift_range P i j
  have h1 : (shiftF P i j).fdiv 3 = shiftF P i j / 3 := Int.fdiv_eq_ediv_of_nonneg _ (by decide)
  unfold b2F
  rw [h1]
  generalize shiftF P i j = z at *
  omega

def iρ (i : D) (r : List Sl) : List Sl := .any :: .any :: .any :: .any :: .any :: .any :: .dat i :: r

section
variable {prog : Program} {w : World} {h : Heap} {fd : FuncData} {a0 : Addr} {k : Nat} {A : Around} {W₀ : Addr → Prop} {L : Addr}

set_option maxHeartbeats 4000000 in
theorem j_turn (B : Base h) (hk : 8 ≤ k) {sc : List Int} {P : LD} (e1 : P.sm = sc.sum) (H : Head P) {hops : List Str} (hhl : hops.length = P.rows.length) {i j : Nat} {ri rj ni nj : List Str} {u v : Nat} (Q : Pair P hops i j ri rj ni nj u v) {shown : Sl} :
    ExT (mkF prog w h lNames { fd with scope := scopeAt 16 } a0 k A W₀ L) jLoop (lρ8 sc P shown (.dat (.list (strsD hops))) (iρ (.int i) (.dat (.int j) :: List.replicate 8 .any)))
      (.next (lρ8 sc P shown (.dat (.list (strsD hops))) (iρ (.int i) (List.replicate 9 .any)))) := by
  have hsz : sizeLine = 16777216 := rfl
  have hlt := Q.lt
  have hlt2 := Q.lt2
  have hl5 := H.nrows.2
  have eu := Q.eu
  have ev := Q.ev
  have sri := (H.short ri (List.mem_of_getElem? Q.gri)).1
  have srj := (H.short rj (List.mem_of_getElem? Q.grj)).1
  have sl : pickL (some ((i : Int) + 1)) (some ((j : Int) + 1)) none (strsD hops) = strsD ((hops.take (j + 1)).drop (i + 1)) := by
    rw [show (j : Int) + 1 = ((j + 1 : Nat) : Int) by omega, show (i : Int) + 1 = ((i + 1 : Nat) : Int) by omega, pick_run _ _ _ (by simp [strsD]; omega) (by omega)]
    simp [strsD, List.map_take, List.map_drop]
  have sl2 : pickL (some (i : Int)) (some ((j : Int) + 1)) none (P.rows.map rowD) = ((P.rows.take (j + 1)).drop i).map rowD := by
    rw [show (j : Int) + 1 = ((j + 1 : Nat) : Int) by omega, pick_run _ _ _ (by simp; omega) (by omega)]
    simp [List.map_take, List.map_drop]
  have hri : (P.rows.map rowD)[i]? = some (rowD ri) := by rw [List.getElem?_map, Q.gri]; rfl
  have hrj : (P.rows.map rowD)[j]? = some (rowD rj) := by rw [List.getElem?_map, Q.grj]; rfl
  have lri : (strsD ri).length = ri.length := by simp [strsD]
  have lrj : (strsD rj).length = rj.length := by simp [strsD]
  have hrne : (P.rows.take (j + 1)).drop i ≠ [] := by
    intro q
    have := congrArg List.length q
    simp at this; omega
  have hbl := Q.blen
  -- between
  refine Ex.cons (St.assign (d := .str (betweenF hops i j)) 16 (Ev.join (x := ⟨#[]⟩) (ys := (hops.take (j + 1)).drop (i + 1)) Ev.str (EvT.eq (Ev.slice (ds := strsD hops) (lo := some _) (hi := some _) (st := none) (a := some ((i : Int) + 1)) (b := some ((j : Int) + 1)) (c := none) (Ev.var 7 rfl rfl) (Ev.add (Ev.var 14 rfl rfl) Ev.int) (Ev.add (Ev.var 15 rfl rfl) Ev.int) trivial (by decide) (by simp [strsD, hsz]; omega)) (by rw [sl])) (by
    show _ + _ * 0 ≤ _
    omega)) rfl) ?_
  -- common
  refine Ex.cons (St.assign (d := .int (commonIJ P i j : Nat)) 17 (Ev.callF (common_ok (B.keeps fun _ _ e => e) (k := 0) (rows := (P.rows.take (j + 1)).drop i) hrne (fun r hr => H.okRows r (List.mem_of_mem_take (List.mem_of_mem_drop hr))) (fun r hr => by have := (H.short r (List.mem_of_mem_take (List.mem_of_mem_drop hr))).1; omega) (by simp; omega)) rfl (by show 0 + 2 ≤ k; omega)
    (EvL.cons (EvT.eq (Ev.slice (ds := P.rows.map rowD) (lo := some _) (hi := some _) (st := none) (a := some (i : Int)) (b := some ((j : Int) + 1)) (c := none) (Ev.var 2 rfl rfl) (Ev.var 14 rfl rfl) (Ev.add (Ev.var 15 rfl rfl) Ev.int) trivial (by decide) (by simp [hsz]; omega)) (by rw [sl2]; rfl)) EvL.nil)) rfl) ?_
  -- up, down
  refine Ex.cons (St.assign (d := .int u) 13 (EvT.eq (Ev.sub (Ev.bcall (ds := [rowD ri]) B.len rfl (EvL.cons (Ev.item (ds := P.rows.map rowD) (k := (i : Int)) (Ev.var 2 rfl rfl) (Ev.var 14 rfl rfl) (by omega) (by omega) (by rw [Int.toNat_natCast]; exact hri)) EvL.nil) (Bt.lenL (ds := strsD ri) (by rw [lri, hsz]; omega))) (Ev.var 17 rfl rfl)) (by rw [lri]; congr 1; omega)) rfl) ?_
  refine Ex.cons (St.assign (d := .int v) 18 (EvT.eq (Ev.sub (Ev.bcall (ds := [rowD rj]) B.len rfl (EvL.cons (Ev.item (ds := P.rows.map rowD) (k := (j : Int)) (Ev.var 2 rfl rfl) (Ev.var 15 rfl rfl) (by omega) (by omega) (by rw [Int.toNat_natCast]; exact hrj)) EvL.nil) (Bt.lenL (ds := strsD rj) (by rw [lrj, hsz]; omega))) (Ev.var 17 rfl rfl)) (by rw [lrj]; congr 1; omega)) rfl) ?_
  -- shift
  refine Ex.cons (St.assign (d := .int (shiftF P i j)) 19 (EvT.eq (Ev.mod (Ev.add (Ev.add (Ev.add (ev_sum B rfl) (Ev.mul (a := 3) (b := (i : Int)) Ev.int (Ev.var 14 rfl rfl) ?_)) (Ev.mul (a := 5) (b := (j : Int)) Ev.int (Ev.var 15 rfl rfl) ?_)) Ev.int) Ev.int) (by unfold shiftF; rw [e1])) rfl) ?_
  · exact IntMulOk.of_left (by decide +kernel)
  · exact IntMulOk.of_left (by decide +kernel)
  have hu3 : u ≤ 3 := by omega
  have hv3 : v ≤ 3 := by omega
  obtain ⟨ha, ea⟩ := a2_le P i j u hu3
  obtain ⟨hb, eb⟩ := b2_le P i j v hv3
  have loop : LoopR (mkF prog w h lNames { fd with scope := scopeAt 16 } a0 k A W₀ L) (bind2 20 21) pLoop [.tuple [.int u, .int v], .tuple [.int (a2F P i j u : Nat), .int (b2F P i j v : Nat)]]
      (lρ8 sc P shown (.dat (.list (strsD hops))) (jρ (.int u) (.int i) (.int j) (.str (betweenF hops i j)) (.int (commonIJ P i j : Nat)) (.int v) (.int (shiftF P i j)) (List.replicate 4 .any)))
      (.next (lρ8 sc P shown (.dat (.list (strsD hops))) (jρ (.int u) (.int i) (.int j) (.str (betweenF hops i j)) (.int (commonIJ P i j : Nat)) (.int v) (.int (shiftF P i j)) (List.replicate 4 .any)))) :=
    .next rfl (p_turn B hk H Q (by omega) (by omega)) (.next rfl (p_turn B hk H Q ha hb) .nil)
  refine Ex.out (Ex.cons (St.for (SrcC.src (Src.list (Ev.list (EvL.cons (Ev.tuple (EvL.cons (Ev.var 13 rfl rfl) (EvL.cons (Ev.var 18 rfl rfl) EvL.nil)) (show 2 ≤ sizeLine by decide)) (EvL.cons (Ev.tuple (ds := [.int (a2F P i j u : Nat), .int (b2F P i j v : Nat)])
      (EvL.cons (EvT.eq (Ev.bcall B.max rfl (EvL.cons Ev.int (EvL.cons (Ev.sub (Ev.add (Ev.var 13 rfl rfl) (Ev.mod (Ev.var 19 rfl rfl) Ev.int)) Ev.int) EvL.nil)) Bt.max) (by rw [ea]))
      (EvL.cons (EvT.eq (Ev.bcall B.max rfl (EvL.cons Ev.int (EvL.cons (Ev.sub (Ev.add (Ev.var 18 rfl rfl) (Ev.fdiv (Ev.var 19 rfl rfl) Ev.int (by decide) (PyProof.noPylong_small (by decide)))) Ev.int) EvL.nil)) Bt.max) (by rw [eb])) EvL.nil)) (show 2 ≤ sizeLine by decide)) EvL.nil)) (show 2 ≤ sizeLine by decide)))) (Asg.pair 20 21 rfl rfl) loop) Ex.nil) ?_
  exact .same (.same (.same (.same (.same (.same (.same (.same (.any (.any (.any (.any (.any (.any (.same (Wk.anys rfl)))))))))))))))
end
end Mine

namespace Mine
open PySem PyProof.Rows PySem.W PySem.Calls

def Pairs (P : LD) (hops : List Str) : Prop := ∀ i j, i < j → j < P.rows.length → ∃ ri rj ni nj u v, Pair P hops i j ri rj ni nj u v
def iLoop2 : List Stmt := match lRest with | [_, _, .For _ _ b _ _, _] => b | _ => []

section
variable {prog : Program} {w : World} {h : Heap} {fd : FuncData} {a0 : Addr} {k : Nat} {A : Around} {W₀ : Addr → Prop} {L : Addr}

theorem j_loop (B : Base h) (hk : 8 ≤ k) {sc : List Int} {P : LD} (e1 : P.sm = sc.sum) (H : Head P) {hops : List Str} (hhl : hops.length = P.rows.length) (PP : Pairs P hops) {i : Nat} {shown : Sl} : ∀ (cnt m : Nat), m + cnt = P.rows.length → i < m →
    LoopR (mkF prog w h lNames { fd with scope := scopeAt 16 } a0 k A W₀ L) (bind1 15) jLoop (rangeD m 1 cnt) (lρ8 sc P shown (.dat (.list (strsD hops))) (iρ (.int i) (List.replicate 9 .any)))
      (.next (lρ8 sc P shown (.dat (.list (strsD hops))) (iρ (.int i) (List.replicate 9 .any))))
  | 0, m, _, _ => .nil
  | cnt + 1, m, hm, hi => by
    obtain ⟨ri, rj, ni, nj, u, v, Q⟩ := PP i m hi (by omega)
    have ih := j_loop B hk (sc := sc) e1 H hhl PP (i := i) (shown := shown) cnt (m + 1) (by omega) (by omega)
    rw [rangeD_succ, show (m : Int) + 1 = ((m + 1 : Nat) : Int) by omega]
    exact .next rfl (j_turn B hk e1 H hhl Q) ih

theorem i_turn (B : Base h) (hk : 8 ≤ k) {sc : List Int} {P : LD} (e1 : P.sm = sc.sum) (H : Head P) {hops : List Str} (hhl : hops.length = P.rows.length) (PP : Pairs P hops) {i : Nat} (hi : i < P.rows.length) {shown : Sl} :
    ExT (mkF prog w h lNames { fd with scope := scopeAt 16 } a0 k A W₀ L) iLoop2 (lρ8 sc P shown (.dat (.list (strsD hops))) (iρ (.int i) (List.replicate 9 .any)))
      (.next (lρ8 sc P shown (.dat (.list (strsD hops))) any16)) := by
  have hl5 := H.nrows.2
  have hsz : sizeLine = 16777216 := rfl
  have loop := j_loop (prog := prog) (w := w) (h := h) (fd := fd) (a0 := a0) (k := k) (A := A) (W₀ := W₀) (L := L) B hk (sc := sc) e1 H hhl PP (i := i) (shown := shown) (P.rows.length - (i + 1)) (i + 1) (by omega) (by omega)
  have e : (((i + 1 : Nat) : Int)) = (i : Int) + 1 := by omega
  rw [e] at loop
  have lr : (P.rows.map rowD).length = P.rows.length := by simp
  refine Ex.out (Ex.cons (St.for (SrcC.src (Src.range2 (b := (P.rows.length : Int)) B.range rfl (Ev.add (Ev.var 14 rfl rfl) Ev.int) (EvT.eq (Ev.bcall (ds := [rowsD P.rows]) B.len rfl (EvL.cons (Ev.var 2 rfl rfl) EvL.nil) (Bt.lenL (ds := P.rows.map rowD) (by rw [lr, hsz]; omega))) (by rw [lr])) _ (by omega) (by omega) (by omega) (by omega) (by omega))) (Asg.name 15 rfl) loop) Ex.nil) ?_
  exact .same (.same (.same (.same (.same (.same (.same (.same (Wk.anys rfl))))))))

theorem i_loop (B : Base h) (hk : 8 ≤ k) {sc : List Int} {P : LD} (e1 : P.sm = sc.sum) (H : Head P) {hops : List Str} (hhl : hops.length = P.rows.length) (PP : Pairs P hops) {shown : Sl} : ∀ (cnt m : Nat), m + cnt = P.rows.length →
    LoopR (mkF prog w h lNames { fd with scope := scopeAt 16 } a0 k A W₀ L) (bind1 14) iLoop2 (rangeD m 1 cnt) (lρ8 sc P shown (.dat (.list (strsD hops))) any16)
      (.next (lρ8 sc P shown (.dat (.list (strsD hops))) any16))
  | 0, m, _ => .nil
  | cnt + 1, m, hm => by
    have ih := i_loop B hk (sc := sc) e1 H hhl PP (shown := shown) cnt (m + 1) (by omega)
    rw [rangeD_succ, show (m : Int) + 1 = ((m + 1 : Nat) : Int) by omega]
    exact .next rfl (i_turn B hk e1 H hhl PP (by omega)) ih

theorem law_tail (B : Base h) (hk : 8 ≤ k) {sc : List Int} {P : LD} (e1 : P.sm = sc.sum) (H : Head P) {hops : List Str} (HO : HopsOk P hops) (PP : Pairs P hops) {d : Addr} (Tb : TabIs (mkF prog w h lNames { fd with scope := scopeAt 16 } a0 k A W₀ L) d shownT) :
    ExT (mkF prog w h lNames { fd with scope := scopeAt 16 } a0 k A W₀ L) lRest (lρ8 sc P (.val (.ref d)) .any any16) (.ret (.bool true)) := by
  have hsz : sizeLine = 16777216 := rfl
  have hl5 := H.nrows
  have hhl := HO.len
  have lr : (P.rows.map rowD).length = P.rows.length := by simp
  have evLen : ∀ {np p2 pos : Pos} {ρ : List Sl}, ρ[2]? = some (.dat (rowsD P.rows)) → EvT (mkF prog w h lNames { fd with scope := scopeAt 16 } a0 k A W₀ L) (.Call (.Name "len" np) [.Name "rows" p2] [] pos) ρ (.int (P.rows.length : Nat)) := fun q =>
    EvT.eq (Ev.bcall (ds := [rowsD P.rows]) B.len rfl (EvL.cons (Ev.var 2 rfl q) EvL.nil) (Bt.lenL (ds := P.rows.map rowD) (by rw [lr, hsz]; omega))) (by rw [lr])
  have t1 : hops.take 1 = [(⟨#[]⟩ : Str)] := by
    have := HO.zero
    cases hq : hops with
    | nil => rw [hq] at this; cases this
    | cons x r => rw [hq] at this; simp at this; simp [this]
  have loop := t_loop (prog := prog) (w := w) (h := h) (fd := fd) (a0 := a0) (k := k) (A := A) (W₀ := W₀) (L := L) B hk (sc := sc) H HO Tb (hops.length - 1) 1 (by omega) (by omega)
  rw [t1] at loop
  have loop2 := i_loop (prog := prog) (w := w) (h := h) (fd := fd) (a0 := a0) (k := k) (A := A) (W₀ := W₀) (L := L) B hk (sc := sc) e1 H hhl PP (shown := .val (.ref d)) P.rows.length 0 (by omega)
  refine Ex.cons (St.make 7 (EvL.cons Ev.str EvL.nil) rfl (show 1 ≤ sizeLine by decide)) ?_
  refine Ex.cons (St.for (SrcC.src (Src.range2 (a := 1) (b := (P.rows.length : Int)) B.range rfl Ev.int (evLen rfl) (hops.length - 1) (by omega) (by omega) (by omega) (by omega) (by omega))) (Asg.name 8 rfl) loop) ?_
  refine Ex.freeze (l := strsD hops) 7 rfl rfl ?_
  exact Ex.cons (St.for (SrcC.src (Src.range1 B.range rfl (evLen rfl) P.rows.length rfl (by omega))) (Asg.name 14 rfl) loop2) (Ex.done (St.ret Ev.bool))
end

section
variable {prog : Program} {w : World} {h : Heap}
set_option maxHeartbeats 4000000 in
theorem law_ok (B : Base h) {sc : List Int} (hs : sc.length ≤ 63) {P : LD} (e1 : P.sm = sc.sum) (e2 : P.rows = rowsF sc) (H : Head P) {hops : List Str} (HO : HopsOk P hops) (PP : Pairs P hops) : FunIs prog w h (8 + 1) 16 "law" [.list (intsD sc)] (.bool true) := by
  refine FunIs.one (names := lNames) (p := "script") (n := 23) B.nolimit B.f16 (by decide +kernel) (by decide +kernel) (by decide +kernel) bind_16 rfl fun fd a A W₀ L => ?_
  refine law_head B (Nat.le_refl _) hs e1 e2 H ?_
  refine Ex.table (r := shownT) 6 rfl (.cons (.cons (.cons (.cons .nil)))) (by decide +kernel) rfl rfl (by intro q; cases q) (by decide) rfl fun h' d k Tb => ?_
  exact law_tail (h := h') (B.keeps k) (Nat.le_refl _) e1 H HO PP Tb
end
end Mine

namespace Mine
open PySem PyProof.Rows PySem.W PySem.Calls

theorem ns_unique {h : Heap} {a : Addr} {m m' : Str → Option Value} (h1 : h.Ns a m) (h2 : h.Ns a m') : m = m' := by
  obtain ⟨o, es, ep, ho, hd, _, hf⟩ := h1
  obtain ⟨o', es', ep', ho', hd', _, hf'⟩ := h2
  rw [ho] at ho'; cases ho'
  rw [hd] at hd'; cases hd'
  funext x
  rw [← hf, ← hf']
theorem glob_unique {h : Heap} {x : Str} {v v' : Value} (h1 : GlobIs h x v) (h2 : GlobIs h x v') : v = v' := by
  obtain ⟨m, n1, e1⟩ := h1
  obtain ⟨m', n2, e2⟩ := h2
  have := ns_unique n1 n2
  subst this
  rw [e1] at e2; exact Option.some.inj e2

theorem ints_lay {W : Addr → Prop} {h : Heap} : ∀ {vs : List Value} {ys : List Int}, IntsAre vs ys → LayL W h (intsD ys) vs
  | _, _, .nil => rfl
  | _, _, .cons y t r => ⟨_, _, rfl, ⟨t, rfl⟩, ints_lay r⟩

/-- the plain facts for every script -/
def AllFacts : Prop := ∀ sc : List Int, sc.length ≤ 63 → ∃ (P : LD) (hops : List Str), P.sm = sc.sum ∧ P.rows = rowsF sc ∧ Head P ∧ HopsOk P hops ∧ Pairs P hops

theorem law_runs (F : AllFacts) {prog : Program} {w : World} {s : Shared} (B : Base s.heap) {fa a : Addr} (hg : GlobIs s.heap "law" (.ref fa)) {ns : List Int} {vs : List Value} (hn : ns.length ≤ 63)
    (ha : ∃ o n, s.heap.get? a = some o ∧ o.cls = .type "list" ∧ o.dict = none ∧ o.data = .seq vs.toArray n) (hi : IntsAre vs ns) (hb : AllBare s.gens) {Q : Value → Shared → Prop} {E : Value → Shared → Prop}
    (k : ∀ s', Grow s s' → Q (.bool true) s') : wpAny (model prog w) callerA (call (.ref fa) [.ref a]) Q E s := by
  obtain ⟨P, hops, e1, e2, H, HO, PP⟩ := F ns hn
  obtain ⟨a', fd, HD, hF⟩ := law_ok (prog := prog) (w := w) B hn e1 e2 H HO PP
  have := glob_unique hg HD.1
  cases this
  refine hF callerA (fun _ => False) s _ _ _ ⟨rfl, by decide +kernel, by decide +kernel⟩ (fun _ _ e => e) hb (fun _ q => q.elim) ?_ fun v s' g l => ?_
  · refine ⟨.ref a, [], rfl, ?_, rfl⟩
    simp only [Lay]
    obtain ⟨o, n, h1, h2, h3, h4⟩ := ha
    exact ⟨a, vs.toArray, rfl, id, ⟨o, n, h1, h2, h3, h4⟩, ints_lay hi⟩
  · simp only [Lay] at l
    subst l
    exact k s' g
end Mine

namespace Mine
open PySem PyProof.Rows PySem.W PySem.Calls

def posAt (i : Nat) : Pos := match PySem.Challenge.pw_rs0080_01.main.body[i]? with
  | some (.FunctionDef _ _ _ _ _ _ _ _ _ p) => p
  | _ => default

theorem def_of {p : Program} {loose : List Str} {mean : ExcName → Option Value} {mg mb : Str → Option Value} {h : Heap} (T : Top p loose mean mg mb h) {i : Nat} {name : Str} (n : Nat)
    (hd : (recsOf p)[n]? = some ⟨name, argsAt i, bodyAt i, scopeAt i, posAt i⟩) : ∃ a fd, HasDef h i name a fd := by
  obtain ⟨a, o, pm, code, doc, h1, h2, h3, h4⟩ := T.fn _ (List.mem_of_getElem? hd)
  exact ⟨a, _, ⟨mg, T.g, h1⟩, ⟨o, h2, h3, h4⟩, ⟨rfl, rfl, rfl, rfl, rfl, rfl, rfl, rfl⟩⟩
theorem bltn_of {p : Program} {loose : List Str} {mean : ExcName → Option Value} {mg mb : Str → Option Value} {h : Heap} (T : Top p loose mean mg mb h) {K : Frag} (X : K.In h) {x : Str} {v : Value}
    (e : nsIn K mainGlobals x = some none) (hb : bootBuiltins x = some v) (hn : x ≠ "__name__" := by decide +kernel) : BltnIs h x v :=
  ⟨mg, mb, T.g, ns_none_of X T.g e, T.b, (T.builtins x hn).trans hb⟩
theorem glob_of {p : Program} {loose : List Str} {mean : ExcName → Option Value} {mg mb : Str → Option Value} {h : Heap} (T : Top p loose mean mg mb h) {K : Frag} (X : K.In h) {x : Str} {v : Value}
    (e : nsIn K mainGlobals x = some (some v)) : GlobIs h x v := ⟨mg, T.g, mg_of X T.g e⟩
theorem pat_of {h : Heap} {K : Frag} (X : K.In h) {f0 f1 f3 f4 : Value} {its : Array Value} (e : K.lookup 57 = some { cls := .type "re.Pattern", data := .fields #[f0, f1, .int 0 0, f3, f4, .ref 56, .int 0 0] })
    (e2 : K.lookup 56 = some { cls := .type "tuple", data := .seq its }) (e3 : its.map (fun v => (Builtin.Re.reRawOf v).toNat) = pcode) : PatAt h 57 :=
  ⟨_, 56, _, f0, f1, f3, f4, X _ _ e, rfl, rfl, rfl, X _ _ e2, its, _, rfl, e3⟩
end Mine

namespace Mine
open PySem PyProof.Rows PySem.W PySem.Calls

/-! texts as lists of codes -/
theorem subAt_S (l y : List Nat) (i : Nat) : Builtin.Str.subAt (S l) (S y) i = ((l.drop i).take y.length == y) := by
  unfold Builtin.Str.subAt
  rw [S_len]
  rw [Bool.eq_iff_iff, beq_iff_eq, beq_iff_eq]
  show (l.toArray.extract i (i + y.length) = y.toArray) ↔ _
  rw [← Array.toList_inj]
  simp [List.extract_eq_take_drop]

theorem startswith_S (l y : List Nat) : Txt.startswith (S l) (S y) = (l.take y.length == y) := by
  unfold Txt.startswith
  rw [subAt_S, List.drop_zero, S_len, S_len]
  by_cases h : y.length ≤ l.length
  · simp [h]
  · have : (l.take y.length == y) = false := by
      rw [Bool.eq_false_iff]
      intro q
      have := congrArg List.length (beq_iff_eq.mp q)
      simp at this; omega
    rw [this]; simp
theorem endswith_S (l y : List Nat) : Txt.endswith (S l) (S y) = y.isSuffixOf l := by
  unfold Txt.endswith
  rw [subAt_S, S_len, S_len]
  rw [Bool.eq_iff_iff, Bool.and_eq_true, beq_iff_eq, List.isSuffixOf_iff_suffix, List.suffix_iff_eq_drop]
  simp only [decide_eq_true_eq, Nat.zero_add]
  constructor
  · rintro ⟨h, e⟩
    rw [List.take_of_length_le (by simp; omega)] at e
    exact e.symm
  · intro e
    have hl : y.length ≤ l.length := by
      have := congrArg List.length e
      simp at this; omega
    refine ⟨hl, ?_⟩
    rw [← e, List.take_length]

theorem occ_done (x y : Str) (hi : Nat) : ∀ (l : List Nat) (st : Array Nat × Nat), st.fst.size = 1 → (forIn (m := Id) l st (StrLaws.occBody x y hi 1)).run.fst = st.fst
  | [], st, _ => rfl
  | i :: r, st, h => by
    have hi : ¬ ((((st.fst.size < 1) ∧ st.snd ≤ i) ∧ i + y.length ≤ hi) ∧ Builtin.Str.subAt x y i = true) := fun c => by omega
    simp only [List.forIn_cons, StrLaws.occBody, if_neg hi]
    exact occ_done x y _ r st h

theorem occ_from (l : List Nat) (c : Nat) : ∀ (n a : Nat), a + n = l.length + 1 → (forIn (m := Id) (List.range' a n) ((#[] : Array Nat), 0) (StrLaws.occBody (S l) (S [c]) l.length 1)).run.fst = if c ∈ l.drop a then #[a + (l.drop a).idxOf c] else #[]
  | 0, a, h => by
    rw [List.drop_eq_nil_of_le (by omega)]; simp
  | n + 1, a, h => by
    rw [List.range'_succ, List.forIn_cons]
    by_cases ha : a < l.length
    · have hd : l.drop a = l[a] :: l.drop (a + 1) := List.drop_eq_getElem_cons ha
      have hs : Builtin.Str.subAt (S l) (S [c]) a = (l[a] == c) := by
        rw [subAt_S, hd]
        show ([l[a]] == [c]) = _
        rw [Bool.eq_iff_iff]; simp
      by_cases hc : l[a] = c
      · have hy : ((((#[] : Array Nat).size < 1) ∧ 0 ≤ a) ∧ a + (S [c]).length ≤ l.length) ∧ Builtin.Str.subAt (S l) (S [c]) a = true := ⟨⟨⟨by decide, by omega⟩, by rw [S_len]; simp; omega⟩, by rw [hs]; simp [hc]⟩
        simp only [StrLaws.occBody, if_pos hy]
        show (forIn (m := Id) (List.range' (a + 1) n) ((#[] : Array Nat).push a, a + (S [c]).length) (StrLaws.occBody (S l) (S [c]) l.length 1)).run.fst = _
        rw [occ_done _ _ _ _ _ rfl, hd]
        simp [hc]
      · have hn : ¬ (((((#[] : Array Nat).size < 1) ∧ 0 ≤ a) ∧ a + (S [c]).length ≤ l.length) ∧ Builtin.Str.subAt (S l) (S [c]) a = true) := fun q => by
          have := q.2; rw [hs] at this; exact hc (beq_iff_eq.mp this)
        simp only [StrLaws.occBody, if_neg hn]
        show (forIn (m := Id) (List.range' (a + 1) n) ((#[] : Array Nat), 0) (StrLaws.occBody (S l) (S [c]) l.length 1)).run.fst = _
        rw [occ_from l c n (a + 1) (by omega), hd]
        have hc' : ¬ c = l[a] := fun q => hc q.symm
        simp only [List.mem_cons, hc', false_or, List.idxOf_cons]
        have : (l[a] == c) = false := by simp [hc]
        rw [this]
        simp only [cond_false]
        split
        · congr 2; omega
        · rfl
    · have : a = l.length := by omega
      have hn : ¬ (((((#[] : Array Nat).size < 1) ∧ 0 ≤ a) ∧ a + (S [c]).length ≤ l.length) ∧ Builtin.Str.subAt (S l) (S [c]) a = true) := fun q => by
        have := q.1.2; rw [S_len] at this; simp at this; omega
      simp only [StrLaws.occBody, if_neg hn]
      show (forIn (m := Id) (List.range' (a + 1) n) ((#[] : Array Nat), 0) (StrLaws.occBody (S l) (S [c]) l.length 1)).run.fst = _
      have : n = 0 := by omega
      subst this
      rw [List.drop_eq_nil_of_le (by omega)]; rfl

/-- where a code stands first -/
theorem occ_one (l : List Nat) (c : Nat) : Builtin.Str.occurrences (S l) (S [c]) 0 l.length 1 = if c ∈ l then [l.idxOf c] else [] := by
  rw [StrLaws.occ_eq, occ_from l c _ 0 (by omega), List.drop_zero]
  split <;> simp
theorem find_S (l : List Nat) (c : Nat) : Txt.find (S l) (S [c]) = if c ∈ l then (l.idxOf c : Int) else -1 := by
  unfold Txt.find
  rw [S_len, occ_one]
  split <;> rename_i h
  · split at h <;> simp_all
  · split at h <;> simp_all
theorem contains_S (l : List Nat) (c : Nat) : Txt.contains (S l) (S [c]) = decide (c ∈ l) := by
  unfold Txt.contains
  rw [S_len, occ_one]
  by_cases h : c ∈ l <;> simp [h]
end Mine

namespace Mine
open PySem PyProof.Rows PySem.W PySem.Calls

/-! hosts as lists of codes: a path (the deepest label first) above a top -/
def labL (d : Nat) : List Nat := if d = 0 then [40] else if d = 1 then [55, 41] else [92, 34, 40]
theorem labN_S (d : Nat) : labN d = S (labL d) := by
  unfold labN labL S
  split
  · rfl
  · split <;> rfl
theorem labL_cases (d : Nat) : labL d = [40] ∨ labL d = [55, 41] ∨ labL d = [92, 34, 40] := by
  unfold labL
  split
  · exact .inl rfl
  · split
    · exact .inr (.inl rfl)
    · exact .inr (.inr rfl)
theorem labL_nodot (d : Nat) : 46 ∉ labL d := by rcases labL_cases d with h | h | h <;> rw [h] <;> decide
theorem labL_asc (d : Nat) : Asc (labL d) := by rcases labL_cases d with h | h | h <;> rw [h] <;> decide
theorem labL_low (d : Nat) : (labL d).map lowA = labL d := by rcases labL_cases d with h | h | h <;> rw [h] <;> decide
theorem labL_up (d : Nat) : (labL d).map upA = labL d := by rcases labL_cases d with h | h | h <;> rw [h] <;> decide
theorem labL_len (d : Nat) : 1 ≤ (labL d).length ∧ (labL d).length ≤ 3 := by rcases labL_cases d with h | h | h <;> rw [h] <;> decide
theorem labL_inj {d e : Nat} (hd : d < 3) (he : e < 3) (h : labL d = labL e) : d = e := by
  match d, e, hd, he with
  | 0, 0, _, _ => rfl
  | 0, 1, _, _ => exact absurd h (by decide)
  | 0, 2, _, _ => exact absurd h (by decide)
  | 1, 0, _, _ => exact absurd h (by decide)
  | 1, 1, _, _ => rfl
  | 1, 2, _, _ => exact absurd h (by decide)
  | 2, 0, _, _ => exact absurd h (by decide)
  | 2, 1, _, _ => exact absurd h (by decide)
  | 2, 2, _, _ => rfl

def hostR (T : List Nat) : List Nat → List Nat
  | [] => T
  | d :: q => labL d ++ 46 :: hostR T q

theorem hostR_asc {T : List Nat} (h : Asc T) : ∀ q, Asc (hostR T q)
  | [] => h
  | d :: q => (labL_asc d).app (Asc.app (l := [46]) (by decide) (hostR_asc h q))
theorem hostR_len (T : List Nat) : ∀ q, T.length + 2 * q.length ≤ (hostR T q).length ∧ (hostR T q).length ≤ T.length + 4 * q.length
  | [] => by simp [hostR]
  | d :: q => by
    have := hostR_len T q
    have := labL_len d
    simp [hostR]; omega
theorem hostR_map (f : Nat → Nat) (hf : ∀ d, (labL d).map f = labL d) (h46 : f 46 = 46) (T : List Nat) : ∀ q, (hostR T q).map f = hostR (T.map f) q
  | [] => rfl
  | d :: q => by simp [hostR, hf, h46, hostR_map f hf h46 T q]
theorem hostR_low (T q : List Nat) : (hostR T q).map lowA = hostR (T.map lowA) q := hostR_map _ labL_low (by decide) T q
theorem hostR_up (T q : List Nat) : (hostR T q).map upA = hostR (T.map upA) q := hostR_map _ labL_up (by decide) T q

theorem split_dot {a b c d : List Nat} (ha : 46 ∉ a) (hc : 46 ∉ c) (h : a ++ 46 :: b = c ++ 46 :: d) : a = c ∧ b = d := by
  induction a generalizing c with
  | nil =>
    cases c with
    | nil => simpa using h
    | cons x c => simp at h; exact absurd h.1 (by simp at hc; exact fun q => hc.1 q)
  | cons y a ih =>
    cases c with
    | nil => simp at h; exact absurd h.1 (by simp at ha; exact fun q => ha.1 q.symm)
    | cons x c =>
      simp at h
      obtain ⟨e1, e2⟩ := ih (fun q => ha (.tail _ q)) (fun q => hc (.tail _ q)) h.2
      exact ⟨by rw [h.1, e1], e2⟩

def Digs (q : List Nat) : Prop := ∀ d ∈ q, d < 3

theorem hostR_inj {T : List Nat} : ∀ {q p : List Nat}, Digs q → Digs p → hostR T q = hostR T p → q = p
  | [], [], _, _, _ => rfl
  | [], e :: p, _, _, h => by
    have := (hostR_len T (e :: p)).1
    rw [← h] at this
    simp [hostR] at this
    omega
  | d :: q, [], _, _, h => by
    have := (hostR_len T (d :: q)).1
    rw [h] at this
    simp [hostR] at this
    omega
  | d :: q, e :: p, hq, hp, h => by
    obtain ⟨e1, e2⟩ := split_dot (labL_nodot d) (labL_nodot e) h
    have := labL_inj (hq d (.head _)) (hp e (.head _)) e1
    subst this
    rw [hostR_inj (fun x hx => hq x (.tail _ hx)) (fun x hx => hp x (.tail _ hx)) e2]

/-- behind a dot of the host stands a name: just if it is a name further up -/
theorem dot_suffix {T : List Nat} {p : List Nat} (hp : Digs p) : ∀ {q : List Nat}, Digs q → ((46 :: hostR T p) <:+ hostR T q ↔ ∃ j, 1 ≤ j ∧ j ≤ q.length ∧ p = q.drop j)
  | [], _ => by
    constructor
    · intro h
      have := h.length_le
      have := (hostR_len T p).1
      simp [hostR] at *
      omega
    · rintro ⟨j, h1, h2, _⟩
      simp at h2; omega
  | d :: q, hq => by
    have hq' : Digs q := fun x hx => hq x (.tail _ hx)
    have ih := dot_suffix (T := T) hp hq'
    have key : (46 :: hostR T p) <:+ hostR T (d :: q) ↔ (46 :: hostR T p) <:+ 46 :: hostR T q := by
      constructor
      · rintro ⟨t, ht⟩
        have ht' : t ++ 46 :: hostR T p = labL d ++ 46 :: hostR T q := ht
        rcases List.append_eq_append_iff.mp ht' with ⟨m, h1, h2⟩ | ⟨m, h1, h2⟩
        · cases m with
          | nil => exact ⟨[], by simpa using h2⟩
          | cons x m =>
            simp at h2
            have : 46 ∈ labL d := by rw [h1, ← h2.1]; simp
            exact absurd this (labL_nodot d)
        · exact ⟨m, by rw [h2]⟩
      · rintro ⟨t, ht⟩
        exact ⟨labL d ++ t, by rw [List.append_assoc, ht]; rfl⟩
    rw [key, List.suffix_cons_iff, ih]
    constructor
    · rintro (h | ⟨j, h1, h2, h3⟩)
      · have : hostR T p = hostR T q := by simpa using h
        exact ⟨1, by omega, by simp, by simpa using hostR_inj hp hq' this⟩
      · exact ⟨j + 1, by omega, by simp; omega, by simpa using h3⟩
    · rintro ⟨j, h1, h2, h3⟩
      match j, h1 with
      | 1, _ => left; rw [h3]; rfl
      | j + 2, _ => right; exact ⟨j + 1, by omega, by simp at h2; omega, by simpa using h3⟩
end Mine

namespace Mine
open PySem PyProof.Rows PySem.W PySem.Calls

/-! the pattern on lists of codes -/
theorem getD_S (l : List Nat) (i : Nat) : (S l).cps.getD i 0 = l.getD i 0 := by
  simp [Array.getD_eq_getD_getElem?, List.getD_eq_getElem?_getD]

theorem digs_spec (t : Array Nat) : ∀ n p k, k < digs t n p → Sre.isDigit (t.getD (p + k) 0) = true
  | 0, p, k, h => by simp [digs] at h
  | n + 1, p, k, h => by
    unfold digs at h
    split at h
    · rename_i hd
      cases k with
      | zero => simpa using hd
      | succ k =>
        have := digs_spec t n (p + 1) k (by omega)
        rw [show p + (k + 1) = p + 1 + k by omega]; exact this
    · omega
theorem ends_spec (t : Array Nat) (s : Nat) : ∀ n, ends t s n = true → ∃ k, 1 ≤ k ∧ k ≤ n ∧ atEnd t (s + 1 + k) = true
  | 0, h => by simp [ends] at h
  | n + 1, h => by
    unfold ends at h
    rcases Bool.or_eq_true _ _ |>.mp h with q | q
    · exact ⟨n + 1, by omega, by omega, q⟩
    · obtain ⟨k, h1, h2, h3⟩ := ends_spec t s n q; exact ⟨k, h1, by omega, h3⟩

theorem hit_false {t : Array Nat} (h0 : 0 < t.size) (hd : Sre.isDigit (t.getD (t.size - 1) 0) = false) (hn : t.getD (t.size - 1) 0 ≠ 10) (s : Nat) : hit t s = false := by
  rw [Bool.eq_false_iff]
  intro h
  unfold hit at h
  simp only [Bool.and_eq_true, decide_eq_true_eq] at h
  obtain ⟨h1, h2, h3⟩ := h
  obtain ⟨k, k1, k2, k3⟩ := ends_spec t s _ h3
  unfold atEnd at k3
  simp only [Bool.or_eq_true, Bool.and_eq_true, beq_iff_eq] at k3
  rcases k3 with q | ⟨q, q2⟩
  · have := digs_spec t (t.size - (s + 1)) (s + 1) (k - 1) (by omega)
    rw [show s + 1 + (k - 1) = t.size - 1 by omega, hd] at this; cases this
  · rw [show s + 1 + k = t.size - 1 by omega] at q2; exact hn q2
theorem found_false {t : Array Nat} (h : ∀ s, hit t s = false) : ∀ n s, found t n s = false
  | 0, s => h s
  | n + 1, s => by unfold found; rw [h s, found_false h n]; rfl
theorem ipv4_no {l : List Nat} {c : Nat} (hc : l.getLast? = some c) (hd : Sre.isDigit c = false) (hn : c ≠ 10) : ipv4 l.toArray = false := by
  have h0 : 0 < l.length := by
    cases l with
    | nil => cases hc
    | cons x r => simp
  have hg : l.toArray.getD (l.toArray.size - 1) 0 = c := by
    rw [List.getLast?_eq_getElem?] at hc
    simp [Array.getD_eq_getD_getElem?, hc]
  unfold ipv4
  rw [found_false (hit_false (by simpa using h0) (by rw [hg]; exact hd) (by rw [hg]; exact hn))]
  simp

theorem found_true {t : Array Nat} : ∀ n s k, k ≤ n → hit t (s + k) = true → found t n s = true
  | 0, s, k, hk, h => by
    have : k = 0 := by omega
    subst this; exact h
  | n + 1, s, k, hk, h => by
    unfold found
    cases k with
    | zero => rw [show s + 0 = s from rfl] at h; rw [h]; rfl
    | succ k =>
      rw [found_true n (s + 1) k (by omega) (by rw [show s + 1 + k = s + (k + 1) by omega]; exact h)]
      simp
theorem digs_all {t : Array Nat} : ∀ n p, (∀ k, k < n → Sre.isDigit (t.getD (p + k) 0) = true) → digs t n p = n
  | 0, p, _ => rfl
  | n + 1, p, h => by
    unfold digs
    rw [if_pos (show Sre.isDigit (t.getD p 0) = true from h 0 (by omega)), digs_all n (p + 1) fun k hk => by rw [show p + 1 + k = p + (k + 1) by omega]; exact h (k + 1) (by omega)]
theorem ends_true {t : Array Nat} {s : Nat} : ∀ n, 1 ≤ n → atEnd t (s + 1 + n) = true → ends t s n = true
  | n + 1, _, h => by unfold ends; rw [h]; rfl
theorem ipv4_yes {l ds : List Nat} (h : ds ≠ []) (hd : ∀ d ∈ ds, Sre.isDigit d = true) : ipv4 (l ++ 46 :: ds).toArray = true := by
  have hl : 1 ≤ ds.length := by
    cases ds with
    | nil => exact absurd rfl h
    | cons x r => simp
  have hsz : (l ++ 46 :: ds).toArray.size = l.length + 1 + ds.length := by simp; omega
  unfold ipv4
  rw [Bool.and_eq_true]
  refine ⟨by rw [hsz]; simp; omega, found_true _ 0 l.length (by rw [hsz]; omega) ?_⟩
  unfold hit
  have e46 : (l ++ 46 :: ds).toArray.getD (0 + l.length) 0 = 46 := by simp [Array.getD_eq_getD_getElem?]
  have hdig : digs (l ++ 46 :: ds).toArray ((l ++ 46 :: ds).toArray.size - (0 + l.length + 1)) (0 + l.length + 1) = ds.length := by
    rw [hsz, show l.length + 1 + ds.length - (0 + l.length + 1) = ds.length by omega]
    refine digs_all _ _ fun k hk => ?_
    have : (l ++ 46 :: ds).toArray.getD (0 + l.length + 1 + k) 0 = ds[k] := by
      rw [Array.getD_eq_getD_getElem?, List.getElem?_toArray, show 0 + l.length + 1 + k = l.length + (k + 1) by omega, List.getElem?_append_right (by omega)]
      simp [hk]
    rw [this]
    exact hd _ (List.getElem_mem hk)
  rw [hdig, e46]
  simp only [Bool.and_eq_true, decide_eq_true_eq]
  refine ⟨by rw [hsz]; omega, by decide, ends_true _ hl ?_⟩
  unfold atEnd
  rw [hsz]; simp
  try omega
end Mine

namespace Mine
open PySem PyProof.Rows PySem.W PySem.Calls

theorem dot_S : (Str.ofString "." : Str) = S [46] := by decide +kernel
theorem empty_S : (Str.ofString "" : Str) = S [] := by decide +kernel
theorem local_S : (Str.ofString "local" : Str) = S [108, 111, 99, 97, 108] := by decide +kernel

theorem item0_S (c : Nat) (l : List Nat) : Txt.item (S (c :: l)) 0 = S [c] := by
  unfold Txt.item Txt.charAt seqIndex?
  simp [S_len]
theorem itemL_S {l : List Nat} {c : Nat} (h : l.getLast? = some c) : Txt.item (S l) (-1) = S [c] := by
  have h0 : 0 < l.length := by
    cases l with
    | nil => cases h
    | cons x r => simp
  rw [List.getLast?_eq_getElem?] at h
  unfold Txt.item Txt.charAt seqIndex?
  have h2 : (-1 + (l.length : Int)).toNat = l.length - 1 := by omega
  have h3 : 0 ≤ -1 + (l.length : Int) := by omega
  have h4 : -1 + (l.length : Int) < l.length := by omega
  simp [S_len, h3, h4, h2, h]

structure Ends (T : List Nat) : Prop where
  last : ∃ c, T.getLast? = some c ∧ Sre.isDigit c = false ∧ c ≠ 10 ∧ c ≠ 46
  first : ∃ c r, T = c :: r ∧ c ≠ 46

theorem hostR_last {T : List Nat} (h : T ≠ []) : ∀ q, (hostR T q).getLast? = T.getLast?
  | [] => rfl
  | d :: q => by
    obtain ⟨c, hc⟩ : ∃ c, T.getLast? = some c := by
      cases q : T.getLast? with
      | none => exact absurd (List.getLast?_eq_none_iff.mp q) h
      | some c => exact ⟨c, rfl⟩
    have ih := hostR_last h q
    show (labL d ++ 46 :: hostR T q).getLast? = _
    rw [hc] at ih ⊢
    simp [List.getLast?_append, List.getLast?_cons, ih]
theorem hostR_first {T : List Nat} (h : Ends T) : ∀ q, ∃ c r, hostR T q = c :: r ∧ c ≠ 46
  | [] => h.first
  | d :: q => by
    rcases labL_cases d with e | e | e
    all_goals
      refine ⟨_, _, by unfold hostR; rw [e]; rfl, by decide⟩
theorem Ends.ne {T : List Nat} (h : Ends T) : T ≠ [] := by
  obtain ⟨c, r, e, _⟩ := h.first
  rw [e]; simp

theorem ipv4_host {T : List Nat} (h : Ends T) (q : List Nat) : ipv4 (S (hostR T q)).cps = false := by
  obtain ⟨c, h1, h2, h3, _⟩ := h.last
  exact ipv4_no (by rw [hostR_last h.ne]; exact h1) h2 h3

theorem isHDN_host {T : List Nat} (h : Ends T) (q : List Nat) : isHDN (S (hostR T q)) = true := by
  unfold isHDN
  rw [ipv4_host h]
  obtain ⟨c, h1, _, _, h4⟩ := h.last
  have hl : (hostR T q).getLast? = some c := by rw [hostR_last h.ne]; exact h1
  rw [itemL_S hl]
  obtain ⟨e, r, h5, h6⟩ := hostR_first h q
  rw [h5, item0_S, empty_S, dot_S, S_beq, S_beq, S_beq]
  have : (e == 46) = false := by simpa using h6
  have : (c == 46) = false := by simpa using h4
  simp_all

structure TopOk (T : List Nat) : Prop where
  asc : Asc T
  len : 1 ≤ T.length ∧ T.length ≤ 8
  ends : Ends T
  endsL : Ends (T.map lowA)
  wide : 46 ∈ T ∨ T = [108, 111, 99, 97, 108]
  reach : reachF (S T) = S T

theorem dot_mem {T : List Nat} (h : TopOk T) : ∀ q, 46 ∈ hostR T q ∨ hostR T q = [108, 111, 99, 97, 108]
  | [] => h.wide
  | d :: q => .inl (by unfold hostR; simp)

theorem reach_host {T : List Nat} (h : TopOk T) (d : Nat) (q : List Nat) : reachF (S (hostR T (d :: q))) = S (46 :: hostR T q) := by
  have hi : (hostR T (d :: q)).idxOf 46 = (labL d).length := by
    show (labL d ++ 46 :: hostR T q).idxOf 46 = _
    rw [List.idxOf_append, if_neg (labL_nodot d)]; simp
  have hm : 46 ∈ hostR T (d :: q) := by unfold hostR; simp
  have hf : Txt.find (S (hostR T (d :: q))) (Str.ofString ".") = ((labL d).length : Int) := by rw [dot_S, find_S, if_pos hm, hi]
  unfold reachF
  rw [hf, if_pos (by omega), isHDN_host h.ends]
  have hs : Txt.slice (S (hostR T (d :: q))) (some (((labL d).length : Int) + 1)) none = S (hostR T q) := by
    rw [slice_S, show ((labL d).length : Int) + 1 = (((labL d).length + 1 : Nat) : Int) by omega, pick_from]
    show S ((labL d ++ 46 :: hostR T q).drop _) = _
    rw [← List.drop_drop, List.drop_left]; rfl
  rw [hs]
  dsimp only
  rw [dot_S, find_S, local_S, S_beq]
  have : (true && (decide ((0 : Int) ≤ if 46 ∈ hostR T q then ((hostR T q).idxOf 46 : Int) else -1) || hostR T q == [108, 111, 99, 97, 108])) = true := by
    rcases dot_mem h q with z | z
    · rw [if_pos z]; simp
    · rw [z]; simp
  rw [if_pos this]
  exact S_app [46] _

theorem slice1 (c : Nat) (l : List Nat) : Txt.slice (S (c :: l)) (some 1) none = S l := by
  rw [slice_S, show (1 : Int) = ((1 : Nat) : Int) by rfl, pick_from]; rfl

/-- the names of a host: itself and all further up -/
def ups (T q : List Nat) : List Str := (List.range (q.length + 1)).map fun j => S (hostR T (q.drop j))
theorem ups_cons (T : List Nat) (d : Nat) (q : List Nat) : ups T (d :: q) = S (hostR T (d :: q)) :: ups T q := by
  unfold ups
  rw [List.length_cons, List.range_succ_eq_map, List.map_cons, List.map_map]
  rfl

theorem names_go {T : List Nat} (h : TopOk T) : ∀ (q : List Nat) (n : Nat) (host : Str) (ns : List Str), q.length + 2 ≤ n → ns.length + q.length < 5 → host ≠ S (46 :: hostR T q) → namesL n host (S (46 :: hostR T q)) ns = ns ++ ups T q
  | q, 0, host, ns, hn, _, _ => by omega
  | [], n + 1, host, ns, hn, hl, hne => by
    unfold namesL
    have c1 : (S (46 :: hostR T []) != host && decide ((ns.length : Int) < 5)) = true := by
      simp only [Bool.and_eq_true, bne_iff_ne, decide_eq_true_eq]
      exact ⟨fun e => hne e.symm, by simp at hl; omega⟩
    rw [if_pos c1, slice1]
    have hr : reachF (S (hostR T [])) = S (hostR T []) := h.reach
    rw [hr]
    match n, hn with
    | n + 1, _ =>
      unfold namesL
      rw [if_neg (by simp)]
      simp [ups]
  | d :: q, n + 1, host, ns, hn, hl, hne => by
    unfold namesL
    have c1 : (S (46 :: hostR T (d :: q)) != host && decide ((ns.length : Int) < 5)) = true := by
      simp only [Bool.and_eq_true, bne_iff_ne, decide_eq_true_eq]
      exact ⟨fun e => hne e.symm, by simp at hl; omega⟩
    rw [if_pos c1, slice1, reach_host h]
    rw [names_go h q n (S (hostR T (d :: q))) (ns ++ [S (hostR T (d :: q))]) (by simp at hn; omega) (by simp at hl ⊢; omega) ?_]
    · rw [ups_cons]; simp
    · intro e
      obtain ⟨c, r, h5, h6⟩ := hostR_first h.ends (d :: q)
      rw [h5] at e
      have := S_inj e
      simp at this
      exact h6 this.1

theorem names_host {T : List Nat} (h : TopOk T) (q : List Nat) (hq : q.length ≤ 3) : namesF (S (hostR T q)) = ups T q := by
  unfold namesF
  have e : ((⟨#[46]⟩ : Str) ++ S (hostR T q)) = S (46 :: hostR T q) := S_app [46] _
  rw [e]
  exact names_go h q 6 _ [] (by omega) (by simp; omega) fun e => by
    have := congrArg List.length (S_inj e)
    simp at this

theorem names_fix {l : List Nat} (h : reachF (S l) = S l) : namesF (S l) = [S l] := by
  unfold namesF
  have e : ((⟨#[46]⟩ : Str) ++ S l) = S (46 :: l) := S_app [46] _
  rw [e]
  unfold namesL
  have c1 : (S (46 :: l) != S l && decide ((([] : List Str).length : Int) < 5)) = true := by
    simp only [Bool.and_eq_true, bne_iff_ne, decide_eq_true_eq]
    exact ⟨fun e => by have := congrArg List.length (S_inj e); simp at this, by decide⟩
  rw [if_pos c1, slice1, h]
  unfold namesL
  rw [if_neg (by simp)]
  rfl
theorem reach_fix {x : Str} (h : isHDN x = false) : reachF x = x := by
  unfold reachF
  rw [h]; simp
end Mine

namespace Mine
open PySem PyProof.Rows PySem.W PySem.Calls

theorem low_up : ∀ c, c < 128 → lowA (upA c) = lowA c := by decide +kernel
theorem low_up_l {l : List Nat} (h : Asc l) : (l.map upA).map lowA = l.map lowA := by
  rw [List.map_map]
  exact List.map_congr_left fun c hc => low_up c (h c hc)
theorem lower_upper {l : List Nat} (h : Asc l) : Txt.lower (Txt.upper (S l)) = S (l.map lowA) := by
  rw [upper_S h, lower_S h.up, low_up_l h]

theorem ipv4_dot {T : List Nat} (h : Ends T) (q : List Nat) : ipv4 (S (46 :: hostR T q)).cps = false := by
  obtain ⟨c, h1, h2, h3, _⟩ := h.last
  refine ipv4_no (c := c) ?_ h2 h3
  rw [List.getLast?_cons, hostR_last h.ne, h1]; rfl

theorem udm_dot {T : List Nat} (h : TopOk T) {q p : List Nat} (hq : Digs q) (hp : Digs p) : udm (Txt.upper (S (hostR T q))) ((⟨#[46]⟩ : Str) ++ S (hostR T p)) = true ↔ ∃ j, 1 ≤ j ∧ j ≤ q.length ∧ p = q.drop j := by
  have e : ((⟨#[46]⟩ : Str) ++ S (hostR T p)) = S (46 :: hostR T p) := S_app [46] _
  have a1 := hostR_asc h.asc q
  have a2 : Asc (46 :: hostR T p) := Asc.app (l := [46]) (by decide) (hostR_asc h.asc p)
  unfold udm
  rw [e, lower_upper a1, lower_S a2, hostR_low, List.map_cons, hostR_low, show lowA 46 = 46 from rfl]
  unfold udmLow
  rw [ipv4_host h.endsL, ipv4_dot h.endsL, if_pos (by rfl), dot_S, startswith_S, if_pos (by simp), endswith_S, List.isSuffixOf_iff_suffix]
  exact dot_suffix hp hq
theorem udm_same {T : List Nat} (h : TopOk T) {q p : List Nat} (hq : Digs q) (hp : Digs p) : udm (S (hostR T q)) (Txt.upper (S (hostR T p))) = true ↔ q = p := by
  unfold udm
  rw [lower_upper (hostR_asc h.asc p), lower_S (hostR_asc h.asc q), hostR_low, hostR_low]
  unfold udmLow
  obtain ⟨c, r, h5, h6⟩ := hostR_first h.endsL p
  rw [ipv4_host h.endsL, ipv4_host h.endsL, if_pos (by rfl), dot_S, startswith_S, if_neg (by rw [h5]; simpa using h6), beq_iff_eq]
  exact ⟨fun e => hostR_inj hq hp (S_inj e), fun e => by rw [e]⟩

/-- the number's text -/
def numOk (x : Str) : Bool := x.cps.toList != [] && x.cps.toList.all (fun c => Sre.isDigit c && decide (48 ≤ c) && decide (c ≤ 57)) && decide (x.cps.toList.length ≤ 9)
theorem num_all : ∀ m : Nat, m < 1000 → numOk (Str.ofString (toString (m : Int))) = true := by decide +kernel
end Mine

namespace Mine
open PySem PyProof.Rows PySem.W PySem.Calls

def rowDg (n : Nat) : List Nat := (List.range (n % 4)).map fun k => n / 4 / 3 ^ k % 3
theorem rowN_eq (n : Nat) : rowN n = (rowDg n).map labN := by simp [rowN, rowDg, Function.comp_def]
theorem rowDg_ok (n : Nat) : Digs (rowDg n) ∧ (rowDg n).length ≤ 3 := by
  refine ⟨fun d hd => ?_, by simp [rowDg]; omega⟩
  obtain ⟨k, _, rfl⟩ := List.mem_map.mp hd
  exact Nat.mod_lt _ (by decide)

def topL (n : Nat) : List Nat := if n = 0 then [108, 111, 99, 97, 108] else if n = 1 then [120, 46, 99, 111, 109] else if n = 2 then [121, 46, 120, 108, 111, 99, 97, 108] else if n = 3 then [121, 46, 108, 111, 99, 97, 108, 120] else [121, 46, 76, 79, 67, 65, 76]
theorem topN_S : ∀ n, n < 5 → topN n = S (topL n)
  | 0, _ => by decide +kernel
  | 1, _ => by decide +kernel
  | 2, _ => by decide +kernel
  | 3, _ => by decide +kernel
  | 4, _ => by decide +kernel
theorem isHDN_local : reachF (S [108, 111, 99, 97, 108]) = S [108, 111, 99, 97, 108] := by
  unfold reachF
  rw [dot_S, find_S]; rfl
/-- a top with a dot, behind which no dot and not local stands -/
theorem reach_top {a b : List Nat} (ha : 46 ∉ a) (hb : 46 ∉ b) (hl : b ≠ [108, 111, 99, 97, 108]) : reachF (S (a ++ 46 :: b)) = S (a ++ 46 :: b) := by
  have hi : (a ++ 46 :: b).idxOf 46 = a.length := by rw [List.idxOf_append, if_neg ha]; simp
  have hf : Txt.find (S (a ++ 46 :: b)) (Str.ofString ".") = (a.length : Int) := by rw [dot_S, find_S, if_pos (by simp), hi]
  have hs : Txt.slice (S (a ++ 46 :: b)) (some ((a.length : Int) + 1)) none = S b := by
    rw [slice_S, show (a.length : Int) + 1 = ((a.length + 1 : Nat) : Int) by omega, pick_from, ← List.drop_drop, List.drop_left]; rfl
  unfold reachF
  rw [hf, if_pos (by omega), hs]
  dsimp only
  rw [dot_S, find_S, if_neg hb, local_S, S_beq, if_neg]
  simp [hl]
theorem top_ok : ∀ n, n < 5 → TopOk (topL n)
  | 0, _ => ⟨by decide, by decide, ⟨⟨108, by decide, by decide +kernel, by decide, by decide⟩, ⟨_, _, rfl, by decide⟩⟩, ⟨⟨108, by decide, by decide +kernel, by decide, by decide⟩, ⟨_, _, rfl, by decide⟩⟩, .inr rfl, isHDN_local⟩
  | 1, _ => ⟨by decide, by decide, ⟨⟨109, by decide, by decide +kernel, by decide, by decide⟩, ⟨_, _, rfl, by decide⟩⟩, ⟨⟨109, by decide, by decide +kernel, by decide, by decide⟩, ⟨_, _, rfl, by decide⟩⟩, .inl (by decide), reach_top (a := [120]) (b := [99, 111, 109]) (by decide) (by decide) (by decide)⟩
  | 2, _ => ⟨by decide, by decide, ⟨⟨108, by decide, by decide +kernel, by decide, by decide⟩, ⟨_, _, rfl, by decide⟩⟩, ⟨⟨108, by decide, by decide +kernel, by decide, by decide⟩, ⟨_, _, rfl, by decide⟩⟩, .inl (by decide), reach_top (a := [121]) (b := [120, 108, 111, 99, 97, 108]) (by decide) (by decide) (by decide)⟩
  | 3, _ => ⟨by decide, by decide, ⟨⟨120, by decide, by decide +kernel, by decide, by decide⟩, ⟨_, _, rfl, by decide⟩⟩, ⟨⟨120, by decide, by decide +kernel, by decide, by decide⟩, ⟨_, _, rfl, by decide⟩⟩, .inl (by decide), reach_top (a := [121]) (b := [108, 111, 99, 97, 108, 120]) (by decide) (by decide) (by decide)⟩
  | 4, _ => ⟨by decide, by decide, ⟨⟨76, by decide, by decide +kernel, by decide, by decide⟩, ⟨_, _, rfl, by decide⟩⟩, ⟨⟨108, by decide, by decide +kernel, by decide, by decide⟩, ⟨_, _, rfl, by decide⟩⟩, .inl (by decide), reach_top (a := [121]) (b := [76, 79, 67, 65, 76]) (by decide) (by decide) (by decide)⟩

theorem join_host (T : List Nat) : ∀ q : List Nat, Txt.join (⟨#[46]⟩ : Str) (q.map labN ++ [S T]) = S (hostR T q)
  | [] => by
    show Builtin.Str.glued _ _ = _
    rw [StrLaws.glued_eq_join]; rfl
  | d :: q => by
    have ih := join_host T q
    have ih' : Str.join (⟨#[46]⟩ : Str) (q.map labN ++ [S T]) = S (hostR T q) := by rw [← StrLaws.glued_eq_join]; exact ih
    show Builtin.Str.glued _ _ = _
    rw [StrLaws.glued_eq_join]
    have hne : ∃ y r, q.map labN ++ [S T] = y :: r := by
      cases h : q.map labN ++ [S T] with
      | nil => simp at h
      | cons y r => exact ⟨y, r, rfl⟩
    obtain ⟨y, r, e⟩ := hne
    rw [List.map_cons, List.cons_append, e]
    show labN d ++ (⟨#[46]⟩ : Str) ++ Str.join (⟨#[46]⟩ : Str) (y :: r) = _
    rw [← e, ih', labN_S]
    show S (labL d) ++ S [46] ++ S (hostR T q) = _
    rw [S_app, S_app]
    simp [hostR]
theorem hostF_S (T r : List Nat) : hostF (S T) (r.map labN) = S (hostR T r.reverse) := by
  unfold hostF
  rw [← List.map_reverse]
  exact join_host T r.reverse
theorem expect_S (T r : List Nat) : expect (S T) (r.map labN) = ups T r.reverse := by
  unfold expect ups
  rw [List.length_map, List.length_reverse]
  apply List.map_congr_left
  intro j hj
  have := List.mem_range.mp hj
  rw [← List.map_take, hostF_S, List.reverse_take]
  congr 2
  congr 1
  omega

/-- the law's data, in figures -/
structure Dat (P : LD) (T : List Nat) (rds : List (List Nat)) : Prop where
  top : P.top = S T
  rows : P.rows = rds.map fun r => r.map labN
  ok : TopOk T
  digs : ∀ r ∈ rds, Digs r ∧ r.length ≤ 3
  len : 3 ≤ rds.length ∧ rds.length ≤ 5

theorem Dat.hosts {P : LD} {T : List Nat} {rds : List (List Nat)} (D : Dat P T rds) : P.hosts = rds.map fun r => S (hostR T r.reverse) := by
  unfold LD.hosts
  rw [D.rows, D.top, List.map_map]
  exact List.map_congr_left fun r _ => hostF_S T r
theorem Dat.names {P : LD} {T : List Nat} {rds : List (List Nat)} (D : Dat P T rds) : P.names = rds.map fun r => ups T r.reverse := by
  unfold LD.names
  rw [D.hosts, List.map_map]
  exact List.map_congr_left fun r hr => names_host D.ok _ (by rw [List.length_reverse]; exact (D.digs r hr).2)
theorem digs_rev {r : List Nat} (h : Digs r) : Digs r.reverse := fun d hd => h d (List.mem_reverse.mp hd)
theorem digs_drop {r : List Nat} (h : Digs r) (n : Nat) : Digs (r.drop n) := fun d hd => h d (List.mem_of_mem_drop hd)

theorem ok_S {l : List Nat} (h : Asc l) (hl : l.length ≤ 1001) : Ok (S l) := ⟨by simpa using h, by rw [S_len]; exact hl⟩
theorem host_ok {T q : List Nat} (h : TopOk T) (hq : q.length ≤ 3) : Ok (S (hostR T q)) ∧ (S (hostR T q)).length ≤ 100 := by
  have := (hostR_len T q).2
  have := h.len.2
  exact ⟨ok_S (hostR_asc h.asc q) (by omega), by rw [S_len]; omega⟩

/-- the script's data -/
def ldOf (sc : List Int) : LD := ⟨sc.sum, rowsF sc⟩
def rdsOf (sc : List Int) : List (List Nat) := ([14, 26, 22] ++ sc.take 2).map fun (x : Int) => rowDg (x.fmod 1000000).toNat
def topOf (sc : List Int) : List Nat := topL (sc.sum.fmod 5).toNat
theorem dat_of (sc : List Int) : Dat (ldOf sc) (topOf sc) (rdsOf sc) := by
  have h5 : (sc.sum.fmod 5).toNat < 5 := by
    have : sc.sum.fmod 5 < 5 := Int.fmod_lt_of_pos _ (by decide)
    omega
  refine ⟨topN_S _ h5, ?_, top_ok _ h5, fun r hr => ?_, by simp [rdsOf]; omega⟩
  · show rowsF sc = _
    unfold rowsF rdsOf
    rw [List.map_map]
    exact List.map_congr_left fun x _ => rowN_eq _
  · obtain ⟨x, _, rfl⟩ := List.mem_map.mp hr
    exact rowDg_ok _
end Mine

namespace Mine
open PySem PyProof.Rows PySem.W PySem.Calls

theorem num_S (sm : Int) : ∃ ds, numS sm = S (46 :: ds) ∧ ds ≠ [] ∧ (∀ d ∈ ds, Sre.isDigit d = true ∧ 48 ≤ d ∧ d ≤ 57) ∧ ds.length ≤ 9 := by
  have h1 : 0 ≤ sm.fmod 1000 := Int.fmod_nonneg_of_pos _ (by decide)
  have h2 : sm.fmod 1000 < 1000 := Int.fmod_lt_of_pos _ (by decide)
  have h3 : sm.fmod 1000 = ((sm.fmod 1000).toNat : Int) := by omega
  have h4 := num_all (sm.fmod 1000).toNat (by omega)
  rw [← h3] at h4
  unfold numOk at h4
  simp only [Bool.and_eq_true, bne_iff_ne, List.all_eq_true, decide_eq_true_eq] at h4
  refine ⟨(Str.ofString (toString (sm.fmod 1000))).cps.toList, ?_, h4.1.1, fun d hd => ?_, h4.2⟩
  · unfold numS
    have := S_app [46] (Str.ofString (toString (sm.fmod 1000))).cps.toList
    rw [← eq_S] at this
    exact this
  · have := h4.1.2 d hd
    exact ⟨this.1.1, this.1.2, this.2⟩

theorem head_of {P : LD} {T : List Nat} {rds : List (List Nat)} (D : Dat P T rds) : Head P := by
  obtain ⟨ds, n1, n2, n3, n4⟩ := num_S P.sm
  have hnum : P.number = S (46 :: ds) := n1
  have hlab : ∀ d, Ok (labN d) ∧ (labN d).length ≤ 3 := fun d => by
    rw [labN_S]
    have := labL_len d
    exact ⟨ok_S (labL_asc d) (by omega), by rw [S_len]; exact this.2⟩
  have hT := D.ok.len
  have hds : Asc (46 :: ds) := fun c hc => by
    rcases List.mem_cons.mp hc with q | q
    · subst q; decide
    · have := (n3 c q).2.2; omega
  have hlow : (46 :: ds).map lowA = 46 :: ds := by
    rw [List.map_cons]
    congr 1
    have : ds.map lowA = ds.map id := List.map_congr_left fun c hc => by
      have := n3 c hc
      unfold lowA
      rw [if_neg (by omega)]; rfl
    rw [this, List.map_id]
  -- the first row
  obtain ⟨r0, rr, hr0⟩ : ∃ r0 rr, rds = r0 :: rr := by
    cases h : rds with
    | nil => have := D.len.1; rw [h] at this; simp at this
    | cons x r => exact ⟨x, r, rfl⟩
  have hr0m : r0 ∈ rds := by rw [hr0]; exact .head _
  obtain ⟨hdg, hdl⟩ := D.digs r0 hr0m
  have hq3 : r0.reverse.length ≤ 3 := by rw [List.length_reverse]; exact hdl
  have h0 : P.host0 = S (hostR T r0.reverse) := by
    unfold LD.host0
    rw [D.rows, D.top, hr0]
    exact hostF_S T r0
  have hA := hostR_asc D.ok.asc r0.reverse
  have hAN : P.host0 ++ P.number = S (hostR T r0.reverse ++ 46 :: ds) := by rw [h0, hnum, S_app]
  have hip : ipv4 (S (hostR T r0.reverse ++ 46 :: ds)).cps = true := ipv4_yes n2 fun d hd => (n3 d hd).1
  have hascAN : Asc (hostR T r0.reverse ++ 46 :: ds) := hA.app hds
  have hlowAN : (hostR T r0.reverse ++ 46 :: ds).map lowA = hostR (T.map lowA) r0.reverse ++ 46 :: ds := by rw [List.map_append, hlow, hostR_low]
  have hip2 : ipv4 (S (hostR (T.map lowA) r0.reverse ++ 46 :: ds)).cps = true := ipv4_yes n2 fun d hd => (n3 d hd).1
  refine ⟨?_, ?_, fun r hr => ?_, fun r hr y hy => ?_, fun x hx => ?_, fun r hr y hy => ?_, ?_, ?_, ?_, ?_, ?_, ?_⟩
  · rw [D.top]; exact ok_S D.ok.asc (by omega)
  · rw [D.rows, List.length_map]; exact D.len
  · rw [D.rows] at hr
    obtain ⟨r', h', rfl⟩ := List.mem_map.mp hr
    refine ⟨by rw [List.length_map]; exact (D.digs r' h').2, fun y hy => ?_, by rw [D.top, S_len]; omega⟩
    obtain ⟨d, _, rfl⟩ := List.mem_map.mp hy
    exact (hlab d).2
  · rw [D.rows] at hr
    obtain ⟨r', h', rfl⟩ := List.mem_map.mp hr
    obtain ⟨d, _, rfl⟩ := List.mem_map.mp hy
    exact (hlab d).1
  · rw [D.hosts] at hx
    obtain ⟨r', h', rfl⟩ := List.mem_map.mp hx
    exact host_ok D.ok (by rw [List.length_reverse]; exact (D.digs r' h').2)
  · rw [D.names] at hr
    obtain ⟨r', h', rfl⟩ := List.mem_map.mp hr
    obtain ⟨j, _, rfl⟩ := List.mem_map.mp hy
    exact host_ok D.ok (by rw [List.length_drop, List.length_reverse]; have := (D.digs r' h').2; omega)
  · rw [D.names, D.rows, List.map_map, D.top]
    exact List.map_congr_left fun r _ => (expect_S T r).symm
  · rw [hnum]
    exact ⟨ok_S hds (by simp; omega), by rw [S_len]; simp; omega⟩
  · rw [hAN]
    refine names_fix (reach_fix ?_)
    unfold isHDN
    rw [hip]; rfl
  · have e : P.host0 ++ (⟨#[46]⟩ : Str) = S (hostR T r0.reverse ++ [46]) := by rw [h0]; exact S_app _ [46]
    rw [e]
    refine names_fix (reach_fix ?_)
    unfold isHDN
    rw [itemL_S (c := 46) (by simp), dot_S]
    simp
  · rw [hAN, h0, hnum, upper_S hA, S_app]
    unfold udm
    rw [lower_S (hA.up.app hds), lower_S hascAN, hlowAN, List.map_append, hlow, low_up_l hA, hostR_low]
    unfold udmLow
    rw [hip2]; simp
  · have e : ((⟨#[46]⟩ : Str) ++ P.top) ++ P.number = S (46 :: (T ++ 46 :: ds)) := by
      rw [D.top, hnum]
      show S [46] ++ S T ++ _ = _
      rw [S_app, S_app]; rfl
    have hasc2 : Asc (46 :: (T ++ 46 :: ds)) := Asc.app (l := [46]) (by decide) (D.ok.asc.app hds)
    rw [hAN, e]
    unfold udm
    rw [lower_S hascAN, lower_S hasc2, hlowAN]
    unfold udmLow
    rw [hip2, if_neg (by simp), S_beq]
    obtain ⟨c, r, h5, h6⟩ := hostR_first D.ok.endsL r0.reverse
    rw [h5, List.map_cons, show lowA 46 = 46 from rfl, beq_eq_false_iff_ne]
    intro q
    simp at q
    exact h6 q.1
end Mine

namespace Mine
open PySem PyProof.Rows PySem.W PySem.Calls

/-- how many labels two rows have in common from the top on -/
def cpl : List Nat → List Nat → Nat
  | a :: x, b :: y => if a = b then cpl x y + 1 else 0
  | _, _ => 0
theorem cpl_iff : ∀ (x y : List Nat) (m : Nat), m ≤ cpl x y ↔ m ≤ x.length ∧ m ≤ y.length ∧ x.take m = y.take m
  | [], y, m => by
    simp only [cpl, List.length_nil]
    constructor
    · intro h; have : m = 0 := by omega
      subst this; simp
    · intro h; omega
  | a :: x, [], m => by
    simp only [cpl, List.length_nil]
    constructor
    · intro h; have : m = 0 := by omega
      subst this; simp
    · intro h; omega
  | a :: x, b :: y, m => by
    unfold cpl
    cases m with
    | zero => simp
    | succ m =>
      by_cases h : a = b
      · rw [if_pos h]
        have ih := cpl_iff x y m
        simp only [List.length_cons, List.take_succ_cons, List.cons.injEq, h, true_and]
        rw [Nat.add_le_add_iff_right, Nat.add_le_add_iff_right, Nat.add_le_add_iff_right]
        exact ih
      · rw [if_neg h]
        simp [h]

theorem cpl_le (x y : List Nat) : cpl x y ≤ x.length ∧ cpl x y ≤ y.length ∧ x.take (cpl x y) = y.take (cpl x y) := (cpl_iff x y _).mp (Nat.le_refl _)

theorem suffix_drop {p q : List Nat} : p <:+ q ↔ ∃ j, j ≤ q.length ∧ p = q.drop j := by
  constructor
  · intro h
    refine ⟨q.length - p.length, by omega, List.suffix_iff_eq_drop.mp h⟩
  · rintro ⟨j, _, rfl⟩
    exact List.drop_suffix j q

theorem match_suffix {T : List Nat} (h : TopOk T) {q p : List Nat} (hq : Digs q) (hp : Digs p) : (udm (Txt.upper (S (hostR T q))) ((⟨#[46]⟩ : Str) ++ S (hostR T p)) || udm (S (hostR T q)) (Txt.upper (S (hostR T p)))) = p.isSuffixOf q := by
  rw [Bool.eq_iff_iff, Bool.or_eq_true, udm_dot h hq hp, udm_same h hq hp, List.isSuffixOf_iff_suffix, suffix_drop]
  constructor
  · rintro (⟨j, h1, h2, h3⟩ | e)
    · exact ⟨j, h2, h3⟩
    · exact ⟨0, by omega, by simp [e]⟩
  · rintro ⟨j, h1, h2⟩
    cases j with
    | zero => right; simpa using h2.symm
    | succ j => left; exact ⟨j + 1, by omega, h1, h2⟩

theorem take_rev (r : List Nat) (j : Nat) : r.reverse.drop j = (r.take (r.length - j)).reverse := by
  rw [List.reverse_take]
  by_cases h : j ≤ r.length
  · congr 1; omega
  · rw [List.drop_eq_nil_of_le (by simp; omega), List.drop_eq_nil_of_le (by simp; omega)]

/-- a name further up holds the host: by the labels in common -/
theorem holds_iff (x y : List Nat) (j : Nat) (hj : j ≤ x.length) : (x.reverse.drop j).isSuffixOf y.reverse = decide (x.length - j ≤ cpl x y) := by
  rw [Bool.eq_iff_iff, List.isSuffixOf_iff_suffix, decide_eq_true_eq, cpl_iff, take_rev, List.reverse_suffix, List.prefix_iff_eq_take, List.length_take]
  have e : min (x.length - j) x.length = x.length - j := by omega
  rw [e]
  constructor
  · intro h
    refine ⟨by omega, ?_, h⟩
    have := congrArg List.length h
    simp at this; omega
  · exact fun h => h.2.2

theorem idx_first {α : Type} [BEq α] [LawfulBEq α] : ∀ {l : List α} {x : α} {n : Nat}, l[n]? = some x → (∀ m, m < n → l[m]? ≠ some x) → l.idxOf x = n
  | [], x, n, h, _ => by simp at h
  | a :: l, x, 0, h, _ => by
    have : a = x := by simpa using h
    subst this; exact List.idxOf_cons_self
  | a :: l, x, n + 1, h, hn => by
    have h0 : a ≠ x := fun e => hn 0 (by omega) (by rw [e]; rfl)
    have ih := idx_first (l := l) (x := x) (n := n) (by simpa using h) (fun m hm => by have := hn (m + 1) (by omega); simpa using this)
    have hb : (a == x) = false := beq_eq_false_iff_ne.mpr h0
    rw [List.idxOf_cons, ih, hb]
    rfl

theorem ups_get (T q : List Nat) (j : Nat) (hj : j ≤ q.length) : (ups T q)[j]? = some (S (hostR T (q.drop j))) := by
  unfold ups
  rw [List.getElem?_map, List.getElem?_range (by omega)]; rfl
theorem ups_mem {T q p : List Nat} (hq : Digs q) (hp : Digs p) : S (hostR T p) ∈ ups T q ↔ p <:+ q := by
  rw [suffix_drop]
  unfold ups
  rw [List.mem_map]
  constructor
  · rintro ⟨j, hj, e⟩
    have := List.mem_range.mp hj
    exact ⟨j, by omega, (hostR_inj (digs_drop hq j) hp (S_inj e)).symm⟩
  · rintro ⟨j, hj, e⟩
    exact ⟨j, List.mem_range.mpr (by omega), by rw [e]⟩

def shL : Option Nat → List Nat
  | none => [34, 34]
  | some d => if d = 0 then [92, 41] else if d = 1 then [92, 34, 34, 55, 41, 92, 92, 34] else [92, 40, 34, 92, 34, 40, 34]
theorem shown_S : ∀ (r : List Nat), Digs r → shownT.lookup (Txt.join "" ((r.map labN).drop ((r.map labN).length - 1))) = some (S (shL r.getLast?)) := by
  intro r hr
  have key : ∀ d, d < 3 → shownT.lookup (Txt.join "" [labN d]) = some (S (shL (some d)))
    | 0, _ => by decide +kernel
    | 1, _ => by decide +kernel
    | 2, _ => by decide +kernel
  cases h : r.getLast? with
  | none =>
    have := List.getLast?_eq_none_iff.mp h
    subst this
    decide +kernel
  | some d =>
    have hne : r ≠ [] := fun e => by subst e; cases h
    have hd : r = r.dropLast ++ [d] := by
      rw [List.getLast?_eq_some_getLast hne] at h
      rw [← Option.some.inj h, List.dropLast_concat_getLast]
    have hdd : d < 3 := hr d (by rw [hd]; simp)
    have e : (r.map labN).drop ((r.map labN).length - 1) = [labN d] := by
      rw [hd]; simp
    rw [e]
    exact key d hdd
theorem shL_len (o : Option Nat) : (shL o).length ≤ 8 := by
  unfold shL
  split
  · decide
  · split
    · decide
    · split <;> decide

theorem mul_S (c n : Nat) : Txt.mul (⟨#[c]⟩ : Str) (n : Int) = S (List.replicate n c) := by
  have key : ∀ (m : Nat) (acc : List Nat), (List.replicate m (#[c] : Array Nat)).foldl (· ++ ·) acc.toArray = (acc ++ List.replicate m c).toArray := by
    intro m
    induction m with
    | zero => intro acc; simp
    | succ m ih =>
      intro acc
      rw [List.replicate_succ, List.foldl_cons]
      have := ih (acc ++ [c])
      rw [show acc.toArray ++ #[c] = (acc ++ [c]).toArray by simp, this, List.replicate_succ]
      simp
  unfold Txt.mul
  split
  · rename_i h
    have : n = 0 := by omega
    subst this; rfl
  · split
    · rename_i h1 h
      have : n = 1 := by
        simp [Str.length] at h; omega
      subst this; rfl
    · have := key n []
      show Str.mk _ = _
      rw [Int.toNat_natCast]
      have e2 : (([] : List Nat).toArray) = #[] := rfl
      rw [e2] at this
      rw [this]; simp
end Mine

namespace Mine
open PySem PyProof.Rows PySem.W PySem.Calls

def hopL (r' r : List Nat) : List Nat := List.replicate (r'.length - cpl r' r) 41 ++ List.replicate (r.length - cpl r' r) 40 ++ shL r.getLast?
def hopAt (rds : List (List Nat)) (t : Nat) : List Nat := if t = 0 then [] else hopL (rds.getD (t - 1) []) (rds.getD t [])
def hopsOf (rds : List (List Nat)) : List Str := (List.range rds.length).map fun t => S (hopAt rds t)

theorem bs_eq {T : List Nat} (h : TopOk T) {r' r : List Nat} (hr' : Digs r') (hr : Digs r) :
    bsF (S (hostR T r.reverse)) (ups T r'.reverse ++ [S (hostR T r.reverse)]) = ((List.range (r'.length + 1)).map fun j => decide (r'.length - j ≤ cpl r' r)) ++ [true] := by
  unfold bsF
  rw [List.map_append]
  congr 1
  · unfold ups
    rw [List.map_map, List.length_reverse]
    apply List.map_congr_left
    intro j hj
    have := List.mem_range.mp hj
    show (udm _ _ || udm _ _) = _
    rw [match_suffix h (digs_rev hr) (digs_drop (digs_rev hr') j), holds_iff _ _ _ (by omega)]
  · rw [List.map_singleton, match_suffix h (digs_rev hr) (digs_rev hr)]
    congr 1
    rw [List.isSuffixOf_iff_suffix]
    exact List.suffix_refl _

theorem turn_of {P : LD} {T : List Nat} {rds : List (List Nat)} (D : Dat P T rds) {t : Nat} (h0 : 0 < t) (ht : t < rds.length) {r' r : List Nat} (e' : rds[t - 1]? = some r') (e : rds[t]? = some r) :
    Turn P t (ups T r'.reverse) (ups T r.reverse) (S (hostR T r.reverse)) (r.map labN) (S (hopL r' r)) := by
  obtain ⟨hr', hl'⟩ := D.digs r' (List.mem_of_getElem? e')
  obtain ⟨hr, hl⟩ := D.digs r (List.mem_of_getElem? e)
  have hq := digs_rev hr
  have hq' := digs_rev hr'
  obtain ⟨c1, c2, c3⟩ := cpl_le r' r
  refine ⟨h0, by rw [D.rows, List.length_map]; exact ht, by rw [D.names, List.getElem?_map, e']; rfl, by rw [D.names, List.getElem?_map, e]; rfl, by rw [D.hosts, List.getElem?_map, e]; rfl, by rw [D.rows, List.getElem?_map, e]; rfl, ?_, ?_, ?_, ?_⟩
  · unfold ups
    simp; omega
  · intro nm hnm
    obtain ⟨p, hp, rfl⟩ : ∃ p, Digs p ∧ nm = S (hostR T p) := by
      rcases List.mem_append.mp hnm with q | q
      · obtain ⟨j, _, rfl⟩ := List.mem_map.mp q
        exact ⟨_, digs_drop hq' j, rfl⟩
      · exact ⟨_, hq, List.mem_singleton.mp q⟩
    constructor
    · rw [Bool.eq_iff_iff, udm_dot D.ok hq hp, List.contains_iff_mem]
      generalize r.reverse = q at *
      cases q with
      | nil =>
        constructor
        · rintro ⟨j, h1, h2, _⟩; simp at h2; omega
        · intro h; simp [ups] at h
      | cons d q =>
        rw [ups_cons]
        show _ ↔ _ ∈ ups T q
        rw [ups_mem (fun x hx => hq x (.tail _ hx)) hp, suffix_drop]
        constructor
        · rintro ⟨j, h1, h2, h3⟩
          match j, h1 with
          | j + 1, _ => exact ⟨j, by simp at h2; omega, by simpa using h3⟩
        · rintro ⟨j, h1, h2⟩
          exact ⟨j + 1, by omega, by simp; omega, by simpa using h2⟩
    · rw [Bool.eq_iff_iff, udm_same D.ok hq hp, beq_iff_eq]
      exact ⟨fun e => by rw [e], fun e => (hostR_inj hp hq (S_inj e)).symm⟩
  · rw [bs_eq D.ok hr' hr]; simp
  · have hu : (bsF (S (hostR T r.reverse)) (ups T r'.reverse ++ [S (hostR T r.reverse)])).idxOf true = r'.length - cpl r' r := by
      rw [bs_eq D.ok hr' hr]
      refine idx_first ?_ fun m hm => ?_
      · rw [List.getElem?_append_left (by simp; omega), List.getElem?_map, List.getElem?_range (by omega)]
        simp; omega
      · rw [List.getElem?_append_left (by simp; omega), List.getElem?_map, List.getElem?_range (by omega)]
        simp; omega
    rw [hu]
    have ed : r'.reverse.drop (r'.length - cpl r' r) = r.reverse.drop (r.length - cpl r' r) := by
      rw [take_rev, take_rev, show r'.length - (r'.length - cpl r' r) = cpl r' r by omega, show r.length - (r.length - cpl r' r) = cpl r' r by omega, c3]
    have gv : (ups T r.reverse)[r.length - cpl r' r]? = some (S (hostR T (r'.reverse.drop (r'.length - cpl r' r)))) := by
      rw [ups_get _ _ _ (by rw [List.length_reverse]; omega), ed]
    have hv : (ups T r.reverse).idxOf (S (hostR T (r'.reverse.drop (r'.length - cpl r' r)))) = r.length - cpl r' r := by
      refine idx_first gv fun m hm => ?_
      rw [ups_get _ _ _ (by rw [List.length_reverse]; omega)]
      intro q
      have := hostR_inj (digs_drop hq m) (digs_drop hq' _) (S_inj (Option.some.inj q))
      rw [ed] at this
      have := congrArg List.length this
      simp at this; omega
    refine ⟨S (hostR T (r'.reverse.drop (r'.length - cpl r' r))), S (shL r.getLast?), ups_get _ _ _ (by rw [List.length_reverse]; omega), List.mem_of_getElem? gv, shown_S r hr, ?_, ?_⟩
    · rw [S_len]; have := shL_len r.getLast?; omega
    · rw [hv, mul_S, mul_S, S_app, S_app]; rfl

theorem hops_ok {P : LD} {T : List Nat} {rds : List (List Nat)} (D : Dat P T rds) : HopsOk P (hopsOf rds) := by
  refine ⟨by unfold hopsOf; rw [D.rows]; simp, ?_, fun t hop h0 e => ?_⟩
  · unfold hopsOf
    rw [List.getElem?_map, List.getElem?_range (by have := D.len.1; omega)]; rfl
  · have ht : t < rds.length := by
      have := (List.getElem?_eq_some_iff.mp e).1
      unfold hopsOf at this; simpa using this
    have e1 : rds[t - 1]? = some rds[t - 1] := List.getElem?_eq_getElem (by omega)
    have e2 : rds[t]? = some rds[t] := List.getElem?_eq_getElem ht
    have eh : hop = S (hopL rds[t - 1] rds[t]) := by
      unfold hopsOf at e
      rw [List.getElem?_map, List.getElem?_range ht] at e
      have := (Option.some.inj e).symm
      rw [this]
      show S (hopAt rds t) = _
      unfold hopAt
      rw [if_neg (by omega), List.getD_eq_getElem?_getD, List.getD_eq_getElem?_getD, e1, e2]; rfl
    rw [eh]
    exact ⟨_, _, _, _, turn_of D h0 ht e1 e2⟩
end Mine

namespace Mine
open PySem PyProof.Rows PySem.W PySem.Calls

/-! the text between two visits, in tokens -/
inductive Tk where
  | o
  | c
  | q (x : Option Nat)
def tkL : Tk → List Nat
  | .o => [40]
  | .c => [41]
  | .q x => shL x
def tkS : Tk → List Nat
  | .o => [40]
  | .c => [41]
  | .q none => []
  | .q (some d) => if d = 0 then [92, 41] else if d = 1 then [92, 34] else [92, 40]
def flat : List Tk → List Nat
  | [] => []
  | t :: ts => tkL t ++ flat ts
def flatS : List Tk → List Nat
  | [] => []
  | t :: ts => tkS t ++ flatS ts
theorem flat_app (a b : List Tk) : flat (a ++ b) = flat a ++ flat b := by
  induction a with
  | nil => rfl
  | cons t a ih => simp [flat, ih]

def runN : List Tk → Nat → Option Nat
  | [], n => some n
  | .o :: r, n => runN r (n + 1)
  | .c :: r, n => if n = 0 then none else runN r (n - 1)
  | .q _ :: r, n => runN r n

theorem ne34 (l : List Nat) (h : l ≠ [34]) : ((S l == (⟨#[34]⟩ : Str)) : Bool) = false := by
  show (S l == S [34]) = false
  rw [S_beq]; simpa using h
theorem is34 : ((S [34] == (⟨#[34]⟩ : Str)) : Bool) = true := by decide

theorem st_skip {x : Str} {p : Int} {l : List Nat} (h : l ≠ [34]) {r : List (Int × Str)} {a : Int} {o : Option Int} {rs : List Str} : stripL x ((p, S l) :: r) a o rs = stripL x r a o rs := by
  show (if (S l == (⟨#[34]⟩ : Str)) = true then _ else _) = _
  rw [ne34 l h]; rfl
theorem st_open {x : Str} {p : Int} {r : List (Int × Str)} {a : Int} {rs : List Str} : stripL x ((p, S [34]) :: r) a none rs = stripL x r a (some p) rs := by
  show (if (S [34] == (⟨#[34]⟩ : Str)) = true then _ else _) = _
  rw [is34]; rfl
theorem st_close {x : Str} {p : Int} {r : List (Int × Str)} {a q : Int} {rs : List Str} : stripL x ((p, S [34]) :: r) a (some q) rs = stripL x r (p + 1) none (if (a != q) = true then rs ++ [Txt.slice x (some a) (some q)] else rs) := by
  show (if (S [34] == (⟨#[34]⟩ : Str)) = true then _ else _) = _
  rw [is34]; rfl

theorem out_esc (c : Nat) (r : List Nat) (i : Nat) : outsP (92 :: c :: r) i false = (((i + 1 : Nat) : Int), S [92, c]) :: outsP r (i + 2) false := rfl
theorem out_one (c : Nat) (h : c ≠ 92) (r : List Nat) (i : Nat) : outsP (c :: r) i false = ((i : Int), S [c]) :: outsP r (i + 1) false := by
  show (if c = 92 then _ else _) = _
  rw [if_neg h]

def catS (rs : List Str) : List Nat := (rs.map fun x => x.cps.toList).flatten
theorem catS_app (a b : List Str) : catS (a ++ b) = catS a ++ catS b := by simp [catS]

theorem slice_ab (X : List Nat) (a b : Nat) (h : a ≤ b) (hb : b ≤ X.length) : Txt.slice (S X) (some (a : Int)) (some (b : Int)) = S ((X.take b).drop a) := by
  rw [slice_S, pick_run _ _ _ hb h]

theorem strip_toks : ∀ (ts : List Tk) (X pre : List Nat) (a : Nat) (rs : List Str), X = pre ++ flat ts → a ≤ pre.length →
    ∃ (a' : Nat) (rs' : List Str), stripL (S X) (outsP (flat ts) pre.length false) a none rs = ((a' : Int), rs') ∧ a' ≤ X.length ∧ catS rs' ++ X.drop a' = catS rs ++ pre.drop a ++ flatS ts
  | [], X, pre, a, rs, hX, ha => by
    refine ⟨a, rs, rfl, by rw [hX]; simp; omega, ?_⟩
    rw [hX]; simp [flat, flatS]
  | .o :: ts, X, pre, a, rs, hX, ha => by
    obtain ⟨a', rs', h1, h2, h3⟩ := strip_toks ts X (pre ++ [40]) a rs (by rw [hX]; simp [flat, tkL]) (by simp; omega)
    refine ⟨a', rs', ?_, h2, ?_⟩
    · show stripL (S X) (outsP (40 :: flat ts) pre.length false) a none rs = _
      rw [out_one 40 (by decide), st_skip (by decide), ← h1]; simp
    · rw [h3, List.drop_append_of_le_length ha]; simp [flatS, tkS]
  | .c :: ts, X, pre, a, rs, hX, ha => by
    obtain ⟨a', rs', h1, h2, h3⟩ := strip_toks ts X (pre ++ [41]) a rs (by rw [hX]; simp [flat, tkL]) (by simp; omega)
    refine ⟨a', rs', ?_, h2, ?_⟩
    · show stripL (S X) (outsP (41 :: flat ts) pre.length false) a none rs = _
      rw [out_one 41 (by decide), st_skip (by decide), ← h1]; simp
    · rw [h3, List.drop_append_of_le_length ha]; simp [flatS, tkS]
  | .q none :: ts, X, pre, a, rs, hX, ha => by
    have hX' : X = (pre ++ [34, 34]) ++ flat ts := by rw [hX]; simp [flat, tkL, shL]
    have hs : Txt.slice (S X) (some (a : Int)) (some (pre.length : Int)) = S (pre.drop a) := by
      rw [slice_ab _ _ _ ha (by rw [hX]; simp), hX, List.take_left]
    have hcat : catS (if ((a : Int) != (pre.length : Int)) = true then rs ++ [Txt.slice (S X) (some (a : Int)) (some (pre.length : Int))] else rs) = catS rs ++ pre.drop a := by
      split
      · rw [hs, catS_app]; simp [catS]
      · rename_i h
        have h2 : (a : Int) = pre.length := by simpa using h
        have h3 : a = pre.length := by omega
        rw [h3]; simp
    obtain ⟨a', rs', h1, h2, h3⟩ := strip_toks ts X (pre ++ [34, 34]) (pre.length + 2) (if ((a : Int) != (pre.length : Int)) = true then rs ++ [Txt.slice (S X) (some (a : Int)) (some (pre.length : Int))] else rs) hX' (by simp)
    refine ⟨a', rs', ?_, h2, ?_⟩
    · show stripL (S X) (outsP (34 :: 34 :: flat ts) pre.length false) a none rs = _
      rw [out_one 34 (by decide), out_one 34 (by decide), st_open, st_close, ← h1]
      simp only [List.length_append, List.length_cons, List.length_nil]
      congr 1
    · rw [h3, hcat, List.drop_eq_nil_of_le (as := pre ++ [34, 34]) (by simp)]; simp [flatS, tkS]
  | .q (some d) :: ts, X, pre, a, rs, hX, ha => by
    by_cases h0 : d = 0
    · have hX' : X = (pre ++ [92, 41]) ++ flat ts := by rw [hX]; simp [flat, tkL, shL, h0]
      obtain ⟨a', rs', h1, h2, h3⟩ := strip_toks ts X (pre ++ [92, 41]) a rs hX' (by simp; omega)
      refine ⟨a', rs', ?_, h2, ?_⟩
      · have e : flat (.q (some d) :: ts) = 92 :: 41 :: flat ts := by simp [flat, tkL, shL, h0]
        rw [e, out_esc, st_skip (by decide), ← h1]; simp
      · rw [h3, List.drop_append_of_le_length ha]; simp [flatS, tkS, h0]
    by_cases h1 : d = 1
    · have hX' : X = (pre ++ [92, 34, 34, 55, 41, 92, 92, 34]) ++ flat ts := by rw [hX]; simp [flat, tkL, shL, h1]
      have hs : Txt.slice (S X) (some (a : Int)) (some ((pre.length + 2 : Nat) : Int)) = S (pre.drop a ++ [92, 34]) := by
        rw [slice_ab _ _ _ (by omega) (by rw [hX']; simp), hX']
        congr 1
        rw [← List.drop_append_of_le_length ha]
        congr 1
        rw [List.append_assoc, List.take_append]
        simp [List.take_of_length_le (show pre.length ≤ pre.length + 2 by omega)]
      have hne : ((a : Int) != ((pre.length + 2 : Nat) : Int)) = true := by simp; omega
      obtain ⟨a', rs', g1, g2, g3⟩ := strip_toks ts X (pre ++ [92, 34, 34, 55, 41, 92, 92, 34]) (pre.length + 8) (rs ++ [Txt.slice (S X) (some (a : Int)) (some ((pre.length + 2 : Nat) : Int))]) hX' (by simp)
      refine ⟨a', rs', ?_, g2, ?_⟩
      · have e : flat (.q (some d) :: ts) = 92 :: 34 :: 34 :: 55 :: 41 :: 92 :: 92 :: 34 :: flat ts := by simp [flat, tkL, shL, h1]
        rw [e, out_esc, st_skip (by decide), out_one 34 (by decide), st_open, out_one 55 (by decide), st_skip (by decide), out_one 41 (by decide), st_skip (by decide), out_esc, st_skip (by decide), out_one 34 (by decide), st_close, if_pos hne, ← g1]
        simp only [List.length_append, List.length_cons, List.length_nil]
        congr 1
      · rw [g3, catS_app, hs, List.drop_eq_nil_of_le (as := pre ++ [92, 34, 34, 55, 41, 92, 92, 34]) (by simp)]; simp [flatS, tkS, h1, catS]
    · have hX' : X = (pre ++ [92, 40, 34, 92, 34, 40, 34]) ++ flat ts := by rw [hX]; simp [flat, tkL, shL, h0, h1]
      have hs : Txt.slice (S X) (some (a : Int)) (some ((pre.length + 2 : Nat) : Int)) = S (pre.drop a ++ [92, 40]) := by
        rw [slice_ab _ _ _ (by omega) (by rw [hX']; simp), hX']
        congr 1
        rw [← List.drop_append_of_le_length ha]
        congr 1
        rw [List.append_assoc, List.take_append]
        simp [List.take_of_length_le (show pre.length ≤ pre.length + 2 by omega)]
      have hne : ((a : Int) != ((pre.length + 2 : Nat) : Int)) = true := by simp; omega
      obtain ⟨a', rs', g1, g2, g3⟩ := strip_toks ts X (pre ++ [92, 40, 34, 92, 34, 40, 34]) (pre.length + 7) (rs ++ [Txt.slice (S X) (some (a : Int)) (some ((pre.length + 2 : Nat) : Int))]) hX' (by simp)
      refine ⟨a', rs', ?_, g2, ?_⟩
      · have e : flat (.q (some d) :: ts) = 92 :: 40 :: 34 :: 92 :: 34 :: 40 :: 34 :: flat ts := by simp [flat, tkL, shL, h0, h1]
        rw [e, out_esc, st_skip (by decide), out_one 34 (by decide), st_open, out_esc, st_skip (by decide), out_one 40 (by decide), st_skip (by decide), out_one 34 (by decide), st_close, if_pos hne, ← g1]
        simp only [List.length_append, List.length_cons, List.length_nil]
        congr 1
      · rw [g3, catS_app, hs, List.drop_eq_nil_of_le (as := pre ++ [92, 40, 34, 92, 34, 40, 34]) (by simp)]; simp [flatS, tkS, h0, h1, catS]
end Mine

namespace Mine
open PySem PyProof.Rows PySem.W PySem.Calls

theorem join_cat : ∀ ys : List Str, Txt.join (⟨#[]⟩ : Str) ys = S (catS ys) := by
  intro ys
  show Builtin.Str.glued _ _ = _
  rw [StrLaws.glued_eq_join]
  induction ys with
  | nil => rfl
  | cons y r ih =>
    cases r with
    | nil =>
      show y = _
      simp [catS]
    | cons z t =>
      show y ++ (⟨#[]⟩ : Str) ++ Str.join (⟨#[]⟩ : Str) (z :: t) = _
      rw [ih]
      have e : y = S y.cps.toList := eq_S y
      rw [e]
      show S _ ++ S [] ++ S _ = _
      rw [S_app, S_app]
      simp [catS]

theorem flat_noq : ∀ ts : List Tk, 34 ∉ flat ts → flat ts = flatS ts
  | [], _ => rfl
  | .o :: ts, h => by
    have := flat_noq ts (fun q => h (by simp [flat, q]))
    simp [flat, flatS, tkL, tkS, this]
  | .c :: ts, h => by
    have := flat_noq ts (fun q => h (by simp [flat, q]))
    simp [flat, flatS, tkL, tkS, this]
  | .q none :: ts, h => absurd (show 34 ∈ flat (.q none :: ts) by simp [flat, tkL, shL]) h
  | .q (some d) :: ts, h => by
    by_cases h0 : d = 0
    · have := flat_noq ts (fun q => h (by simp [flat, q]))
      simp [flat, flatS, tkL, tkS, shL, h0, this]
    · refine absurd (show 34 ∈ flat (.q (some d) :: ts) from ?_) h
      by_cases h1 : d = 1 <;> simp [flat, tkL, shL, h0, h1]

theorem strip_flat (ts : List Tk) : stripF (S (flat ts)) = S (flatS ts) := by
  unfold stripF
  have hc : Txt.contains (S (flat ts)) (⟨#[34]⟩ : Str) = decide (34 ∈ flat ts) := contains_S _ 34
  rw [hc]
  by_cases h : 34 ∈ flat ts
  · rw [if_neg (by simp [h])]
    obtain ⟨a', rs', h1, h2, h3⟩ := strip_toks ts (flat ts) [] 0 [] (by simp) (by simp)
    have e : (S (flat ts)).cps.toList = flat ts := by simp
    rw [e]
    have h1' : stripL (S (flat ts)) (outsP (flat ts) 0 false) 0 none [] = ((a' : Int), rs') := h1
    rw [h1']
    dsimp only
    rw [empty_S, S_len]
    show Txt.join (⟨#[]⟩ : Str) _ = _
    rw [join_cat]
    congr 1
    have h3' : catS rs' ++ (flat ts).drop a' = flatS ts := by simpa [catS] using h3
    rw [← h3']
    split
    · rw [catS_app, slice_S, pick_from]; simp [catS]
    · rename_i hh
      have : (flat ts).length ≤ a' := by simpa using hh
      rw [List.drop_eq_nil_of_le this]; simp
  · rw [if_pos (by simp [h]), flat_noq ts h]

theorem ck_skip {p : Int} {l : List Nat} (h1 : l ≠ [40]) (h2 : l ≠ [41]) {r : List (Int × Str)} {n : Int} : checkL ((p, S l) :: r) n = checkL r n := by
  show (if (S l == S [40]) = true then _ else if (S l == S [41]) = true then _ else _) = _
  rw [S_beq, S_beq]
  rw [if_neg (by simpa using h1), if_neg (by simpa using h2)]
theorem check_flat : ∀ (ts : List Tk) (i n : Nat), checkL (outsP (flatS ts) i false) n = (runN ts n).map fun (m : Nat) => (m : Int)
  | [], i, n => rfl
  | .o :: ts, i, n => by
    show checkL (outsP (40 :: flatS ts) i false) n = _
    rw [out_one 40 (by decide)]
    show (if (S [40] == S [40]) = true then _ else _) = _
    rw [if_pos (by simp)]
    exact check_flat ts (i + 1) (n + 1)
  | .c :: ts, i, n => by
    show checkL (outsP (41 :: flatS ts) i false) n = _
    rw [out_one 41 (by decide)]
    show (if (S [41] == S [40]) = true then _ else if (S [41] == S [41]) = true then (if decide ((n : Int) - 1 < 0) = true then none else checkL (outsP (flatS ts) (i + 1) false) ((n : Int) - 1)) else _) = _
    rw [if_neg (by decide), if_pos (by simp)]
    show _ = (if n = 0 then none else runN ts (n - 1)).map _
    by_cases h : n = 0
    · subst h; rfl
    · rw [if_neg h, if_neg (by simp; omega), ← check_flat ts (i + 1) (n - 1)]
      congr 1; omega
  | .q none :: ts, i, n => check_flat ts i n
  | .q (some d) :: ts, i, n => by
    show _ = (runN ts n).map _
    rw [← check_flat ts (i + 2) n]
    by_cases h0 : d = 0
    · have e : flatS (.q (some d) :: ts) = 92 :: 41 :: flatS ts := by simp [flatS, tkS, h0]
      rw [e, out_esc, ck_skip (by decide) (by decide)]
    · by_cases h1 : d = 1
      · have e : flatS (.q (some d) :: ts) = 92 :: 34 :: flatS ts := by simp [flatS, tkS, h0, h1]
        rw [e, out_esc, ck_skip (by decide) (by decide)]
      · have e : flatS (.q (some d) :: ts) = 92 :: 40 :: flatS ts := by simp [flatS, tkS, h0, h1]
        rw [e, out_esc, ck_skip (by decide) (by decide)]

theorem checkF_flat (ts : List Tk) : checkF (S (flat ts)) = (match runN ts 0 with | none => false | some n => n == 0) := by
  unfold checkF
  rw [strip_flat]
  have e : (S (flatS ts)).cps.toList = flatS ts := by simp
  rw [e]
  have := check_flat ts 0 0
  have z : ((0 : Nat) : Int) = 0 := rfl
  rw [z] at this
  rw [this]
  cases h : runN ts 0 with
  | none => rfl
  | some n =>
    show ((n : Int) == 0) = (n == 0)
    rw [Bool.eq_iff_iff, beq_iff_eq, beq_iff_eq]; omega

theorem run_o : ∀ (a n : Nat) (ts : List Tk), runN (List.replicate a .o ++ ts) n = runN ts (n + a)
  | 0, n, ts => rfl
  | a + 1, n, ts => by
    show runN (List.replicate a .o ++ ts) (n + 1) = _
    rw [run_o a (n + 1) ts]; congr 1; omega
theorem run_c : ∀ (a n : Nat) (ts : List Tk), runN (List.replicate a .c ++ ts) n = if a ≤ n then runN ts (n - a) else none
  | 0, n, ts => by simp
  | a + 1, n, ts => by
    show (if n = 0 then none else runN (List.replicate a .c ++ ts) (n - 1)) = _
    by_cases h : n = 0
    · rw [if_pos h, if_neg (by omega)]
    · rw [if_neg h, run_c a (n - 1) ts]
      by_cases h2 : a + 1 ≤ n
      · rw [if_pos h2, if_pos (by omega)]; congr 1; omega
      · rw [if_neg h2, if_neg (by omega)]

/-! the hops between two visits -/
def hopTk (r' r : List Nat) : List Tk := List.replicate (r'.length - cpl r' r) .c ++ (List.replicate (r.length - cpl r' r) .o ++ [.q r.getLast?])
theorem flat_rep (t : Tk) (c : Nat) (h : tkL t = [c]) (n : Nat) : flat (List.replicate n t) = List.replicate n c := by
  induction n with
  | zero => rfl
  | succ n ih => rw [List.replicate_succ, List.replicate_succ]; simp [flat, h, ih]
theorem flat_hop (r' r : List Nat) : flat (hopTk r' r) = hopL r' r := by
  unfold hopTk hopL
  rw [flat_app, flat_app, flat_rep .c 41 rfl, flat_rep .o 40 rfl]
  simp [flat, tkL]

def row (rds : List (List Nat)) (t : Nat) : List Nat := rds.getD t []
/-- the hops from visit i on, m of them -/
def toks (rds : List (List Nat)) (i : Nat) : Nat → List Tk
  | 0 => []
  | m + 1 => toks rds i m ++ hopTk (row rds (i + m)) (row rds (i + m + 1))
def comAt (rds : List (List Nat)) (t : Nat) : Nat := cpl (row rds t) (row rds (t + 1))

theorem run_hop (r' r : List Nat) (n : Nat) (ts : List Tk) : runN (hopTk r' r ++ ts) n = if r'.length ≤ n + cpl r' r then runN ts (n + cpl r' r - r'.length + (r.length - cpl r' r)) else none := by
  unfold hopTk
  have := cpl_le r' r
  rw [List.append_assoc, run_c, List.append_assoc, run_o]
  by_cases h : r'.length ≤ n + cpl r' r
  · rw [if_pos (by omega), if_pos h]
    show runN ts _ = _
    congr 1; omega
  · rw [if_neg (by omega), if_neg h]

theorem run_toks (rds : List (List Nat)) (i a : Nat) : ∀ (m : Nat) (ts : List Tk),
    ((∀ t, i ≤ t → t < i + m → (row rds i).length ≤ a + comAt rds t) → (row rds i).length ≤ a + (row rds (i + m)).length ∧ runN (toks rds i m ++ ts) a = runN ts (a + (row rds (i + m)).length - (row rds i).length)) ∧
    (¬ (∀ t, i ≤ t → t < i + m → (row rds i).length ≤ a + comAt rds t) → runN (toks rds i m ++ ts) a = none)
  | 0, ts => by
    refine ⟨fun _ => ⟨by simp, ?_⟩, fun h => absurd (fun t h1 h2 => by omega) h⟩
    show runN ts a = _
    congr 1; simp
  | m + 1, ts => by
    have ih := run_toks rds i a m (hopTk (row rds (i + m)) (row rds (i + m + 1)) ++ ts)
    have e : toks rds i (m + 1) ++ ts = toks rds i m ++ (hopTk (row rds (i + m)) (row rds (i + m + 1)) ++ ts) := by
      show (toks rds i m ++ _) ++ ts = _
      rw [List.append_assoc]
    rw [e]
    have hc := cpl_le (row rds (i + m)) (row rds (i + m + 1))
    have hcm : comAt rds (i + m) = cpl (row rds (i + m)) (row rds (i + m + 1)) := rfl
    by_cases hm : ∀ t, i ≤ t → t < i + m → (row rds i).length ≤ a + comAt rds t
    · obtain ⟨h1, h2⟩ := ih.1 hm
      rw [h2, run_hop]
      constructor
      · intro hall
        have hl := hall (i + m) (by omega) (by omega)
        rw [hcm] at hl
        refine ⟨by rw [show i + (m + 1) = i + m + 1 by omega]; omega, ?_⟩
        rw [if_pos (by omega)]
        congr 1
        rw [show i + (m + 1) = i + m + 1 by omega]; omega
      · intro hn
        rw [if_neg]
        intro q
        apply hn
        intro t ht1 ht2
        by_cases ht : t < i + m
        · exact hm t ht1 ht
        · have : t = i + m := by omega
          subst this
          rw [hcm]; omega
    · rw [ih.2 hm]
      exact ⟨fun hall => absurd (fun t h1 h2 => hall t h1 (by omega)) hm, fun _ => rfl⟩
end Mine

namespace Mine
open PySem PyProof.Rows PySem.W PySem.Calls

/-! what rows have in common -/
def Shared (rows : List (List Str)) (r0 : List Str) (m : Nat) : Prop := ∀ r ∈ rows, m ≤ r.length ∧ r.take m = r0.take m
theorem Shared.down {rows : List (List Str)} {r0 : List Str} {m k : Nat} (h : Shared rows r0 m) (hk : k ≤ m) : Shared rows r0 k := fun r hr => by
  obtain ⟨h1, h2⟩ := h r hr
  refine ⟨by omega, ?_⟩
  have := congrArg (List.take k) h2
  rw [List.take_take, List.take_take, Nat.min_eq_left hk] at this
  exact this
theorem commonL_spec {rows : List (List Str)} {r0 : List Str} (h0 : r0 ∈ rows) : ∀ (n many : Nat), n + many = r0.length → Shared rows r0 many → Shared rows r0 (commonL rows r0 n many) ∧ ¬ Shared rows r0 (commonL rows r0 n many + 1)
  | 0, many, hn, hs => ⟨hs, fun h => by have := (h r0 h0).1; simp [commonL] at this; omega⟩
  | n + 1, many, hn, hs => by
    unfold commonL
    by_cases hf : rows.filter (bad r0 many) = []
    · rw [if_pos (by simp [hf])]
      refine commonL_spec h0 n (many + 1) (by omega) fun r hr => ?_
      have hb := List.filter_eq_nil_iff.mp hf r hr
      unfold bad at hb
      simp only [Bool.or_eq_true, decide_eq_true_eq, bne_iff_ne, not_or, Classical.not_not] at hb
      have := (hs r hr).1
      exact ⟨by omega, hb.2⟩
    · rw [if_neg (by simpa using hf)]
      refine ⟨hs, fun h => hf ?_⟩
      rw [List.filter_eq_nil_iff]
      intro r hr
      obtain ⟨h1, h2⟩ := h r hr
      unfold bad
      simp only [Bool.or_eq_true, decide_eq_true_eq, bne_iff_ne, not_or, Classical.not_not]
      exact ⟨by omega, h2⟩
theorem commonF_iff {rows : List (List Str)} {r0 : List Str} {rr : List (List Str)} (e : rows = r0 :: rr) (m : Nat) : m ≤ commonF rows ↔ Shared rows r0 m := by
  have hc : commonF rows = commonL rows r0 r0.length 0 := by rw [e]; rfl
  rw [hc]
  obtain ⟨h1, h2⟩ := commonL_spec (rows := rows) (r0 := r0) (by rw [e]; exact .head _) r0.length 0 (by omega) (fun r _ => ⟨by omega, by simp⟩)
  constructor
  · exact fun h => h1.down h
  · intro h
    refine Nat.le_of_not_lt fun q => h2 (h.down (by omega))

theorem labN_inj {d e : Nat} (hd : d < 3) (he : e < 3) (h : labN d = labN e) : d = e := by
  rw [labN_S, labN_S] at h
  exact labL_inj hd he (S_inj h)
theorem map_lab_inj : ∀ {x y : List Nat}, Digs x → Digs y → x.map labN = y.map labN → x = y
  | [], [], _, _, _ => rfl
  | [], _ :: _, _, _, h => by cases h
  | _ :: _, [], _, _, h => by cases h
  | a :: x, b :: y, hx, hy, h => by
    simp at h
    rw [labN_inj (hx a (.head _)) (hy b (.head _)) h.1, map_lab_inj (fun d q => hx d (.tail _ q)) (fun d q => hy d (.tail _ q)) (by simpa using h.2)]
theorem digs_take {r : List Nat} (h : Digs r) (n : Nat) : Digs (r.take n) := fun d hd => h d (List.mem_of_mem_take hd)

def SharedD (rds : List (List Nat)) (i j m : Nat) : Prop := ∀ t, i ≤ t → t ≤ j → m ≤ (row rds t).length ∧ (row rds t).take m = (row rds i).take m

theorem row_get {rds : List (List Nat)} {t : Nat} (h : t < rds.length) : rds[t]? = some (row rds t) := by
  unfold row
  rw [List.getD_eq_getElem?_getD, List.getElem?_eq_getElem h]; rfl

theorem sub_mem {α : Type} {l : List α} {i j : Nat} {x : α} : x ∈ (l.take (j + 1)).drop i ↔ ∃ t, i ≤ t ∧ t ≤ j ∧ l[t]? = some x := by
  constructor
  · intro h
    obtain ⟨k, hk⟩ := List.getElem?_of_mem h
    rw [List.getElem?_drop] at hk
    have hlt : i + k < j + 1 := by
      by_cases q : i + k < j + 1
      · exact q
      · rw [List.getElem?_eq_none (by simp; omega)] at hk; cases hk
    rw [List.getElem?_take_of_lt hlt] at hk
    exact ⟨i + k, by omega, by omega, hk⟩
  · rintro ⟨t, h1, h2, h3⟩
    refine List.mem_of_getElem? (i := t - i) ?_
    rw [List.getElem?_drop, show i + (t - i) = t by omega, List.getElem?_take_of_lt (by omega)]
    exact h3

theorem common_iff {P : LD} {T : List Nat} {rds : List (List Nat)} (D : Dat P T rds) {i j : Nat} (hij : i < j) (hj : j < rds.length) (m : Nat) : m ≤ commonIJ P i j ↔ SharedD rds i j m := by
  have e : ∃ rr, (P.rows.take (j + 1)).drop i = ((row rds i).map labN) :: rr := by
    have h1 : P.rows[i]? = some ((row rds i).map labN) := by rw [D.rows, List.getElem?_map, row_get (by omega)]; rfl
    have h2 : (P.rows.take (j + 1))[i]? = some ((row rds i).map labN) := by rw [List.getElem?_take_of_lt (by omega)]; exact h1
    obtain ⟨hlt, he⟩ := List.getElem?_eq_some_iff.mp h2
    exact ⟨_, by rw [List.drop_eq_getElem_cons hlt, he]⟩
  obtain ⟨rr, e⟩ := e
  have dg : ∀ t, t < rds.length → Digs (row rds t) := fun t ht => (D.digs _ (List.mem_of_getElem? (row_get ht))).1
  unfold commonIJ
  rw [commonF_iff e]
  constructor
  · intro h t h1 h2
    have hm : (row rds t).map labN ∈ (P.rows.take (j + 1)).drop i := sub_mem.mpr ⟨t, h1, h2, by rw [D.rows, List.getElem?_map, row_get (by omega)]; rfl⟩
    obtain ⟨g1, g2⟩ := h _ hm
    rw [List.length_map] at g1
    rw [← List.map_take, ← List.map_take] at g2
    exact ⟨g1, map_lab_inj (digs_take (dg t (by omega)) m) (digs_take (dg i (by omega)) m) g2⟩
  · intro h r hr
    obtain ⟨t, h1, h2, h3⟩ := sub_mem.mp hr
    rw [D.rows, List.getElem?_map, row_get (by omega)] at h3
    cases h3
    obtain ⟨g1, g2⟩ := h t h1 h2
    rw [List.length_map, ← List.map_take, ← List.map_take, g2]
    exact ⟨g1, rfl⟩

theorem shared_chain (rds : List (List Nat)) (i : Nat) (m : Nat) : ∀ k, SharedD rds i (i + k) m ↔ m ≤ (row rds i).length ∧ ∀ t, i ≤ t → t < i + k → m ≤ comAt rds t
  | 0 => by
    constructor
    · intro h; exact ⟨(h i (by omega) (by omega)).1, fun t h1 h2 => by omega⟩
    · rintro ⟨h, _⟩ t h1 h2
      have : t = i := by omega
      subst this; exact ⟨h, rfl⟩
  | k + 1 => by
    have ih := shared_chain rds i m k
    have key : ∀ t, m ≤ comAt rds t ↔ m ≤ (row rds t).length ∧ m ≤ (row rds (t + 1)).length ∧ (row rds t).take m = (row rds (t + 1)).take m := fun t => cpl_iff _ _ m
    constructor
    · intro h
      have h' : SharedD rds i (i + k) m := fun t h1 h2 => h t h1 (by omega)
      obtain ⟨g1, g2⟩ := ih.mp h'
      refine ⟨g1, fun t h1 h2 => ?_⟩
      by_cases ht : t < i + k
      · exact g2 t h1 ht
      · have : t = i + k := by omega
        subst this
        rw [key]
        have a := h (i + k) (by omega) (by omega)
        have b := h (i + k + 1) (by omega) (by omega)
        exact ⟨a.1, b.1, by rw [a.2, b.2]⟩
    · rintro ⟨g1, g2⟩ t h1 h2
      have h' := ih.mpr ⟨g1, fun t a b => g2 t a (by omega)⟩
      by_cases ht : t ≤ i + k
      · exact h' t h1 ht
      · have : t = i + k + 1 := by omega
        subst this
        have a := (key (i + k)).mp (g2 (i + k) (by omega) (by omega))
        have b := h' (i + k) (by omega) (by omega)
        exact ⟨a.2.1, by rw [← a.2.2, b.2]⟩

theorem between_S {rds : List (List Nat)} {i : Nat} : ∀ m, i + m < rds.length → catS (((hopsOf rds).take (i + m + 1)).drop (i + 1)) = flat (toks rds i m)
  | 0, h => by
    rw [List.drop_eq_nil_of_le (by simp; omega)]; rfl
  | m + 1, h => by
    have ih := between_S (rds := rds) (i := i) m (by omega)
    have hg : (hopsOf rds)[i + m + 1]? = some (S (hopL (row rds (i + m)) (row rds (i + m + 1)))) := by
      unfold hopsOf
      rw [List.getElem?_map, List.getElem?_range (by omega)]
      show some (S (hopAt rds (i + m + 1))) = _
      unfold hopAt
      rw [if_neg (by omega)]; rfl
    have hl : (hopsOf rds).length = rds.length := by unfold hopsOf; simp
    rw [show i + (m + 1) + 1 = (i + m + 1) + 1 by omega, List.take_add_one, hg]
    rw [List.drop_append_of_le_length (by simp; omega), catS_app, ih]
    show _ = flat (toks rds i m ++ hopTk _ _)
    rw [flat_app, flat_hop]
    simp [catS]
theorem betweenF_S {rds : List (List Nat)} {i j : Nat} (hij : i < j) (hj : j < rds.length) : betweenF (hopsOf rds) i j = S (flat (toks rds i (j - i))) := by
  unfold betweenF
  rw [join_cat]
  have := between_S (rds := rds) (i := i) (j - i) (by omega)
  rw [show i + (j - i) + 1 = j + 1 by omega] at this
  rw [this]
end Mine

namespace Mine
open PySem PyProof.Rows PySem.W PySem.Calls

theorem due_iff {Hi Hj c a b : Nat} (h1 : c ≤ Hi) (h2 : c ≤ Hj) : dueF (Hi - c) (Hj - c) a b = true ↔ Hi ≤ a + c ∧ a + Hj = b + Hi := by
  unfold dueF
  rw [Bool.and_eq_true, decide_eq_true_eq, beq_iff_eq]
  omega

theorem hop_len (r' r : List Nat) (h' : r'.length ≤ 3) (h : r.length ≤ 3) : (hopL r' r).length ≤ 14 := by
  have := shL_len r.getLast?
  unfold hopL
  simp; omega

theorem pair_of {P : LD} {T : List Nat} {rds : List (List Nat)} (D : Dat P T rds) {i j : Nat} (hij : i < j) (hj : j < rds.length) :
    Pair P (hopsOf rds) i j ((row rds i).map labN) ((row rds j).map labN) (ups T (row rds i).reverse) (ups T (row rds j).reverse) ((row rds i).length - commonIJ P i j) ((row rds j).length - commonIJ P i j) := by
  have dg : ∀ t, t < rds.length → Digs (row rds t) ∧ (row rds t).length ≤ 3 := fun t ht => D.digs _ (List.mem_of_getElem? (row_get ht))
  obtain ⟨di, li⟩ := dg i (by omega)
  obtain ⟨dj, lj⟩ := dg j hj
  have hsh := (common_iff D hij hj (commonIJ P i j)).mp (Nat.le_refl _)
  have ci : commonIJ P i j ≤ (row rds i).length := (hsh i (by omega) (by omega)).1
  have cj : commonIJ P i j ≤ (row rds j).length := (hsh j (by omega) (by omega)).1
  have hchain : ∀ m, m ≤ commonIJ P i j ↔ m ≤ (row rds i).length ∧ ∀ t, i ≤ t → t < j → m ≤ comAt rds t := fun m => by
    have := shared_chain rds i m (j - i)
    rw [show i + (j - i) = j by omega] at this
    rw [common_iff D hij hj, this]
  refine ⟨hij, by rw [D.rows, List.length_map]; exact hj, by rw [D.rows, List.getElem?_map, row_get (by omega)]; rfl, by rw [D.rows, List.getElem?_map, row_get hj]; rfl, by rw [D.names, List.getElem?_map, row_get (by omega)]; rfl, by rw [D.names, List.getElem?_map, row_get hj]; rfl, ?_, ?_, ?_, ?_, ?_, ?_⟩
  · unfold ups; simp; omega
  · rw [List.length_map]; omega
  · rw [List.length_map]; omega
  · have := sum_le (ys := ((hopsOf rds).take (j + 1)).drop (i + 1)) (n := 14) (fun y hy => by
      have hm : y ∈ hopsOf rds := List.mem_of_mem_take (List.mem_of_mem_drop hy)
      unfold hopsOf at hm
      obtain ⟨t, ht, rfl⟩ := List.mem_map.mp hm
      have ht' := List.mem_range.mp ht
      rw [S_len]
      unfold hopAt
      split
      · simp
      · exact hop_len _ _ (dg (t - 1) (by omega)).2 (dg t ht').2)
    have hl : (((hopsOf rds).take (j + 1)).drop (i + 1)).length ≤ 5 := by
      have := D.len.2
      unfold hopsOf
      simp; omega
    have : (((hopsOf rds).take (j + 1)).drop (i + 1)).length * 14 ≤ 5 * 14 := Nat.mul_le_mul_right _ hl
    omega
  · intro a b ha hb
    rw [betweenF_S hij hj, mul_S, mul_S, S_app, S_app]
    have ef : List.replicate a 40 ++ flat (toks rds i (j - i)) ++ List.replicate b 41 = flat (List.replicate a .o ++ (toks rds i (j - i) ++ (List.replicate b .c ++ []))) := by
      rw [flat_app, flat_app, flat_app, flat_rep .o 40 rfl, flat_rep .c 41 rfl]
      simp [flat]
    rw [ef, checkF_flat, run_o, Nat.zero_add]
    have rt := run_toks rds i a (j - i) (List.replicate b .c ++ [])
    rw [show i + (j - i) = j by omega] at rt
    have hcond : (∀ t, i ≤ t → t < j → (row rds i).length ≤ a + comAt rds t) ↔ (row rds i).length ≤ a + commonIJ P i j := by
      constructor
      · intro h
        have := (hchain ((row rds i).length - a)).mpr ⟨by omega, fun t h1 h2 => by have := h t h1 h2; omega⟩
        omega
      · intro h t h1 h2
        have := ((hchain ((row rds i).length - a)).mp (by omega)).2 t h1 h2
        omega
    rw [Bool.eq_iff_iff, due_iff ci cj]
    by_cases hc : (row rds i).length ≤ a + commonIJ P i j
    · obtain ⟨r1, r2⟩ := rt.1 (hcond.mpr hc)
      rw [r2, run_c]
      by_cases hb2 : b ≤ a + (row rds j).length - (row rds i).length
      · rw [if_pos hb2]
        show ((a + (row rds j).length - (row rds i).length - b) == 0) = true ↔ _
        rw [beq_iff_eq]; omega
      · rw [if_neg hb2]
        show false = true ↔ _
        constructor
        · intro h; cases h
        · intro h; omega
    · rw [rt.2 (fun h => hc (hcond.mp h))]
      show false = true ↔ _
      constructor
      · intro h; cases h
      · intro h; omega
  · intro a b nm nm' e1 e2
    have ha : a ≤ (row rds i).length := by
      have := (List.getElem?_eq_some_iff.mp e1).1
      unfold ups at this; simp at this; omega
    have hb : b ≤ (row rds j).length := by
      have := (List.getElem?_eq_some_iff.mp e2).1
      unfold ups at this; simp at this; omega
    rw [ups_get _ _ _ (by rw [List.length_reverse]; exact ha)] at e1
    rw [ups_get _ _ _ (by rw [List.length_reverse]; exact hb)] at e2
    cases e1
    cases e2
    have hh : holdsF (S (hostR T ((row rds i).reverse.drop a))) ((P.hosts.take (j + 1)).drop i) = true ↔ ∀ t, i ≤ t → t ≤ j → (row rds i).length - a ≤ cpl (row rds i) (row rds t) := by
      unfold holdsF
      rw [List.all_eq_true]
      constructor
      · intro h t h1 h2
        have hm : S (hostR T (row rds t).reverse) ∈ (P.hosts.take (j + 1)).drop i := sub_mem.mpr ⟨t, h1, h2, by rw [D.hosts, List.getElem?_map, row_get (by omega)]; rfl⟩
        have := h _ hm
        rw [match_suffix D.ok (digs_rev (dg t (by omega)).1) (digs_drop (digs_rev di) a), holds_iff _ _ _ ha] at this
        simpa using this
      · intro h x hx
        obtain ⟨t, h1, h2, h3⟩ := sub_mem.mp hx
        rw [D.hosts, List.getElem?_map, row_get (by omega)] at h3
        cases h3
        rw [match_suffix D.ok (digs_rev (dg t (by omega)).1) (digs_drop (digs_rev di) a), holds_iff _ _ _ ha]
        simpa using h t h1 h2
    have hn : (S (hostR T ((row rds i).reverse.drop a)) == S (hostR T ((row rds j).reverse.drop b))) = true ↔ (row rds i).take ((row rds i).length - a) = (row rds j).take ((row rds j).length - b) := by
      rw [beq_iff_eq]
      constructor
      · intro e
        have := hostR_inj (digs_drop (digs_rev di) a) (digs_drop (digs_rev dj) b) (S_inj e)
        rw [take_rev, take_rev] at this
        exact List.reverse_inj.mp this
      · intro e
        rw [take_rev, take_rev, e]
    rw [Bool.eq_iff_iff, Bool.and_eq_true, hn, hh, due_iff ci cj]
    have hall : (∀ t, i ≤ t → t ≤ j → (row rds i).length - a ≤ cpl (row rds i) (row rds t)) ↔ (row rds i).length - a ≤ commonIJ P i j := by
      rw [common_iff D hij hj]
      constructor
      · intro h t h1 h2
        obtain ⟨g1, g2, g3⟩ := (cpl_iff _ _ _).mp (h t h1 h2)
        exact ⟨g2, g3.symm⟩
      · intro h t h1 h2
        obtain ⟨g1, g2⟩ := h t h1 h2
        exact (cpl_iff _ _ _).mpr ⟨by omega, g1, g2.symm⟩
    rw [hall]
    constructor
    · rintro ⟨e, h⟩
      have := congrArg List.length e
      simp at this
      omega
    · rintro ⟨h1, h2⟩
      refine ⟨?_, by omega⟩
      have hm : (row rds j).length - b = (row rds i).length - a := by omega
      rw [hm]
      exact (((common_iff D hij hj _).mp (show (row rds i).length - a ≤ commonIJ P i j by omega)) j (by omega) (by omega)).2.symm

theorem all_facts : AllFacts := fun sc _ => by
  have D := dat_of sc
  refine ⟨ldOf sc, hopsOf (rdsOf sc), rfl, rfl, head_of D, hops_ok D, fun i j hij hj => ?_⟩
  have hj' : j < (rdsOf sc).length := by rw [D.rows, List.length_map] at hj; exact hj
  exact ⟨_, _, _, _, _, _, pair_of D hij hj'⟩
end Mine

open PySem PySem.W PyProof.Rows
set_option maxHeartbeats 8000000 in
theorem PySem.Challenge.cw_rs0080_01_holds : PySem.Challenge.rw_rs0080_01.Holds := by
  w_on
  o_law
  k_head
  case hw => w_witness2
  intro w s₀ s₁ mg mb G Y fa o pm cd doc dV kV ho hd' hcd hD hmg hg args vals as hpre hlay hrd hwl hlo
  have X := kIn_of Y
  have T := G.T
  clear Y G ho hd' hcd hD
  have B : Mine.Base s₁.heap := by
    refine ⟨T.nolimit, Mine.bltn_of T X (by kernel_rfl) (by kernel_rfl), Mine.bltn_of T X (by kernel_rfl) (by kernel_rfl), Mine.bltn_of T X (by kernel_rfl) (by kernel_rfl), Mine.bltn_of T X (by kernel_rfl) (by kernel_rfl), Mine.bltn_of T X (by kernel_rfl) (by kernel_rfl), Mine.bltn_of T X (by kernel_rfl) (by kernel_rfl),
      ⟨57, Mine.glob_of T X (by kernel_rfl), Mine.pat_of X rfl rfl (by kernel_rfl)⟩, ?_, ?_, ?_, ?_, ?_, ?_, ?_, ?_, ?_, ?_, ?_, ?_⟩
    · exact Mine.def_of T 0 (by kernel_rfl)
    · exact Mine.def_of T 1 (by kernel_rfl)
    · exact Mine.def_of T 2 (by kernel_rfl)
    · exact Mine.def_of T 3 (by kernel_rfl)
    · exact Mine.def_of T 4 (by kernel_rfl)
    · exact Mine.def_of T 5 (by kernel_rfl)
    · exact Mine.def_of T 6 (by kernel_rfl)
    · exact Mine.def_of T 7 (by kernel_rfl)
    · exact Mine.def_of T 8 (by kernel_rfl)
    · exact Mine.def_of T 9 (by kernel_rfl)
    · exact Mine.def_of T 10 (by kernel_rfl)
    · exact Mine.def_of T 11 (by kernel_rfl)
  have hG : Mine.GlobIs s₁.heap "law" (.ref fa) := ⟨mg, T.g, hmg⟩
  clear hmg T X
  wrow_args hpre hlay hrd hwl hlo
  rename_i ns hs q1 q2 q3 q4 as1 as2 la vs as3 hL ra wl r0 hI hr hc hc2
  have hb : AllBare s₁.gens := by rw [hg]; intro x hx; simp at hx
  refine Mine.law_runs Mine.all_facts B hG (ns := ns) (vs := vs) (by omega) ?_ hI hb fun s' g => ?_
  · obtain ⟨o, ho, hc, n, hd⟩ := hL
    generalize hk : ofPy (PyData.list (List.map PyData.int ns)) = k at wl
    cases wl with
    | list hg' _ =>
      rw [ho] at hg'
      cases hg'
      exact ⟨_, n, ho, rfl, rfl, hd⟩
    | _ => cases hk
  · refine ⟨.inl ⟨.bool true, .bool true, [], rfl, fun _ => rfl, .bool true, ?_, fun q => ?_⟩, .of_keep fun b o e => g.keep e, g.os, g.bare hb⟩
    · wrow_post
    · exact ⟨List.nodup_nil, fun a q => nomatch q⟩
