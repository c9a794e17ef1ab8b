import PyProof.Rows.All
import Wide.All
import OpenK.AllK
import Wide.FinOn
import PySem.Challenge.RW_dm0182_01
open PySem PySem.W PyProof.Rows PySem.Calls
open Sem (wp)
set_option Elab.async false
set_option maxRecDepth 100000
set_option linter.unusedVariables false

namespace Mine

/-- what is known of one object -/
abbrev Ent := Addr × (Obj → Prop)
abbrev Led := List Ent
def Has (h : Heap) (p : Ent) : Prop := ∃ o, h.get? p.1 = some o ∧ p.2 o

theorem Has.keep {h h' : Heap} {p : Ent} (x : Has h p) (k : ∀ o, h.get? p.1 = some o → h'.get? p.1 = some o) : Has h' p :=
  let ⟨o, e, q⟩ := x; ⟨o, k o e, q⟩
theorem Has.alive {h : Heap} {p : Ent} (x : Has h p) : h.get? p.1 ≠ none := fun e => by
  obtain ⟨o, e', _⟩ := x; rw [e'] at e; cases e

structure Cx where
  prog : Program
  w : World
  A : Around
  B : Heap
  env : Env
  os : OsState
  wc : Bool
  Mu : Led
  sg : Str → Option Value
  gs : Array GenState
  K : Frag
  mg : Str → Option Value
  mb : Str → Option Value

def Cx.places (c : Cx) : List Addr := c.env.locals :: ((if c.wc then c.env.cells.map (·.2) else []) ++ c.Mu.map (·.1))

structure At (c : Cx) (O : Led) (s : Shared) : Prop where
  base : ∀ b o, c.B.get? b = some o → s.heap.get? b = some o
  own : ∀ p ∈ O, Has s.heap p
  mu : ∀ p ∈ c.Mu, Has s.heap p
  ns : ∃ m, s.heap.Ns c.env.locals m ∧ ∀ x v, c.env.kindOf x = some .local → c.sg x = some v → m x = some v
  cell : ∀ x a v, c.env.cells.lookup x = some a → c.sg x = some v → s.heap.IsCell a (some v)
  cellAlive : ∀ p ∈ c.env.cells, ∃ v, s.heap.IsCell p.2 v
  nodup : c.places.Nodup
  offO : ∀ p ∈ O, p.1 ∉ c.places
  offB : ∀ b o, c.B.get? b = some o → b ∉ c.places
  gens : s.gens = c.gs
  os : s.os = c.os
  kin : c.K.In c.B
  tg : c.B.Ns mainGlobals c.mg
  tb : c.B.Ns builtinsNs c.mb
  nl : c.B.NoLimit

/-- new objects, the old ones as they were -/
def Kp (s s' : Shared) : Prop := Keeps s s'
def Grow (N : Led) (s s' : Shared) : Prop := Kp s s' ∧ ∀ p ∈ N, s.heap.get? p.1 = none ∧ Has s'.heap p

theorem Kp.refl (s : Shared) : Kp s s := ⟨s.heap, s.toks, rfl, fun _ _ e => e⟩
theorem Kp.trans {s s₁ s₂ : Shared} (a : Kp s s₁) (b : Kp s₁ s₂) : Kp s s₂ := by
  obtain ⟨h, t, rfl, k⟩ := a
  obtain ⟨h', t', rfl, k'⟩ := b
  exact ⟨h', t', rfl, fun b o e => k' b o (k b o e)⟩
theorem Kp.get {s s' : Shared} (a : Kp s s') {b : Addr} {o : Obj} (e : s.heap.get? b = some o) : s'.heap.get? b = some o := by
  obtain ⟨h, t, rfl, k⟩ := a; exact k b o e
theorem Kp.gens {s s' : Shared} (a : Kp s s') : s'.gens = s.gens := by obtain ⟨h, t, rfl, k⟩ := a; rfl
theorem Kp.os {s s' : Shared} (a : Kp s s') : s'.os = s.os := by obtain ⟨h, t, rfl, k⟩ := a; rfl
theorem Kp.none {s s' : Shared} (a : Kp s s') {b : Addr} (e : s'.heap.get? b = none) : s.heap.get? b = none := by
  cases q : s.heap.get? b with
  | none => rfl
  | some o => rw [a.get q] at e; cases e

theorem Grow.nil {s s' : Shared} (k : Kp s s') : Grow [] s s' := ⟨k, fun _ h => nomatch h⟩
theorem Grow.trans {N N' : Led} {s s₁ s₂ : Shared} (a : Grow N s s₁) (b : Grow N' s₁ s₂) : Grow (N' ++ N) s s₂ := by
  refine ⟨a.1.trans b.1, fun p hp => ?_⟩
  rcases List.mem_append.mp hp with h | h
  · exact ⟨a.1.none (b.2 p h).1, (b.2 p h).2⟩
  · exact ⟨(a.2 p h).1, (a.2 p h).2.keep fun o e => b.1.get e⟩
theorem Grow.one {s s' : Shared} {p : Ent} (k : Kp s s') (n : s.heap.get? p.1 = none) (h : Has s'.heap p) : Grow [p] s s' :=
  ⟨k, fun q hq => by rw [List.mem_singleton.mp hq]; exact ⟨n, h⟩⟩
theorem Grow.sub {N N' : Led} {s s' : Shared} (a : Grow N s s') (h : ∀ p ∈ N', p ∈ N) : Grow N' s s' := ⟨a.1, fun p hp => a.2 p (h p hp)⟩

theorem Cx.mem_places {c : Cx} {a : Addr} : a ∈ c.places ↔ a = c.env.locals ∨ (c.wc = true ∧ ∃ x, (x, a) ∈ c.env.cells) ∨ ∃ p, (a, p) ∈ c.Mu := by
  unfold Cx.places
  cases h : c.wc <;> simp

theorem At.alive {c : Cx} {O : Led} {s : Shared} (x : At c O s) {a : Addr} (h : a ∈ c.places) : s.heap.get? a ≠ none := by
  intro e
  rcases Cx.mem_places.mp h with rfl | ⟨hw, y, hy⟩ | ⟨p, hp⟩
  · obtain ⟨m, ⟨o, _, _, ho, _⟩, _⟩ := x.ns
    rw [ho] at e; cases e
  · obtain ⟨v, o, ho, _⟩ := x.cellAlive _ hy
    dsimp only at ho
    rw [ho] at e; cases e
  · exact (x.mu _ hp).alive e

theorem At.grow {c : Cx} {O N : Led} {s s' : Shared} (x : At c O s) (g : Grow N s s') : At c (N ++ O) s' := by
  obtain ⟨k, n⟩ := g
  refine ⟨fun b o e => k.get (x.base b o e), fun p hp => ?_, fun p hp => (x.mu p hp).keep fun o e => k.get e, ?_, fun y a v hy hv => ?_, fun p hp => ?_, x.nodup, fun p hp => ?_, x.offB, k.gens.trans x.gens, k.os.trans x.os, x.kin, x.tg, x.tb, x.nl⟩
  · rcases List.mem_append.mp hp with h | h
    · exact (n p h).2
    · exact (x.own p h).keep fun o e => k.get e
  · obtain ⟨m, hn, hm⟩ := x.ns
    exact ⟨m, hn.keeps fun b o e => k.get e, hm⟩
  · exact (x.cell y a v hy hv).keeps fun b o e => k.get e
  · obtain ⟨v, hv⟩ := x.cellAlive p hp
    exact ⟨v, hv.keeps fun b o e => k.get e⟩
  · rcases List.mem_append.mp hp with h | h
    · exact fun hq => x.alive hq (n p h).1
    · exact x.offO p h
theorem At.keeps {c : Cx} {O : Led} {s s' : Shared} (x : At c O s) (k : Kp s s') : At c O s' := by simpa using x.grow (Grow.nil k)
theorem At.sub {c : Cx} {O O' : Led} {s : Shared} (x : At c O s) (h : ∀ p ∈ O', p ∈ O) : At c O' s :=
  ⟨x.base, fun p hp => x.own p (h p hp), x.mu, x.ns, x.cell, x.cellAlive, x.nodup, fun p hp => x.offO p (h p hp), x.offB, x.gens, x.os, x.kin, x.tg, x.tb, x.nl⟩

/-- a tree that changes nothing that stands -/
def Tr (c : Cx) (O : Led) {α : Type} (t : Sem α) (P : α → Led → Prop) : Prop :=
  ∀ s E, At c O s → wpAny (model c.prog c.w) c.A t (fun v s' => ∃ N, P v N ∧ Grow N s s') E s
/-- .. and hands nothing new on -/
def TV (c : Cx) (O : Led) {α : Type} (t : Sem α) (P : α → Prop) : Prop :=
  ∀ s E, At c O s → wpAny (model c.prog c.w) c.A t (fun v s' => P v ∧ Kp s s') E s

section
variable {c : Cx} {O : Led} {α β : Type} {s : Shared} {E : Value → Shared → Prop}

theorem Tr.use {t : Sem α} {P : α → Led → Prop} {Q : α → Shared → Prop} (h : Tr c O t P) (x : At c O s)
    (k : ∀ v s' N, P v N → Grow N s s' → At c (N ++ O) s' → Q v s') : wpAny (model c.prog c.w) c.A t Q E s :=
  wpAny_mono (h s E x) (fun v s' ⟨N, p, g⟩ => k v s' N p g (x.grow g)) fun _ _ e => e
theorem TV.use {t : Sem α} {P : α → Prop} {Q : α → Shared → Prop} (h : TV c O t P) (x : At c O s)
    (k : ∀ v s', P v → Kp s s' → At c O s' → Q v s') : wpAny (model c.prog c.w) c.A t Q E s :=
  wpAny_mono (h s E x) (fun v s' ⟨p, g⟩ => k v s' p g (x.keeps g)) fun _ _ e => e
theorem TV.tr {t : Sem α} {P : α → Prop} (h : TV c O t P) : Tr c O t (fun v N => N = [] ∧ P v) :=
  fun s E x => wpAny_mono (h s E x) (fun _ _ ⟨p, g⟩ => ⟨[], ⟨rfl, p⟩, Grow.nil g⟩) fun _ _ e => e
theorem TV.mono {t : Sem α} {P P' : α → Prop} (h : TV c O t P) (k : ∀ v, P v → P' v) : TV c O t P' :=
  fun s E x => wpAny_mono (h s E x) (fun _ _ ⟨p, g⟩ => ⟨k _ p, g⟩) fun _ _ e => e
theorem Tr.mono {t : Sem α} {P P' : α → Led → Prop} (h : Tr c O t P) (k : ∀ v N, P v N → P' v N) : Tr c O t P' :=
  fun s E x => wpAny_mono (h s E x) (fun _ _ ⟨N, p, g⟩ => ⟨N, k _ _ p, g⟩) fun _ _ e => e
theorem Tr.weak {O' : Led} {t : Sem α} {P : α → Led → Prop} (h : Tr c O t P) (k : ∀ p ∈ O, p ∈ O') : Tr c O' t P := fun s E x => h s E (x.sub k)
theorem TV.weak {O' : Led} {t : Sem α} {P : α → Prop} (h : TV c O t P) (k : ∀ p ∈ O, p ∈ O') : TV c O' t P := fun s E x => h s E (x.sub k)

theorem TV.pure {a : α} {P : α → Prop} (h : P a) : TV c O (Pure.pure a) P := fun s _ _ => wpAny_pure ⟨h, Kp.refl s⟩
theorem TV.bind {t : Sem α} {f : α → Sem β} {P : α → Prop} {R : β → Prop} (h : TV c O t P) (k : ∀ v, P v → TV c O (f v) R) : TV c O (t >>= f) R := fun s E x =>
  wpAny_bind (h.use x fun v s' p g x' => (k v p).use x' fun u s'' r g' _ => ⟨r, g.trans g'⟩)
theorem Tr.bindV {t : Sem α} {f : α → Sem β} {P : α → Prop} {R : β → Led → Prop} (h : TV c O t P) (k : ∀ v, P v → Tr c O (f v) R) : Tr c O (t >>= f) R := fun s E x =>
  wpAny_bind (h.use x fun v s' p g x' => (k v p).use x' fun u s'' N r g' _ => ⟨N, r, by simpa using (Grow.nil g).trans g'⟩)
end

def IsInt (i : Int) (v : Value) : Prop := ∃ t, v = .int i t
def IsStr (x : Str) (v : Value) : Prop := ∃ t, v = .str x t

theorem Kp.toks {s : Shared} {n : Nat} : Kp s { s with toks := n } := ⟨s.heap, n, rfl, fun _ _ e => e⟩
theorem Kp.push {s : Shared} {o : Obj} : Kp s { s with heap := s.heap.push o } := ⟨_, s.toks, rfl, fun _ _ e => Heap.get?_push_of_some _ e⟩
theorem Kp.pushToks {s : Shared} {o : Obj} {n : Nat} : Kp s { s with heap := s.heap.push o, toks := n } := ⟨_, n, rfl, fun _ _ e => Heap.get?_push_of_some _ e⟩

section
variable {c : Cx} {O : Led} {s : Shared}
theorem At.gl (x : At c O s) : s.heap.Ns mainGlobals c.mg := x.tg.keeps x.base
theorem At.bi (x : At c O s) : s.heap.Ns builtinsNs c.mb := x.tb.keeps x.base
theorem At.nolimit (x : At c O s) : s.heap.NoLimit := x.nl.keeps x.base
theorem At.In (x : At c O s) : c.K.In s.heap := x.kin.keeps x.base
end
end Mine

namespace Mine

/-- a plain list, a plain tuple -/
def LP (xs : List Value) (o : Obj) : Prop := ∃ n, o = { cls := .type "list", data := .seq xs.toArray n }
def TP (xs : List Value) (o : Obj) : Prop := ∃ n, o = { cls := .type "tuple", data := .seq xs.toArray n }
def InL (c : Cx) (O : Led) (p : Ent) : Prop := p ∈ O ∨ p ∈ c.Mu
theorem At.has {c : Cx} {O : Led} {s : Shared} {p : Ent} (x : At c O s) (h : InL c O p) : Has s.heap p := h.elim (x.own p) (x.mu p)
theorem Has.isList {h : Heap} {l : Addr} {xs : List Value} (x : Has h (l, LP xs)) : h.IsList l xs.toArray := by
  obtain ⟨o, e, n, rfl⟩ := x; exact ⟨_, e, rfl, n, rfl⟩
theorem Has.isL {h : Heap} {l : Addr} {xs : List Value} (x : Has h (l, LP xs)) : ∃ n, IsL h l xs.toArray n := by
  obtain ⟨o, e, n, rfl⟩ := x; exact ⟨n, e⟩
theorem Has.isTuple {h : Heap} {l : Addr} {xs : List Value} (x : Has h (l, TP xs)) : h.IsTuple l xs.toArray := by
  obtain ⟨o, e, n, rfl⟩ := x; exact ⟨_, e, rfl, n, rfl⟩
theorem Has.isTup {h : Heap} {l : Addr} {xs : List Value} (x : Has h (l, TP xs)) : IsTup h l xs.toArray := by
  obtain ⟨o, e, n, rfl⟩ := x; exact ⟨_, e, rfl, n, rfl⟩
theorem Has.newList {h : Heap} {xs : List Value} : Has (h.push { cls := .type "list", data := .seq xs.toArray }) (h.objs.size, LP xs) := ⟨_, Heap.get?_push_size _ rfl, 0, rfl⟩
theorem Has.newTuple {h : Heap} {xs : List Value} : Has (h.push { cls := .type "tuple", data := .seq xs.toArray }) (h.objs.size, TP xs) := ⟨_, Heap.get?_push_size _ rfl, 0, rfl⟩
theorem fresh_size (h : Heap) : h.get? h.objs.size = none := by
  cases e : h.get? h.objs.size with
  | none => rfl
  | some o => exact absurd (Heap.lt_size e) (Nat.lt_irrefl _)
theorem fresh_le {h : Heap} {a : Addr} (ha : h.objs.size ≤ a) : h.get? a = none := by
  cases e : h.get? a with
  | none => rfl
  | some o => exact absurd (Heap.lt_size e) (Nat.not_lt.mpr ha)

section
variable {c : Cx} {O : Led}

theorem e_int {i : Int} {k : Nat} {pos : Pos} : TV c O (eval (.Constant (.int i) k pos) c.env) (IsInt i) := fun s E x => wpAny_Constant_int ⟨⟨_, rfl⟩, Kp.toks⟩
theorem e_str {y : Str} {k : Nat} {pos : Pos} : TV c O (eval (.Constant (.str y) k pos) c.env) (IsStr y) := fun s E x => wpAny_Constant_str ⟨⟨_, rfl⟩, Kp.toks⟩
theorem e_none {k : Nat} {pos : Pos} : TV c O (eval (.Constant .none k pos) c.env) (· = .none) := fun s E x => wpAny_pure (a := Value.none) ⟨rfl, Kp.refl s⟩
theorem e_bool {b : Bool} {k : Nat} {pos : Pos} : TV c O (eval (.Constant (.bool b) k pos) c.env) (· = .bool b) := fun s E x => wpAny_pure (a := Value.bool b) ⟨rfl, Kp.refl s⟩

theorem e_local {x : Str} {v : Value} {pos : Pos} (hv : c.sg x = some v) (hl : c.env.kindOf x = some .local := by rfl) (hk : c.env.scope.kind = .function := by rfl) (hd : (x == ("__debug__" : Str)) = false := by decide) :
    TV c O (eval (.Name x pos) c.env) (· = v) := fun s E y => by
  obtain ⟨m, hn, hm⟩ := y.ns
  exact wpAny_Name (wpAny_loadName_local hk hl hn (hm x v hl hv) ⟨rfl, Kp.refl s⟩) hd
theorem e_cell {x : Str} {v : Value} {a : Addr} {pos : Pos} (hv : c.sg x = some v) (ha : c.env.cells.lookup x = some a) (hl : c.env.kindOf x = some .cell := by rfl) (hk : c.env.scope.kind = .function := by rfl) (hd : (x == ("__debug__" : Str)) = false := by decide) :
    TV c O (eval (.Name x pos) c.env) (· = v) := fun s E y => by
  exact wpAny_Name (wpAny_loadName_cell hk hl ha (y.cell x a v ha hv) ⟨rfl, Kp.refl s⟩) hd
theorem e_glob {x : Str} {v : Value} {pos : Pos} (hv : c.mg x = some v) (hl : c.env.kindOf x = some .globalImplicit := by rfl) (hg : c.env.globals = mainGlobals := by rfl) (hk : c.env.scope.kind = .function := by rfl) (hd : (x == ("__debug__" : Str)) = false := by decide) :
    TV c O (eval (.Name x pos) c.env) (· = v) := fun s E y => Name_function_global hk hl (loadGlobal_global (env := c.env) (by rw [hg]; exact y.gl) hv ⟨rfl, Kp.refl s⟩) hd
theorem e_bi {x : Str} {v : Value} {pos : Pos} (h0 : c.mg x = none) (hv : c.mb x = some v) (hl : c.env.kindOf x = some .globalImplicit := by rfl) (hg : c.env.globals = mainGlobals := by rfl) (hb : c.env.builtins = builtinsNs := by rfl) (hk : c.env.scope.kind = .function := by rfl) (hd : (x == ("__debug__" : Str)) = false := by decide) :
    TV c O (eval (.Name x pos) c.env) (· = v) := fun s E y => Name_function_global hk hl (loadGlobal_builtin (env := c.env) (by rw [hg]; exact y.gl) h0 (by rw [hb]; exact y.bi) hv ⟨rfl, Kp.refl s⟩) hd

theorem e_bin {l r : Expr} {op : Operator} {pos : Pos} {P1 P2 P3 : Value → Prop} (h1 : TV c O (eval l c.env) P1) (h2 : TV c O (eval r c.env) P2) (h3 : ∀ a b, P1 a → P2 b → TV c O (binaryOp op a b) P3) :
    TV c O (eval (.BinOp l op r pos) c.env) P3 := fun s E x =>
  wpAny_BinOp (h1.use x fun a s₁ p₁ k₁ x₁ => h2.use x₁ fun b s₂ p₂ k₂ x₂ => (h3 a b p₁ p₂).use x₂ fun v s₃ p₃ k₃ _ => ⟨p₃, k₁.trans (k₂.trans k₃)⟩)
theorem e_binL {l r : Expr} {op : Operator} {pos : Pos} {P1 P2 R : Value → Led → Prop} (h1 : Tr c O (eval l c.env) P1) (h2 : ∀ a N1, P1 a N1 → Tr c (N1 ++ O) (eval r c.env) P2)
    (h3 : ∀ a N1 b N2, P1 a N1 → P2 b N2 → Tr c (N2 ++ (N1 ++ O)) (binaryOp op a b) fun v N3 => R v (N3 ++ (N2 ++ N1))) : Tr c O (eval (.BinOp l op r pos) c.env) R := fun s E x =>
  wpAny_BinOp (h1.use x fun a s₁ N1 p₁ g₁ x₁ => (h2 a N1 p₁).use x₁ fun b s₂ N2 p₂ g₂ x₂ => (h3 a N1 b N2 p₁ p₂).use x₂ fun v s₃ N3 p₃ g₃ _ => ⟨_, p₃, (g₁.trans g₂).trans g₃⟩)

theorem b_add {a b : Int} {v u : Value} (hv : IsInt a v) (hu : IsInt b u) : TV c O (binaryOp .Add v u) (IsInt (a + b)) := fun s E x => by
  obtain ⟨t, rfl⟩ := hv; obtain ⟨t', rfl⟩ := hu
  exact add_int ⟨⟨_, rfl⟩, Kp.toks⟩
theorem b_sub {a b : Int} {v u : Value} (hv : IsInt a v) (hu : IsInt b u) : TV c O (binaryOp .Sub v u) (IsInt (a - b)) := fun s E x => by
  obtain ⟨t, rfl⟩ := hv; obtain ⟨t', rfl⟩ := hu
  exact AutoIntOps.sub_0 ⟨⟨_, rfl⟩, Kp.toks⟩
theorem b_mul {a b : Int} {v u : Value} (hv : IsInt a v) (hu : IsInt b u) (hm : IntMulOk a b) : TV c O (binaryOp .Mult v u) (IsInt (a * b)) := fun s E x => by
  obtain ⟨t, rfl⟩ := hv; obtain ⟨t', rfl⟩ := hu
  exact AutoIntOps.mul_0 ⟨⟨_, rfl⟩, Kp.toks⟩ hm
theorem b_mod {a b : Int} {v u : Value} (hv : IsInt a v) (hu : IsInt b u) (hb : b ≠ 0) : TV c O (binaryOp .Mod v u) (IsInt (a.fmod b)) := fun s E x => by
  obtain ⟨t, rfl⟩ := hv; obtain ⟨t', rfl⟩ := hu
  exact mod_int' hb ⟨⟨_, rfl⟩, Kp.toks⟩
theorem b_div {a b : Int} {v u : Value} (hv : IsInt a v) (hu : IsInt b u) (hb : b ≠ 0) (hp : Builtin.divisionGoesByPylong a b = false) : TV c O (binaryOp .FloorDiv v u) (IsInt (a.fdiv b)) := fun s E x => by
  obtain ⟨t, rfl⟩ := hv; obtain ⟨t', rfl⟩ := hu
  exact floordiv_int hb ⟨⟨_, rfl⟩, Kp.toks⟩ (.inl hp)

theorem e_add {l r : Expr} {pos : Pos} {a b : Int} (h1 : TV c O (eval l c.env) (IsInt a)) (h2 : TV c O (eval r c.env) (IsInt b)) : TV c O (eval (.BinOp l .Add r pos) c.env) (IsInt (a + b)) := e_bin h1 h2 fun _ _ => b_add
theorem e_sub {l r : Expr} {pos : Pos} {a b : Int} (h1 : TV c O (eval l c.env) (IsInt a)) (h2 : TV c O (eval r c.env) (IsInt b)) : TV c O (eval (.BinOp l .Sub r pos) c.env) (IsInt (a - b)) := e_bin h1 h2 fun _ _ => b_sub
theorem e_mod {l r : Expr} {pos : Pos} {a b : Int} (h1 : TV c O (eval l c.env) (IsInt a)) (h2 : TV c O (eval r c.env) (IsInt b)) (hb : b ≠ 0) : TV c O (eval (.BinOp l .Mod r pos) c.env) (IsInt (a.fmod b)) := e_bin h1 h2 fun _ _ p q => b_mod p q hb
theorem e_div {l r : Expr} {pos : Pos} {a b : Int} (h1 : TV c O (eval l c.env) (IsInt a)) (h2 : TV c O (eval r c.env) (IsInt b)) (hb : b ≠ 0) (hp : Builtin.divisionGoesByPylong a b = false) : TV c O (eval (.BinOp l .FloorDiv r pos) c.env) (IsInt (a.fdiv b)) := e_bin h1 h2 fun _ _ p q => b_div p q hb hp

theorem t_cmp {l r : Expr} {op : CmpOp} {pos : Pos} {w : Sem Value} {q : Bool} {P1 P2 : Value → Prop} (h1 : TV c O (eval l c.env) P1) (h2 : TV c O (eval r c.env) P2) (h3 : ∀ a b, P1 a → P2 b → TV c O (compareOp op a b) (· = .bool q))
    (hm : behindInMarks op r = false := by with_unfolding_all rfl) : TV c O (isTrue (.Compare l [op] [r] pos) c.env w) (· = q) := fun s E x =>
  wpAny_isTrue_Compare1 (h1.use x fun a s₁ p₁ k₁ x₁ => h2.use x₁ fun b s₂ p₂ k₂ x₂ => (h3 a b p₁ p₂).use x₂ fun v s₃ p₃ k₃ _ => by subst p₃; exact wpAny_truthy_bool ⟨rfl, k₁.trans (k₂.trans k₃)⟩) hm
theorem e_cmp {l r : Expr} {op : CmpOp} {pos : Pos} {q : Bool} {P1 P2 : Value → Prop} (h1 : TV c O (eval l c.env) P1) (h2 : TV c O (eval r c.env) P2) (h3 : ∀ a b, P1 a → P2 b → TV c O (compareOp op a b) (· = .bool q))
    (hm : behindInMarks op r = false := by with_unfolding_all rfl) : TV c O (eval (.Compare l [op] [r] pos) c.env) (· = .bool q) := fun s E x =>
  wpAny_Compare1 (h1.use x fun a s₁ p₁ k₁ x₁ => h2.use x₁ fun b s₂ p₂ k₂ x₂ => (h3 a b p₁ p₂).use x₂ fun v s₃ p₃ k₃ _ => ⟨p₃, k₁.trans (k₂.trans k₃)⟩) hm

theorem q_eq {a b : Int} {v u : Value} (hv : IsInt a v) (hu : IsInt b u) : TV c O (compareOp .Eq v u) (· = .bool (a == b)) := fun s E x => by
  obtain ⟨t, rfl⟩ := hv; obtain ⟨t', rfl⟩ := hu
  exact eq_int ⟨rfl, Kp.refl s⟩
theorem q_ne {a b : Int} {v u : Value} (hv : IsInt a v) (hu : IsInt b u) : TV c O (compareOp .NotEq v u) (· = .bool (a != b)) := fun s E x => by
  obtain ⟨t, rfl⟩ := hv; obtain ⟨t', rfl⟩ := hu
  exact ne_int ⟨rfl, Kp.refl s⟩
theorem q_lt {a b : Int} {v u : Value} (hv : IsInt a v) (hu : IsInt b u) : TV c O (compareOp .Lt v u) (· = .bool (decide (a < b))) := fun s E x => by
  obtain ⟨t, rfl⟩ := hv; obtain ⟨t', rfl⟩ := hu
  exact lt_int ⟨rfl, Kp.refl s⟩
theorem q_le {a b : Int} {v u : Value} (hv : IsInt a v) (hu : IsInt b u) : TV c O (compareOp .LtE v u) (· = .bool (decide (a ≤ b))) := fun s E x => by
  obtain ⟨t, rfl⟩ := hv; obtain ⟨t', rfl⟩ := hu
  exact le_int ⟨rfl, Kp.refl s⟩
theorem q_gt {a b : Int} {v u : Value} (hv : IsInt a v) (hu : IsInt b u) : TV c O (compareOp .Gt v u) (· = .bool (decide (a > b))) := fun s E x => by
  obtain ⟨t, rfl⟩ := hv; obtain ⟨t', rfl⟩ := hu
  exact gt_int ⟨rfl, Kp.refl s⟩
theorem q_isnot_same {a : Addr} : TV c O (compareOp .IsNot (.ref a) (.ref a)) (· = .bool false) := fun s E x => wpAny_isNot_ref_self ⟨rfl, Kp.refl s⟩
theorem q_is_plain {v u : Value} (hp : plainIs v u = true) : TV c O (compareOp .Is v u) (· = .bool (v == u)) := fun s E x => wpAny_is_plain hp ⟨rfl, Kp.refl s⟩
theorem q_isnot_plain {v u : Value} (hp : plainIs v u = true) : TV c O (compareOp .IsNot v u) (· = .bool (!(v == u))) := fun s E x => wpAny_isNot_plain hp ⟨rfl, Kp.refl s⟩

theorem t_all {op : BoolOp} {es : List Expr} {pos : Pos} {w : Sem Value} {P : Bool → Prop} (h : TV c O (allTrue op es c.env) P) : TV c O (isTrue (.BoolOp op es pos) c.env w) P := by
  have e : isTrue (.BoolOp op es pos) c.env w = allTrue op es c.env := by rfl
  rw [e]; exact h
theorem a_nil {op : BoolOp} : TV c O (allTrue op [] c.env) (· = (op == .And)) := fun s E x => by
  have e : allTrue op [] c.env = pure (op == .And) := by rfl
  rw [e]; exact wpAny_pure ⟨rfl, Kp.refl s⟩
theorem allTrue_cons (op : BoolOp) (e : Expr) (es : List Expr) (env : Env) : allTrue op (e :: es) env = (isTrue e env (eval e env) >>= fun b => match op, b with
    | .And, false => pure false
    | .Or, true => pure true
    | _, _ => allTrue op es env) := by rfl
theorem a_and {e : Expr} {es : List Expr} {p q : Bool} (h1 : TV c O (isTrue e c.env (eval e c.env)) (· = p)) (h2 : p = true → TV c O (allTrue .And es c.env) (· = q)) : TV c O (allTrue .And (e :: es) c.env) (· = (p && q)) := by
  rw [allTrue_cons]
  refine h1.bind fun b hb => ?_
  subst hb
  cases b with
  | false => exact TV.pure rfl
  | true => exact (h2 rfl).mono fun v hv => by rw [hv]; rfl
theorem a_or {e : Expr} {es : List Expr} {p q : Bool} (h1 : TV c O (isTrue e c.env (eval e c.env)) (· = p)) (h2 : p = false → TV c O (allTrue .Or es c.env) (· = q)) : TV c O (allTrue .Or (e :: es) c.env) (· = (p || q)) := by
  rw [allTrue_cons]
  refine h1.bind fun b hb => ?_
  subst hb
  cases b with
  | true => exact TV.pure rfl
  | false => exact (h2 rfl).mono fun v hv => by rw [hv]; rfl
theorem t_not {e : Expr} {pos : Pos} {w : Sem Value} {p : Bool} (h : TV c O (isTrue e c.env (eval e c.env)) (· = p)) : TV c O (isTrue (.UnaryOp .Not e pos) c.env w) (· = !p) := fun s E x =>
  isTrue_not (h.use x fun b s' hb k _ => ⟨by rw [hb], k⟩)
theorem t_plain {e : Expr} {b : Bool} (h : TV c O (eval e c.env) (· = .bool b))
    (he : isTrue e c.env (eval e c.env) = (do let v ← eval e c.env; standAt e.pos; holding [v] (truthy v)) := by rfl) : TV c O (isTrue e c.env (eval e c.env)) (· = b) := fun s E x =>
  isTrue_plain (h.use x fun v s' hv k _ => by subst hv; exact wpAny_truthy_bool ⟨rfl, k⟩) he
theorem e_if {t b o : Expr} {pos : Pos} {q : Bool} {P : Value → Led → Prop} (h : TV c O (isTrue t c.env (eval t c.env)) (· = q)) (h1 : q = true → Tr c O (eval b c.env) P) (h2 : q = false → Tr c O (eval o c.env) P) :
    Tr c O (eval (.IfExp t b o pos) c.env) P := fun s E x =>
  wpAny_IfExp (h.use x fun v s' hv k x' => by
    subst hv
    cases v with
    | true => exact (h1 rfl).use x' fun v s'' N p g _ => ⟨N, p, by simpa using (Grow.nil k).trans g⟩
    | false => exact (h2 rfl).use x' fun v s'' N p g _ => ⟨N, p, by simpa using (Grow.nil k).trans g⟩)
theorem e_ifV {t b o : Expr} {pos : Pos} {q : Bool} {P : Value → Prop} (h : TV c O (isTrue t c.env (eval t c.env)) (· = q)) (h1 : q = true → TV c O (eval b c.env) P) (h2 : q = false → TV c O (eval o c.env) P) :
    TV c O (eval (.IfExp t b o pos) c.env) P := fun s E x =>
  wpAny_IfExp (h.use x fun v s' hv k x' => by
    subst hv
    cases v with
    | true => exact (h1 rfl).use x' fun v s'' p g _ => ⟨p, k.trans g⟩
    | false => exact (h2 rfl).use x' fun v s'' p g _ => ⟨p, k.trans g⟩)

theorem e_item {value slice : Expr} {pos : Pos} {l : Addr} {xs : List Value} {k : Int} {v : Value} (h1 : TV c O (eval value c.env) (· = .ref l)) (h2 : TV c O (eval slice c.env) (IsInt k)) (hl : InL c O (l, LP xs))
    (h0 : 0 ≤ k) (hk : k < 2 ^ 63) (hx : xs[k.toNat]? = some v)
    (hs : ∀ a i, subscripted slice false a i = operate [a, i] (getItem a i) := by intro _ _; with_unfolding_all rfl) (ht : ∀ a r, letTemporaryGo value a r = pure () := by intro _ _; with_unfolding_all rfl) :
    TV c O (eval (.Subscript value slice pos) c.env) (· = v) := fun s E x =>
  Subscript_ (h1.use x fun a s₁ e₁ k₁ x₁ => h2.use x₁ fun b s₂ ⟨t, e₂⟩ k₂ x₂ => by
    subst e₁; subst e₂
    exact subscriptTail_ops (x₂.has hl).isList.typeIs slot_list_getitem.lookup (wpAny_getItem_list (x₂.has hl).isList h0 hk (by simpa using hx) ⟨rfl, k₁.trans k₂⟩) (hs _ _) (ht _))
theorem e_item_neg {value slice : Expr} {pos : Pos} {l : Addr} {xs : List Value} {k : Int} {v : Value} (h1 : TV c O (eval value c.env) (· = .ref l)) (h2 : TV c O (eval slice c.env) (IsInt k)) (hl : InL c O (l, LP xs))
    (h0 : k < 0) (h1' : -(xs.length : Int) ≤ k) (hk : -(2 ^ 63) ≤ k) (hx : xs[(k + xs.length).toNat]? = some v)
    (hs : ∀ a i, subscripted slice false a i = operate [a, i] (getItem a i) := by intro _ _; with_unfolding_all rfl) (ht : ∀ a r, letTemporaryGo value a r = pure () := by intro _ _; with_unfolding_all rfl) :
    TV c O (eval (.Subscript value slice pos) c.env) (· = v) := fun s E x =>
  Subscript_ (h1.use x fun a s₁ e₁ k₁ x₁ => h2.use x₁ fun b s₂ ⟨t, e₂⟩ k₂ x₂ => by
    subst e₁; subst e₂
    exact subscriptTail_ops (x₂.has hl).isList.typeIs slot_list_getitem.lookup (wpAny_getItem_list_neg (x₂.has hl).isList h0 (by simpa using h1') hk (by simpa using hx) ⟨rfl, k₁.trans k₂⟩) (hs _ _) (ht _))
theorem e_titem {value slice : Expr} {pos : Pos} {l : Addr} {xs : List Value} {k : Int} {v : Value} (h1 : TV c O (eval value c.env) (· = .ref l)) (h2 : TV c O (eval slice c.env) (IsInt k)) (hl : InL c O (l, TP xs))
    (h0 : 0 ≤ k) (hk : k < 2 ^ 63) (hx : xs[k.toNat]? = some v)
    (hs : ∀ a i, subscripted slice false a i = operate [a, i] (getItem a i) := by intro _ _; with_unfolding_all rfl) (ht : ∀ a r, letTemporaryGo value a r = pure () := by intro _ _; with_unfolding_all rfl) :
    TV c O (eval (.Subscript value slice pos) c.env) (· = v) := fun s E x =>
  Subscript_ (h1.use x fun a s₁ e₁ k₁ x₁ => h2.use x₁ fun b s₂ ⟨t, e₂⟩ k₂ x₂ => by
    subst e₁; subst e₂
    have hlt : k < (xs.length : Int) := by
      have := (List.getElem?_eq_some_iff.mp hx).1; omega
    exact subscriptTail_ops (x₂.has hl).isTuple.typeIs F.slot_tuple_getitem.lookup (getItem_tuple (x₂.has hl).isTup (by omega) hk (j := k.toNat) (by rw [List.size_toArray]; exact seqIndex_of h0 hlt) (by simpa using hx) ⟨rfl, k₁.trans k₂⟩) (hs _ _) (ht _))
theorem e_neg {e : Expr} {pos : Pos} {i : Int} (h : TV c O (eval e c.env) (IsInt i)) : TV c O (eval (.UnaryOp .USub e pos) c.env) (IsInt (-i)) := fun s E x =>
  wpAny_UnaryOp (h.use x fun v s₁ ⟨t, e₁⟩ k₁ x₁ => by subst e₁; exact neg_int ⟨⟨_, rfl⟩, k₁.trans Kp.toks⟩)
end
end Mine

namespace Mine

/-- small enough for every line of the model -/
theorem small_line {n : Nat} (h : n ≤ 100000) : n ≤ sizeLine := by rw [sizeLine_eq]; omega

section
variable {c : Cx} {O : Led}

theorem s_nil {pos : Pos} : TV c O (spliced (backTo pos (starEach [] c.env))) (· = []) := fun s E x => args_nil ⟨rfl, Kp.refl s⟩
theorem s_cons {e : Expr} {es : List Expr} {pos : Pos} {P : Value → Prop} {Q : List Value → Prop} (h1 : TV c O (eval e c.env) P) (h2 : TV c O (spliced (backTo pos (starEach es c.env))) Q)
    (he : starEach (e :: es) c.env = (false, eval e c.env) :: starEach es c.env := by rfl) :
    TV c O (spliced (backTo pos (starEach (e :: es) c.env))) (fun vs => ∃ v r, vs = v :: r ∧ P v ∧ Q r) := fun s E x =>
  args_cons (h1.use x fun v s₁ p k x₁ => h2.use x₁ fun r s₂ q k' _ => ⟨⟨v, r, rfl, p, q⟩, k.trans k'⟩) he
theorem sL_nil {pos : Pos} : Tr c O (spliced (backTo pos (starEach [] c.env))) (fun vs N => N = [] ∧ vs = []) := s_nil.tr
theorem sL_cons {e : Expr} {es : List Expr} {pos : Pos} {P : Value → Led → Prop} {Q : List Value → Led → Prop} (h1 : Tr c O (eval e c.env) P) (h2 : ∀ v N, P v N → Tr c (N ++ O) (spliced (backTo pos (starEach es c.env))) Q)
    (he : starEach (e :: es) c.env = (false, eval e c.env) :: starEach es c.env := by rfl) :
    Tr c O (spliced (backTo pos (starEach (e :: es) c.env))) (fun vs N => ∃ v N1 r N2, vs = v :: r ∧ N = N2 ++ N1 ∧ P v N1 ∧ Q r N2) := fun s E x =>
  args_cons (h1.use x fun v s₁ N1 p g x₁ => (h2 v N1 p).use x₁ fun r s₂ N2 q g' _ => ⟨_, ⟨v, N1, r, N2, rfl, rfl, p, q⟩, g.trans g'⟩) he

theorem e_list {es : List Expr} {pos : Pos} {Q : List Value → Led → Prop} (h : Tr c O (spliced (backTo pos (starEach es c.env))) Q) (hn : ∀ vs N, Q vs N → vs.length ≤ 100000) :
    Tr c O (eval (.List es pos) c.env) (fun v N => ∃ a vs N1, v = .ref a ∧ N = (a, LP vs) :: N1 ∧ Q vs N1) := fun s E x =>
  wpAny_List_spliced (h.use x fun vs s₁ N q g x₁ => ⟨small_line (hn _ _ q), _, ⟨_, vs, N, rfl, rfl, q⟩, by
    simpa using g.trans (Grow.one (Kp.push (s := s₁)) (fresh_size _) Has.newList)⟩)
theorem e_tuple {es : List Expr} {k : Nat} {pos : Pos} {Q : List Value → Led → Prop} (h : Tr c O (spliced (backTo pos (starEach es c.env))) Q) (hn : ∀ vs N, Q vs N → vs.length ≤ 100000) :
    Tr c O (eval (.Tuple es k pos) c.env) (fun v N => ∃ a vs N1, v = .ref a ∧ N = (a, TP vs) :: N1 ∧ Q vs N1) := fun s E x =>
  wpAny_Tuple_spliced (h.use x fun vs s₁ N q g x₁ => ⟨small_line (hn _ _ q), _, ⟨_, vs, N, rfl, rfl, q⟩, by
    simpa using g.trans (Grow.one (Kp.push (s := s₁)) (fresh_size _) Has.newTuple)⟩)
theorem e_listV {es : List Expr} {pos : Pos} {Q : List Value → Prop} (h : TV c O (spliced (backTo pos (starEach es c.env))) Q) (hn : ∀ vs, Q vs → vs.length ≤ 100000) :
    Tr c O (eval (.List es pos) c.env) (fun v N => ∃ a vs, v = .ref a ∧ N = [(a, LP vs)] ∧ Q vs) :=
  (e_list h.tr fun vs N q => hn vs q.2).mono fun v N ⟨a, vs, N1, h1, h2, h3, h4⟩ => ⟨a, vs, h1, by rw [h2, h3], h4⟩
theorem e_tupleV {es : List Expr} {k : Nat} {pos : Pos} {Q : List Value → Prop} (h : TV c O (spliced (backTo pos (starEach es c.env))) Q) (hn : ∀ vs, Q vs → vs.length ≤ 100000) :
    Tr c O (eval (.Tuple es k pos) c.env) (fun v N => ∃ a vs, v = .ref a ∧ N = [(a, TP vs)] ∧ Q vs) :=
  (e_tuple h.tr fun vs N q => hn vs q.2).mono fun v N ⟨a, vs, N1, h1, h2, h3, h4⟩ => ⟨a, vs, h1, by rw [h2, h3], h4⟩

/-- one part of a slice -/
def Part (c : Cx) (O : Led) (e : Option Expr) (k : Option Int) : Prop := TV c O (evalPart e c.env) (fun v => IsPart v k)
theorem p_none : Part c O none none := fun s E x => by rw [evalPart_none]; exact wpAny_pure ⟨.none, Kp.refl s⟩
theorem p_some {e : Expr} {k : Int} (h : TV c O (eval e c.env) (IsInt k)) : Part c O (some e) (some k) := fun s E x => by
  rw [evalPart_some]
  exact h.use x fun v s₁ ⟨t, e₁⟩ k₁ _ => by subst e₁; exact ⟨.int _ _, k₁⟩

def cut (xs : List Value) (lo hi : Option Int) : List Value := (xs.drop (lo.elim 0 (clipAt xs.length))).take (hi.elim xs.length (clipAt xs.length) - lo.elim 0 (clipAt xs.length))
theorem cut_length_le (xs : List Value) (lo hi : Option Int) : (cut xs lo hi).length ≤ xs.length := by
  unfold cut; rw [List.length_take, List.length_drop]; omega
theorem cut_upto (xs : List Value) (k : Nat) : cut xs none (some (k : Int)) = xs.take k := by
  unfold cut
  simp only [Option.elim, clipAt_nat, List.drop_zero, Nat.sub_zero]
  by_cases h : k ≤ xs.length
  · rw [Nat.min_eq_left h]
  · rw [Nat.min_eq_right (by omega), List.take_of_length_le (Nat.le_refl _), List.take_of_length_le (by omega)]
theorem cut_from (xs : List Value) (k : Nat) : cut xs (some (k : Int)) none = xs.drop k := by
  unfold cut
  simp only [Option.elim, clipAt_nat]
  by_cases h : k ≤ xs.length
  · rw [Nat.min_eq_left h, List.take_of_length_le (by simp)]
  · rw [Nat.min_eq_right (by omega), List.drop_of_length_le (by omega : xs.length ≤ k)]; simp
theorem cut_run (xs : List Value) (a b : Nat) (h : a ≤ b) : cut xs (some (a : Int)) (some (b : Int)) = (xs.drop a).take (b - a) := by
  unfold cut
  simp only [Option.elim, clipAt_nat]
  by_cases h1 : b ≤ xs.length
  · rw [Nat.min_eq_left h1, Nat.min_eq_left (by omega)]
  · by_cases h2 : a ≤ xs.length
    · rw [Nat.min_eq_left h2, Nat.min_eq_right (by omega), List.take_of_length_le (by simp), List.take_of_length_le (by simp; omega)]
    · rw [Nat.min_eq_right (by omega), Nat.min_eq_right (by omega), List.drop_of_length_le (by omega : xs.length ≤ a)]; simp

/-- a list argument: only its class and items are known -/
def LI (xs : List Value) (o : Obj) : Prop := o.cls = .type "list" ∧ ∃ n, o.data = .seq xs.toArray n
theorem LP.li {xs : List Value} {o : Obj} (h : LP xs o) : LI xs o := by obtain ⟨n, rfl⟩ := h; exact ⟨rfl, n, rfl⟩

theorem e_slice {value : Expr} {lo hi : Option Expr} {p pos : Pos} {l : Addr} {xs : List Value} {kl kh : Option Int} (h1 : TV c O (eval value c.env) (· = .ref l))
    (hl : ∀ s, At c O s → s.heap.IsList l xs.toArray) (hlo : Part c O lo kl) (hhi : Part c O hi kh) (hn : xs.length ≤ 100000)
    (ht : ∀ a r, letTemporaryGo value a r = pure () := by intro _ _; with_unfolding_all rfl) :
    Tr c O (eval (.Subscript value (.Slice lo hi none p) pos) c.env) (fun v N => ∃ a, v = .ref a ∧ N = [(a, LP (cut xs kl kh))]) := fun s E x =>
  Subscript_ (h1.use x fun a s₁ e₁ k₁ x₁ => by
    subst e₁
    refine wpAny_Slice (hlo.use x₁ fun vl s₂ p₂ k₂ x₂ => hhi.use x₂ fun vu s₃ p₃ k₃ x₃ => ?_)
    rw [evalPart_none]
    refine wpAny_pure ?_
    refine slice_listK (hl _ x₃) p₂ p₃ ?_ (by with_unfolding_all rfl) (ht _) (by rw [List.size_toArray]; exact small_line hn)
    refine ⟨_, ⟨_, rfl, rfl⟩, Grow.one ?_ ?_ ?_⟩
    · refine k₁.trans (k₂.trans (k₃.trans ?_))
      exact ⟨_, s₃.toks, rfl, fun _ _ e => Heap.get?_push_of_some _ (Heap.get?_push_of_some _ e)⟩
    · exact (k₁.trans (k₂.trans k₃)).none (fresh_le (Nat.le_succ _))
    · refine ⟨_, ?_, 0, rfl⟩
      have e : slicePick xs.toArray kl kh none = (cut xs kl kh).toArray := by rw [slicePick_plain]; simp [cut]
      rw [e]
      have := Heap.get?_push_size (s₃.heap.push { cls := .type "slice", data := .fields #[vl, vu, .none] }) (o := { cls := .type "list", data := .seq (cut xs kl kh).toArray }) rfl
      rw [Heap.size_push] at this
      exact this)
theorem e_sliceL {value : Expr} {lo hi : Option Expr} {p pos : Pos} {l : Addr} {xs : List Value} {kl kh : Option Int} (h1 : TV c O (eval value c.env) (· = .ref l)) (hl : InL c O (l, LP xs))
    (hlo : Part c O lo kl) (hhi : Part c O hi kh) (hn : xs.length ≤ 100000) (ht : ∀ a r, letTemporaryGo value a r = pure () := by intro _ _; with_unfolding_all rfl) :
    Tr c O (eval (.Subscript value (.Slice lo hi none p) pos) c.env) (fun v N => ∃ a, v = .ref a ∧ N = [(a, LP (cut xs kl kh))]) :=
  e_slice h1 (fun s x => (x.has hl).isList) hlo hhi hn ht

/-- the built-in names that the laws use -/
structure Std (c : Cx) : Prop where
  hh : c.A.handled = none
  gl : c.env.globals = mainGlobals
  bu : c.env.builtins = builtinsNs
  len : c.mg "len" = none ∧ c.mb "len" = some (.builtin "len")
  range : c.mg "range" = none ∧ c.mb "range" = some (.type "range")
  list : c.mg "list" = none ∧ c.mb "list" = some (.type "list")
  iter : c.mg "iter" = none ∧ c.mb "iter" = some (.builtin "iter")
  next : c.mg "next" = none ∧ c.mb "next" = some (.builtin "next")

theorem e_len {e : Expr} {p pos : Pos} {l : Addr} {xs : List Value} (S : Std c) (h : TV c O (eval e c.env) (· = .ref l)) (hl : InL c O (l, LP xs)) (hn : xs.length ≤ 100000)
    (hk : c.env.kindOf "len" = some .globalImplicit := by rfl) (hf : c.env.scope.kind = .function := by rfl) (hs : starEach [e] c.env = [(false, eval e c.env)] := by rfl) :
    TV c O (eval (.Call (.Name "len" p) [e] [] pos) c.env) (IsInt xs.length) := fun s E x =>
  Call_Name1 ((e_bi S.len.1 S.len.2 hk S.gl S.bu hf).use x fun f s₁ e₁ k₁ x₁ => by
    subst e₁
    exact callWith_builtin (args := [(false, eval e c.env)]) rfl (evalArgs_plain (spliced_cons (h.use x₁ fun v s₂ e₂ k₂ x₂ => by
      subst e₂
      exact spliced_nil (len_list (x₂.has hl).isList (by rw [List.size_toArray]; omega) ⟨⟨_, by rw [List.size_toArray]⟩, k₁.trans (k₂.trans Kp.toks)⟩)))) ) hs
end
end Mine

namespace Mine

def upd (sg : Str → Option Value) (x : Str) (v : Value) : Str → Option Value := fun y => if y = x then some v else sg y
theorem upd_same {sg : Str → Option Value} {x : Str} {v : Value} : upd sg x v x = some v := if_pos rfl
theorem upd_ne {sg : Str → Option Value} {x y : Str} {v : Value} (h : y ≠ x) : upd sg x v y = sg y := if_neg h

abbrev Cx.up (c : Cx) (Mu : Led) (sg : Str → Option Value) (gs : Array GenState) : Cx := { c with Mu := Mu, sg := sg, gs := gs }
abbrev Cx.set (c : Cx) (x : Str) (v : Value) : Cx := { c with sg := upd c.sg x v }

/-- all but some places as they were -/
def Alt (X : List Addr) (s s' : Shared) : Prop := ∃ h' tk, s' = { s with heap := h', toks := tk } ∧ ∀ b o, b ∉ X → s.heap.get? b = some o → h'.get? b = some o
theorem Alt.of_same {s : Shared} {h' : Heap} {tk : Nat} {a : Addr} (h : Heap.SameBut a s.heap h') : Alt [a] s { s with heap := h', toks := tk } :=
  ⟨h', tk, rfl, fun b o hb e => (h.2 b (by simpa using hb)).trans e⟩
theorem Alt.of_ext {s : Shared} {h' : Heap} {tk : Nat} {a : Addr} (h : Heap.ExtBut a s.heap h') : Alt [a] s { s with heap := h', toks := tk } :=
  ⟨h', tk, rfl, fun b o hb e => h b o (by simpa using hb) e⟩
theorem Alt.get {X : List Addr} {s s' : Shared} (a : Alt X s s') {b : Addr} {o : Obj} (hb : b ∉ X) (e : s.heap.get? b = some o) : s'.heap.get? b = some o := by
  obtain ⟨h, t, rfl, k⟩ := a; exact k b o hb e
theorem Alt.gens {X : List Addr} {s s' : Shared} (a : Alt X s s') : s'.gens = s.gens := by obtain ⟨h, t, rfl, k⟩ := a; rfl
theorem Alt.os {X : List Addr} {s s' : Shared} (a : Alt X s s') : s'.os = s.os := by obtain ⟨h, t, rfl, k⟩ := a; rfl

theorem lookup_ne {cs : List (Str × Addr)} {x y : Str} {a b : Addr} (hn : (cs.map (·.2)).Nodup) (hx : cs.lookup x = some a) (hy : cs.lookup y = some b) (h : y ≠ x) : b ≠ a := by
  rintro rfl
  have h1 := mem_of_lookup hx
  have h2 := mem_of_lookup hy
  have hp : cs.Pairwise fun x y => x.2 ≠ y.2 := by
    have := hn; rw [List.Nodup, List.pairwise_map] at this; exact this
  exact h (name_of_addr hp h2 h1)

section
variable {c : Cx} {O : Led} {s : Shared}

/-- the map of names may be changed at the frame -/
theorem At.store_local {x : Str} {v : Value} {s' : Shared} {m : Str → Option Value} (y : At c O s) (a : Alt [c.env.locals] s s') (hl : c.env.kindOf x = some .local) (hc : c.env.cells.lookup x = none)
    (hm : ∀ z u, c.env.kindOf z = some .local → c.sg z = some u → m z = some u) (hn : s'.heap.Ns c.env.locals (fun z => if z = x then some v else m z))
    (hcl : c.wc = false → ∀ p ∈ c.env.cells, p.2 ≠ c.env.locals) : At (c.set x v) O s' := by
  have nd := y.nodup
  unfold Cx.places at nd
  rw [List.nodup_cons] at nd
  have off : ∀ b, b ∈ c.places → b ≠ c.env.locals ∨ b = c.env.locals := fun b _ => by by_cases h : b = c.env.locals <;> simp [h]
  have kp : ∀ b o, b ≠ c.env.locals → s.heap.get? b = some o → s'.heap.get? b = some o := fun b o hb e => a.get (by simpa using hb) e
  have lp : c.env.locals ∈ c.places := by unfold Cx.places; exact .head _
  have pne : ∀ p ∈ c.env.cells, p.2 ≠ c.env.locals := fun p hp => by
    cases hw : c.wc with
    | false => exact hcl hw p hp
    | true =>
      intro h
      apply nd.1
      rw [hw, if_pos rfl, ← h]
      exact List.mem_append_left _ (List.mem_map.mpr ⟨_, hp, rfl⟩)
  have cne : ∀ z b, c.env.cells.lookup z = some b → b ≠ c.env.locals := fun z b hz => pne (z, b) (mem_of_lookup hz)
  refine ⟨fun b o e => kp b o (fun h => y.offB b o e (h ▸ lp)) (y.base b o e), fun p hp => (y.own p hp).keep fun o e => kp _ o (fun h => y.offO p hp (h ▸ lp)) e, fun p hp => (y.mu p hp).keep fun o e => kp _ o ?_ e,
    ⟨_, hn, fun z u hz hu => ?_⟩, fun z b u hz hu => ?_, fun p hp => ?_, y.nodup, y.offO, y.offB, a.gens.trans y.gens, a.os.trans y.os, y.kin, y.tg, y.tb, y.nl⟩
  · intro h
    apply nd.1
    rw [← h]
    exact List.mem_append_right _ (List.mem_map.mpr ⟨p, hp, rfl⟩)
  · have hu' : upd c.sg x v z = some u := hu
    unfold upd at hu'
    by_cases h : z = x
    · rw [if_pos h] at hu' ⊢; exact hu'
    · rw [if_neg h] at hu' ⊢; exact hm z u hz hu'
  · have hzx : z ≠ x := fun h => by rw [h] at hz; exact nomatch hc.symm.trans hz
    have hu' : upd c.sg x v z = some u := hu
    rw [upd_ne hzx] at hu'
    obtain ⟨o, ho, hd⟩ := y.cell z b u hz hu'
    exact ⟨o, kp b o (cne z b hz) ho, hd⟩
  · obtain ⟨w, o, ho, hd⟩ := y.cellAlive p hp
    exact ⟨w, o, kp _ o (pne p hp) ho, hd⟩

theorem At.store_cell {x : Str} {v : Value} {a : Addr} {s' : Shared} (y : At c O s) (al : Alt [a] s s') (hw : c.wc = true) (hl : c.env.kindOf x ≠ some .local) (ha : c.env.cells.lookup x = some a) (hn : s'.heap.IsCell a (some v)) : At (c.set x v) O s' := by
  have nd := y.nodup
  unfold Cx.places at nd
  rw [hw, if_pos rfl] at nd
  have ap : a ∈ c.places := Cx.mem_places.mpr (.inr (.inl ⟨hw, x, mem_of_lookup ha⟩))
  have am : a ∈ c.env.cells.map (·.2) := List.mem_map.mpr ⟨_, mem_of_lookup ha, rfl⟩
  rw [List.nodup_cons, List.nodup_append] at nd
  obtain ⟨n1, n2, n3, n4⟩ := nd
  have la : c.env.locals ≠ a := fun h => n1 (List.mem_append_left _ (h ▸ am))
  have kp : ∀ b o, b ≠ a → s.heap.get? b = some o → s'.heap.get? b = some o := fun b o hb e => al.get (by simpa using hb) e
  refine ⟨fun b o e => kp b o (fun h => y.offB b o e (h ▸ ap)) (y.base b o e), fun p hp => (y.own p hp).keep fun o e => kp _ o (fun h => y.offO p hp (h ▸ ap)) e, fun p hp => (y.mu p hp).keep fun o e => kp _ o ?_ e,
    ?_, fun z b u hz hu => ?_, fun p hp => ?_, y.nodup, y.offO, y.offB, al.gens.trans y.gens, al.os.trans y.os, y.kin, y.tg, y.tb, y.nl⟩
  · intro h
    exact n4 a am p.1 (List.mem_map.mpr ⟨p, hp, rfl⟩) h.symm
  · obtain ⟨m, hm, hz⟩ := y.ns
    refine ⟨m, hm.at' fun o e => kp _ o la e, fun z u hz' hu => ?_⟩
    have hzx : z ≠ x := fun h => hl (h ▸ hz')
    have hu' : upd c.sg x v z = some u := hu
    rw [upd_ne hzx] at hu'
    exact hz z u hz' hu'
  · have hu' : upd c.sg x v z = some u := hu
    by_cases hzx : z = x
    · subst hzx
      have hz' : c.env.cells.lookup z = some b := hz
      rw [ha] at hz'; cases hz'
      rw [upd_same] at hu'; cases hu'; exact hn
    · rw [upd_ne hzx] at hu'
      obtain ⟨o, ho, hd⟩ := y.cell z b u hz hu'
      exact ⟨o, kp b o (lookup_ne n2 ha hz hzx) ho, hd⟩
  · obtain ⟨w, o, ho, hd⟩ := y.cellAlive p hp
    by_cases hpa : p.2 = a
    · exact ⟨some v, hpa ▸ hn⟩
    · exact ⟨w, o, kp _ o hpa ho, hd⟩

/-- a name that may be stored -/
inductive Stores (c : Cx) (x : Str) : Prop
  | loc (hl : c.env.kindOf x = some .local) (hc : c.env.cells.lookup x = none) (hp : (c.env.scope.kind == .class || (c.env.scope.kind == .module && c.env.locals != c.env.globals)) = false)
      (hcl : c.wc = false → ∀ p ∈ c.env.cells, p.2 ≠ c.env.locals)
  | cell (a : Addr) (hk : c.env.scope.kind = .function) (hl : c.env.kindOf x = some .cell) (ha : c.env.cells.lookup x = some a) (hw : c.wc = true)

theorem w_store {x : Str} {v : Value} {Q : Unit → Shared → Prop} {E : Value → Shared → Prop} (hx : Stores c x) (y : At c O s) (k : ∀ s', (∃ a ∈ c.places, Alt [a] s s') → At (c.set x v) O s' → Q () s') :
    wpAny (model c.prog c.w) c.A (storeName c.env x v) Q E s := by
  cases hx with
  | loc hl hc hp hcl =>
    obtain ⟨m, hn, hm⟩ := y.ns
    exact wpAny_storeName_local hl hn (fun h' hn' hs' => k _ ⟨_, by unfold Cx.places; exact .head _, Alt.of_same hs'⟩ (y.store_local (Alt.of_same hs') hl hc hm hn' hcl)) hp
  | cell a hk hl ha hw =>
    obtain ⟨v₀, hv₀⟩ := y.cellAlive _ (mem_of_lookup ha)
    refine wpAny_storeName_cell hk hl ha hv₀ fun h' hc' hs' => k _ ⟨_, Cx.mem_places.mpr (.inr (.inl ⟨hw, x, mem_of_lookup ha⟩)), Alt.of_same (tk := s.toks) hs'⟩ (y.store_cell (Alt.of_same (tk := s.toks) hs') hw (by rw [hl]; simp) ha hc')

theorem w_store_loc {x : Str} {v : Value} {Q : Unit → Shared → Prop} {E : Value → Shared → Prop} (hl : c.env.kindOf x = some .local) (hc : c.env.cells.lookup x = none)
    (hp : (c.env.scope.kind == .class || (c.env.scope.kind == .module && c.env.locals != c.env.globals)) = false) (hcl : c.wc = false → ∀ p ∈ c.env.cells, p.2 ≠ c.env.locals) (y : At c O s)
    (k : ∀ s', Alt [c.env.locals] s s' → At (c.set x v) O s' → Q () s') : wpAny (model c.prog c.w) c.A (storeName c.env x v) Q E s := by
  obtain ⟨m, hn, hm⟩ := y.ns
  exact wpAny_storeName_local hl hn (fun h' hn' hs' => k _ (Alt.of_same hs') (y.store_local (Alt.of_same hs') hl hc hm hn' hcl)) hp

theorem x_assign {x : Str} {p' pos : Pos} {e : Expr} {P : Value → Led → Prop} {Q : Flow → Shared → Prop} {E : Value → Shared → Prop} (hx : Stores c x) (h : Tr c O (eval e c.env) P) (y : At c O s)
    (k : ∀ v N s', P v N → At (c.set x v) (N ++ O) s' → Q .next s')
    (hs : swapsWith e (some (.Name x p')) pos.line c.env = pure false := by rfl) : wpAny (model c.prog c.w) c.A (exec (.Assign [.Name x p'] e pos) c.env) Q E s :=
  wpAny_Assign_Name (h.use y fun v s₁ N p g y₁ => w_store hx y₁ fun s' _ y' => k v N s' p y') hs
theorem x_assignV {x : Str} {p' pos : Pos} {e : Expr} {P : Value → Prop} {Q : Flow → Shared → Prop} {E : Value → Shared → Prop} (hx : Stores c x) (h : TV c O (eval e c.env) P) (y : At c O s)
    (k : ∀ v s', P v → At (c.set x v) O s' → Q .next s')
    (hs : swapsWith e (some (.Name x p')) pos.line c.env = pure false := by rfl) : wpAny (model c.prog c.w) c.A (exec (.Assign [.Name x p'] e pos) c.env) Q E s :=
  wpAny_Assign_Name (h.use y fun v s₁ p g y₁ => w_store hx y₁ fun s' _ y' => k v s' p y') hs

theorem At.drop {Mu T : Led} (x : At { c with Mu := Mu ++ T } O s) : At { c with Mu := Mu } O s := by
  have sub : ∀ a, a ∈ ({ c with Mu := Mu } : Cx).places → a ∈ ({ c with Mu := Mu ++ T } : Cx).places := fun a h => by
    rcases Cx.mem_places.mp h with h | h | ⟨p, h⟩
    · exact Cx.mem_places.mpr (.inl h)
    · exact Cx.mem_places.mpr (.inr (.inl h))
    · exact Cx.mem_places.mpr (.inr (.inr ⟨p, List.mem_append_left _ h⟩))
  refine ⟨x.base, x.own, fun p hp => x.mu p (List.mem_append_left _ hp), x.ns, x.cell, x.cellAlive, ?_, fun p hp h => x.offO p hp (sub _ h), fun b o e h => x.offB b o e (sub _ h), x.gens, x.os, x.kin, x.tg, x.tb, x.nl⟩
  have nd := x.nodup
  unfold Cx.places at nd ⊢
  dsimp only at nd ⊢
  rw [List.map_append, ← List.append_assoc, ← List.cons_append] at nd
  exact (List.nodup_append.mp nd).1

theorem At.addMu {Mu : Led} {p : Ent} (x : At { c with Mu := Mu } O s) (h : Has s.heap p) (h1 : p.1 ∉ ({ c with Mu := Mu } : Cx).places) (h2 : ∀ q ∈ O, q.1 ≠ p.1) (h3 : ∀ o, c.B.get? p.1 ≠ some o) : At { c with Mu := Mu ++ [p] } O s := by
  have pl : ∀ a, a ∈ ({ c with Mu := Mu ++ [p] } : Cx).places → a ∈ ({ c with Mu := Mu } : Cx).places ∨ a = p.1 := fun a h => by
    rcases Cx.mem_places.mp h with h | h | ⟨q, h⟩
    · exact .inl (Cx.mem_places.mpr (.inl h))
    · exact .inl (Cx.mem_places.mpr (.inr (.inl h)))
    · rcases List.mem_append.mp h with h | h
      · exact .inl (Cx.mem_places.mpr (.inr (.inr ⟨q, h⟩)))
      · rw [← List.mem_singleton.mp h]; exact .inr rfl
  refine ⟨x.base, x.own, fun q hq => ?_, x.ns, x.cell, x.cellAlive, ?_, fun q hq hm => ?_, fun b o e hm => ?_, x.gens, x.os, x.kin, x.tg, x.tb, x.nl⟩
  · rcases List.mem_append.mp hq with hq | hq
    · exact x.mu q hq
    · rw [List.mem_singleton.mp hq]; exact h
  · have nd := x.nodup
    unfold Cx.places at nd h1 ⊢
    dsimp only at nd h1 ⊢
    rw [List.map_append, ← List.append_assoc, ← List.cons_append, List.nodup_append]
    refine ⟨nd, by simp, fun a ha b hb => ?_⟩
    simp only [List.map_cons, List.map_nil, List.mem_singleton] at hb
    rintro rfl
    exact h1 (hb ▸ ha)
  · rcases pl _ hm with h | h
    · exact x.offO q hq h
    · exact h2 q hq h
  · rcases pl _ hm with h | h
    · exact x.offB b o e h
    · exact h3 o (h ▸ e)
end

/-- the iterators that own a tuple which they hand out anew -/
def ownTypes : List String := ["enumerate", "zip", "dict_itemiterator", "dict_reverseitemiterator", "odict_iterator", "itertools.zip_longest", "itertools.pairwise"]
def Modest (h : Heap) (I : Addr) : Prop := ∃ o n, h.get? I = some o ∧ o.cls = .type n ∧ ownTypes.contains n = false
theorem w_letgo_of {prog : Program} {w : World} {A : Around} {E : Value → Shared → Prop} {s : Shared} {target : Expr} {I : Addr} {v : Value} {Q : Unit → Shared → Prop} (h : Modest s.heap I) (q : Q () s) : wpAny (model prog w) A (letOwnedTupleGo target (.ref I) v) Q E s := by
  obtain ⟨o, n, eo, hc, hn⟩ := h
  have key : ∀ T, wpAny (model prog w) A (do
      let o ← load I
      match o.cls, o.data with
      | .type n, .fields vs =>
        if ["enumerate", "zip", "dict_itemiterator", "dict_reverseitemiterator", "odict_iterator", "itertools.zip_longest", "itertools.pairwise"].contains n && vs[0]? == some (rawInt T) then
          rule "for.unpacks-the-owned-tuple"
          updateField I 0 .none
      | _, _ => pure ()) Q E s := by
    intro T
    refine wpAny_bind (wpAny_load eo ?_)
    rw [hc]
    cases hd : o.data with
    | fields vs =>
      dsimp only
      have hn' : (["enumerate", "zip", "dict_itemiterator", "dict_reverseitemiterator", "odict_iterator", "itertools.zip_longest", "itertools.pairwise"].contains n) = false := hn
      rw [if_neg (by rw [hn', Bool.false_and]; decide)]
      exact wpAny_pure q
    | _ => exact wpAny_pure q
  cases target <;> first | exact wpAny_pure q | (cases v <;> first | exact wpAny_pure q | exact key _)

/-- a source of items -/
def Src (c : Cx) (O : Led) {α : Type} (iter : Expr) (items : List α) (R : α → Value → Prop) : Prop :=
  ∀ (s : Shared) (E : Value → Shared → Prop) (Q : Value → Shared → Prop), At c O s →
    (∀ I fq St s₂, Kp s s₂ → Walks c.prog c.w c.A I (I :: fq) [I] items.length (fun i v => ∃ a, items[i]? = some a ∧ R a v) St → St 0 s₂.heap → (∀ i h, St i h → ∀ b ∈ I :: fq, h.get? b ≠ none) → s.heap.get? I = none →
      (∀ b ∈ fq, b ∉ c.places ∧ b ≠ I) → (∀ i h, St i h → Modest h I) → Q (.ref I) s₂) →
    wpAny (model c.prog c.w) c.A (eval iter c.env) (fun x s₁ => wpAny (model c.prog c.w) c.A (pyIter x) Q E s₁) E s

section
variable {c : Cx} {O : Led}

theorem Walks.cong {prog : Program} {w : World} {A : Around} {I : Addr} {fp wr : List Addr} {n n' : Nat} {P P' : Nat → Value → Prop} {St : Nat → Heap → Prop} (W : Walks prog w A I fp wr n P St) (hn : n = n')
    (hP : ∀ i v, i < n → P i v → P' i v) : Walks prog w A I fp wr n' P' St := by
  subst hn
  exact ⟨W.sub, W.frame, fun i s Q E hi st hQ => W.item i s Q E hi st fun v h' tk p st' k => hQ v h' tk (hP i v hi p) st' k, W.done, W.self⟩

theorem paired_get {α β : Type} {R : α → β → Prop} : ∀ {as : List α} {us : List β}, Paired R as us → ∀ (j : Nat) (a : α) (u : β), as[j]? = some a → us[j]? = some u → R a u := by
  intro as us hq
  induction hq with
  | nil => intro j a u h1; simp at h1
  | cons hab _ ih =>
    intro j a u h1 h2
    cases j with
    | zero => simp at h1 h2; subst h1; subst h2; exact hab
    | succ j => exact ih j a u (by simpa using h1) (by simpa using h2)

theorem src_list {iter : Expr} {α : Type} {items : List α} {R : α → Value → Prop} {P : Value → Led → Prop} (S : Std c) (h : Tr c O (eval iter c.env) P)
    (hp : ∀ v N, P v N → ∃ l vs, v = .ref l ∧ (l, LP vs) ∈ N ++ O ∧ Paired R items vs) : Src c O iter items R := fun s E Q x k =>
  h.use x fun v s₁ N p g x₁ => by
    obtain ⟨l, vs, rfl, hm, hr⟩ := hp v N p
    have hl := (x₁.own _ hm).isList
    refine wpAny_pyIter_list hl ?_
    have hlt : l < s₁.heap.objs.size := by obtain ⟨o, ho, _⟩ := hl; exact Heap.lt_size ho
    have W := Walks.list (prog := c.prog) (w := c.w) (A := c.A) S.hh s₁.heap.objs.size l (Nat.ne_of_lt hlt) vs.toArray
    have hlen : vs.toArray.size = items.length := by rw [List.size_toArray, hr.length]
    refine k s₁.heap.objs.size [l] _ _ (g.1.trans Kp.push) (Walks.cong W hlen fun i v hi e => ?_) ⟨⟨_, Heap.get?_push_size _ rfl, rfl, rfl⟩, hl.push _⟩ ?_ (g.1.none (fresh_size _)) ?_ ?_
    · have hi' : i < items.length := by rw [← hlen]; exact hi
      refine ⟨items[i], by simp [hi'], ?_⟩
      exact paired_get hr i _ v (by simp [hi']) (by simpa using e)
    · rintro i h ⟨⟨o, ho, _⟩, ⟨o', ho', _⟩⟩ b hb
      simp only [List.mem_cons, List.not_mem_nil, or_false] at hb
      rcases hb with rfl | rfl
      · rw [ho]; simp
      · rw [ho']; simp
    · intro b hb
      rw [List.mem_singleton.mp hb]
      exact ⟨x₁.offO _ hm, Nat.ne_of_lt hlt⟩
    · rintro i h ⟨⟨o, ho, hc, _⟩, _⟩
      exact ⟨o, "list_iterator", ho, hc, by decide⟩
end
end Mine

namespace Mine

def irange (a : Int) (n : Nat) : List Int := (List.range n).map fun (i : Nat) => a + (i : Int)
theorem irange_length {a : Int} {n : Nat} : (irange a n).length = n := by simp [irange]
theorem irange_get {a : Int} {n i : Nat} (h : i < n) : (irange a n)[i]? = some (a + (i : Int)) := by simp [irange, h]
theorem irange_get_some {a : Int} {n i : Nat} {x : Int} (h : (irange a n)[i]? = some x) : i < n ∧ x = a + (i : Int) := by
  have hi : i < n := by
    have := (List.getElem?_eq_some_iff.mp h).1
    rwa [irange_length] at this
  rw [irange_get hi] at h
  exact ⟨hi, (Option.some.inj h).symm⟩

section
variable {c : Cx} {O : Led}

theorem src_rangeAt {iter : Expr} {a b : Int} (S : Std c) (ha : -(2 ^ 62) ≤ a) (ha' : a < 2 ^ 62) (hb : -(2 ^ 62) ≤ b) (hb' : b < 2 ^ 62)
    (h : ∀ s E (Q : Value → Shared → Prop), At c O s → (∀ r t u v s₁, Kp s s₁ → IsRange s₁.heap r a b 1 t u v → At c O s₁ → Q (.ref r) s₁) → wpAny (model c.prog c.w) c.A (eval iter c.env) Q E s) :
    Src c O iter (irange a (b - a).toNat) IsInt := fun s E Q x k =>
  h s E _ x fun r t u v s₁ k₁ hr x₁ => by
    refine wpAny_pyIter_range hr (small_one ha ha' hb hb') ?_
    have W := Walks.range (prog := c.prog) (w := c.w) (A := c.A) S.hh s₁.heap.objs.size a 1 (b - a).toNat
    have hsz : Builtin.Range.rangeSize a b 1 = ((b - a).toNat : Int) := by rw [rangeSize_one]; split <;> omega
    rw [hsz]
    refine k s₁.heap.objs.size [] _ _ (k₁.trans Kp.push) (Walks.cong W irange_length.symm fun i v hi e => ?_) ?_ ?_ (k₁.none (fresh_size _)) (fun b hb => nomatch hb) (fun i h hst => ⟨_, "range_iterator", hst, rfl, by decide⟩)
    · obtain ⟨t, rfl⟩ := e
      exact ⟨_, irange_get hi, t, by rw [Int.mul_one]⟩
    · show IsRangeIter _ _ _ _ _
      have : ((a + ((0 : Nat) : Int) * 1) = a) := by simp
      rw [this]
      have : (((b - a).toNat : Int) - ((0 : Nat) : Int)) = ((b - a).toNat : Int) := by simp
      rw [this]
      exact Heap.get?_push_size _ rfl
    · intro i h hst b hb
      simp only [List.mem_singleton] at hb
      subst hb
      have : h.get? s₁.heap.objs.size = _ := hst
      rw [this]; simp

theorem src_range1 {e : Expr} {p pos : Pos} {n : Int} (S : Std c) (h : TV c O (eval e c.env) (IsInt n)) (hn : -(2 ^ 62) ≤ n) (hn' : n < 2 ^ 62)
    (hk : c.env.kindOf "range" = some .globalImplicit := by rfl) (hf : c.env.scope.kind = .function := by rfl) (hs : starEach [e] c.env = [(false, eval e c.env)] := by rfl) :
    Src c O (.Call (.Name "range" p) [e] [] pos) (irange 0 n.toNat) IsInt := by
  have := src_rangeAt (c := c) (O := O) (iter := .Call (.Name "range" p) [e] [] pos) (a := 0) (b := n) S (by decide) (by decide) hn hn' fun s E Q x k =>
    Call_Name1 ((e_bi S.range.1 S.range.2 hk S.gl S.bu hf).use x fun f s₁ e₁ k₁ x₁ => by
      subst e₁
      exact PyProof.Rows.callWith_type (args := [(false, eval e c.env)]) rfl (evalArgs_plain (spliced_cons (h.use x₁ fun v s₂ ⟨t, e₂⟩ k₂ x₂ => by
        subst e₂
        exact spliced_nil (call_range_1 (k _ _ _ _ _ (k₁.trans (k₂.trans Kp.pushToks)) (IsRange.new _ _ _ _ _ _ _) (x₂.keeps Kp.pushToks)))))) ) hs
  simpa using this
theorem src_range2 {e1 e2 : Expr} {p pos : Pos} {a b : Int} (S : Std c) (h1 : TV c O (eval e1 c.env) (IsInt a)) (h2 : TV c O (eval e2 c.env) (IsInt b)) (ha : -(2 ^ 62) ≤ a) (ha' : a < 2 ^ 62) (hb : -(2 ^ 62) ≤ b) (hb' : b < 2 ^ 62)
    (hk : c.env.kindOf "range" = some .globalImplicit := by rfl) (hf : c.env.scope.kind = .function := by rfl) (hs : starEach [e1, e2] c.env = [(false, eval e1 c.env), (false, eval e2 c.env)] := by rfl) :
    Src c O (.Call (.Name "range" p) [e1, e2] [] pos) (irange a (b - a).toNat) IsInt :=
  src_rangeAt S ha ha' hb hb' fun s E Q x k =>
    Call_Name2 ((e_bi S.range.1 S.range.2 hk S.gl S.bu hf).use x fun f s₁ e₁ k₁ x₁ => by
      subst e₁
      exact PyProof.Rows.callWith_type (args := [(false, eval e1 c.env), (false, eval e2 c.env)]) rfl (evalArgs_plain (spliced_cons (h1.use x₁ fun v s₂ ⟨t, q₂⟩ k₂ x₂ => by
        subst q₂
        exact spliced_cons (h2.use x₂ fun u s₃ ⟨t', q₃⟩ k₃ x₃ => by
          subst q₃
          exact spliced_nil (call_range_2 (k _ _ _ _ _ (k₁.trans (k₂.trans (k₃.trans Kp.pushToks))) (IsRange.new _ _ _ _ _ _ _) (x₃.keeps Kp.pushToks))))))) ) hs

/-- the objects at some places, as they are in a heap -/
def holds (h : Heap) (fp : List Addr) : Led := fp.map fun b => (b, fun o => h.get? b = some o)
theorem holds_get {h h' : Heap} {fp : List Addr} {b : Addr} {o : Obj} (hb : b ∈ fp) (k : ∀ p ∈ holds h fp, Has h' p) (e : h.get? b = some o) : h'.get? b = some o := by
  obtain ⟨o', e', q⟩ := k (b, fun o => h.get? b = some o) (List.mem_map.mpr ⟨b, hb, rfl⟩)
  dsimp only at e' q
  rw [e] at q
  cases q
  exact e'

theorem At.holds {s : Shared} {fp : List Addr} (x : At c O s) (live : ∀ b ∈ fp, s.heap.get? b ≠ none) (off : ∀ b ∈ fp, b ∉ c.places) : At c (Mine.holds s.heap fp ++ O) s := by
  refine ⟨x.base, fun p hp => ?_, x.mu, x.ns, x.cell, x.cellAlive, x.nodup, fun p hp => ?_, x.offB, x.gens, x.os, x.kin, x.tg, x.tb, x.nl⟩
  · rcases List.mem_append.mp hp with h | h
    · obtain ⟨b, hb, rfl⟩ := List.mem_map.mp h
      obtain ⟨o, e⟩ := Option.ne_none_iff_exists'.mp (live b hb)
      exact ⟨o, e, e⟩
    · exact x.own p h
  · rcases List.mem_append.mp hp with h | h
    · obtain ⟨b, hb, rfl⟩ := List.mem_map.mp h
      exact off b hb
    · exact x.offO p h

/-- what a turn's end hands on -/
def TurnEnd (c : Cx) (T H : Led) (J : Led → Led → (Str → Option Value) → Array GenState → Prop) (Q : Flow → Shared → Prop) (f : Flow) (s' : Shared) : Prop :=
  match f with
  | .next | .cont => ∃ O Mu sg gs, J O Mu sg gs ∧ At (c.up (Mu ++ T) sg gs) (H ++ O) s'
  | .brk => Q .next s'
  | .ret v => Q (.ret v) s'

theorem At.moved {s s' : Shared} {fp : List Addr} {I : Addr} (x : At c (O) s) (a : Alt [I] s s') (hI : I ∉ c.places) (hO : ∀ p ∈ O, p.1 ≠ I) (hB : ∀ o, c.B.get? I ≠ some o) (hcl : c.wc = false → ∀ p ∈ c.env.cells, p.2 ≠ I) : At c O s' := by
  have kp : ∀ b o, b ≠ I → s.heap.get? b = some o → s'.heap.get? b = some o := fun b o hb e => a.get (by simpa using hb) e
  have lp : c.env.locals ∈ c.places := by unfold Cx.places; exact .head _
  have pne : ∀ p ∈ c.env.cells, p.2 ≠ I := fun p hp => by
    cases hw : c.wc with
    | false => exact hcl hw p hp
    | true => intro h; exact hI (Cx.mem_places.mpr (.inr (.inl ⟨hw, p.1, h ▸ hp⟩)))
  refine ⟨fun b o e => kp b o (fun h => hB o (h ▸ e)) (x.base b o e), fun p hp => (x.own p hp).keep fun o e => kp _ o (hO p hp) e, fun p hp => (x.mu p hp).keep fun o e => kp _ o ?_ e, ?_, fun z b u hz hu => ?_, fun p hp => ?_,
    x.nodup, x.offO, x.offB, a.gens.trans x.gens, a.os.trans x.os, x.kin, x.tg, x.tb, x.nl⟩
  · intro h; exact hI (Cx.mem_places.mpr (.inr (.inr ⟨p.2, by rw [← h]; exact hp⟩)))
  · obtain ⟨m, hm, hz⟩ := x.ns
    exact ⟨m, hm.at' fun o e => kp _ o (fun h => hI (h ▸ lp)) e, hz⟩
  · obtain ⟨o, ho, hd⟩ := x.cell z b u hz hu
    exact ⟨o, kp b o (pne (z, b) (mem_of_lookup hz)) ho, hd⟩
  · obtain ⟨v, o, ho, hd⟩ := x.cellAlive p hp
    exact ⟨v, o, kp _ o (pne p hp) ho, hd⟩

theorem x_for {α : Type} {x : Str} {px pos : Pos} {iter : Expr} {body : List Stmt} {items : List α} {R : α → Value → Prop} {s : Shared} {Q : Flow → Shared → Prop} {E : Value → Shared → Prop}
    (hx : Stores c x) (S : Src c O iter items R) (hcl : c.wc = true) (J : Nat → Led → Led → (Str → Option Value) → Array GenState → Prop) (y : At c O s) (h0 : J 0 O c.Mu c.sg c.gs)
    (turn : ∀ i a v O' Mu sg gs T H s E', items[i]? = some a → R a v → J i O' Mu sg gs → At ((c.up (Mu ++ T) sg gs).set x v) (H ++ O') s →
      wpAny (model c.prog c.w) c.A (execs body c.env) (TurnEnd c T H (J (i + 1)) Q) E' s)
    (done : ∀ O' Mu sg gs s, J items.length O' Mu sg gs → At (c.up Mu sg gs) O' s → Q .next s)
    (hs : ∀ x, foldedSetIterable iter c.env x = pure x := by intro _; rfl) :
    wpAny (model c.prog c.w) c.A (exec (.For (.Name x px) iter body [] pos) c.env) Q E s := by
  refine wpAny_For (S s E _ y fun I fq St s₂ k₂ W st live hIn off mod => ?_) hs
  have hx' : ∀ Mu sg gs, Stores (c.up Mu sg gs) x := fun Mu sg gs => by
    cases hx with
    | loc a b d e => exact .loc a b d e
    | cell a b d e f => exact .cell a b d e f
  have hB : ∀ o, c.B.get? I ≠ some o := fun o e => by rw [y.base I o e] at hIn; cases hIn
  have live1 : ∀ i h, St i h → ∀ b ∈ fq, h.get? b ≠ none := fun i h hs b hb => live i h hs b (List.mem_cons_of_mem _ hb)
  have liveI : ∀ i h, St i h → ∃ o, h.get? I = some o := fun i h hs => Option.ne_none_iff_exists'.mp (live i h hs I (.head _))
  refine codeAny_forLoop (fun k s' => ∃ i O' Mu sg gs, i ≤ items.length ∧ k = items.length - i ∧ J i O' Mu sg gs ∧ At (c.up (Mu ++ Mine.holds s'.heap [I]) sg gs) (Mine.holds s'.heap fq ++ O') s' ∧ St i s'.heap) ?_ items.length ?_
  · rintro n s₃ ⟨i, O', Mu, sg, gs, hi, rfl, hJ, x₃, st₃⟩
    have Ipl : I ∈ (c.up (Mu ++ Mine.holds s₃.heap [I]) sg gs).places := Cx.mem_places.mpr (.inr (.inr ⟨_, List.mem_append_right _ (.head _)⟩))
    have x₄ : At (c.up Mu sg gs) (Mine.holds s₃.heap fq ++ O') s₃ := At.drop (c := c.up Mu sg gs) x₃
    have hO' : ∀ p ∈ O', p.1 ≠ I := fun p hp h => x₃.offO p (List.mem_append_right _ hp) (h ▸ Ipl)
    have offI : I ∉ (c.up Mu sg gs).places := by
      have nd := x₃.nodup
      unfold Cx.places at nd ⊢
      dsimp only at nd ⊢
      rw [List.map_append, ← List.append_assoc, ← List.cons_append, List.nodup_append] at nd
      intro h
      exact nd.2.2 I h I (by simp [Mine.holds]) rfl
    have offF : ∀ b ∈ fq, b ∉ (c.up Mu sg gs).places := fun b hb => x₄.offO (b, _) (List.mem_append_left _ (List.mem_map.mpr ⟨b, hb, rfl⟩))
    have x₄' : At (c.up Mu sg gs) O' s₃ := x₄.sub fun p hp => List.mem_append_right _ hp
    have nw : ∀ {P : Prop}, (c.up Mu sg gs).wc = false → P := fun h => absurd (hcl.symm.trans h) (by simp)
    by_cases hlt : i < items.length
    · refine W.item i s₃ _ _ hlt st₃ fun v h' tk ⟨a, ha, hR⟩ st₄ k₄ => ?_
      have x₅ : At (c.up Mu sg gs) O' { s₃ with heap := h', toks := tk } := x₄'.moved (fp := []) ⟨h', tk, rfl, k₄⟩ offI hO' hB (fun h => nw h)
      obtain ⟨oI, eI⟩ := liveI _ _ st₄
      have x₆ : At (c.up (Mu ++ Mine.holds h' [I]) sg gs) (Mine.holds h' fq ++ O') { s₃ with heap := h', toks := tk } := by
        refine At.addMu (c := c.up Mu sg gs) (p := (I, fun o => h'.get? I = some o)) (x₅.holds (live1 _ _ st₄) offF) ⟨oI, eI, eI⟩ offI ?_ hB
        intro q hq
        rcases List.mem_append.mp hq with h | h
        · obtain ⟨b, hb, rfl⟩ := List.mem_map.mp h
          exact (off b hb).2
        · exact hO' q h
      refine wpAny_assign_Name (w_store (c := c.up (Mu ++ Mine.holds h' [I]) sg gs) (hx' _ sg gs) x₆ fun s₇ _ x₇ => ?_)
      refine wpAny_mono (turn i a v O' Mu sg gs _ _ s₇ _ ha hR hJ x₇) (fun f s₈ h₈ => ?_) fun _ _ e => e
      have fin : (∃ O Mu sg gs, J (i + 1) O Mu sg gs ∧ At (c.up (Mu ++ Mine.holds h' [I]) sg gs) (Mine.holds h' fq ++ O) s₈) → ∃ m, m < items.length - i ∧ ∃ j O'' Mu sg gs, j ≤ items.length ∧ m = items.length - j ∧ J j O'' Mu sg gs ∧
          At (c.up (Mu ++ Mine.holds s₈.heap [I]) sg gs) (Mine.holds s₈.heap fq ++ O'') s₈ ∧ St j s₈.heap := by
        rintro ⟨O₉, Mu₉, sg₉, gs₉, hJ₉, x₉⟩
        have keepI : ∀ o, h'.get? I = some o → s₈.heap.get? I = some o := fun o e => holds_get (fp := [I]) (.head _) (fun p hp => x₉.mu p (List.mem_append_right _ hp)) e
        have keepF : ∀ b ∈ fq, ∀ o, h'.get? b = some o → s₈.heap.get? b = some o := fun b hb o e => holds_get hb (fun p hp => x₉.own p (List.mem_append_left _ hp)) e
        have st₉ : St (i + 1) s₈.heap := W.frame _ _ _ st₄ fun b hb o e => by
          rcases List.mem_cons.mp hb with rfl | hb
          · exact keepI o e
          · exact keepF b hb o e
        have eH : Mine.holds s₈.heap fq = Mine.holds h' fq := by
          refine List.map_congr_left fun b hb => ?_
          obtain ⟨o, e⟩ := Option.ne_none_iff_exists'.mp (live1 _ _ st₄ b hb)
          rw [e, keepF b hb o e]
        have eI' : Mine.holds s₈.heap [I] = Mine.holds h' [I] := by
          refine List.map_congr_left fun b hb => ?_
          rw [List.mem_singleton.mp hb, eI, keepI oI eI]
        exact ⟨items.length - (i + 1), by omega, i + 1, O₉, Mu₉, sg₉, gs₉, hlt, rfl, hJ₉, by rw [eH, eI']; exact x₉, st₉⟩
      cases f with
      | next => exact fin h₈
      | cont => exact fin h₈
      | brk => exact h₈
      | ret v => exact h₈
    · have hin : i = items.length := by omega
      subst hin
      refine W.done s₃ _ _ st₃ fun h' tk k₄ => ?_
      exact wpAny_execs_nil (done O' Mu sg gs _ hJ (x₄'.moved (fp := []) ⟨h', tk, rfl, k₄⟩ offI hO' hB (fun h => nw h)))
  · obtain ⟨oI, eI⟩ := liveI _ _ st
    have x₂ := y.keeps k₂
    refine ⟨0, O, c.Mu, c.sg, c.gs, Nat.zero_le _, rfl, h0, ?_, st⟩
    refine At.addMu (c := c) (Mu := c.Mu) (p := (I, fun o => s₂.heap.get? I = some o)) (x₂.holds (live1 _ _ st) fun b hb => (off b hb).1) ⟨oI, eI, eI⟩ (fun h => y.alive h hIn) ?_ hB
    intro q hq
    rcases List.mem_append.mp hq with h | h
    · obtain ⟨b, hb, rfl⟩ := List.mem_map.mp h
      exact (off b hb).2
    · intro e
      obtain ⟨o, eo, _⟩ := y.own q h
      rw [e, hIn] at eo; cases eo
end
end Mine

namespace Mine

/-- the names within a comprehension -/
def csg (sg : Str → Option Value) (cl : List (Str × Addr)) (x : Str) (v : Value) : Str → Option Value := fun y => if y = x then some v else if (cl.lookup y).isSome then sg y else none
theorem csg_same {sg : Str → Option Value} {cl : List (Str × Addr)} {x : Str} {v : Value} : csg sg cl x v x = some v := if_pos rfl
theorem csg_cell {sg : Str → Option Value} {cl : List (Str × Addr)} {x y : Str} {v u : Value} {a : Addr} (h : y ≠ x) (ha : cl.lookup y = some a) (hu : sg y = some u) : csg sg cl x v y = some u := by
  unfold csg; rw [if_neg h, ha]; simpa using hu
abbrev Cx.comp (c : Cx) (scope : Scope) (cl : List (Str × Addr)) (C : Addr) (sg : Str → Option Value) : Cx := { c with env := compEnvC scope cl C c.env, wc := false, sg := sg }

def testsOf (ifs : List Expr) (env : Env) : Sem Bool := forIn ifs true fun c r => if r = true then do let ok ← isTrue c env (eval c env); pure (ForInStep.yield ok) else pure (ForInStep.yield r)
theorem ts_nil {c : Cx} {O : Led} : TV c O (testsOf [] c.env) (· = true) := fun s E x => wpAny_tests_nil ⟨rfl, Kp.refl s⟩
theorem ts_one {c : Cx} {O : Led} {e : Expr} {b : Bool} (h : TV c O (isTrue e c.env (eval e c.env)) (· = b)) : TV c O (testsOf [e] c.env) (· = b) := fun s E x => wpAny_tests_one (h s E x)

/-- what a comprehension's scope must be -/
structure ScopeOk (scope : Scope) : Prop where
  cell : ∀ y ∈ scope.names, y.2 ≠ .cell
  kind : scope.kind = .function
  names : ∀ y ∈ scope.names, y.2 = .local → scope.names.lookup y.1 = some .local

section
variable {c : Cx} {O : Led}

/-- a comprehension's loop, its targets assigned in whatever way: what holds of the map of names behind the targets' assignment is bind -/
theorem compLoop_any {prog : Program} {w : World} {A : Around} {R : Result → Shared → Prop} {s : Shared} {elt target iter : Expr} {ifs : List Expr} {scope : Scope} {pos : Pos} {it acc : Value} {env : Env} (I : Nat → Shared → Prop)
    (turn : ∀ n s, I n s → wpAny (model prog w) A (pyNext it) (fun r s₁ => match r with
      | none => R (.ok .next) s₁
      | some v => wpAny (model prog w) A (letOwnedTupleGo target it v) (fun _ s₁' => wpAny (model prog w) A (assign target env v) (fun _ s₂ =>
          wpAny (model prog w) A (testsOf ifs env) (fun ok s₃ =>
            if ok = true then wpAny (model prog w) A (eval elt env) (fun x s₄ =>
              wpAny (model prog w) A (call (.builtin "list.append") [acc, x]) (fun _ s₅ => ∃ m, m < n ∧ I m s₅) (notedBy (model prog w) A env fun e s' => R (.error e) s') s₄) (notedBy (model prog w) A env fun e s' => R (.error e) s') s₃
            else ∃ m, m < n ∧ I m s₃) (notedBy (model prog w) A env fun e s' => R (.error e) s') s₂) (notedBy (model prog w) A env fun e s' => R (.error e) s') s₁') (notedBy (model prog w) A env fun e s' => R (.error e) s') s₁) (notedBy (model prog w) A env fun e s' => R (.error e) s') s)
    (n : Nat) (h : I n s) : codeAny (model prog w) A (.compLoop (.ListComp elt [⟨target, iter, ifs, 0⟩] scope pos) 0 it acc env) R s := by
  refine codeAny_loop rfl I (fun n s hI => ?_) n h
  show wpAny _ A ((compTurn (.ListComp elt [⟨target, iter, ifs, 0⟩] scope pos) 0 it acc env).onRaise (fun x => do noteFrame x env; theTreesLotGoes x)) _ _ s
  refine wpAny_noted ?_
  rw [compTurn_list]
  refine wpAny_bind (wpAny_standAt (wpAny_bind (wpAny_mono (turn n s hI) (fun r s₁ h₁ => ?_) fun _ _ h' => h')))
  cases r with
  | none => exact wpAny_pure h₁
  | some v =>
    refine wpAny_bind (wpAny_mono h₁ (fun _ s₁' h₁' => ?_) fun _ _ h' => h')
    refine wpAny_bind (wpAny_mono h₁' (fun _ s₂ h₂ => wpAny_bind (wpAny_mono h₂ (fun ok s₃ h₃ => ?_) fun _ _ h' => h')) fun _ _ h' => h')
    cases ok with
    | false => exact wpAny_pure ⟨rfl, h₃⟩
    | true => exact wpAny_bind (wpAny_bind (wpAny_mono h₃ (fun x s₄ h₄ => wpAny_bind (wpAny_mono h₄ (fun _ s₅ h₅ => wpAny_pure (wpAny_pure ⟨rfl, h₅⟩)) fun _ _ h' => h')) fun _ _ h' => h'))

theorem comp_core {α : Type} {target iter elt : Expr} {ifs : List Expr} {scope : Scope} {pos : Pos} {items : List α} {R : α → Value → Prop} {cl : List (Str × Addr)} {s s₂ : Shared} {E : Value → Shared → Prop}
    {I : Addr} {fq : List Addr} {St : Nat → Heap → Prop} {RR : Value → Addr → Result → Shared → Prop}
    (p : α → Bool) (F : α → Value → Led → Prop) (hF : ∀ a y N N', F a y N → (∀ q ∈ N, q ∈ N') → F a y N') (sgv : α → Value → Str → Option Value)
    (hcl : ∀ y a, cl.lookup y = some a → c.env.cells.lookup y = some a) (hclm : ∀ p ∈ cl, p ∈ c.env.cells) (so : ScopeOk scope)
    (bind : ∀ (C : Addr) (v : Value) (a : α) (s₃ : Shared) (m : Str → Option Value) (Q : Unit → Shared → Prop) (E' : Value → Shared → Prop), R a v → At c O s₃ → s₃.heap.Ns C m →
      (∀ s₄ m', Alt [C] s₃ s₄ → s₄.heap.Ns C m' → (∀ y u, (relabel scope c.env).names.lookup y = some .local → sgv a v y = some u → m' y = some u) → Q () s₄) → wpAny (model c.prog c.w) c.A (assign target (compEnvC scope cl C c.env) v) Q E' s₃)
    (hcs : ∀ x v y a u, cl.lookup y = some a → sgv x v y = some u → c.sg y = some u)
    (tests : ∀ (i : Nat) a v C, items[i]? = some a → R a v → TV (c.comp scope cl C (sgv a v)) O (testsOf ifs (compEnvC scope cl C c.env)) (· = p a))
    (elem : ∀ (i : Nat) a v C, items[i]? = some a → R a v → p a = true → Tr (c.comp scope cl C (sgv a v)) O (eval elt (compEnvC scope cl C c.env)) (F a))
    (hn : items.length ≤ 100000) (y : At c O s) (k₂ : Kp s s₂) (W : Walks c.prog c.w c.A I (I :: fq) [I] items.length (fun i v => ∃ a, items[i]? = some a ∧ R a v) St) (st : St 0 s₂.heap)
    (hIn : s.heap.get? I = none) (live : ∀ i h, St i h → ∀ b ∈ I :: fq, h.get? b ≠ none)
    (ht : ∀ i h, St i h → Modest h I)
    (hRR : ∀ D C s' ys N m, Kp s s' → At c ((D, LP ys) :: (N ++ O)) s' → (∀ q ∈ (D, LP ys) :: N, s.heap.get? q.1 = none) → s'.heap.Ns C m → s.heap.get? C = none → C ∉ c.places → (∀ q ∈ (D, LP ys) :: (N ++ O), q.1 ≠ C) →
      Paired (fun a y => F a y N) (items.filter p) ys → RR (.ref D) C (.ok .next) s') :
    wpAny (model c.prog c.w) c.A (newList []) (fun acc s₃ => wpAny (model c.prog c.w) c.A (newFunctionEnv scope c.env.globals cl [] c.env.qual none .none (some c.env)) (fun cenv s₄ =>
      codeAny (model c.prog c.w) c.A (.compStart (.ListComp elt [⟨target, iter, ifs, 0⟩] scope pos) 0 (.ref I) acc { cenv with scope := relabel scope c.env }) (RR acc cenv.locals) s₄) E s₃) E s₂ := by
  have alive := live 0 _ st
  refine wpAny_newObj_type (wpAny_newFunctionEnv so.cell (by intro y hy; simp at hy) (fun h₁ hns₁ hsb₁ => ?_) so.kind)
  dsimp only at hns₁ hsb₁ ⊢
  generalize hH2 : s₂.heap.push { cls := .type "list", dict := none, data := .seq ([] : List Value).toArray } = H2 at hns₁ hsb₁ ⊢
  have hC : H2.objs.size = s₂.heap.objs.size + 1 := by rw [← hH2, Heap.size_push]
  generalize hDe : s₂.heap.objs.size = D at hC ⊢
  generalize hCe : H2.objs.size = C at hC hns₁ hsb₁ ⊢
  have hDC : D ≠ C := by rw [hC]; exact Nat.ne_of_lt (Nat.lt_succ_self _)
  have belowC : ∀ b : Nat, b < D → b ≠ C := fun b hb => by rw [hC]; exact Nat.ne_of_lt (Nat.lt_succ_of_lt hb)
  have below : ∀ b : Nat, s₂.heap.get? b ≠ none → b < D := fun b hb => by
    obtain ⟨o, e⟩ := Option.ne_none_iff_exists'.mp hb
    rw [← hDe]; exact Heap.lt_size e
  have old : ∀ b o, s₂.heap.get? b = some o → h₁.get? b = some o := fun b o e => by
    have hb := below b (by rw [e]; simp)
    exact hsb₁.extBut b o (belowC b hb) (Heap.get?_push_of_some _ (hH2 ▸ Heap.get?_push_of_some _ e))
  have hacc : h₁.PlainList D #[] := ⟨_, hsb₁.extBut _ _ hDC (Heap.get?_push_of_some _ (hH2 ▸ hDe ▸ Heap.get?_push_size _ rfl))⟩
  have hst₁ : St 0 h₁ := W.frame _ _ _ st fun b _ o e => old b o e
  have IneD : I ≠ D := Nat.ne_of_lt (below I (alive I (.head _)))
  have IneC : I ≠ C := belowC I (below I (alive I (.head _)))
  have fneD : ∀ b ∈ fq, b ≠ D := fun b hb => Nat.ne_of_lt (below b (alive b (.tail _ hb)))
  have fneC : ∀ b ∈ fq, b ≠ C := fun b hb => belowC b (below b (alive b (.tail _ hb)))
  have aliveS : ∀ b o, s.heap.get? b = some o → b ≠ I ∧ b ≠ D ∧ b ≠ C := fun b o e => by
    have h2 := below b (by rw [k₂.get e]; simp)
    refine ⟨fun h => ?_, Nat.ne_of_lt h2, belowC b h2⟩
    rw [h, hIn] at e; cases e
  have noneD : s.heap.get? D = none := by
    cases q : s.heap.get? D with
    | none => rfl
    | some o => exact absurd rfl (aliveS D o q).2.1
  have noneC : s.heap.get? C = none := by
    cases q : s.heap.get? C with
    | none => rfl
    | some o => exact absurd rfl (aliveS C o q).2.2
  have plNe : ∀ a, a ∈ c.places → a ≠ I ∧ a ≠ D ∧ a ≠ C := fun a ha => by
    obtain ⟨o, e⟩ := Option.ne_none_iff_exists'.mp (y.alive ha)
    exact aliveS a o e
  obtain ⟨h₂, t₂, rfl, kk₂⟩ := k₂
  dsimp only at old hst₁ hDe
  -- the invariant
  have loop : ∀ s₃ : Shared, s₃ = { s with heap := h₁, toks := t₂ } →
      codeAny (model c.prog c.w) c.A (.compLoop (.ListComp elt [⟨target, iter, ifs, 0⟩] scope pos) 0 (.ref I) (.ref D) (compEnvC scope cl C c.env)) (RR (.ref D) C) s₃ := by
    rintro s₃ rfl
    refine compLoop_any (fun k s' => ∃ i ys N m, i ≤ items.length ∧ k = items.length + 1 - i ∧ Kp s s' ∧ St i s'.heap ∧ s'.heap.PlainList D ys ∧ s'.heap.Ns C m ∧
      (∀ q ∈ N, s.heap.get? q.1 = none ∧ Has s'.heap q ∧ q.1 ≠ I ∧ q.1 ≠ D ∧ q.1 ≠ C) ∧ Paired (fun a y => F a y N) ((items.take i).filter p) ys.toList) ?_ (items.length + 1)
      ⟨0, #[], [], _, Nat.zero_le _, rfl, ⟨h₁, t₂, rfl, fun b o e => old b o (kk₂ b o e)⟩, hst₁, hacc, hns₁, (fun q hq => (nomatch hq)), by simpa using Paired.nil⟩
    rintro k s' ⟨i, ys, N, m, hi, rfl, kp, sti, hys, hns, hN, hP⟩
    have kp' : ∀ {b : Addr} {o : Obj}, s.heap.get? b = some o → s'.heap.get? b = some o := fun e => kp.get e
    by_cases hlt : i < items.length
    · refine W.item i s' _ _ hlt sti fun v h' tk ⟨a, ha, hR⟩ st' k' => ?_
      have kI : ∀ b o, b ≠ I → s'.heap.get? b = some o → h'.get? b = some o := fun b o hb e => k' b o (by simpa using hb) e
      have kp1 : Kp s { s' with heap := h', toks := tk } := by
        obtain ⟨h4, t4, rfl, k4⟩ := kp
        exact ⟨h', tk, rfl, fun b o e => kI b o (aliveS b o e).1 (k4 b o e)⟩
      have y1 : At c O { s' with heap := h', toks := tk } := y.keeps kp1
      refine w_letgo_of (ht _ _ st') ?_
      refine bind C v a _ m _ _ hR y1 (hns.at' fun o e => kI C o (Ne.symm IneC) e) fun s₄ m' al hns₄ hm' => ?_
      have kC : ∀ {b : Addr} {o : Obj}, b ≠ C → h'.get? b = some o → s₄.heap.get? b = some o := fun hb e => al.get (by simpa using hb) e
      have kp2 : Kp s s₄ := by
        obtain ⟨h4, t4, rfl, k4⟩ := al
        obtain ⟨h5, t5, rfl, k5⟩ := kp
        exact ⟨h4, t4, rfl, fun b o e => k4 b o (by simpa using (aliveS b o e).2.2) (kp1.get e)⟩
      have hN4 : ∀ q ∈ N, Has s₄.heap q := fun q hq => (hN q hq).2.1.keep fun o e => kC (hN q hq).2.2.2.2 (kI _ o (hN q hq).2.2.1 e)
      have x₄ : At (c.comp scope cl C (sgv a v)) (N ++ O) s₄ := by
        have z := y.keeps kp2
        refine ⟨z.base, fun q hq => ?_, z.mu, ⟨m', hns₄, fun w u hw hu => hm' w u hw hu⟩, fun w b u hw hu => ?_, fun w hw => z.cellAlive w (hclm w hw), ?_, fun q hq h => ?_, fun b o e h => ?_, z.gens, z.os, z.kin, z.tg, z.tb, z.nl⟩
        · rcases List.mem_append.mp hq with hq | hq
          · exact hN4 q hq
          · exact z.own q hq
        · exact z.cell w b u (hcl w b hw) (hcs a v w b u hw hu)
        · have nd := y.nodup
          unfold Cx.places at nd ⊢
          rw [List.nodup_cons, List.nodup_append] at nd
          show (C :: ([] ++ c.Mu.map (·.1))).Nodup
          rw [List.nil_append, List.nodup_cons]
          refine ⟨fun h => ?_, nd.2.2.1⟩
          obtain ⟨q, hq, e⟩ := List.mem_map.mp h
          exact (plNe C (Cx.mem_places.mpr (.inr (.inr ⟨q.2, by rw [← e]; exact hq⟩)))).2.2 rfl
        · rcases Cx.mem_places.mp h with h | ⟨h, _⟩ | ⟨r, h⟩
          · have h : q.1 = C := h
            rcases List.mem_append.mp hq with hq | hq
            · exact (hN q hq).2.2.2.2 h
            · obtain ⟨o, eo, _⟩ := y.own q hq
              exact (aliveS _ o eo).2.2 h
          · cases h
          · have hpl : q.1 ∈ c.places := Cx.mem_places.mpr (.inr (.inr ⟨r, h⟩))
            rcases List.mem_append.mp hq with hq | hq
            · exact y.alive hpl (hN q hq).1
            · exact y.offO q hq hpl
        · rcases Cx.mem_places.mp h with h | ⟨h, _⟩ | ⟨r, h⟩
          · have h : b = C := h
            exact (aliveS _ o (y.base b o e)).2.2 h
          · cases h
          · exact y.offB b o e (Cx.mem_places.mpr (.inr (.inr ⟨r, h⟩)))
      have st₄ : St (i + 1) s₄.heap := W.frame _ _ _ st' fun b hb o e => by
        rcases List.mem_cons.mp hb with rfl | hb
        · exact kC IneC e
        · exact kC (fneC b hb) e
      have hys₄ : s₄.heap.PlainList D ys := hys.at fun o e => kC hDC (kI D o (Ne.symm IneD) e)
      refine ((tests i a v C ha hR).weak (O' := N ++ O) fun q hq => List.mem_append_right _ hq).use x₄ fun ok s₅ hok k₅ x₅ => ?_
      subst hok
      have kp5 := kp2.trans k₅
      have st₅ : St (i + 1) s₅.heap := W.frame _ _ _ st₄ fun b _ o e => k₅.get e
      have hys₅ : s₅.heap.PlainList D ys := hys₄.at fun o e => k₅.get e
      cases hpa : p a with
      | false =>
        simp only [Bool.false_eq_true, if_false]
        refine ⟨items.length + 1 - (i + 1), by omega, i + 1, ys, N, m', hlt, rfl, kp5, st₅, hys₅, hns₄.keeps fun b o e => k₅.get e, fun q hq => ⟨(hN q hq).1, (hN4 q hq).keep fun o e => k₅.get e, (hN q hq).2.2⟩, ?_⟩
        rw [take_succ_filter p _ i a ha, hpa]; simpa using hP
      | true =>
        simp only [if_true]
        refine ((elem i a v C ha hR hpa).weak (O' := N ++ O) fun q hq => List.mem_append_right _ hq).use x₅ fun u s₆ N' hu g₆ x₆ => ?_
        have hsz : ys.size ≤ sizeLine := by
          have e1 := hP.length
          have e2 : ((items.take i).filter p).length ≤ (items.take i).length := List.length_filter_le _ _
          have e3 : (items.take i).length ≤ items.length := by rw [List.length_take]; omega
          have e4 : ys.toList.length = ys.size := by simp
          exact small_line (by omega)
        refine wpAny_list_append_plain (hsz := hsz) (hys₅.at fun o e => g₆.1.get e) fun h₇ hl₇ hs₇ => ?_
        have kD : ∀ {b : Addr} {o : Obj}, b ≠ D → s₆.heap.get? b = some o → h₇.get? b = some o := fun hb e => hs₇.extBut _ _ hb e
        have new : ∀ q ∈ N', q.1 ≠ I ∧ q.1 ≠ D ∧ q.1 ≠ C := fun q hq => by
          have hq' := (g₆.2 q hq).1
          refine ⟨fun h => ?_, fun h => ?_, fun h => ?_⟩
          · rw [h] at hq'
            exact live _ _ st₅ I (.head _) hq'
          · rw [h] at hq'
            obtain ⟨n, e⟩ := hys₅
            rw [e] at hq'; cases hq'
          · rw [h] at hq'
            obtain ⟨o, _, _, e, _⟩ := hns₄
            rw [k₅.get e] at hq'; cases hq'
        have kp7 : Kp s { s₆ with heap := h₇ } := by
          obtain ⟨h8, t8, rfl, k8⟩ := kp5.trans g₆.1
          exact ⟨h₇, t8, rfl, fun b o e => kD (aliveS b o e).2.1 (k8 b o e)⟩
        refine ⟨items.length + 1 - (i + 1), by omega, i + 1, ys.push u, N' ++ N, m', hlt, rfl, kp7, ?_, hl₇, ?_, fun q hq => ?_, ?_⟩
        · refine W.frame _ _ _ st₅ fun b hb o e => kD ?_ (g₆.1.get e)
          rcases List.mem_cons.mp hb with rfl | hb
          · exact IneD
          · exact fneD b hb
        · exact (hns₄.keeps fun b o e => g₆.1.get (k₅.get e)).at' fun o e => kD (Ne.symm hDC) e
        · rcases List.mem_append.mp hq with hq | hq
          · exact ⟨kp5.none (g₆.2 q hq).1, (g₆.2 q hq).2.keep fun o e => kD (new q hq).2.1 e, new q hq⟩
          · exact ⟨(hN q hq).1, (hN4 q hq).keep fun o e => kD (hN q hq).2.2.2.1 (g₆.1.get (k₅.get e)), (hN q hq).2.2⟩
        · rw [take_succ_filter p _ i a ha, hpa]
          have h1 : Paired (fun a y => F a y (N' ++ N)) ((items.take i).filter p) ys.toList := hP.mono fun a y h => hF a y N _ h fun q hq => List.mem_append_right _ hq
          have h2 : F a u (N' ++ N) := hF a u N' _ hu fun q hq => List.mem_append_left _ hq
          simpa using Paired.snoc h1 h2
    · have hin : i = items.length := by omega
      subst hin
      refine W.done s' _ _ sti fun h' tk k' => ?_
      have kI : ∀ {b : Addr} {o : Obj}, b ≠ I → s'.heap.get? b = some o → h'.get? b = some o := fun hb e => k' _ _ (by simpa using hb) e
      have kp1 : Kp s { s' with heap := h', toks := tk } := by
        obtain ⟨h4, t4, rfl, k4⟩ := kp
        exact ⟨h', tk, rfl, fun b o e => kI (aliveS b o e).1 (k4 b o e)⟩
      obtain ⟨n, en⟩ := hys
      have hD' : Has h' (D, LP ys.toList) := ⟨_, kI (Ne.symm IneD) en, n, rfl⟩
      rw [List.take_length] at hP
      refine hRR D C _ ys.toList N m kp1 ?_ (fun q hq => ?_) (hns.at' fun o e => kI (Ne.symm IneC) e) noneC (fun h => (plNe C h).2.2 rfl) (fun q hq => ?_) hP
      · have := y.grow (N := (D, LP ys.toList) :: N) ⟨kp1, fun q hq => by
          rcases List.mem_cons.mp hq with rfl | hq
          · exact ⟨noneD, hD'⟩
          · exact ⟨(hN q hq).1, (hN q hq).2.1.keep fun o e => kI (hN q hq).2.2.1 e⟩⟩
        exact this
      · rcases List.mem_cons.mp hq with rfl | hq
        · exact noneD
        · exact (hN q hq).1
      · rcases List.mem_cons.mp hq with rfl | hq
        · exact hDC
        · rcases List.mem_append.mp hq with hq | hq
          · exact (hN q hq).2.2.2.2
          · obtain ⟨o, eo, _⟩ := y.own q hq
            exact (aliveS _ o eo).2.2
  exact codeAny_compStart_list (loop _ rfl) (W.self 0 _ _ _ hst₁ (loop _ rfl))
end
end Mine

namespace Mine

/-- the cells that a comprehension sees -/
def clOf (env : Env) : List (Str × NameKind) → List (Str × Addr) → List (Str × Addr)
  | [], acc => acc
  | (n, k) :: r, acc => if k == .free then (match env.cells.lookup n with | some a => clOf env r ((n, a) :: acc) | none => clOf env r acc) else clOf env r acc
def freeOk (env : Env) (names : List (Str × NameKind)) : Bool := names.all fun p => p.2 != .free || (env.cells.lookup p.1).isSome

theorem clOf_mem {env : Env} : ∀ {names : List (Str × NameKind)} {acc : List (Str × Addr)}, (∀ p ∈ acc, env.cells.lookup p.1 = some p.2) → ∀ p ∈ clOf env names acc, env.cells.lookup p.1 = some p.2
  | [], acc, h, p, hp => h p hp
  | (n, k) :: r, acc, h, p, hp => by
    unfold clOf at hp
    split at hp
    · split at hp
      · rename_i a ha
        refine clOf_mem (names := r) (acc := (n, a) :: acc) (fun q hq => ?_) p hp
        rcases List.mem_cons.mp hq with rfl | hq
        · exact ha
        · exact h q hq
      · exact clOf_mem (names := r) h p hp
    · exact clOf_mem (names := r) h p hp

theorem closureFor_eq {scope : Scope} {env : Env} (h : freeOk env scope.names = true) : closureFor scope env = pure (clOf env scope.names []) := by
  unfold closureFor
  have key : ∀ (names : List (Str × NameKind)) (acc : List (Str × Addr)), freeOk env names = true →
      (forIn names acc fun (x : Str × NameKind) (r : List (Str × Addr)) => (do if x.2 == .free then do let a ← cellOf env x.1; pure (ForInStep.yield ((x.1, a) :: r)) else pure (ForInStep.yield r) : Sem (ForInStep (List (Str × Addr))))) = pure (clOf env names acc) := by
    intro names
    induction names with
    | nil => intro acc _; rfl
    | cons x r ih =>
      intro acc hh
      obtain ⟨n, k⟩ := x
      unfold freeOk at hh
      rw [List.all_cons, Bool.and_eq_true] at hh
      rw [List.forIn_cons]
      unfold clOf
      cases hk : k == NameKind.free with
      | false =>
        simp only [hk, Bool.false_eq_true, if_false]
        rw [pure_bind]
        exact ih acc hh.2
      | true =>
        simp only [hk, if_true]
        have hk' : k = .free := by simpa using hk
        have h1 := hh.1
        rw [hk'] at h1
        cases hl : env.cells.lookup n with
        | none => rw [hl] at h1; simp at h1
        | some a =>
          have e : cellOf env n = pure a := by unfold cellOf; rw [hl]
          rw [e]
          simp only [pure_bind]
          exact ih _ hh.2
  have := key scope.names [] h
  first
    | exact (by rw [← bind_pure (pure (clOf env scope.names []) : Sem _), ← this]; rfl)
    | (simp only [bind_pure]; exact this)
    | (rw [show (pure (clOf env scope.names []) : Sem (List (Str × Addr))) = (pure (clOf env scope.names []) >>= pure) from rfl, ← this]; rfl)

abbrev Cx.cl (c : Cx) (scope : Scope) : List (Str × Addr) := clOf c.env scope.names []

/-- the looks at a comprehension's scope that the kernel makes -/
def scopeLook (c : Cx) (scope : Scope) : Bool :=
  freeOk c.env scope.names && scope.names.all (fun y => y.2 != .cell) && scope.names.all (fun y => y.2 != .local || (scope.names.lookup y.1 == some .local)) &&
  ((c.cl scope).map (·.1)).all (fun y => (relabel scope c.env).names.lookup y != some .local)

section
variable {c : Cx} {O : Led}

theorem scopeLook_ok {scope : Scope} (h : scopeLook c scope = true) (hk : scope.kind = .function) : ScopeOk scope := by
  unfold scopeLook at h
  simp only [Bool.and_eq_true] at h
  refine ⟨fun y hy => by have := List.all_eq_true.mp h.1.1.2 y hy; simpa using this, hk, fun y hy hl => ?_⟩
  have := List.all_eq_true.mp h.1.2 y hy
  rw [hl] at this
  simpa using this
theorem scopeLook_free {scope : Scope} (h : scopeLook c scope = true) : freeOk c.env scope.names = true := by
  unfold scopeLook at h
  simp only [Bool.and_eq_true] at h
  exact h.1.1.1
theorem scopeLook_apart {scope : Scope} (h : scopeLook c scope = true) {y : Str} {a : Addr} (ha : (c.cl scope).lookup y = some a) : (relabel scope c.env).names.lookup y ≠ some .local := by
  unfold scopeLook at h
  simp only [Bool.and_eq_true] at h
  have := List.all_eq_true.mp h.2 y (List.mem_map.mpr ⟨_, mem_of_lookup ha, rfl⟩)
  simpa using this
theorem cl_lookup {scope : Scope} {y : Str} {a : Addr} (h : (c.cl scope).lookup y = some a) : c.env.cells.lookup y = some a := clOf_mem (acc := []) (fun p hp => nomatch hp) _ (mem_of_lookup h)
theorem cl_mem {scope : Scope} (p : Str × Addr) (h : p ∈ c.cl scope) : p ∈ c.env.cells := mem_of_lookup (clOf_mem (acc := []) (fun p hp => nomatch hp) _ h)

/-- the name's target -/
theorem bind_name {scope : Scope} {x : Str} {px : Pos} (hl : scopeLook c scope = true) (hk : scope.kind = .function) (hx : scope.names.lookup x = some .local) {α : Type} {R : α → Value → Prop} :
    ∀ (C : Addr) (v : Value) (a : α) (s₃ : Shared) (m : Str → Option Value) (Q : Unit → Shared → Prop) (E' : Value → Shared → Prop), R a v → At c O s₃ → s₃.heap.Ns C m →
      (∀ s₄ m', Alt [C] s₃ s₄ → s₄.heap.Ns C m' → (∀ y u, (relabel scope c.env).names.lookup y = some .local → csg c.sg (c.cl scope) x v y = some u → m' y = some u) → Q () s₄) →
      wpAny (model c.prog c.w) c.A (assign (.Name x px) (compEnvC scope (c.cl scope) C c.env) v) Q E' s₃ := by
  intro C v a s₃ m Q E' _ _ hns k
  refine wpAny_assign_Name (wpAny_storeName_local (env := compEnvC scope (c.cl scope) C c.env) (lookup_relabel_local hx) hns (fun h' hn' hs' => k _ _ (Alt.of_same hs') hn' fun y u hy hu => ?_) (by simp [compEnvC, relabel, hk]))
  unfold csg at hu
  by_cases h : y = x
  · rw [if_pos h] at hu ⊢; exact hu
  · rw [if_neg h] at hu
    split at hu
    · rename_i hs
      obtain ⟨b, hb⟩ := Option.isSome_iff_exists.mp hs
      exact absurd hy (scopeLook_apart hl hb)
    · cases hu

theorem csg_sub {sg : Str → Option Value} {cl : List (Str × Addr)} {x : Str} {v : Value} (hx : cl.lookup x = none) : ∀ y a u, cl.lookup y = some a → csg sg cl x v y = some u → sg y = some u := by
  intro y a u ha hu
  unfold csg at hu
  by_cases h : y = x
  · rw [h, hx] at ha; cases ha
  · rw [if_neg h, ha] at hu; simpa using hu

theorem cl_not {scope : Scope} {x : Str} (hl : scopeLook c scope = true) (hx : scope.names.lookup x = some .local) : (c.cl scope).lookup x = none := by
  cases e : (c.cl scope).lookup x with
  | none => rfl
  | some a => exact absurd (lookup_relabel_local hx) (scopeLook_apart hl e)

theorem e_comp {α : Type} {x : Str} {px pos : Pos} {iter elt : Expr} {ifs : List Expr} {scope : Scope} {items : List α} {R : α → Value → Prop} (S : Src c O iter items R)
    (p : α → Bool) (F : α → Value → Led → Prop) (hF : ∀ a y N N', F a y N → (∀ q ∈ N, q ∈ N') → F a y N')
    (tests : ∀ (i : Nat) a v C, items[i]? = some a → R a v → TV (c.comp scope (c.cl scope) C (csg c.sg (c.cl scope) x v)) O (testsOf ifs (compEnvC scope (c.cl scope) C c.env)) (· = p a))
    (elem : ∀ (i : Nat) a v C, items[i]? = some a → R a v → p a = true → Tr (c.comp scope (c.cl scope) C (csg c.sg (c.cl scope) x v)) O (eval elt (compEnvC scope (c.cl scope) C c.env)) (F a))
    (hn : items.length ≤ 100000)
    (hl : scopeLook c scope = true := by rfl) (hk : scope.kind = .function := by rfl) (hx : scope.names.lookup x = some .local := by rfl)
    (hs : ∀ x, foldedSetIterable iter c.env x = pure x := by intro _; rfl) :
    Tr c O (eval (.ListComp elt [⟨.Name x px, iter, ifs, 0⟩] scope pos) c.env) (fun r N => ∃ D ys N1, r = .ref D ∧ N = (D, LP ys) :: N1 ∧ Paired (fun a y => F a y N1) (items.filter p) ys) := fun s E y => by
  rw [eval_ListComp]
  refine wpAny_comprehension_free (use := none) rfl hs (closureFor_eq (scopeLook_free hl)) hk (scopeLook_ok hl hk).names (S s E _ y fun I fq St s₂ k₂ W st live hIn off mod => ?_)
  refine comp_core (RR := fun acc C => compPost _ _ _ none _ acc C) p F hF (fun _ v => csg c.sg (c.cl scope) x v) (fun y a h => cl_lookup h) cl_mem (scopeLook_ok hl hk) (bind_name hl hk hx) (fun _ v => csg_sub (cl_not hl hx)) tests elem hn y k₂ W st hIn live mod ?_
  intro D C s' ys N m kp x' new hns nC pC neC hP
  refine ⟨m, hns, fun h' hs' => ⟨(D, LP ys) :: N, ⟨D, ys, N, rfl, rfl, hP⟩, ?_, fun q hq => ⟨new q hq, ?_⟩⟩⟩
  · obtain ⟨h1, t1, rfl, k1⟩ := kp
    exact ⟨h', t1, rfl, fun b o e => hs'.extBut b o (fun h => by rw [h, nC] at e; cases e) (k1 b o e)⟩
  · have hq' : q ∈ (D, LP ys) :: (N ++ O) := by
      rcases List.mem_cons.mp hq with h | h
      · exact h ▸ .head _
      · exact .tail _ (List.mem_append_left _ h)
    exact (x'.own q hq').keep fun o e => hs'.extBut _ o (neC q hq') e

theorem x_assign_comp {α : Type} {z : Str} {pz spos : Pos} {x : Str} {px pos : Pos} {iter elt : Expr} {ifs : List Expr} {scope : Scope} {items : List α} {R : α → Value → Prop} {s : Shared} {Q : Flow → Shared → Prop} {E : Value → Shared → Prop}
    (hz : Stores c z) (S : Src c O iter items R) (y : At c O s) (hwc : c.wc = true)
    (p : α → Bool) (F : α → Value → Led → Prop) (hF : ∀ a y N N', F a y N → (∀ q ∈ N, q ∈ N') → F a y N')
    (tests : ∀ (i : Nat) a v C, items[i]? = some a → R a v → TV (c.comp scope (c.cl scope) C (csg c.sg (c.cl scope) x v)) O (testsOf ifs (compEnvC scope (c.cl scope) C c.env)) (· = p a))
    (elem : ∀ (i : Nat) a v C, items[i]? = some a → R a v → p a = true → Tr (c.comp scope (c.cl scope) C (csg c.sg (c.cl scope) x v)) O (eval elt (compEnvC scope (c.cl scope) C c.env)) (F a))
    (hn : items.length ≤ 100000)
    (k : ∀ D ys N s', (∀ q ∈ (D, LP ys) :: N, s.heap.get? q.1 = none) → Paired (fun a y => F a y N) (items.filter p) ys → At (c.set z (.ref D)) ((D, LP ys) :: (N ++ O)) s' → Q .next s')
    (hsw : swapsWith (.ListComp elt [⟨.Name x px, iter, ifs, 0⟩] scope pos) (some (.Name z pz)) spos.line c.env = pure true := by rfl)
    (hl : scopeLook c scope = true := by rfl) (hk : scope.kind = .function := by rfl) (hx : scope.names.lookup x = some .local := by rfl)
    (hs : ∀ x, foldedSetIterable iter c.env x = pure x := by intro _; rfl) :
    wpAny (model c.prog c.w) c.A (exec (.Assign [.Name z pz] (.ListComp elt [⟨.Name x px, iter, ifs, 0⟩] scope pos) spos) c.env) Q E s := by
  rw [exec_Assign_Name_used _ _ _ _ hsw]
  refine wpAny_bind (wpAny_standAt (wpAny_bind ?_))
  show wpAny _ _ (do let _ ← comprehension (.ListComp elt [⟨.Name x px, iter, ifs, 0⟩] scope pos) scope c.env _ (newList []) false (eval iter c.env) (some (assign (.Name z pz) c.env))) _ _ s
  refine wpAny_bind (wpAny_mono (wpAny_comprehension_free (use := some (assign (.Name z pz) c.env)) (Q := fun _ s' => Q .next s') rfl hs (closureFor_eq (scopeLook_free hl)) hk (scopeLook_ok hl hk).names
    (S s E _ y fun I fq St s₂ k₂ W st live hIn off mod => ?_)) (fun _ s' hq => wpAny_pure (wpAny_pure hq)) fun _ _ e => e)
  refine comp_core (RR := fun acc C => compPost _ _ _ (some (assign (.Name z pz) c.env)) (fun _ s' => Q .next s') acc C) p F hF (fun _ v => csg c.sg (c.cl scope) x v) (fun y a h => cl_lookup h) cl_mem (scopeLook_ok hl hk) (bind_name hl hk hx) (fun _ v => csg_sub (cl_not hl hx)) tests elem hn y k₂ W st hIn live mod ?_
  intro D C s' ys N m kp x' new hns nC pC neC hP
  show wpAny _ _ (assign (.Name z pz) c.env (.ref D)) _ _ _
  refine wpAny_assign_Name (w_store hz x' fun s'' ⟨b, hb, al⟩ x'' => ?_)
  have hCp : C ∉ (c.set z (.ref D)).places := pC
  have hCB : ∀ o, c.B.get? C ≠ some o := fun o e => by rw [y.base C o e] at nC; cases nC
  have hCb : C ≠ b := fun h => pC (h ▸ hb)
  refine ⟨m, hns.at' fun o e => al.get (by simpa using hCb) e, fun h' hs' => k D ys N _ new hP (x''.moved (fp := []) (Alt.of_same (tk := s''.toks) hs') hCp neC hCB fun h => absurd (hwc.symm.trans h) (by simp))⟩
end
end Mine

namespace Mine

def csg2 (sg : Str → Option Value) (cl : List (Str × Addr)) (x y : Str) (u v : Value) : Str → Option Value := fun z => if z = y then some v else csg sg cl x u z

section
variable {c : Cx} {O : Led}

/-- a pair's parts, and the pair -/
def IsPair (O : Led) (a : Value × Value) (v : Value) : Prop := ∃ T, v = .ref T ∧ (T, TP [a.1, a.2]) ∈ O

theorem bind_pair {scope : Scope} {x y : Str} {px py pt : Pos} {k : Nat} (hh : c.A.handled = none) (hl : scopeLook c scope = true) (hk : scope.kind = .function) (hx : scope.names.lookup x = some .local) (hy : scope.names.lookup y = some .local) :
    ∀ (C : Addr) (v : Value) (a : Value × Value) (s₃ : Shared) (m : Str → Option Value) (Q : Unit → Shared → Prop) (E' : Value → Shared → Prop), IsPair O a v → At c O s₃ → s₃.heap.Ns C m →
      (∀ s₄ m', Alt [C] s₃ s₄ → s₄.heap.Ns C m' → (∀ z u, (relabel scope c.env).names.lookup z = some .local → csg2 c.sg (c.cl scope) x y a.1 a.2 z = some u → m' z = some u) → Q () s₄) →
      wpAny (model c.prog c.w) c.A (assign (.Tuple [.Name x px, .Name y py] k pt) (compEnvC scope (c.cl scope) C c.env) v) Q E' s₃ := by
  rintro C v ⟨u1, u2⟩ s₃ m Q E' ⟨T, rfl, hT⟩ z hns q
  refine wpAny_assign_Tuple hh (z.own _ hT).isTuple rfl rfl fun h₄ hx₄ => ?_
  have k₄ : ∀ b o, s₃.heap.get? b = some o → h₄.get? b = some o := fun b o e => hx₄ b o (Nat.ne_of_lt (Heap.lt_size e)) e
  have hns₄ : h₄.Ns C m := hns.keeps k₄
  show wpAny _ _ (do holding [u2] (assign (.Name x px) _ u1); do holding [] (assign (.Name y py) _ u2); pure ()) _ _ _
  refine wpAny_bind (wpAny_holding (wpAny_assign_Name (wpAny_storeName_local (env := compEnvC scope (c.cl scope) C c.env) (lookup_relabel_local hx) hns₄ (fun h₅ hn₅ hs₅ => ?_) (by simp [compEnvC, relabel, hk]))))
  refine wpAny_bind (wpAny_holding (wpAny_assign_Name (wpAny_storeName_local (env := compEnvC scope (c.cl scope) C c.env) (lookup_relabel_local hy) hn₅ (fun h₆ hn₆ hs₆ => wpAny_pure ?_) (by simp [compEnvC, relabel, hk]))))
  refine q _ _ ⟨h₆, _, rfl, fun b o hb e => ?_⟩ hn₆ fun w u hw hu => ?_
  · have hb' : b ≠ C := by simpa using hb
    exact (hs₆.2 b hb').trans ((hs₅.2 b hb').trans (k₄ b o e))
  · unfold csg2 csg at hu
    by_cases h1 : w = y
    · rw [if_pos h1] at hu ⊢; exact hu
    · rw [if_neg h1] at hu ⊢
      by_cases h2 : w = x
      · rw [if_pos h2] at hu ⊢; exact hu
      · rw [if_neg h2] at hu
        split at hu
        · rename_i hs
          obtain ⟨b, hb⟩ := Option.isSome_iff_exists.mp hs
          exact absurd hw (scopeLook_apart hl hb)
        · cases hu

theorem csg2_sub {sg : Str → Option Value} {cl : List (Str × Addr)} {x y : Str} {u v : Value} (hx : cl.lookup x = none) (hy : cl.lookup y = none) : ∀ z a w, cl.lookup z = some a → csg2 sg cl x y u v z = some w → sg z = some w := by
  intro z a w ha hw
  unfold csg2 at hw
  by_cases h : z = y
  · rw [h, hy] at ha; cases ha
  · rw [if_neg h] at hw
    exact csg_sub hx z a w ha hw

theorem e_comp2 {x x2 : Str} {px px2 pt pos : Pos} {kk : Nat} {iter elt : Expr} {ifs : List Expr} {scope : Scope} {items : List (Value × Value)} (hh : c.A.handled = none) (S : Src c O iter items (IsPair O))
    (p : Value × Value → Bool) (F : Value × Value → Value → Led → Prop) (hF : ∀ a y N N', F a y N → (∀ q ∈ N, q ∈ N') → F a y N')
    (tests : ∀ (i : Nat) a v C, items[i]? = some a → IsPair O a v → TV (c.comp scope (c.cl scope) C (csg2 c.sg (c.cl scope) x x2 a.1 a.2)) O (testsOf ifs (compEnvC scope (c.cl scope) C c.env)) (· = p a))
    (elem : ∀ (i : Nat) a v C, items[i]? = some a → IsPair O a v → p a = true → Tr (c.comp scope (c.cl scope) C (csg2 c.sg (c.cl scope) x x2 a.1 a.2)) O (eval elt (compEnvC scope (c.cl scope) C c.env)) (F a))
    (hn : items.length ≤ 100000)
    (hl : scopeLook c scope = true := by rfl) (hk : scope.kind = .function := by rfl) (hx : scope.names.lookup x = some .local := by rfl) (hx2 : scope.names.lookup x2 = some .local := by rfl)
    (hs : ∀ x, foldedSetIterable iter c.env x = pure x := by intro _; rfl) :
    Tr c O (eval (.ListComp elt [⟨.Tuple [.Name x px, .Name x2 px2] kk pt, iter, ifs, 0⟩] scope pos) c.env) (fun r N => ∃ D ys N1, r = .ref D ∧ N = (D, LP ys) :: N1 ∧ Paired (fun a y => F a y N1) (items.filter p) ys) := fun s E y => by
  rw [eval_ListComp]
  refine wpAny_comprehension_free (use := none) rfl hs (closureFor_eq (scopeLook_free hl)) hk (scopeLook_ok hl hk).names (S s E _ y fun I fq St s₂ k₂ W st live hIn off mod => ?_)
  refine comp_core (RR := fun acc C => compPost _ _ _ none _ acc C) p F hF (fun a _ => csg2 c.sg (c.cl scope) x x2 a.1 a.2) (fun y a h => cl_lookup h) cl_mem (scopeLook_ok hl hk) (bind_pair hh hl hk hx hx2) (fun _ _ => csg2_sub (cl_not hl hx) (cl_not hl hx2)) tests elem hn y k₂ W st hIn live mod ?_
  intro D C s' ys N m kp x' new hns nC pC neC hP
  refine ⟨m, hns, fun h' hs' => ⟨(D, LP ys) :: N, ⟨D, ys, N, rfl, rfl, hP⟩, ?_, fun q hq => ⟨new q hq, ?_⟩⟩⟩
  · obtain ⟨h1, t1, rfl, k1⟩ := kp
    exact ⟨h', t1, rfl, fun b o e => hs'.extBut b o (fun h => by rw [h, nC] at e; cases e) (k1 b o e)⟩
  · have hq' : q ∈ (D, LP ys) :: (N ++ O) := by
      rcases List.mem_cons.mp hq with h | h
      · exact h ▸ .head _
      · exact .tail _ (List.mem_append_left _ h)
    exact (x'.own q hq').keep fun o e => hs'.extBut _ o (neC q hq') e

theorem x_assign_comp2 {z : Str} {pz spos : Pos} {x x2 : Str} {px px2 pt pos : Pos} {kk : Nat} {iter elt : Expr} {ifs : List Expr} {scope : Scope} {items : List (Value × Value)} {s : Shared} {Q : Flow → Shared → Prop} {E : Value → Shared → Prop}
    (hz : Stores c z) (hh : c.A.handled = none) (S : Src c O iter items (IsPair O)) (y : At c O s) (hwc : c.wc = true)
    (p : Value × Value → Bool) (F : Value × Value → Value → Led → Prop) (hF : ∀ a y N N', F a y N → (∀ q ∈ N, q ∈ N') → F a y N')
    (tests : ∀ (i : Nat) a v C, items[i]? = some a → IsPair O a v → TV (c.comp scope (c.cl scope) C (csg2 c.sg (c.cl scope) x x2 a.1 a.2)) O (testsOf ifs (compEnvC scope (c.cl scope) C c.env)) (· = p a))
    (elem : ∀ (i : Nat) a v C, items[i]? = some a → IsPair O a v → p a = true → Tr (c.comp scope (c.cl scope) C (csg2 c.sg (c.cl scope) x x2 a.1 a.2)) O (eval elt (compEnvC scope (c.cl scope) C c.env)) (F a))
    (hn : items.length ≤ 100000)
    (k : ∀ D ys N s', (∀ q ∈ (D, LP ys) :: N, s.heap.get? q.1 = none) → Paired (fun a y => F a y N) (items.filter p) ys → At (c.set z (.ref D)) ((D, LP ys) :: (N ++ O)) s' → Q .next s')
    (hsw : swapsWith (.ListComp elt [⟨.Tuple [.Name x px, .Name x2 px2] kk pt, iter, ifs, 0⟩] scope pos) (some (.Name z pz)) spos.line c.env = pure true := by rfl)
    (hl : scopeLook c scope = true := by rfl) (hk : scope.kind = .function := by rfl) (hx : scope.names.lookup x = some .local := by rfl) (hx2 : scope.names.lookup x2 = some .local := by rfl)
    (hs : ∀ x, foldedSetIterable iter c.env x = pure x := by intro _; rfl) :
    wpAny (model c.prog c.w) c.A (exec (.Assign [.Name z pz] (.ListComp elt [⟨.Tuple [.Name x px, .Name x2 px2] kk pt, iter, ifs, 0⟩] scope pos) spos) c.env) Q E s := by
  rw [exec_Assign_Name_used _ _ _ _ hsw]
  refine wpAny_bind (wpAny_standAt (wpAny_bind ?_))
  show wpAny _ _ (do let _ ← comprehension (.ListComp elt [⟨.Tuple [.Name x px, .Name x2 px2] kk pt, iter, ifs, 0⟩] scope pos) scope c.env _ (newList []) false (eval iter c.env) (some (assign (.Name z pz) c.env))) _ _ s
  refine wpAny_bind (wpAny_mono (wpAny_comprehension_free (use := some (assign (.Name z pz) c.env)) (Q := fun _ s' => Q .next s') rfl hs (closureFor_eq (scopeLook_free hl)) hk (scopeLook_ok hl hk).names
    (S s E _ y fun I fq St s₂ k₂ W st live hIn off mod => ?_)) (fun _ s' hq => wpAny_pure (wpAny_pure hq)) fun _ _ e => e)
  refine comp_core (RR := fun acc C => compPost _ _ _ (some (assign (.Name z pz) c.env)) (fun _ s' => Q .next s') acc C) p F hF (fun a _ => csg2 c.sg (c.cl scope) x x2 a.1 a.2) (fun y a h => cl_lookup h) cl_mem (scopeLook_ok hl hk) (bind_pair hh hl hk hx hx2) (fun _ _ => csg2_sub (cl_not hl hx) (cl_not hl hx2)) tests elem hn y k₂ W st hIn live mod ?_
  intro D C s' ys N m kp x' new hns nC pC neC hP
  show wpAny _ _ (assign (.Name z pz) c.env (.ref D)) _ _ _
  refine wpAny_assign_Name (w_store hz x' fun s'' ⟨b, hb, al⟩ x'' => ?_)
  have hCp : C ∉ (c.set z (.ref D)).places := pC
  have hCB : ∀ o, c.B.get? C ≠ some o := fun o e => by rw [y.base C o e] at nC; cases nC
  have hCb : C ≠ b := fun h => pC (h ▸ hb)
  refine ⟨m, hns.at' fun o e => al.get (by simpa using hCb) e, fun h' hs' => k D ys N _ new hP (x''.moved (fp := []) (Alt.of_same (tk := s''.toks) hs') hCp neC hCB fun h => absurd (hwc.symm.trans h) (by simp))⟩
end
end Mine

namespace Mine

abbrev theP : Program := PySem.Challenge.pw_dm0182_01
def fnBody (i : Nat) : List Stmt := match theP.main.body[i]? with | some (.FunctionDef _ _ b _ _ _ _ _ _ _) => b | _ => []
def fnScope (i : Nat) : Scope := match theP.main.body[i]? with | some (.FunctionDef _ _ _ _ _ _ sc _ _ _) => sc | _ => default
def fnArgs (i : Nat) : Arguments := match theP.main.body[i]? with | some (.FunctionDef _ a _ _ _ _ _ _ _ _) => a | _ => default

/-- a def of the text, as the top leaves it -/
def fdOf (name : Str) (i : Nat) (cd : Addr) (pm : Value) : FuncData :=
  { name := name, qualname := name, params := fnArgs i, body := .stmts (fnBody i), scope := fnScope i, globals := mainGlobals, closure := [], defaults := .none, kwdefaults := .none, pyModule := pm, code := .ref cd, builtins := builtinsNs }

/-- what the written part of the heap must say -/
structure KOk (K : Frag) : Prop where
  get : plainGet K 32 "_ip" = true
  hasd : hasDictIn K 32 = true
  find : findIn K (.ref 32) "_ip" = some none
  makes : makesIn K 32 = true
  init : findIn K (.ref 32) "__init__" = some (some (.builtin "object.__init__"))
  seta : findIn K (.ref 32) "__setattr__" = some (some (.builtin "object.__setattr__"))
  over : plainOver K 32 = true
  taker : takerIn K 32 "_ip" = some none
  keep32 : keepIn K (.ref 32) = true
  keep43 : keepIn K (.ref 43) = true
  keep21 : keepIn K (.ref 21) = true
  fn43 : ∃ pm, K.lookup 43 = some ⟨.type "function", none, .func (fdOf "_law_box" 4 42 pm), #[]⟩
  code43 : codeIn K (.ref 42) "_law_box" = true
  fn21 : ∃ pm, K.lookup 21 = some ⟨.type "function", none, .func (fdOf "_find_address_range" 1 20 pm), #[]⟩
  code21 : codeIn K (.ref 20) "_find_address_range" = true

/-- the text's own names -/
structure Own (c : Cx) : Prop where
  std : Std c
  ok : KOk c.K
  room : c.A.depth + 10 < recursionLimit
  cls : c.mg "_BaseConstants" = some (.ref 32)
  box : c.mg "_law_box" = some (.ref 43)
  far : c.mg "_find_address_range" = some (.ref 21)

/-- a box with a value under _ip: the instance, its dict -/
def BP (d : Addr) (o : Obj) : Prop := o = instObj 32 d
def DP (v : Value) (o : Obj) : Prop := ∃ h t n, o = dictOf [⟨h, .str "_ip" t, v⟩] n
def Box (O : Led) (b : Addr) (v : Value) : Prop := ∃ d, (b, BP d) ∈ O ∧ (d, DP v) ∈ O
theorem Box.mono {O O' : Led} {b : Addr} {v : Value} (x : Box O b v) (h : ∀ p ∈ O, p ∈ O') : Box O' b v := let ⟨d, a, b⟩ := x; ⟨d, h _ a, h _ b⟩

section
variable {c : Cx} {O : Led}

theorem g_ip {b : Addr} {v : Value} {e : Bool} (o : Own c) (hb : Box O b v) (hv : handedIn v = true) : TV c O (getAttr (.ref b) "_ip" e) (· = v) := fun s E x => by
  obtain ⟨d, h1, h2⟩ := hb
  obtain ⟨ob, eb, rfl⟩ := x.own _ h1
  obtain ⟨od, ed, hh, t, n, rfl⟩ := x.own _ h2
  have I : W.InstAt s.heap b (instObj 32 d) 32 (some (dictOf [⟨hh, .str "_ip" t, v⟩] n)) := ⟨eb, rfl, rfl, ed⟩
  exact get_value x.In I (plainGet_of o.ok.get).1 (findObj_own o.ok.hasd o.ok.find rfl rfl) hv ⟨rfl, Kp.toks⟩
theorem e_ip {e : Expr} {pos : Pos} {b : Addr} {v : Value} (o : Own c) (h : TV c O (eval e c.env) (· = .ref b)) (hb : Box O b v) (hv : handedIn v = true)
    (he : eval (.Attribute e "_ip" pos) c.env = (do let o ← eval e c.env; standAt pos.atName; let r ← holding [o] (getAttr o "_ip" true); letTemporaryGo e o r; pure r) := by rfl) :
    TV c O (eval (.Attribute e "_ip" pos) c.env) (· = v) := fun s E x =>
  Attribute_any_ (h.use x fun u s₁ q k₁ x₁ => by subst q; exact (g_ip o hb hv).use x₁ fun u s₂ q k₂ _ => ⟨q, k₁.trans k₂⟩) he

set_option maxHeartbeats 1000000 in
theorem box_call {v : Value} (o : Own c) : Tr c O (call (.ref 43) [v]) (fun r N => ∃ b d, r = .ref b ∧ N = [(b, BP d), (d, DP v)]) := fun s E x => by
  obtain ⟨pm, hfn⟩ := o.ok.fn43
  have hroom : c.A.depth < recursionLimit := by have := o.room; omega
  refine wpAny_call (codeAny_call_def (fd := fdOf "_law_box" 4 42 pm) (body := fnBody 4) (binds := [(("number" : Str), v)]) hroom (x.In _ _ hfn) rfl x.nolimit (codeRec_of x.In o.ok.code43) rfl (BindsTo.of_eq rfl) (by show ∀ x ∈ (fnScope 4).names, x.2 ≠ .cell; decide) (locs rfl) (fun h₀ hns hk₀ => ?_))
  have F : Fr s.heap s.heap.objs.size h₀ _ := ⟨hns, hk₀, Nat.le_refl _⟩
  have N : News s.heap s.heap.objs.size h₀ [] := News.nil
  have X : c.K.In s.heap := x.In
  have G := x.gl
  refine wpAny_execs_cons (wpAny_Assign_Name (Call_Name0 (Name_function_global rfl rfl (loadGlobal_global (mg := c.mg) (G.keeps F.keep) o.cls ?_) (by decide))) rfl)
  refine callWith_of (P := c.K.In) rfl (keeps_K o.ok.keep32) (evalArgs_nil3 ⟨X.keeps F.keep, wpAny_call (make_K0 F N (X.keeps F.keep) o.ok.makes o.ok.init fun y dy h' F' N' lt1 lt2 => ?_)⟩)
  refine wpAny_storeName_local rfl F'.ns (fun h₂ hn₂ hs₂ => ?_) rfl
  have F₂ := F'.set hn₂ hs₂
  have N₂ := N'.set hs₂
  dsimp only
  refine wpAny_execs_cons (plainObj_wpAny_Assign_Attribute (wpAny_Name (wpAny_loadName_local rfl rfl F₂.ns (v := v) rfl ?_) (by decide)) rfl)
  refine wpAny_Name (wpAny_loadName_local rfl rfl F₂.ns (v := .ref y) rfl ?_) (by decide)
  have I : W.InstAt h₂ y (instObj 32 dy) 32 (some (dictOf [] 0)) := ⟨(N₂ _ (.head _)).1, rfl, rfl, (N₂ _ (.tail _ (.head _))).1⟩
  refine set_dict (es := []) (n := 0) F₂ X N₂ I rfl o.ok.seta o.ok.over o.ok.taker o.ok.hasd rfl rfl (.tail (Nat.ne_of_gt lt2) (.head (fun p hp => nomatch hp))) (by simp [putL]) fun h₃ F₃ N₃ => ?_
  dsimp only
  refine wpAny_execs_cons (wpAny_Return_some (wpAny_Name (wpAny_loadName_local rfl rfl F₃.ns (v := .ref y) rfl ?_) (by decide)))
  dsimp only
  refine ⟨_, ⟨y, dy, rfl, rfl⟩, ⟨h₃, _, rfl, F₃.keep⟩, fun p hp => ?_⟩
  rcases List.mem_cons.mp hp with rfl | hp
  · exact ⟨(N₃ _ (.head _)).2.2, _, (N₃ _ (.head _)).1, rfl⟩
  · rw [List.mem_singleton.mp hp]
    exact ⟨(N₃ _ (.tail _ (.head _))).2.2, _, (N₃ _ (.tail _ (.head _))).1, _, _, _, rfl⟩

theorem e_box {e : Expr} {p pos : Pos} {P : Value → Prop} (o : Own c) (h : TV c O (eval e c.env) P)
    (hk : c.env.kindOf "_law_box" = some .globalImplicit := by rfl) (hf : c.env.scope.kind = .function := by rfl) (hs : starEach [e] c.env = [(false, eval e c.env)] := by rfl) :
    Tr c O (eval (.Call (.Name "_law_box" p) [e] [] pos) c.env) (fun r N => ∃ v b d, P v ∧ r = .ref b ∧ N = [(b, BP d), (d, DP v)]) := fun s E x =>
  Call_Name1 ((e_glob o.box hk o.std.gl hf).use x fun f s₁ e₁ k₁ x₁ => by
    subst e₁
    refine callWith_of (P := c.K.In) (args := [(false, eval e c.env)]) rfl (keeps_K o.ok.keep43) (evalArgs_plain (spliced_cons (h.use x₁ fun v s₂ q k₂ x₂ => spliced_nil ⟨x₂.In, ?_⟩)))
    exact (box_call o).use x₂ fun r s₃ N ⟨b, d, h1, h2⟩ g _ => ⟨N, ⟨v, b, d, q, h1, h2⟩, by simpa using (Grow.nil (k₁.trans k₂)).trans g⟩) hs
end
end Mine

namespace Mine

/-- a tree over frames of a generator runs to an end of which Φ holds -/
def RT (M : Model) (A : Around) (c : Code) (t : Sem Fin) (fs : List Frame) (s : Shared) (Φ : End → Shared → Prop) : Prop :=
  ∀ Γ p, Γ.code = c → Γ.Woken A → ∃ e s', Runs M Γ p t fs s e s' ∧ Φ e s'

section
variable {M : Model} {A : Around} {c : Code} {fs : List Frame} {s : Shared} {Φ : End → Shared → Prop}

theorem rt_mono {Φ' : End → Shared → Prop} {t : Sem Fin} (h : RT M A c t fs s Φ) (k : ∀ e s', Φ e s' → Φ' e s') : RT M A c t fs s Φ' := fun Γ p hc hw =>
  let ⟨e, s', hr, hp⟩ := h Γ p hc hw; ⟨e, s', hr, k e s' hp⟩
theorem rt_wrap {α : Type} {m : Sem α} {K : α → Sem Fin} {H : Value → Sem Fin} {gd lv} (h : wpAny M (A.over c fs) m (fun a s' => RT M A c (K a) fs s' Φ) (fun x s' => RT M A c (H x) fs s' Φ) s) : RT M A c (m.wrap K H gd lv) fs s Φ := by
  rintro Γ p rfl hΓ
  exact runs_wrap_of_wp K H gd lv m (h (Γ.over fs) p (hΓ.over fs)) (fun a p' s' h' => h' Γ p' rfl hΓ) (fun x p' s' h' => h' Γ p' rfl hΓ)
theorem rt_at {p' : Pos} {k : Unit → Sem Fin} (h : RT M A c (k ()) fs s Φ) : RT M A c (.at p' k) fs s Φ := rt_wrap (m := standAt p') (K := k) (H := .raise) (gd := id) (lv := id) (wpAny_standAt h)
theorem rt_point {l : List Value} {k : Unit → Sem Fin} (h : RT M A c (k ()) fs s Φ) : RT M A c (.point l k) fs s Φ := rt_wrap (m := point) (K := k) (H := .raise) (gd := id) (lv := fun _ => l) (wpAny_point h)
theorem rt_call {c' : Code} {h g l} {k : Result → Sem Fin} (hc : ∀ p, RT M A c' (M.den c') (.ret k h g l c p [] :: fs) s Φ) : RT M A c (.call c' h g l k) fs s Φ := by
  rintro Γ p rfl hΓ
  obtain ⟨e, s', hr, he⟩ := hc p (Γ.goto c') p rfl (hΓ.goto c')
  exact ⟨e, s', runs_call_seg hr, he⟩
theorem rt_leaf {k h g l c₁ p₁ kp} (r : Result) (hk : RT M A c₁ (k r) fs s Φ) : RT M A c (leafOf r) (.ret k h g l c₁ p₁ kp :: fs) s Φ := by
  rintro Γ p rfl hΓ
  obtain ⟨e, s', hr, he⟩ := hk (Γ.goto c₁) p₁ rfl (hΓ.goto c₁)
  exact ⟨e, s', Runs.pop r hr, he⟩
theorem rt_again {c' : Code} (hq : c'.quiet = true) (hc : RT M A c' (M.den c') fs s Φ) : RT M A c (.pure (.again c')) fs s Φ := by
  rintro Γ p rfl hΓ
  obtain ⟨e, s', hr, he⟩ := hc (Γ.goto c') p rfl (hΓ.goto c')
  exact ⟨e, s', Runs.head (c₁ := c') (fun _ _ x => .again hq x) hr, he⟩
theorem rt_end (r : Result) (h : Φ (.ret r) s) : RT M A c (leafOf r) [] s Φ := by
  rintro Γ p rfl _
  exact ⟨.ret r, s, Runs.leaf r, h⟩
theorem rt_yield {v g l} {k : Resume → Sem Fin} (hfs : splitAtGen fs = none) (h : ∀ p, Φ (.susp v g l k c p fs) s) : RT M A c (.yield v g l k) fs s Φ := by
  rintro Γ p rfl _
  exact ⟨_, s, Runs.yield' fs hfs, h p⟩
end

section
variable {M : Model} {A : Around} {c : Code} {fs : List Frame} {s : Shared} {Φ : End → Shared → Prop} {env : Env} {K : Flow → Sem Fin} {H : Value → Sem Fin} {gd : Bool → Bool} {lv : List Value → List Value}

theorem rt_execs_nil (h : RT M A c (K .next) fs s Φ) : RT M A c ((execs [] env).wrap K H gd lv) fs s Φ := h
theorem rt_execs_cons {st : Stmt} {rest : List Stmt} (h : RT M A c ((exec st env).wrap (fun f => match f with | .next => (execs rest env).wrap K H gd lv | f => K f) H gd lv) fs s Φ) :
    RT M A c ((execs (st :: rest) env).wrap K H gd lv) fs s Φ := by rw [execs_cons_wrap]; exact h
/-- a statement that does not yield -/
theorem rt_stmt {st : Stmt} {rest : List Stmt} (h : wpAny M (A.over c fs) (exec st env) (fun f s' => match f with | .next => RT M A c ((execs rest env).wrap K H gd lv) fs s' Φ | f => RT M A c (K f) fs s' Φ) (fun x s' => RT M A c (H x) fs s' Φ) s) :
    RT M A c ((execs (st :: rest) env).wrap K H gd lv) fs s Φ := by
  refine rt_execs_cons (rt_wrap (wpAny_mono h (fun f s' h' => ?_) fun _ _ h' => h'))
  cases f <;> exact h'
theorem rt_If {test : Expr} {body orelse : List Stmt} {pos : Pos} (h : wpAny M (A.over c fs) (isTrue test env (eval test env)) (fun b s' => if b = true then RT M A c ((execs body env).wrap K H gd lv) fs s' Φ else RT M A c ((execs orelse env).wrap K H gd lv) fs s' Φ)
      (fun x s' => RT M A c (H x) fs s' Φ) s) : RT M A c ((exec (.If test body orelse pos) env).wrap K H gd lv) fs s Φ := by
  show RT M A c (.at pos fun _ => ((isTrue test env (eval test env) >>= fun b => if b = true then execs body env else execs orelse env)).wrap K H gd lv) fs s Φ
  refine rt_at ?_
  rw [Sem.bind_eq_wrap', Sem.wrap_wrap]
  refine rt_wrap (wpAny_mono h (fun b s' hb => ?_) fun _ _ x => x)
  cases b with
  | true => simpa using hb
  | false => simpa using hb
theorem rt_Yield {e : Expr} {ypos pos : Pos} (hfs : splitAtGen fs = none)
    (h : wpAny M (A.over c fs) (eval e env) (fun v s' => ∀ (kk : Resume → Sem Fin) (l : List Value) (p : Pos), (∀ x s'' Φ', (∀ a, x ≠ .ref a) → RT M A c (K .next) fs s'' Φ' → RT M A c (kk (.send x)) fs s'' Φ') → Φ (.susp v (gd false) l kk c p fs) s')
      (fun x s' => RT M A c (H x) fs s' Φ) s) (hco : env.scope.isCoroutine = false := by rfl) (hi : interactive env = false := by rfl) :
    RT M A c ((exec (.Expr (.Yield (some e) ypos) pos) env).wrap K H gd lv) fs s Φ := by
  rw [exec_Expr env _ pos hi rfl]
  show RT M A c (.at pos fun _ => ((eval e env >>= fun v => (standAt ypos >>= fun _ => yieldOut env v)) >>= fun x =>
    dropValue (.Yield (some e) ypos) pos x).wrap K H gd lv) fs s Φ
  have hy : ∀ v, yieldOut env v = yieldValue v := fun v => by simp only [yieldOut, hco, Bool.false_eq_true, if_false]
  simp only [hy]
  refine rt_at ?_
  rw [Sem.bind_eq_wrap', Sem.bind_eq_wrap', Sem.wrap_wrap, Sem.wrap_wrap]
  refine rt_wrap (wpAny_mono h (fun v s' h' => ?_) fun _ _ x => x)
  refine rt_at (rt_yield hfs fun p => h' _ _ p fun x s'' Φ' hx hr => ?_)
  cases x <;> first | exact hr | exact absurd rfl (hx _)
theorem rt_For {target iter : Expr} {body orelse : List Stmt} {pos : Pos} (hs : ∀ x, foldedSetIterable iter env x = pure x)
    (h : wpAny M (A.over c fs) (eval iter env) (fun x s₁ => wpAny M (A.over c fs) (pyIter x) (fun it s₂ => ∀ p, RT M A (.forLoop target it body orelse env) (M.den (.forLoop target it body orelse env))
      (.ret (fun r => ((match r with | .ok f => (.pure f : Sem Flow) | .error e => .raise e).onRaise fun (x : Value) => do
        if (← field x 1) == Value.none then unsupported "frame.own-activation:exception-without-traceback"
        setFlight x env.frame).wrap K H gd lv) none (gd false) (lv []) c p [] :: fs) s₂ Φ) (fun x s' => RT M A c (H x) fs s' Φ) s₁) (fun x s' => RT M A c (H x) fs s' Φ) s) :
    RT M A c ((exec (.For target iter body orelse pos) env).wrap K H gd lv) fs s Φ := by
  rw [exec_For]
  have e : (do standAt pos; let x ← foldedSetIterable iter env (← eval iter env); standAt iter.pos; runOwn (.forLoop target (← holding [x] (pyIter x)) body orelse env) env : Sem Flow) =
      ((do standAt pos; let x ← foldedSetIterable iter env (← eval iter env); standAt iter.pos; holding [x] (pyIter x) : Sem Value) >>= fun it => runOwn (.forLoop target it body orelse env) env) := by
    simp only [bind_assoc]
  rw [e, Sem.bind_eq_wrap', Sem.wrap_wrap]
  refine rt_wrap (wpAny_bind (wpAny_standAt (wpAny_bind (wpAny_mono h (fun x s₁ h₁ => wpAny_bind (wpAny_of_eq (hs x) (wpAny_bind (wpAny_standAt (wpAny_holding (wpAny_mono h₁ (fun it s₂ h₂ => ?_) fun _ _ x => x)))))) fun _ _ x => x))))
  exact rt_call h₂
end

section
variable {prog : Program} {w : World} {A : Around} {c : Code} {fs : List Frame} {s : Shared} {Φ : End → Shared → Prop} {env : Env}

theorem rt_func {body : List Stmt}
    (h : RT (model prog w) A (.func body env) ((execs body env).wrap (fun f => .pure (.done (.ret (match f with | .ret v => v | _ => .none)))) (fun e => (leaving env e).wrap (fun _ => .raise e) .raise id id) id id) fs s Φ) :
    RT (model prog w) A (.func body env) ((model prog w).den (.func body env)) fs s Φ := by
  show RT _ A _ (.point [] fun _ => ((execs body env).onRaise (leaving env)) >>= _) fs s Φ
  refine rt_point ?_
  rw [Sem.onRaise_eq_wrap, Sem.bind_eq_wrap', Sem.wrap_wrap]
  rw [Sem.wrap_congr (execs body env) _ _ (K' := fun f => .pure (.done (.ret (match f with | .ret v => v | _ => .none))))
    (H' := fun e => (leaving env e).wrap (fun _ => .raise e) .raise id id) (fun f => by cases f <;> rfl)
    (fun e => by rw [Sem.bind_eq_wrap, Sem.wrap_wrap]; rfl)]
  exact h

/-- a raise that leaves a turn -/
abbrev turnErr (env : Env) (er : Value) : Sem Fin := (do noteFrame er env; theTreesLotGoes er : Sem Unit).wrap (fun _ => .raise er) .raise id id

/-- one turn of a for whose body yields; the name's target -/
theorem rt_forLoop {x : Str} {px : Pos} {it : Value} {body : List Stmt}
    (h : wpAny (model prog w) (A.over (.forLoop (.Name x px) it body [] env) fs) (pyNext it) (fun r s₁ => match r with
      | none => RT (model prog w) A (.block [] env) (.pure (.done .next)) fs s₁ Φ
      | some v => wpAny (model prog w) (A.over (.forLoop (.Name x px) it body [] env) fs) (storeName env x v) (fun _ s₂ =>
          RT (model prog w) A (.forLoop (.Name x px) it body [] env) ((execs body env).wrap (fun f => match f with
            | .next | .cont => .pure (.again (.forLoop (.Name x px) it body [] env))
            | .brk => .pure (.done .next)
            | .ret v => .pure (.done (.ret v))) (turnErr env) id id) fs s₂ Φ)
          (fun er s' => RT (model prog w) A (.forLoop (.Name x px) it body [] env) (turnErr env er) fs s' Φ) s₁)
      (fun er s' => RT (model prog w) A (.forLoop (.Name x px) it body [] env) (turnErr env er) fs s' Φ) s) :
    RT (model prog w) A (.forLoop (.Name x px) it body [] env) ((model prog w).den (.forLoop (.Name x px) it body [] env)) fs s Φ := by
  show RT _ A _ ((forTurn (.Name x px) it body [] env).onRaise (fun x => do noteFrame x env; theTreesLotGoes x)) fs s Φ
  have e : forTurn (.Name x px) it body [] env = ((do standAt px; (pyNext it).onRaise (fun _ => standAt { px with line := 0 }) : Sem (Option Value)) >>= fun r => match r with
      | none => again (.block [] env)
      | some v => (do standAt px; bindName env x v : Sem Unit) >>= fun _ => execs body env >>= fun f => match f with
        | .next | .cont => again (.forLoop (.Name x px) it body [] env)
        | .brk => pure (.done .next)
        | .ret v => pure (.done (.ret v))) := by
    unfold forTurn
    simp only [bind_assoc]
    rfl
  rw [e, Sem.onRaise_eq_wrap, Sem.bind_eq_wrap', Sem.wrap_wrap]
  have hH : ∀ er : Value, (((do noteFrame er env; theTreesLotGoes er : Sem Unit).bind fun _ => (.raise er : Sem Fin))) = turnErr env er := fun er => Sem.bind_eq_wrap _ _
  refine rt_wrap (wpAny_bind (wpAny_standAt (wpAny_onRaise (wpAny_mono h (fun r s₁ h₁ => ?_) fun y s₁ h₁ => wpAny_standAt ?_))))
  · cases r with
    | none =>
      show RT _ A _ (.pure (.again (.block [] env))) fs s₁ Φ
      exact rt_again rfl h₁
    | some v =>
      dsimp only
      rw [Sem.bind_eq_wrap', Sem.wrap_wrap]
      refine rt_wrap (wpAny_bind (wpAny_standAt (wpAny_bindName (wpAny_mono h₁ (fun _ s₂ h₂ => ?_) fun er s₂ h₂ => ?_))))
      · rw [Sem.bind_eq_wrap', Sem.wrap_wrap]
        rw [Sem.wrap_congr (execs body env) _ _ (K' := fun f => match f with
            | .next | .cont => .pure (.again (.forLoop (.Name x px) it body [] env))
            | .brk => .pure (.done .next)
            | .ret v => .pure (.done (.ret v))) (H' := turnErr env) (fun f => by cases f <;> rfl) (fun er => by show ((do noteFrame er env; theTreesLotGoes er : Sem Unit).bind fun _ => (.raise er : Sem Fin)) = _; exact hH er)]
        exact h₂
      · show RT _ A _ ((do noteFrame er env; theTreesLotGoes er : Sem Unit).bind fun _ => (.raise er : Sem Fin)) fs s₂ Φ
        rw [hH er]; exact h₂
  · show RT _ A _ ((do noteFrame y env; theTreesLotGoes y : Sem Unit).bind fun _ => (.raise y : Sem Fin)) fs s₁ Φ
    rw [hH y]; exact h₁
end
end Mine

namespace Mine

def IterP (l : Addr) (i : Nat) (o : Obj) : Prop := o.cls = .type "list_iterator" ∧ o.data = .fields #[.ref l, .int i 0]
def EndP (o : Obj) : Prop := o.cls = .type "list_iterator" ∧ ∃ k, o.data = .fields #[.none, k]
theorem Has.isIter {h : Heap} {it l : Addr} {i : Nat} (x : Has h (it, IterP l i)) : h.IsListIter it l i := let ⟨o, e, q⟩ := x; ⟨o, e, q⟩

section
variable {prog : Program} {w : World} {A : Around} {E : Value → Shared → Prop} {s : Shared}

theorem stop_raise {α : Type} {Q : α → Shared → Prop} {E' : Value → Shared → Prop} (hh : A.handled = none)
    (k : ∀ h' e, (∀ b o, s.heap.get? b = some o → h'.get? b = some o) → ({ s with heap := h' } : Shared).TypeIs e "StopIteration" → E' e { s with heap := h' }) :
    wpAny (model prog w) A.in1 (Builtin.SmallTypes.stopIteration : Sem α) Q E' s := by
  show wpAny _ _ (newExc (.type "StopIteration") [] >>= _) _ _ _
  refine wpAny_bind ?_
  simp only [newExc, newTuple]
  refine wpAny_bind (wpAny_newObj_type ?_ (by size_fits))
  refine wpAny_bind (m := firstArgMember _ _) (wpAny_of_eq (a := Value.none) (by first | rfl | (simp only [firstArgMember]; rfl)) ?_)
  refine wpAny_newObj_type ?_ (by size_fits)
  simp only [raiseNew]
  refine wpAny_bind (wpAny_handled ?_)
  rw [show A.in1.handled = none from hh]
  refine wpAny_bind (wpAny_pure (wpAny_throw ?_))
  exact k _ _ (fun b o e => Heap.get?_push_of_some _ (Heap.get?_push_of_some _ e)) ⟨_, Heap.get?_push_size _ rfl, rfl⟩

theorem stop_is {e : Value} {Q : Option Value → Shared → Prop} (hT : s.TypeIs e "StopIteration") (h : Q none s) :
    wpAny (model prog w) A (isInstance e (.type "StopIteration") >>= fun b => if b = true then pure none else throw e) Q E s :=
  wpAny_bind (wpAny_isInstance (T := "StopIteration") (b := true) hT isSubtype_stop (wpAny_pure h))

theorem next_end {it l : Addr} {i : Nat} {items : Array Value} {Q : Option Value → Shared → Prop} (hh : A.handled = none) (hit : s.heap.IsListIter it l i) (hl : s.heap.IsList l items) (hx : items[i]? = none)
    (k : ∀ h', Has h' (it, EndP) → Heap.ExtBut it s.heap h' → Q none { s with heap := h' }) : wpAny (model prog w) A (pyNext (.ref it)) Q E s := by
  obtain ⟨o, ho, hc, hd⟩ := id hit
  obtain ⟨ol, hol, _, nl, hdl⟩ := hl
  unfold pyNext
  refine wpAny_bind (wpAny_attempt (wpAny_callSpecial?_slot (name := Str.ofString "__next__") hit.typeIs slot_listiter_next
    (wpAny_call_entry slot_listiter_next hit.typeIs entry_listiter_next ?_ (args_listiter_next _))))
  show wpAny _ _ (field (.ref it) 0 >>= _) _ _ s
  refine wpAny_bind (wpAny_field ho hd (x := .ref l) rfl ?_)
  show wpAny _ _ (if (Value.ref l == Value.none) = true then _ else _) _ _ s
  rw [if_neg (show ¬ ((Value.ref l == Value.none) = true) from Bool.false_ne_true)]
  show wpAny _ _ (field (.ref it) 1 >>= _) _ _ s
  refine wpAny_bind (wpAny_field ho hd (x := .int i 0) rfl ?_)
  show wpAny _ _ (seqItems? (.ref l) >>= _) _ _ s
  refine wpAny_bind (wpAny_seqItems hol hdl ?_)
  simp only [Int.toNat_natCast, hx]
  refine wpAny_bind (wpAny_rule (wpAny_bind (wpAny_setField ho hd (by simp) ?_)))
  have hD := Obj.data_mapFields hd (·.setIfInBounds 0 .none)
  have g := Heap.get?_update_self (fun o => Obj.mapFields (·.setIfInBounds 0 .none) o) ho (Obj.isFreed_of_fields hD)
  refine stop_raise hh fun h' e kk hT => stop_is hT (k h' ⟨_, kk _ _ g, (Obj.cls_mapFields ..).trans hc, _, by rw [hD]; simp; rfl⟩ fun b o' hb e => kk b o' ?_)
  exact (Heap.SameBut.update ..).extBut b o' hb e

theorem next_ended {it : Addr} {Q : Option Value → Shared → Prop} (hh : A.handled = none) (hit : Has s.heap (it, EndP)) (k : ∀ h', (∀ b o, s.heap.get? b = some o → h'.get? b = some o) → Q none { s with heap := h' }) :
    wpAny (model prog w) A (pyNext (.ref it)) Q E s := by
  obtain ⟨o, ho, hc, kk, hd⟩ := id hit
  have hT : s.TypeIs (.ref it) "list_iterator" := ⟨o, ho, hc⟩
  unfold pyNext
  refine wpAny_bind (wpAny_attempt (wpAny_callSpecial?_slot (name := Str.ofString "__next__") hT slot_listiter_next
    (wpAny_call_entry slot_listiter_next hT entry_listiter_next ?_ (args_listiter_next _))))
  show wpAny _ _ (field (.ref it) 0 >>= _) _ _ s
  refine wpAny_bind (wpAny_field ho hd (x := .none) rfl ?_)
  show wpAny _ _ (if (Value.none == Value.none) = true then _ else _) _ _ s
  rw [if_pos (show (Value.none == Value.none) = true from rfl)]
  exact wpAny_bind (wpAny_rule (wpAny_bind (stop_raise hh fun h' e kk hT => stop_is hT (k h' kk))))
end
end Mine

namespace Mine

section
variable {c : Cx} {O : Led} {s s' : Shared}

theorem At.withA (x : At c O s) (A : Around) : At { c with A := A } O s :=
  ⟨x.base, x.own, x.mu, x.ns, x.cell, x.cellAlive, x.nodup, x.offO, x.offB, x.gens, x.os, x.kin, x.tg, x.tb, x.nl⟩

theorem At.setMu {Mu : Led} {a : Addr} {p p' : Obj → Prop} (x : At { c with Mu := (a, p) :: Mu } O s) (hwc : c.wc = true) (al : Alt [a] s s') (h : Has s'.heap (a, p')) : At { c with Mu := (a, p') :: Mu } O s' := by
  have kp : ∀ b o, b ≠ a → s.heap.get? b = some o → s'.heap.get? b = some o := fun b o hb e => al.get (by simpa using hb) e
  have ap : a ∈ ({ c with Mu := (a, p) :: Mu } : Cx).places := Cx.mem_places.mpr (.inr (.inr ⟨p, .head _⟩))
  have nd := x.nodup
  have nd' := x.nodup
  unfold Cx.places at nd
  dsimp only at nd
  rw [hwc, if_pos rfl, List.nodup_cons, List.nodup_append] at nd
  obtain ⟨n1, n2, n3, n4⟩ := nd
  rw [List.map_cons, List.nodup_cons] at n3
  have la : c.env.locals ≠ a := fun h => n1 (List.mem_append_right _ (by rw [h]; exact .head _))
  have ca : ∀ q ∈ c.env.cells, q.2 ≠ a := fun q hq h => n4 q.2 (List.mem_map.mpr ⟨q, hq, rfl⟩) a (.head _) h
  refine ⟨fun b o e => kp b o (fun h => x.offB b o e (h ▸ ap)) (x.base b o e), fun q hq => (x.own q hq).keep fun o e => kp _ o (fun h => x.offO q hq (h ▸ ap)) e, fun q hq => ?_, ?_, fun z b u hz hu => ?_, fun q hq => ?_, nd', x.offO, x.offB, al.gens.trans x.gens, al.os.trans x.os, x.kin, x.tg, x.tb, x.nl⟩
  · rcases List.mem_cons.mp hq with rfl | hq
    · exact h
    · exact (x.mu q (.tail _ hq)).keep fun o e => kp _ o (fun h => n3.1 (h ▸ List.mem_map.mpr ⟨q, hq, rfl⟩)) e
  · obtain ⟨m, hm, hz⟩ := x.ns
    exact ⟨m, hm.at' fun o e => kp _ o la e, hz⟩
  · obtain ⟨o, ho, hd⟩ := x.cell z b u hz hu
    exact ⟨o, kp b o (ca (z, b) (mem_of_lookup hz)) ho, hd⟩
  · obtain ⟨v, o, ho, hd⟩ := x.cellAlive q hq
    exact ⟨v, o, kp _ o (ca q hq) ho, hd⟩

theorem At.mu_perm {Mu Mu' : Led} (x : At { c with Mu := Mu } O s) (hp : Mu.Perm Mu') : At { c with Mu := Mu' } O s := by
  have pl : ∀ a, a ∈ ({ c with Mu := Mu' } : Cx).places → a ∈ ({ c with Mu := Mu } : Cx).places := fun a h => by
    rcases Cx.mem_places.mp h with h | h | ⟨p, h⟩
    · exact Cx.mem_places.mpr (.inl h)
    · exact Cx.mem_places.mpr (.inr (.inl h))
    · exact Cx.mem_places.mpr (.inr (.inr ⟨p, hp.mem_iff.mpr h⟩))
  refine ⟨x.base, x.own, fun p hq => x.mu p (hp.mem_iff.mpr hq), x.ns, x.cell, x.cellAlive, ?_, fun p hq h => x.offO p hq (pl _ h), fun b o e h => x.offB b o e (pl _ h), x.gens, x.os, x.kin, x.tg, x.tb, x.nl⟩
  have nd := x.nodup
  unfold Cx.places at nd ⊢
  exact ((List.Perm.cons _ (List.Perm.append_left _ (hp.map _))).nodup_iff).mp nd

theorem Alt.trans {X : List Addr} {s s₁ s₂ : Shared} (a : Alt X s s₁) (b : Alt X s₁ s₂) : Alt X s s₂ := by
  obtain ⟨h, t, rfl, k⟩ := a
  obtain ⟨h', t', rfl, k'⟩ := b
  exact ⟨h', t', rfl, fun b o hb e => k' b o hb (k b o hb e)⟩
theorem Alt.sub {X Y : List Addr} {s s₁ : Shared} (a : Alt X s s₁) (h : ∀ x ∈ X, x ∈ Y) : Alt Y s s₁ := by
  obtain ⟨h', t, rfl, k⟩ := a
  exact ⟨h', t, rfl, fun b o hb e => k b o (fun hx => hb (h b hx)) e⟩
theorem Kp.alt {X : List Addr} {s s₁ : Shared} (a : Kp s s₁) : Alt X s s₁ := by
  obtain ⟨h', t, rfl, k⟩ := a
  exact ⟨h', t, rfl, fun b o _ e => k b o e⟩
theorem Alt.refl (X : List Addr) (s : Shared) : Alt X s s := ⟨s.heap, s.toks, rfl, fun _ _ _ e => e⟩

theorem n_item {A : Around} {E : Value → Shared → Prop} {Q : Option Value → Shared → Prop} {Mu : Led} {it l : Addr} {i : Nat} {vs : List Value} {v : Value} (x : At { c with Mu := (it, IterP l i) :: Mu } O s) (hwc : c.wc = true)
    (hl : s.heap.IsList l vs.toArray) (hv : vs[i]? = some v) (k : ∀ s', Alt [it] s s' → At { c with Mu := (it, IterP l (i + 1)) :: Mu } O s' → Q (some v) s') : wpAny (model c.prog c.w) A (pyNext (.ref it)) Q E s :=
  wpAny_pyNext_list_item (x.mu _ (.head _)).isIter hl (by simpa using hv) fun h' hit hs => k _ (Alt.of_same (tk := s.toks) hs) (x.setMu hwc (Alt.of_same (tk := s.toks) hs) hit)
theorem n_end {A : Around} {E : Value → Shared → Prop} {Q : Option Value → Shared → Prop} {Mu : Led} {it l : Addr} {i : Nat} {vs : List Value} (x : At { c with Mu := (it, IterP l i) :: Mu } O s) (hwc : c.wc = true) (hh : A.handled = none)
    (hl : s.heap.IsList l vs.toArray) (hv : vs[i]? = none) (k : ∀ s', Alt [it] s s' → At { c with Mu := (it, EndP) :: Mu } O s' → Q none s') : wpAny (model c.prog c.w) A (pyNext (.ref it)) Q E s :=
  next_end hh (x.mu _ (.head _)).isIter hl (by simpa using hv) fun h' hit hs => k _ (Alt.of_ext (tk := s.toks) hs) (x.setMu hwc (Alt.of_ext (tk := s.toks) hs) hit)
theorem n_ended {A : Around} {E : Value → Shared → Prop} {Q : Option Value → Shared → Prop} {Mu : Led} {it : Addr} (x : At { c with Mu := (it, EndP) :: Mu } O s) (hh : A.handled = none)
    (k : ∀ s', Kp s s' → At { c with Mu := (it, EndP) :: Mu } O s' → Q none s') : wpAny (model c.prog c.w) A (pyNext (.ref it)) Q E s :=
  next_ended hh (x.mu _ (.head _)) fun h' kk => k _ ⟨h', s.toks, rfl, kk⟩ (x.keeps ⟨h', s.toks, rfl, kk⟩)
end

theorem x_assign_loc {c : Cx} {O : Led} {s : Shared} {x : Str} {p' pos : Pos} {e : Expr} {P : Value → Prop} {Q : Flow → Shared → Prop} {E : Value → Shared → Prop} (hl : c.env.kindOf x = some .local) (hc : c.env.cells.lookup x = none)
    (hp : (c.env.scope.kind == .class || (c.env.scope.kind == .module && c.env.locals != c.env.globals)) = false) (hcl : c.wc = false → ∀ p ∈ c.env.cells, p.2 ≠ c.env.locals) (h : TV c O (eval e c.env) P) (y : At c O s)
    (k : ∀ v s', P v → Alt [c.env.locals] s s' → At (c.set x v) O s' → Q .next s')
    (hs : swapsWith e (some (.Name x p')) pos.line c.env = pure false := by rfl) : wpAny (model c.prog c.w) c.A (exec (.Assign [.Name x p'] e pos) c.env) Q E s :=
  wpAny_Assign_Name (h.use y fun v s₁ p g y₁ => w_store_loc hl hc hp hcl y₁ fun s' al y' => k v s' p (g.alt.trans al) y') hs

/-- a value is a box with an int -/
def Bx (O : Led) (n : Int) (v : Value) : Prop := ∃ b u, v = .ref b ∧ Box O b u ∧ IsInt n u
theorem Bx.mono {O O' : Led} {n : Int} {v : Value} (x : Bx O n v) (h : ∀ p ∈ O, p ∈ O') : Bx O' n v := let ⟨b, u, a, d, e⟩ := x; ⟨b, u, a, d.mono h, e⟩

inductive ItSt where
  | at (i : Nat)
  | ended
def ItSt.P (l : Addr) : ItSt → Obj → Prop
  | .at i => IterP l i
  | .ended => EndP
def ItSt.rest {α : Type} (st : ItSt) (xs : List α) : List α := match st with
  | .at i => xs.drop i
  | .ended => []
/-- how many items go on, behind a number -/
def run (n : Int) : List Int → Nat
  | [] => 0
  | m :: r => if m = n + 1 then run m r + 1 else 0
theorem run_le : ∀ (n : Int) (l : List Int), run n l ≤ l.length
  | _, [] => Nat.le_refl _
  | n, m :: r => by unfold run; split; · have := run_le m r; simp; omega
                    · simp

/-- a generator's stretch ends by telling a pair -/
def GOut (c : Cx) (it l : Addr) (st : ItSt) (vs : List Value) (ns : List Int) (fv lv : Value) (nl : Int) (O : Led) (gs : Array GenState) (s₀ : Shared) (S L : (Resume → Sem Fin) → Code → List Frame → Prop) (e : End) (s' : Shared) : Prop :=
  ∃ v lvs k cd p fs T sg' lastv, e = .susp v false lvs k cd p fs ∧ fs.any Frame.guarded = false ∧ v = .ref T ∧ s₀.heap.get? T = none ∧ Alt [c.env.locals, it] s₀ s' ∧ sg' "it" = some (.ref it) ∧
    (lv :: st.rest vs)[run nl (st.rest ns)]? = some lastv ∧
    ((∃ i nv, st = .at i ∧ (st.rest vs)[run nl (st.rest ns)]? = some nv ∧ sg' "ip" = some nv ∧ At (c.up [(it, IterP l (i + run nl (st.rest ns) + 1)), (l, LP vs)] sg' gs) ((T, TP [fv, lastv]) :: O) s' ∧ S k cd fs) ∨
     (run nl (st.rest ns) = (st.rest ns).length ∧ At (c.up [(it, EndP), (l, LP vs)] sg' gs) ((T, TP [fv, lastv]) :: O) s' ∧ L k cd fs))

/-- asleep at the last yield -/
def LastK (c : Cx) (A : Around) (k : Resume → Sem Fin) (cd : Code) (fs : List Frame) : Prop :=
  ∀ s, RT (model c.prog c.w) A cd (k (.send .none)) fs s fun e s' => e = .ret (.ok (.ret .none)) ∧ s' = s
/-- asleep within the loop, for so many turns at most -/
def Susp (c : Cx) (A : Around) (it l : Addr) : Nat → (Resume → Sem Fin) → Code → List Frame → Prop
  | 0 => fun _ _ _ => True
  | n + 1 => fun k cd fs => ∀ s O sg gs st vs ns pv np, At (c.up [(it, st.P l), (l, LP vs)] sg gs) O s → sg "it" = some (.ref it) → sg "ip" = some pv → Bx O np pv → Paired (Bx O) ns vs →
      RT (model c.prog c.w) A cd (k (.send .none)) fs s (GOut c it l st vs ns pv pv np O gs s (Susp c A it l n) (LastK c A))
end Mine

namespace Mine

def forBodyG : List Stmt := match ((fnBody 1)[2]? : Option Stmt) with | some (.For _ _ b _ _) => b | _ => []
/-- the walk's own frame -/
abbrev genC (b : Cx) (pm : Value) (G : Addr) : Cx := { b with env := callEnv (fdOf "_find_address_range" 1 20 pm) G 21, wc := true }

theorem over_for {A : Around} {x : Expr} {it : Value} {b o : List Stmt} {env env' : Env} {kr : Result → Sem Fin} {g : Bool} {l : List Value} {body : List Stmt} {p : Pos} {kp : List Value} (hA : A.handled = none) :
    (A.over (.forLoop x it b o env) [.ret kr none g l (.func body env') p kp]).handled = none ∧ (A.over (.forLoop x it b o env) [.ret kr none g l (.func body env') p kp]).depth = A.depth + 1 := by
  constructor
  · show (marksOver _ _).1 = none
    simp only [marksOver, List.foldr, Frame.marks, markOver, hA]
  · rfl
theorem over_func {A : Around} {env : Env} {body : List Stmt} (hA : A.handled = none) :
    (A.over (.func body env) []).handled = none ∧ (A.over (.func body env) []).depth = A.depth + 1 := ⟨hA, rfl⟩

section
variable {b : Cx} {pm : Value} {G : Addr}

/-- the names as the walk sees them, whatever the depth -/
def GenOk (b : Cx) (pm : Value) (G : Addr) : Prop := ∀ A Mu sg gs, A.handled = none → A.depth + 10 < recursionLimit → Own { genC b pm G with A := A, Mu := Mu, sg := sg, gs := gs }

theorem stores_gen {x : Str} {A : Around} {Mu : Led} {sg : Str → Option Value} {gs : Array GenState} (h : (genC b pm G).env.kindOf x = some .local) : Stores { genC b pm G with A := A, Mu := Mu, sg := sg, gs := gs } x :=
  .loc h rfl rfl fun h => nomatch h

theorem Alt.fresh_back {X : List Addr} {s₀ s : Shared} {T : Addr} (a : Alt X s₀ s) (h : ∀ x ∈ X, s.heap.get? x ≠ none) (n : s.heap.get? T = none) : s₀.heap.get? T = none := by
  cases e : s₀.heap.get? T with
  | none => rfl
  | some o =>
    by_cases hT : T ∈ X
    · exact absurd n (h T hT)
    · rw [a.get hT e] at n; cases n

/-- the last yield -/
def LastOut (c : Cx) (A : Around) (O : Led) (s₁ : Shared) (fv lv : Value) (e : End) (s' : Shared) : Prop :=
  ∃ v lvs k cd p fs T, e = .susp v false lvs k cd p fs ∧ fs.any Frame.guarded = false ∧ v = .ref T ∧ s₁.heap.get? T = none ∧ Kp s₁ s' ∧ At c ((T, TP [fv, lv]) :: O) s' ∧ LastK c A k cd fs

theorem tuple2 {c : Cx} {O : Led} {x y : Str} {px py pos : Pos} {k : Nat} {u v : Value} (hx : TV c O (eval (.Name x px) c.env) (· = u)) (hy : TV c O (eval (.Name y py) c.env) (· = v)) :
    Tr c O (eval (.Tuple [.Name x px, .Name y py] k pos) c.env) (fun r N => ∃ T, r = .ref T ∧ N = [(T, TP [u, v])]) :=
  (e_tupleV (s_cons hx (s_cons hy s_nil)) (by rintro vs ⟨a, r, rfl, _, b, r', rfl, _, rfl⟩; simp)).mono (by
    rintro r N ⟨T, vs, rfl, rfl, a, r, rfl, rfl, b, r', rfl, rfl, rfl⟩
    exact ⟨T, rfl, rfl⟩)

set_option maxHeartbeats 4000000 in
theorem gen_last (o : GenOk b pm G) {A : Around} (hA : A.handled = none) (hd : A.depth + 20 < recursionLimit) {body : List Stmt} {s₁ : Shared} {O Mu : Led} {sg : Str → Option Value} {gs : Array GenState} {fv lv : Value}
    (x : At ((genC b pm G).up Mu sg gs) O s₁) (h1 : sg "first" = some fv) (h2 : sg "last" = some lv) :
    RT (model b.prog b.w) A (.func body (genC b pm G).env) ((execs ((fnBody 1).drop 3) (genC b pm G).env).wrap (fun f => .pure (.done (.ret (match f with | .ret v => v | _ => .none)))) (fun e => (leaving (genC b pm G).env e).wrap (fun _ => .raise e) .raise id id) id id) [] s₁
      (LastOut ((genC b pm G).up Mu sg gs) A O s₁ fv lv) := by
  have y := x.withA (A.over (.func body (genC b pm G).env) [])
  refine rt_execs_cons (rt_Yield rfl ?_ rfl rfl)
  refine (tuple2 (c := { (genC b pm G).up Mu sg gs with A := A.over (.func body (genC b pm G).env) [] }) (e_local h1) (e_local h2)).use y fun v s' N ⟨T, h3, h4⟩ g y' => ?_
  subst h3; subst h4
  intro kk lvs p hres
  refine ⟨_, lvs, kk, _, p, _, T, rfl, rfl, rfl, (g.2 _ (.head _)).1, g.1, y'.withA b.A, fun s => hres .none s _ (fun a h => nomatch h) ?_⟩
  exact rt_end (.ok (.ret .none)) ⟨rfl, rfl⟩

set_option maxHeartbeats 8000000 in
theorem gen_loop (o : GenOk b pm G) {A : Around} (hA : A.handled = none) (hd : A.depth + 20 < recursionLimit) {it l : Addr} {px : Pos} {body : List Stmt} {kr : Result → Sem Fin} {p : Pos}
    (after : ∀ s₁ O sg gs vs fv lv, At ((genC b pm G).up [(it, EndP), (l, LP vs)] sg gs) O s₁ → sg "it" = some (.ref it) → sg "first" = some fv → sg "last" = some lv →
      RT (model b.prog b.w) A (.func body (genC b pm G).env) (kr (.ok .next)) [] s₁ (LastOut ((genC b pm G).up [(it, EndP), (l, LP vs)] sg gs) A O s₁ fv lv)) :
    ∀ (n m : Nat) s₀ s O sg gs st vs ns fv lv nl, (st.rest ns).length = m → At ((genC b pm G).up [(it, st.P l), (l, LP vs)] sg gs) O s → Alt [G, it] s₀ s → sg "it" = some (.ref it) → sg "first" = some fv → sg "last" = some lv →
      Bx O nl lv → Paired (Bx O) ns vs →
      RT (model b.prog b.w) A (.forLoop (.Name "ip" px) (.ref it) forBodyG [] (genC b pm G).env) ((model b.prog b.w).den (.forLoop (.Name "ip" px) (.ref it) forBodyG [] (genC b pm G).env))
        [.ret kr none false [] (.func body (genC b pm G).env) p []] s (GOut (genC b pm G) it l st vs ns fv lv nl O gs s₀ (Susp (genC b pm G) A it l n) (LastK (genC b pm G) A)) := by
  intro n
  refine Nat.strongRecOn n fun n ihn => ?_
  intro m
  induction m with
  | zero => 
    intro s₀ s O sg gs st vs ns fv lv nl hm x al hi hf hl hb hp
    have hr : st.rest ns = [] := List.eq_nil_of_length_eq_zero hm
    have hov := over_for (x := .Name "ip" px) (it := .ref it) (b := forBodyG) (o := []) (env := (genC b pm G).env) (env' := (genC b pm G).env) (kr := kr) (g := false) (l := []) (body := body) (p := p) (kp := []) hA
    have alive : ∀ {st' : ItSt} {sg' : Str → Option Value} {gs' : Array GenState} {O' : Led} {s' : Shared}, At ((genC b pm G).up [(it, st'.P l), (l, LP vs)] sg' gs') O' s' → ∀ a ∈ [G, it], s'.heap.get? a ≠ none := by
      intro st' sg' gs' O' s' y a ha
      refine y.alive (Cx.mem_places.mpr ?_)
      simp only [List.mem_cons, List.not_mem_nil, or_false] at ha
      rcases ha with rfl | rfl
      · exact .inl rfl
      · exact .inr (.inr ⟨_, .head _⟩)
    have fin : ∀ s₁, Alt [G, it] s₀ s₁ → At ((genC b pm G).up [(it, EndP), (l, LP vs)] sg gs) O s₁ →
        RT (model b.prog b.w) A (.block [] (genC b pm G).env) (.pure (.done .next)) [.ret kr none false [] (.func body (genC b pm G).env) p []] s₁ (GOut (genC b pm G) it l st vs ns fv lv nl O gs s₀ (Susp (genC b pm G) A it l n) (LastK (genC b pm G) A)) := by
      intro s₁ al₁ x₁
      refine rt_leaf (.ok .next) (rt_mono (after s₁ O sg gs vs fv lv x₁ hi hf hl) ?_)
      rintro e s' ⟨v, lvs, k, cd, p', fs, T, rfl, hg, rfl, hT, kp, y, hk⟩
      refine ⟨_, lvs, k, cd, p', fs, T, sg, lv, rfl, hg, rfl, al₁.fresh_back (alive (st' := .ended) x₁) hT, al₁.trans kp.alt, hi, ?_, .inr ⟨?_, y, hk⟩⟩
      · rw [hr]; rfl
      · rw [hr]; rfl
    refine rt_forLoop ?_
    cases st with
    | ended =>
      exact n_ended (c := (genC b pm G).up [] sg gs) (Mu := [(l, LP vs)]) x hov.1 fun s₁ k₁ x₁ => fin s₁ (al.trans k₁.alt) x₁
    | «at» i =>
      have hv : vs[i]? = none := by
        have h1 : (ns.drop i).length = 0 := hm
        rw [List.length_drop, hp.length] at h1
        exact List.getElem?_eq_none (by omega)
      refine n_end (c := (genC b pm G).up [] sg gs) (Mu := [(l, LP vs)]) x rfl hov.1 (x.mu _ (.tail _ (.head _))).isList hv fun s₁ al₁ x₁ => fin s₁ (al.trans (al₁.sub (by simp))) x₁
  | succ m ihm =>
    intro s₀ s O sg gs st vs ns fv lv nl hm x al hi hf hl hb hp
    have hov := over_for (x := .Name "ip" px) (it := .ref it) (b := forBodyG) (o := []) (env := (genC b pm G).env) (env' := (genC b pm G).env) (kr := kr) (g := false) (l := []) (body := body) (p := p) (kp := []) hA
    cases st with
    | ended => cases hm
    | «at» i =>
      have hm' : (ns.drop i).length = m + 1 := hm
      have hlt : i < ns.length := by rw [List.length_drop] at hm'; omega
      have hltv : i < vs.length := by rw [← hp.length]; exact hlt
      obtain ⟨nm, hnm⟩ : ∃ nm, ns[i]? = some nm := ⟨ns[i], by simp [hlt]⟩
      obtain ⟨nv, hnv⟩ : ∃ nv, vs[i]? = some nv := ⟨vs[i], by simp [hltv]⟩
      have hbx : Bx O nm nv := paired_get hp i nm nv hnm hnv
      have dn : ns.drop i = nm :: ns.drop (i + 1) := by rw [List.drop_eq_getElem_cons hlt]; congr 1; rw [List.getElem?_eq_getElem hlt] at hnm; exact Option.some.inj hnm
      have dv : vs.drop i = nv :: vs.drop (i + 1) := by rw [List.drop_eq_getElem_cons hltv]; congr 1; rw [List.getElem?_eq_getElem hltv] at hnv; exact Option.some.inj hnv
      generalize hAf : A.over (.forLoop (.Name "ip" px) (.ref it) forBodyG [] (genC b pm G).env) [.ret kr none false [] (.func body (genC b pm G).env) p []] = Af at hov
      refine rt_forLoop ?_
      rw [hAf]
      refine n_item (c := (genC b pm G).up [] sg gs) (Mu := [(l, LP vs)]) x rfl (x.mu _ (.tail _ (.head _))).isList hnv fun s₁ al₁ x₁ => ?_
      have x₁' : At ({ genC b pm G with A := Af, Mu := [(it, IterP l (i + 1)), (l, LP vs)], sg := sg, gs := gs } : Cx) O s₁ := x₁.withA Af
      refine w_store_loc (c := { genC b pm G with A := Af, Mu := [(it, IterP l (i + 1)), (l, LP vs)], sg := sg, gs := gs }) rfl rfl rfl (fun h => nomatch h) x₁' fun s₂ al₂ x₂ => ?_
      have ow := o Af [(it, IterP l (i + 1)), (l, LP vs)] (upd sg "ip" nv) gs hov.1 (by rw [hov.2]; omega)
      obtain ⟨bn, un, rfl, hbn, hun⟩ := hbx
      obtain ⟨bl, ul, rfl, hbl, hul⟩ := hb
      have alive : ∀ {st' : ItSt} {sg' : Str → Option Value} {gs' : Array GenState} {O' : Led} {s' : Shared}, At ((genC b pm G).up [(it, st'.P l), (l, LP vs)] sg' gs') O' s' → ∀ a ∈ [G, it], s'.heap.get? a ≠ none := by
        intro st' sg' gs' O' s' y a ha
        refine y.alive (Cx.mem_places.mpr ?_)
        simp only [List.mem_cons, List.not_mem_nil, or_false] at ha
        rcases ha with rfl | rfl
        · exact .inl rfl
        · exact .inr (.inr ⟨_, .head _⟩)
      have al₂' : Alt [G, it] s₀ s₂ := (al.trans (al₁.sub (by simp))).trans (al₂.sub (by intro y hy; rw [List.mem_singleton.mp hy]; exact .head _))
      refine rt_execs_cons (rt_If ?_)
      rw [hAf]
      refine (t_cmp (c := { genC b pm G with A := Af, Mu := [(it, IterP l (i + 1)), (l, LP vs)], sg := upd sg "ip" (.ref bn), gs := gs }) (e_ip ow (e_local upd_same) hbn (by obtain ⟨t, rfl⟩ := hun; rfl)) (e_add ((e_ip ow (e_local ((upd_ne (by decide)).trans hl)) hbl (by obtain ⟨t, rfl⟩ := hul; rfl)).mono fun v hv => hv ▸ hul) e_int)
        (fun a b ha hb => q_ne (ha ▸ hun) hb)).use x₂ fun q s₃ hq k₃ x₃ => ?_
      subst hq
      have al₃ := al₂'.trans k₃.alt
      cases hne : (nm != nl + 1) with
      | true => 
        simp only [if_true]
        have hr0 : run nl ((ItSt.at i).rest ns) = 0 := by
          show run nl (ns.drop i) = 0
          rw [dn]; unfold run; rw [if_neg (by simpa using hne)]
        refine rt_execs_cons (rt_Yield rfl ?_ rfl rfl)
        rw [hAf]
        refine (tuple2 (c := { genC b pm G with A := Af, Mu := [(it, IterP l (i + 1)), (l, LP vs)], sg := upd sg "ip" (.ref bn), gs := gs }) (u := fv) (v := .ref bl) (e_local ((upd_ne (by decide)).trans hf)) (e_local ((upd_ne (by decide)).trans hl))).use x₃ fun v s₄ N ⟨T, h3, h4⟩ g₄ x₄ => ?_
        subst h3; subst h4
        intro kk lvs p' hres
        have x₄' : At ((genC b pm G).up [(it, IterP l (i + 1)), (l, LP vs)] (upd sg "ip" (.ref bn)) gs) ((T, TP [fv, .ref bl]) :: O) s₄ := x₄.withA b.A
        refine ⟨_, lvs, kk, _, p', _, T, upd sg "ip" (.ref bn), .ref bl, rfl, rfl, rfl, al₃.fresh_back (alive (st' := .at (i + 1)) (x₃.withA b.A)) (g₄.2 _ (.head _)).1, al₃.trans g₄.1.alt, (upd_ne (by decide)).trans hi, ?_, .inl ⟨i, .ref bn, rfl, ?_, upd_same, ?_, ?_⟩⟩
        · rw [hr0]; rfl
        · rw [hr0]
          show (vs.drop i)[0]? = _
          rw [dv]; rfl
        · rw [hr0]; exact x₄'
        · cases n with
          | zero => trivial
          | succ n =>
            intro s₅ O₅ sg₅ gs₅ st₅ vs₅ ns₅ pv np x₅ hit hip hbp hpp
            refine hres .none s₅ _ (fun a h => nomatch h) ?_
            have y₅ := x₅.withA Af
            refine rt_stmt ?_
            rw [hAf]
            refine x_assign_loc (c := { genC b pm G with A := Af, Mu := [(it, st₅.P l), (l, LP vs₅)], sg := sg₅, gs := gs₅ }) rfl rfl rfl (fun h => nomatch h) (e_local hip) y₅ fun v s₆ hv al₆ x₆ => ?_
            subst hv
            refine rt_execs_nil ?_
            refine rt_stmt ?_
            rw [hAf]
            refine x_assign_loc (c := { genC b pm G with A := Af, Mu := [(it, st₅.P l), (l, LP vs₅)], sg := upd sg₅ "first" v, gs := gs₅ }) rfl rfl rfl (fun h => nomatch h) (e_local (v := v) ((upd_ne (sg := sg₅) (x := "first") (v := v) (by decide)).trans hip)) x₆ fun v' s₇ hv al₇ x₇ => ?_
            subst hv
            refine rt_execs_nil (rt_again rfl ?_)
            refine ihn n (Nat.lt_succ_self n) _ s₅ s₇ O₅ (upd (upd sg₅ "first" v') "last" v') gs₅ st₅ vs₅ ns₅ v' v' np rfl (x₇.withA b.A) ?_ ((upd_ne (by decide)).trans ((upd_ne (by decide)).trans hit)) ((upd_ne (by decide)).trans upd_same) upd_same hbp hpp
            exact (al₆.trans al₇).sub (by intro y hy; rw [List.mem_singleton.mp hy]; exact .head _)
      | false =>
        simp only [Bool.false_eq_true, if_false]
        have e1 : nm = nl + 1 := by simpa using hne
        have hr1 : run nl ((ItSt.at i).rest ns) = run nm ((ItSt.at (i + 1)).rest ns) + 1 := by
          show run nl (ns.drop i) = run nm (ns.drop (i + 1)) + 1
          rw [dn]
          show (if nm = nl + 1 then run nm (ns.drop (i + 1)) + 1 else 0) = _
          rw [if_pos e1]
        refine rt_execs_nil ?_
        refine rt_stmt ?_
        rw [hAf]
        refine x_assign_loc (c := { genC b pm G with A := Af, Mu := [(it, IterP l (i + 1)), (l, LP vs)], sg := upd sg "ip" (.ref bn), gs := gs }) rfl rfl rfl (fun h => nomatch h) (e_local (v := .ref bn) (upd_same (sg := sg) (x := "ip"))) x₃ fun v s₄ hv al₄ x₄ => ?_
        subst hv
        refine rt_execs_nil (rt_again rfl ?_)
        have hlen : ((ItSt.at (i + 1)).rest ns).length = m := by
          show (ns.drop (i + 1)).length = m
          rw [List.length_drop] at hm' ⊢; omega
        refine rt_mono (ihm s₀ s₄ O (upd (upd sg "ip" (.ref bn)) "last" (.ref bn)) gs (.at (i + 1)) vs ns fv (.ref bn) nm hlen (x₄.withA b.A) ?_ ((upd_ne (by decide)).trans ((upd_ne (by decide)).trans hi)) ((upd_ne (by decide)).trans ((upd_ne (by decide)).trans hf)) upd_same ⟨bn, un, rfl, hbn, hun⟩ hp) ?_
        · exact al₃.trans (al₄.sub (by intro y hy; rw [List.mem_singleton.mp hy]; exact .head _))
        · rintro e s' ⟨v, lvs, k, cd, p', fs, T, sg', lastv, rfl, hg, rfl, hT, al', hi', hlast, hor⟩
          refine ⟨_, lvs, k, cd, p', fs, T, sg', lastv, rfl, hg, rfl, hT, al', hi', ?_, ?_⟩
          · rw [hr1]
            show (Value.ref bl :: vs.drop i)[run nm ((ItSt.at (i + 1)).rest ns) + 1]? = some lastv
            rw [dv, List.getElem?_cons_succ]
            exact hlast
          · rcases hor with ⟨i', nv', hst, hnv', hip, hat, hS⟩ | ⟨hr, hat, hL⟩
            · cases hst
              refine .inl ⟨i, nv', rfl, ?_, hip, ?_, hS⟩
              · rw [hr1]
                show (vs.drop i)[run nm ((ItSt.at (i + 1)).rest ns) + 1]? = some nv'
                rw [dv, List.getElem?_cons_succ]
                exact hnv'
              · have e2 : i + run nl ((ItSt.at i).rest ns) + 1 = i + 1 + run nm ((ItSt.at (i + 1)).rest ns) + 1 := by rw [hr1]; omega
                rw [e2]; exact hat
            · refine .inr ⟨?_, hat, hL⟩
              rw [hr1, hr]
              show (ns.drop (i + 1)).length + 1 = (ns.drop i).length
              rw [dn]; rfl
end
end Mine

namespace Mine

theorem entry_next : entryFor table "next" = some Builtin.«next» := entryFor_of_tree (by kernel_rfl)
theorem kind_next : builtinKind "next" = none := by decide +kernel
theorem plain_next : plainId "next" = true := by decide +kernel
theorem args_next1 (a : Value) : argsOk "next" ⟨[a], []⟩ := by unfold argsOk; kernel_rfl
theorem args_next2 (a b : Value) : argsOk "next" ⟨[a, b], []⟩ := by unfold argsOk; kernel_rfl
theorem entry_iter : entryFor table "iter" = some Builtin.«iter» := entryFor_of_tree (by kernel_rfl)
theorem kind_iter : builtinKind "iter" = none := by decide +kernel
theorem plain_iter : plainId "iter" = true := by decide +kernel
theorem args_iter1 (a : Value) : argsOk "iter" ⟨[a], []⟩ := by unfold argsOk; kernel_rfl

section
variable {prog : Program} {w : World} {A : Around} {E : Value → Shared → Prop} {s : Shared}

theorem call_iter {v : Value} {Q : Value → Shared → Prop} (h : wpAny (model prog w) A.in1 (pyIter v) Q E s) : wpAny (model prog w) A (call (.builtin "iter") [v]) Q E s := by
  refine call_function_entry kind_iter plain_iter entry_iter (args_iter1 v) ?_
  show wpAny _ _ (pyIter v >>= fun r => ret r) _ _ s
  exact wpAny_bind (wpAny_mono h (fun r s' hr => wpAny_pure ⟨r, rfl, hr⟩) fun _ _ e => e)
theorem call_next2 {v d : Value} {T id : String} {Q : Value → Shared → Prop} (hT : s.TypeIs v T) (S : Slot T "__next__" id) (h : wpAny (model prog w) A.in1 (pyNext v) (fun r s' => Q (r.getD d) s') E s) :
    wpAny (model prog w) A (call (.builtin "next") [v, d]) Q E s := by
  refine call_function_entry kind_next plain_next entry_next (args_next2 v d) ?_
  show wpAny _ _ (specialOf v "__next__" >>= _) _ _ s
  refine wpAny_bind (wpAny_specialOf hT S.lookup ?_)
  show wpAny _ _ (pyNext v >>= fun r => ret (r.getD d)) _ _ s
  exact wpAny_bind (wpAny_mono h (fun r s' hr => wpAny_pure ⟨_, rfl, hr⟩) fun _ _ e => e)
theorem call_next1_item {it l : Addr} {i : Nat} {items : Array Value} {x : Value} {Q : Value → Shared → Prop} (hit : s.heap.IsListIter it l i) (hl : s.heap.IsList l items) (hx : items[i]? = some x)
    (hQ : ∀ h', h'.IsListIter it l (i + 1) → Heap.SameBut it s.heap h' → Q x { s with heap := h' }) : wpAny (model prog w) A (call (.builtin "next") [.ref it]) Q E s := by
  obtain ⟨o, ho, hc, hd⟩ := id hit
  obtain ⟨ol, hol, _, nl, hdl⟩ := hl
  refine call_function_entry kind_next plain_next entry_next (args_next1 _) ?_
  show wpAny _ _ (specialOf (.ref it) "__next__" >>= _) _ _ s
  refine wpAny_bind (wpAny_specialOf hit.typeIs slot_listiter_next.lookup ?_)
  show wpAny _ _ (callSpecial? (.ref it) "__next__" >>= _) _ _ s
  refine wpAny_bind (wpAny_callSpecial?_slot (name := Str.ofString "__next__") hit.typeIs slot_listiter_next (wpAny_call_entry slot_listiter_next hit.typeIs entry_listiter_next ?_ (args_listiter_next _)))
  show wpAny _ _ (field (.ref it) 0 >>= _) _ _ s
  refine wpAny_bind (wpAny_field ho hd (x := .ref l) rfl ?_)
  show wpAny _ _ (if (Value.ref l == Value.none) = true then _ else _) _ _ s
  rw [if_neg (show ¬ ((Value.ref l == Value.none) = true) from Bool.false_ne_true)]
  show wpAny _ _ (field (.ref it) 1 >>= _) _ _ s
  refine wpAny_bind (wpAny_field ho hd (x := .int i 0) rfl ?_)
  show wpAny _ _ (seqItems? (.ref l) >>= _) _ _ s
  refine wpAny_bind (wpAny_seqItems hol hdl ?_)
  simp only [Int.toNat_natCast, hx]
  refine wpAny_bind (wpAny_setField ho hd (by simp) (wpAny_pure ⟨x, rfl, wpAny_pure ⟨x, rfl, hQ _ ?_ (Heap.SameBut.update ..)⟩⟩))
  exact ⟨_, Heap.get?_update_self _ ho (Obj.isFreed_of_fields (Obj.data_mapFields hd _)), (Obj.cls_mapFields ..).trans hc, by rw [Obj.data_mapFields hd]; simp [rawInt]⟩
end

section
variable {b : Cx} {pm : Value} {G : Addr}

set_option maxHeartbeats 8000000 in
/-- the walk's start, behind the line that makes its iterator -/
theorem gen_start (o : GenOk b pm G) {A : Around} (hA : A.handled = none) (hd : A.depth + 20 < recursionLimit) {it l : Addr} (n : Nat) {s₀ s : Shared} {O : Led} {sg : Str → Option Value} {gs : Array GenState} {i : Nat} {vs : List Value} {ns : List Int} {v₀ : Value} {n₀ : Int}
    (x : At ((genC b pm G).up [(it, IterP l i), (l, LP vs)] sg gs) O s) (al : Alt [G, it] s₀ s) (hi : sg "it" = some (.ref it)) (hv : vs[i]? = some v₀) (hb : Bx O n₀ v₀) (hp : Paired (Bx O) ns vs) :
    RT (model b.prog b.w) A (.func (fnBody 1) (genC b pm G).env) ((execs ((fnBody 1).drop 1) (genC b pm G).env).wrap (fun f => .pure (.done (.ret (match f with | .ret v => v | _ => .none)))) (fun e => (leaving (genC b pm G).env e).wrap (fun _ => .raise e) .raise id id) id id) [] s
      (GOut (genC b pm G) it l (.at (i + 1)) vs ns v₀ v₀ n₀ O gs s₀ (Susp (genC b pm G) A it l n) (LastK (genC b pm G) A)) := by
  have hof := over_func (env := (genC b pm G).env) (body := fnBody 1) hA
  generalize hAf : A.over (.func (fnBody 1) (genC b pm G).env) [] = Af at hof
  have ow := fun Mu sg gs => o Af Mu sg gs hof.1 (by rw [hof.2]; omega)
  refine rt_stmt ?_
  rw [hAf]
  refine wpAny_Assign_two ?_ rfl rfl
  have y := x.withA Af
  refine Call_Name1 ((e_bi (c := { genC b pm G with A := Af, Mu := [(it, IterP l i), (l, LP vs)], sg := sg, gs := gs }) (ow _ sg gs).std.next.1 (ow _ sg gs).std.next.2).use y fun f s₁ e₁ k₁ x₁ => ?_) rfl
  subst e₁
  refine callWith_builtin (args := [(false, eval _ _)]) rfl (evalArgs_plain (spliced_cons ((e_local (c := { genC b pm G with A := Af, Mu := [(it, IterP l i), (l, LP vs)], sg := sg, gs := gs }) hi).use x₁ fun v s₂ e₂ k₂ x₂ => ?_)))
  subst e₂
  refine spliced_nil ?_
  refine call_next1_item (x₂.mu _ (.head _)).isIter (x₂.mu _ (.tail _ (.head _))).isList (by simpa using hv) fun h' hit hs => ?_
  have al₃ : Alt [it] s₂ { s₂ with heap := h' } := Alt.of_same (tk := s₂.toks) hs
  have x₃ : At ({ genC b pm G with A := Af, Mu := [(it, IterP l (i + 1)), (l, LP vs)], sg := sg, gs := gs } : Cx) O { s₂ with heap := h' } :=
    At.setMu (c := { genC b pm G with A := Af, Mu := [], sg := sg, gs := gs }) x₂ rfl al₃ hit
  refine wpAny_assign_Name (w_store_loc (c := { genC b pm G with A := Af, Mu := [(it, IterP l (i + 1)), (l, LP vs)], sg := sg, gs := gs }) rfl rfl rfl (fun h => nomatch h) x₃ fun s₄ al₄ x₄ => ?_)
  refine wpAny_assign_Name (w_store_loc (c := { genC b pm G with A := Af, Mu := [(it, IterP l (i + 1)), (l, LP vs)], sg := upd sg "first" v₀, gs := gs }) rfl rfl rfl (fun h => nomatch h) x₄ fun s₅ al₅ x₅ => ?_)
  have al₅' : Alt [G, it] s₀ s₅ := by
    refine (((al.trans (k₁.trans k₂).alt).trans (al₃.sub ?_)).trans (al₄.sub ?_)).trans (al₅.sub ?_)
    · simp
    · intro y hy; rw [List.mem_singleton.mp hy]; exact .head _
    · intro y hy; rw [List.mem_singleton.mp hy]; exact .head _
  refine rt_execs_cons (rt_For (by intro _; rfl) ?_)
  rw [hAf]
  refine (e_local (c := { genC b pm G with A := Af, Mu := [(it, IterP l (i + 1)), (l, LP vs)], sg := upd (upd sg "first" v₀) "last" v₀, gs := gs }) (v := .ref it) ((upd_ne (by decide)).trans ((upd_ne (by decide)).trans hi))).use x₅ fun u s₆ e₆ k₆ x₆ => ?_
  subst e₆
  refine wpAny_pyIter_listiter (x₆.mu _ (.head _)).isIter fun p => ?_
  refine gen_loop o hA hd ?_ n _ s₀ s₆ O (upd (upd sg "first" v₀) "last" v₀) gs (.at (i + 1)) vs ns v₀ v₀ n₀ rfl (x₆.withA b.A) (al₅'.trans k₆.alt) ((upd_ne (by decide)).trans ((upd_ne (by decide)).trans hi)) ((upd_ne (by decide)).trans upd_same) upd_same hb hp
  intro s₇ O₇ sg₇ gs₇ vs₇ fv lv x₇ _ h1 h2
  exact gen_last o hA hd x₇ h1 h2

set_option maxHeartbeats 8000000 in
/-- a fresh walk over an iterator -/
theorem gen_fresh_iter (o : GenOk b pm G) {A : Around} (hA : A.handled = none) (hd : A.depth + 20 < recursionLimit) {it l : Addr} (n : Nat) {s : Shared} {O : Led} {sg : Str → Option Value} {gs : Array GenState} {i : Nat} {vs : List Value} {ns : List Int} {v₀ : Value} {n₀ : Int}
    (x : At ((genC b pm G).up [(it, IterP l i), (l, LP vs)] sg gs) O s) (hi : sg "addresses" = some (.ref it)) (hv : vs[i]? = some v₀) (hb : Bx O n₀ v₀) (hp : Paired (Bx O) ns vs) :
    RT (model b.prog b.w) A (.func (fnBody 1) (genC b pm G).env) ((model b.prog b.w).den (.func (fnBody 1) (genC b pm G).env)) [] s
      (GOut (genC b pm G) it l (.at (i + 1)) vs ns v₀ v₀ n₀ O gs s (Susp (genC b pm G) A it l n) (LastK (genC b pm G) A)) := by
  have hof := over_func (env := (genC b pm G).env) (body := fnBody 1) hA
  refine rt_func ?_
  generalize hAf : A.over (.func (fnBody 1) (genC b pm G).env) [] = Af at hof
  have ow := fun Mu sg gs => o Af Mu sg gs hof.1 (by rw [hof.2]; omega)
  refine rt_stmt ?_
  rw [hAf]
  have y := x.withA Af
  refine wpAny_Assign_Name (Call_Name1 ((e_bi (c := { genC b pm G with A := Af, Mu := [(it, IterP l i), (l, LP vs)], sg := sg, gs := gs }) (ow _ sg gs).std.iter.1 (ow _ sg gs).std.iter.2).use y fun f s₁ e₁ k₁ x₁ => ?_) rfl) rfl
  subst e₁
  refine callWith_builtin (args := [(false, eval _ _)]) rfl (evalArgs_plain (spliced_cons ((e_local (c := { genC b pm G with A := Af, Mu := [(it, IterP l i), (l, LP vs)], sg := sg, gs := gs }) hi).use x₁ fun v s₂ e₂ k₂ x₂ => ?_)))
  subst e₂
  refine spliced_nil (call_iter (wpAny_pyIter_listiter (x₂.mu _ (.head _)).isIter ?_))
  refine w_store_loc (c := { genC b pm G with A := Af, Mu := [(it, IterP l i), (l, LP vs)], sg := sg, gs := gs }) rfl rfl rfl (fun h => nomatch h) x₂ fun s₃ al₃ x₃ => ?_
  refine gen_start o hA hd n (x₃.withA b.A) ((k₁.trans k₂).alt.trans (al₃.sub ?_)) (upd_same (sg := sg) (x := "it")) hv hb hp
  intro y hy; rw [List.mem_singleton.mp hy]; exact .head _

theorem At.growMu {c : Cx} {O Mu : Led} {s s' : Shared} {p : Ent} (x : At { c with Mu := Mu } O s) (g : Grow [p] s s') : At { c with Mu := p :: Mu } O s' := by
  have x' : At { c with Mu := Mu } O s' := x.keeps g.1
  have hp := g.2 p (.head _)
  have y : At { c with Mu := Mu ++ [p] } O s' := At.addMu x' hp.2 (fun h => x.alive h hp.1) (fun q hq e => by
    obtain ⟨o, eo, _⟩ := x.own q hq
    rw [e, hp.1] at eo; cases eo) (fun o e => by rw [x.base _ o e] at hp; cases hp.1)
  exact y.mu_perm (by simpa using (List.perm_append_comm (l₁ := Mu) (l₂ := [p])))

set_option maxHeartbeats 8000000 in
/-- a fresh walk over a list -/
theorem gen_fresh_list (o : GenOk b pm G) {A : Around} (hA : A.handled = none) (hd : A.depth + 20 < recursionLimit) {l : Addr} (n : Nat) {s : Shared} {O : Led} {sg : Str → Option Value} {gs : Array GenState} {vs : List Value} {ns : List Int} {v₀ : Value} {n₀ : Int}
    (x : At ((genC b pm G).up [(l, LP vs)] sg gs) O s) (hi : sg "addresses" = some (.ref l)) (hv : vs[0]? = some v₀) (hb : Bx O n₀ v₀) (hp : Paired (Bx O) ns vs) :
    RT (model b.prog b.w) A (.func (fnBody 1) (genC b pm G).env) ((model b.prog b.w).den (.func (fnBody 1) (genC b pm G).env)) [] s
      (fun e s' => ∃ it s₁, s.heap.get? it = none ∧ Kp s s₁ ∧ At ((genC b pm G).up [(it, IterP l 0), (l, LP vs)] sg gs) O s₁ ∧ GOut (genC b pm G) it l (.at 1) vs ns v₀ v₀ n₀ O gs s₁ (Susp (genC b pm G) A it l n) (LastK (genC b pm G) A) e s') := by
  have hof := over_func (env := (genC b pm G).env) (body := fnBody 1) hA
  refine rt_func ?_
  generalize hAf : A.over (.func (fnBody 1) (genC b pm G).env) [] = Af at hof
  have ow := fun Mu sg gs => o Af Mu sg gs hof.1 (by rw [hof.2]; omega)
  refine rt_stmt ?_
  rw [hAf]
  have y := x.withA Af
  refine wpAny_Assign_Name (Call_Name1 ((e_bi (c := { genC b pm G with A := Af, Mu := [(l, LP vs)], sg := sg, gs := gs }) (ow _ sg gs).std.iter.1 (ow _ sg gs).std.iter.2).use y fun f s₁ e₁ k₁ x₁ => ?_) rfl) rfl
  subst e₁
  refine callWith_builtin (args := [(false, eval _ _)]) rfl (evalArgs_plain (spliced_cons ((e_local (c := { genC b pm G with A := Af, Mu := [(l, LP vs)], sg := sg, gs := gs }) hi).use x₁ fun v s₂ e₂ k₂ x₂ => ?_)))
  subst e₂
  refine spliced_nil (call_iter (wpAny_pyIter_list (x₂.mu _ (.head _)).isList ?_))
  generalize hit : s₂.heap.objs.size = it
  have g₃ : Grow [(it, IterP l 0)] s₂ { s₂ with heap := s₂.heap.push { cls := .type "list_iterator", data := .fields #[.ref l, .int 0 0] } } := by
    subst hit
    exact Grow.one Kp.push (fresh_size _) ⟨_, Heap.get?_push_size _ rfl, rfl, rfl⟩
  have x₃ := At.growMu (c := { genC b pm G with A := Af, Mu := [(l, LP vs)], sg := sg, gs := gs }) x₂ g₃
  refine w_store_loc (c := { genC b pm G with A := Af, Mu := [(it, IterP l 0), (l, LP vs)], sg := sg, gs := gs }) rfl rfl rfl (fun h => nomatch h) x₃ fun s₄ al₄ x₄ => ?_
  refine rt_mono (gen_start o hA hd n (x₄.withA b.A) (al₄.sub ?_) (upd_same (sg := sg) (x := "it")) hv hb hp) fun e s' h => ?_
  · intro y hy; rw [List.mem_singleton.mp hy]; exact .head _
  · exact ⟨it, _, (k₁.trans k₂).none (g₃.2 _ (.head _)).1, (k₁.trans k₂).trans g₃.1, x₃.withA b.A, h⟩
end
end Mine

namespace Mine

/-- a frame's map, as far as it is known -/
def NsP (f : Str → Option Value) (o : Obj) : Prop := ∃ es ep, o.data = .dict es ep ∧ StrKeys es ∧ ∀ x v, f x = some v → nsFind es x = some v
theorem Has.ns {h : Heap} {a : Addr} {f : Str → Option Value} (x : Has h (a, NsP f)) : ∃ m, h.Ns a m ∧ ∀ y v, f y = some v → m y = some v := by
  obtain ⟨o, e, es, ep, hd, hk, hf⟩ := x
  exact ⟨fun y => nsFind es y, ⟨o, es, ep, e, hd, hk, fun _ => rfl⟩, hf⟩
theorem Has.of_ns {h : Heap} {a : Addr} {m f : Str → Option Value} (x : h.Ns a m) (hf : ∀ y v, f y = some v → m y = some v) : Has h (a, NsP f) := by
  obtain ⟨o, es, ep, e, hd, hk, hm⟩ := x
  exact ⟨o, e, es, ep, hd, hk, fun y v hv => (hm y).trans (hf y v hv)⟩
def GenP (g : Nat) (o : Obj) : Prop := ∃ nm qn, o.cls = .type "generator" ∧ o.data = .fields #[.int g 0, nm, qn] ∧ o.slots = #[]
theorem Has.isGen {h : Heap} {a : Addr} {g : Nat} (x : Has h (a, GenP g)) : h.IsGen a g := let ⟨o, e, nm, qn, q⟩ := x; ⟨o, nm, qn, e, q⟩

/-- a state of a generator that runs to ends of which Φ holds -/
def Wakens (M : Model) (A : Around) (gst : GenState) (s : Shared) (Φ : End → Shared → Prop) : Prop := match gst with
  | .fresh c => RT M A c (M.den c) [] s Φ
  | .suspended k _ c _ fs _ => RT M A c (k (.send .none)) fs s Φ
  | _ => False

section
variable {prog : Program} {w : World} {A : Around} {E : Value → Shared → Prop} {s : Shared}

theorem w_resume {M : Model} {α : Type} {g : Nat} {gst : GenState} {l : List Value} {k : GenResult → Sem α} {Q : α → Shared → Prop} {Φ : End → Shared → Prop} (hg : s.gens[g]? = some gst) (hgo : Wakens M A gst (s.setGen g .running) Φ)
    (hq : ∀ e s₁, Φ e s₁ → e.quiet = true) (hk : ∀ e s₁, Φ e s₁ → wpAny M A (k e.result) Q E (s₁.setGen g e.genState)) : wpAny M A (.resume g (.send .none) l k) Q E s := by
  intro Γ p hΓ
  rw [Sem.wp_resume]
  have hB : ∀ c, (Γ.wake c p).Woken A := fun c => hΓ.wake c p
  cases gst with
  | fresh c =>
    obtain ⟨e₁, s₁, hr, he⟩ := hgo (Γ.wake c p) p rfl (hB c)
    exact ⟨_, _, by unfold Wakes; rw [hg]; exact ⟨e₁, s₁, hr, hq e₁ s₁ he, rfl, rfl⟩, hk e₁ s₁ he Γ p hΓ⟩
  | suspended k₀ l₀ c₀ p₀ fs₀ cl =>
    obtain ⟨e₁, s₁, hr, he⟩ := hgo (Γ.wake c₀ p) p₀ rfl (hB c₀)
    exact ⟨_, _, by unfold Wakes; rw [hg]; exact ⟨e₁, s₁, hr, hq e₁ s₁ he, rfl, rfl⟩, hk e₁ s₁ he Γ p hΓ⟩
  | running => exact hgo.elim
  | finished => exact hgo.elim

/-- the ends of a walk's stretch -/
def Ends (g : Nat) (Q : Option Value → Shared → Prop) (e : End) (s₁ : Shared) : Prop :=
  (∃ v lvs k cd p fs, e = .susp v false lvs k cd p fs ∧ fs.any Frame.guarded = false ∧ Q (some v) (s₁.setGen g (.suspended k lvs cd p fs false))) ∨
  (e = .ret (.ok (.ret .none)) ∧ ∀ h', (∀ b o, s₁.heap.get? b = some o → h'.get? b = some o) → Q none { s₁.setGen g .finished with heap := h' })

theorem w_pyNext {a : Addr} {g : Nat} {gst : GenState} {Q : Option Value → Shared → Prop} (hh : A.handled = none) (hl : s.heap.NoLimit) (hroom : A.depth < recursionLimit) (hg : s.heap.IsGen a g) (hgs : s.gens[g]? = some gst)
    (hgo : Wakens (model prog w) A.in1 gst (s.setGen g .running) (Ends g Q)) : wpAny (model prog w) A (pyNext (.ref a)) Q E s := by
  unfold pyNext
  refine wpAny_bind (wpAny_attempt (wpAny_callSpecial?_slot (name := Str.ofString "__next__") hg.typeIs slot_gen_next
    (wpAny_call_entry slot_gen_next hg.typeIs entry_gen_next ?_ (args_gen_next _))))
  show wpAny _ _ (Builtin.Generator.genWake (.ref a) (.send .none)) _ _ s
  unfold Builtin.Generator.genWake
  refine wpAny_bind (wpAny_holding (wpAny_genNumber hg (wpAny_bind (wpAny_genState hgs ?_))))
  have quiet : ∀ e s₁, Ends g Q e s₁ → e.quiet = true := by
    rintro e s₁ (⟨v, lvs, k, cd, p, fs, rfl, hf, _⟩ | ⟨rfl, _⟩)
    · simp [End.quiet, hf]
    · rfl
  have main : ∀ K : GenResult → Sem Fin, (∀ v, K (.yielded v) = ret v) → (∃ f : PUnit → Sem Fin, K (.returned .none) = (newExc (.type "StopIteration") [] >>= fun e => (raiseNew e : Sem PUnit) >>= f)) →
      wpAny (model prog w) A.in1 (.resume g (.send .none) [] K) (fun fin s' => ∃ v, fin = .done (.ret v) ∧ wpAny (model prog w) A (pure (some v) : Sem (Option Value)) Q E s')
        (fun e s' => wpAny (model prog w) A (isInstance e (.type "StopIteration") >>= fun b => if b = true then pure none else throw e) Q E s') s := by
    intro K hK1 ⟨f2, hK2⟩
    refine w_resume hgs hgo quiet ?_
    rintro e s₁ (⟨v, lvs, k, cd, p, fs, rfl, hf, hQ⟩ | ⟨rfl, hQ⟩)
    · show wpAny _ _ (K (.yielded v)) _ _ _
      rw [hK1]
      refine wpAny_pure ⟨v, rfl, wpAny_pure ?_⟩
      have : (End.susp v false lvs k cd p fs).genState = .suspended k lvs cd p fs false := by simp [End.genState, hf]
      rw [this]; exact hQ
    · show wpAny _ _ (K (.returned .none)) _ _ _
      rw [hK2]
      refine wpAny_bind ?_
      simp only [newExc, newTuple]
      refine wpAny_bind (wpAny_newObj_type ?_ (by size_fits))
      refine wpAny_bind (m := firstArgMember _ _) (wpAny_of_eq (a := Value.none) (by first | rfl | (simp only [firstArgMember]; rfl)) ?_)
      refine wpAny_newObj_type ?_ (by size_fits)
      simp only [raiseNew]
      refine wpAny_bind (wpAny_bind (wpAny_handled ?_))
      rw [show A.in1.handled = none from hh]
      refine wpAny_bind (wpAny_pure (wpAny_throw ?_))
      exact stop_is ⟨_, Heap.get?_push_size _ rfl, rfl⟩ (hQ _ fun b o hb => Heap.get?_push_of_some _ (Heap.get?_push_of_some _ hb))
  cases gst with
  | running => exact hgo.elim
  | finished => exact hgo.elim
  | fresh c =>
    refine wpAny_bind (wpAny_roomToWake hl hroom ?_)
    exact main _ (fun _ => rfl) ⟨_, rfl⟩
  | suspended k₀ l₀ c₀ p₀ fs₀ cl =>
    refine wpAny_bind (wpAny_roomToWake hl hroom ?_)
    exact main _ (fun _ => rfl) ⟨_, rfl⟩

theorem w_pyNext_done {a : Addr} {g : Nat} {Q : Option Value → Shared → Prop} (hh : A.handled = none) (hg : s.heap.IsGen a g) (hgs : s.gens[g]? = some .finished)
    (hQ : ∀ h', (∀ b o, s.heap.get? b = some o → h'.get? b = some o) → Q none { s with heap := h' }) : wpAny (model prog w) A (pyNext (.ref a)) Q E s := by
  unfold pyNext
  refine wpAny_bind (wpAny_attempt (wpAny_callSpecial?_slot (name := Str.ofString "__next__") hg.typeIs slot_gen_next
    (wpAny_call_entry slot_gen_next hg.typeIs entry_gen_next ?_ (args_gen_next _))))
  show wpAny _ _ (Builtin.Generator.genWake (.ref a) (.send .none)) _ _ s
  unfold Builtin.Generator.genWake
  refine wpAny_bind (wpAny_holding (wpAny_genNumber hg (wpAny_bind (wpAny_genState hgs ?_))))
  have hw : ∀ K : GenResult → Sem Fin, (K .finished = (newExc (.type "StopIteration") [] >>= fun e => raiseNew e)) →
      wpAny (model prog w) A.in1 (.resume g (.send .none) [] K) (fun fin s' => ∃ v, fin = .done (.ret v) ∧ wpAny (model prog w) A (pure (some v) : Sem (Option Value)) Q E s')
        (fun e s' => wpAny (model prog w) A (isInstance e (.type "StopIteration") >>= fun b => if b = true then pure none else throw e) Q E s') s := by
    intro K hK Γ p hΓ
    rw [Sem.wp_resume]
    refine ⟨.finished, s, by unfold Wakes; rw [hgs]; exact ⟨rfl, rfl⟩, ?_⟩
    rw [hK]
    have : wpAny (model prog w) A.in1 (newExc (.type "StopIteration") [] >>= fun e => raiseNew e : Sem Fin) (fun fin s' => ∃ v, fin = .done (.ret v) ∧ wpAny (model prog w) A (pure (some v) : Sem (Option Value)) Q E s')
        (fun e s' => wpAny (model prog w) A (isInstance e (.type "StopIteration") >>= fun b => if b = true then pure none else throw e) Q E s') s := by
      refine wpAny_bind ?_
      simp only [newExc, newTuple]
      refine wpAny_bind (wpAny_newObj_type ?_ (by size_fits))
      refine wpAny_bind (m := firstArgMember _ _) (wpAny_of_eq (a := Value.none) (by first | rfl | (simp only [firstArgMember]; rfl)) ?_)
      refine wpAny_newObj_type ?_ (by size_fits)
      simp only [raiseNew]
      refine wpAny_bind (wpAny_handled ?_)
      rw [show A.in1.handled = none from hh]
      refine wpAny_bind (wpAny_pure (wpAny_throw ?_))
      exact stop_is ⟨_, Heap.get?_push_size _ rfl, rfl⟩ (hQ _ fun b o hb => Heap.get?_push_of_some _ (Heap.get?_push_of_some _ hb))
    exact this Γ p hΓ
  exact hw _ rfl
end
end Mine

namespace Mine

section
variable {c : Cx} {O : Led} {s s' : Shared}

theorem At.mu_sub {Mu Mu' : Led} (x : At { c with Mu := Mu } O s) (hp : List.Sublist Mu' Mu) : At { c with Mu := Mu' } O s := by
  have pl : ∀ a, a ∈ ({ c with Mu := Mu' } : Cx).places → a ∈ ({ c with Mu := Mu } : Cx).places := fun a h => by
    rcases Cx.mem_places.mp h with h | h | ⟨p, h⟩
    · exact Cx.mem_places.mpr (.inl h)
    · exact Cx.mem_places.mpr (.inr (.inl h))
    · exact Cx.mem_places.mpr (.inr (.inr ⟨p, hp.subset h⟩))
  refine ⟨x.base, x.own, fun p hq => x.mu p (hp.subset hq), x.ns, x.cell, x.cellAlive, ?_, fun p hq h => x.offO p hq (pl _ h), fun b o e h => x.offB b o e (pl _ h), x.gens, x.os, x.kin, x.tg, x.tb, x.nl⟩
  have nd := x.nodup
  unfold Cx.places at nd ⊢
  exact List.Nodup.sublist (List.Sublist.cons_cons _ (List.Sublist.append (List.Sublist.refl _) (hp.map _))) nd

theorem At.alts {Mu L L' : Led} (x : At { c with Mu := L ++ Mu } O s) (hwc : c.wc = true) (al : Alt (L.map (·.1)) s s') (hL : L'.map (·.1) = L.map (·.1)) (h : ∀ p ∈ L', Has s'.heap p) : At { c with Mu := L' ++ Mu } O s' := by
  have kp : ∀ b o, b ∉ L.map (·.1) → s.heap.get? b = some o → s'.heap.get? b = some o := fun b o hb e => al.get hb e
  have ap : ∀ a ∈ L.map (·.1), a ∈ ({ c with Mu := L ++ Mu } : Cx).places := fun a h => by
    obtain ⟨p, hp, rfl⟩ := List.mem_map.mp h
    exact Cx.mem_places.mpr (.inr (.inr ⟨p.2, List.mem_append_left _ hp⟩))
  have pe : ({ c with Mu := L' ++ Mu } : Cx).places = ({ c with Mu := L ++ Mu } : Cx).places := by
    unfold Cx.places; simp only [List.map_append, hL]
  have nd := x.nodup
  unfold Cx.places at nd
  dsimp only at nd
  rw [hwc, if_pos rfl, List.map_append, List.nodup_cons, List.nodup_append, List.nodup_append] at nd
  obtain ⟨n1, n2, ⟨n5, n6, n7⟩, n4⟩ := nd
  have la : c.env.locals ∉ L.map (·.1) := fun h => n1 (List.mem_append_right _ (List.mem_append_left _ h))
  have ca : ∀ q ∈ c.env.cells, q.2 ∉ L.map (·.1) := fun q hq h => n4 q.2 (List.mem_map.mpr ⟨q, hq, rfl⟩) _ (List.mem_append_left _ h) rfl
  refine ⟨fun b o e => kp b o (fun h => x.offB b o e (ap _ h)) (x.base b o e), fun q hq => (x.own q hq).keep fun o e => kp _ o (fun h => x.offO q hq (ap _ h)) e, fun q hq => ?_, ?_, fun z b u hz hu => ?_, fun q hq => ?_, pe ▸ x.nodup,
    fun q hq => by rw [pe]; exact x.offO q hq, fun b o e => by rw [pe]; exact x.offB b o e, al.gens.trans x.gens, al.os.trans x.os, x.kin, x.tg, x.tb, x.nl⟩
  · rcases List.mem_append.mp hq with hq | hq
    · exact h q hq
    · exact (x.mu q (List.mem_append_right _ hq)).keep fun o e => kp _ o (fun h => n7 _ h _ (List.mem_map.mpr ⟨q, hq, rfl⟩) rfl) e
  · obtain ⟨m, hm, hz⟩ := x.ns
    exact ⟨m, hm.at' fun o e => kp _ o la e, hz⟩
  · obtain ⟨o, ho, hd⟩ := x.cell z b u hz hu
    exact ⟨o, kp b o (ca (z, b) (mem_of_lookup hz)) ho, hd⟩
  · obtain ⟨v, o, ho, hd⟩ := x.cellAlive q hq
    exact ⟨v, o, kp _ o (ca q hq) ho, hd⟩

theorem At.addO {p : Ent} (x : At c O s) (h : Has s.heap p) (hp : p.1 ∉ c.places) : At c (p :: O) s :=
  ⟨x.base, fun q hq => (List.mem_cons.mp hq).elim (fun e => e ▸ h) (x.own q), x.mu, x.ns, x.cell, x.cellAlive, x.nodup, fun q hq => (List.mem_cons.mp hq).elim (fun e => e ▸ hp) (x.offO q),
    x.offB, x.gens, x.os, x.kin, x.tg, x.tb, x.nl⟩
theorem At.withGs {gs : Array GenState} (x : At c O s) : At { c with gs := gs } O { s with gens := gs } :=
  ⟨x.base, x.own, x.mu, x.ns, x.cell, x.cellAlive, x.nodup, x.offO, x.offB, rfl, x.os, x.kin, x.tg, x.tb, x.nl⟩
theorem At.setGen {g : Nat} {z : GenState} (x : At c O s) : At { c with gs := c.gs.setIfInBounds g z } O (s.setGen g z) := by
  have := x.withGs (gs := c.gs.setIfInBounds g z)
  unfold Shared.setGen
  rw [x.gens]; exact this

/-- a law's state, as a walk sees it -/
theorem At.toGen {pm : Value} {G it l : Addr} {f : Str → Option Value} {P : Obj → Prop} {vs : List Value} {X : Led} (x : At { c with Mu := (G, NsP f) :: (it, P) :: (l, LP vs) :: X } O s) (hwc : c.wc = true) :
    At ((genC c pm G).up [(it, P), (l, LP vs)] f c.gs) O s := by
  have nd := x.nodup
  have sub : ∀ a, a ∈ ((genC c pm G).up [(it, P), (l, LP vs)] f c.gs).places → a ∈ ({ c with Mu := (G, NsP f) :: (it, P) :: (l, LP vs) :: X } : Cx).places := fun a h => by
    rcases Cx.mem_places.mp h with h | ⟨_, y, h⟩ | ⟨p, h⟩
    · have h' : a = G := h
      subst h'
      exact Cx.mem_places.mpr (.inr (.inr ⟨_, .head _⟩))
    · exact nomatch (show (y, a) ∈ ([] : List (Str × Addr)) from h)
    · refine Cx.mem_places.mpr (.inr (.inr ⟨p, ?_⟩))
      have h' : (a, p) ∈ [(it, P), (l, LP vs)] := h
      rcases List.mem_cons.mp h' with h' | h'
      · rw [h']; exact .tail _ (.head _)
      · rw [List.mem_singleton.mp h']; exact .tail _ (.tail _ (.head _))
  obtain ⟨m, hm, hf⟩ := (x.mu _ (.head _)).ns
  refine ⟨x.base, x.own, fun p hp => ?_, ⟨m, hm, fun y v _ hv => hf y v hv⟩, fun y a v h _ => ?_, fun p h => ?_, ?_, fun p hp h => x.offO p hp (sub _ h), fun b o e h => x.offB b o e (sub _ h), x.gens, x.os, x.kin, x.tg, x.tb, x.nl⟩
  · have h' : p ∈ [(it, P), (l, LP vs)] := hp
    rcases List.mem_cons.mp h' with h' | h'
    · rw [h']; exact x.mu _ (.tail _ (.head _))
    · rw [List.mem_singleton.mp h']; exact x.mu _ (.tail _ (.tail _ (.head _)))
  · exact nomatch (show ([] : List (Str × Addr)).lookup y = some a from h)
  · exact nomatch (show p ∈ ([] : List (Str × Addr)) from h)
  · unfold Cx.places at nd
    dsimp only at nd
    rw [hwc, if_pos rfl, List.nodup_cons, List.nodup_append] at nd
    obtain ⟨_, _, n3, _⟩ := nd
    show ([G, it, l] : List Addr).Nodup
    refine List.Nodup.sublist ?_ n3
    simp

def onLocals (env : Env) (f : Str → Option Value) : Str → Option Value := fun y => if env.kindOf y = some .local then f y else none

/-- .. and back -/
theorem At.ofGen {pm : Value} {G it l : Addr} {f f' : Str → Option Value} {P P' : Obj → Prop} {vs : List Value} {X : Led} {T : Ent} {gs : Array GenState} (x : At { c with Mu := (G, NsP f) :: (it, P) :: (l, LP vs) :: X } O s) (hwc : c.wc = true)
    (al : Alt [G, it] s s') (hT : s.heap.get? T.1 = none) (y : At ((genC c pm G).up [(it, P'), (l, LP vs)] f' gs) (T :: O) s') :
    At { c with Mu := (G, NsP (onLocals (genC c pm G).env f')) :: (it, P') :: (l, LP vs) :: X } (T :: O) s' := by
  refine At.addO ?_ (y.own _ (.head _)) ?_
  · refine At.alts (L := [(G, NsP f), (it, P)]) (L' := [(G, NsP (onLocals (genC c pm G).env f')), (it, P')]) (Mu := (l, LP vs) :: X) x hwc al rfl ?_
    intro p hp
    rcases List.mem_cons.mp hp with rfl | hp
    · obtain ⟨m, hm, hf⟩ := y.ns
      refine Has.of_ns hm fun z v hv => ?_
      unfold onLocals at hv
      split at hv
      · rename_i hk; exact hf z v hk hv
      · cases hv
    · rw [List.mem_singleton.mp hp]; exact y.mu _ (.head _)
  · intro h
    refine x.alive ?_ hT
    rcases Cx.mem_places.mp h with h | h | ⟨p, h⟩
    · exact Cx.mem_places.mpr (.inl h)
    · exact Cx.mem_places.mpr (.inr (.inl h))
    · refine Cx.mem_places.mpr (.inr (.inr ?_))
      rcases List.mem_cons.mp h with h | h
      · cases h; exact ⟨_, .head _⟩
      · rcases List.mem_cons.mp h with h | h
        · cases h; exact ⟨_, .tail _ (.head _)⟩
        · exact ⟨p, .tail _ (.tail _ h)⟩

theorem wakens_mono {M : Model} {A : Around} {gst : GenState} {Φ Φ' : End → Shared → Prop} (h : Wakens M A gst s Φ) (k : ∀ e s', Φ e s' → Φ' e s') : Wakens M A gst s Φ' := by
  cases gst with
  | fresh c => exact rt_mono h k
  | suspended k₀ l₀ c₀ p₀ fs₀ cl => exact rt_mono h k
  | running => exact h
  | finished => exact h

/-- a walk is asked and tells a pair -/
theorem w_told {A : Around} {E : Value → Shared → Prop} {Q : Option Value → Shared → Prop} {pm : Value} {G it l ga : Addr} {g : Nat} {gst : GenState} {f sg : Str → Option Value} {gs : Array GenState} {P : Obj → Prop} {st : ItSt} {vs : List Value} {ns : List Int} {X : Led}
    {fv lv : Value} {nl : Int} {S L : (Resume → Sem Fin) → Code → List Frame → Prop}
    (x : At (c.up ((G, NsP f) :: (it, P) :: (l, LP vs) :: X) sg gs) O s) (hwc : c.wc = true) (hh : A.handled = none) (hroom : A.depth < recursionLimit) (hga : (ga, GenP g) ∈ O) (hgs : gs[g]? = some gst)
    (hgo : Wakens (model c.prog c.w) A.in1 gst (s.setGen g .running) (GOut (genC c pm G) it l st vs ns fv lv nl O (gs.setIfInBounds g .running) (s.setGen g .running) S L))
    (k1 : ∀ T k lvs cd p fs f' lastv i nv s', st = .at i → (lv :: st.rest vs)[run nl (st.rest ns)]? = some lastv → (st.rest vs)[run nl (st.rest ns)]? = some nv → f' "it" = some (.ref it) → f' "ip" = some nv → S k cd fs →
      At (c.up ((G, NsP f') :: (it, IterP l (i + run nl (st.rest ns) + 1)) :: (l, LP vs) :: X) sg (gs.setIfInBounds g (.suspended k lvs cd p fs false))) ((T, TP [fv, lastv]) :: O) s' → Q (some (.ref T)) s')
    (k2 : ∀ T k lvs cd p fs f' lastv s', (lv :: st.rest vs)[run nl (st.rest ns)]? = some lastv → run nl (st.rest ns) = (st.rest ns).length → L k cd fs →
      At (c.up ((G, NsP f') :: (it, EndP) :: (l, LP vs) :: X) sg (gs.setIfInBounds g (.suspended k lvs cd p fs false))) ((T, TP [fv, lastv]) :: O) s' → Q (some (.ref T)) s') :
    wpAny (model c.prog c.w) A (pyNext (.ref ga)) Q E s := by
  refine w_pyNext hh x.nolimit hroom (x.own _ hga).isGen (by rw [x.gens]; exact hgs) (wakens_mono hgo ?_)
  rintro e s₁ ⟨v, lvs, k, cd, p, fs, T, sg', lastv, rfl, hfs, rfl, hT, al, hit, hlast, hc⟩
  refine .inl ⟨_, lvs, k, cd, p, fs, rfl, hfs, ?_⟩
  have x₁ := At.setGen (g := g) (z := .running) x
  rcases hc with ⟨i, nv, rfl, hnv, hip, y, hS⟩ | ⟨hr, y, hL⟩
  · have y₁ := At.ofGen (c := c.up ((G, NsP f) :: (it, P) :: (l, LP vs) :: X) sg (gs.setIfInBounds g .running)) (T := (T, TP [fv, lastv])) x₁ hwc al hT y
    have y₂ := At.setGen (g := g) (z := .suspended k lvs cd p fs false) y₁
    have e2 : (gs.setIfInBounds g GenState.running).setIfInBounds g (.suspended k lvs cd p fs false) = gs.setIfInBounds g (.suspended k lvs cd p fs false) := by simp
    dsimp only at y₂
    rw [e2] at y₂
    exact k1 T k lvs cd p fs _ lastv i nv _ rfl hlast hnv ((if_pos rfl).trans hit) ((if_pos rfl).trans hip) hS y₂
  · have y₁ := At.ofGen (c := c.up ((G, NsP f) :: (it, P) :: (l, LP vs) :: X) sg (gs.setIfInBounds g .running)) (T := (T, TP [fv, lastv])) x₁ hwc al hT y
    have y₂ := At.setGen (g := g) (z := .suspended k lvs cd p fs false) y₁
    have e2 : (gs.setIfInBounds g GenState.running).setIfInBounds g (.suspended k lvs cd p fs false) = gs.setIfInBounds g (.suspended k lvs cd p fs false) := by simp
    dsimp only at y₂
    rw [e2] at y₂
    exact k2 T k lvs cd p fs _ lastv _ hlast hr hL y₂

/-- a walk that has told its last pair is at its end -/
theorem w_last {A : Around} {E : Value → Shared → Prop} {Q : Option Value → Shared → Prop} {pm : Value} {G ga : Addr} {g : Nat} {k : Resume → Sem Fin} {lvs : List Value} {cd : Code} {p : Pos} {fs : List Frame} {cl : Bool}
    (x : At c O s) (hh : A.handled = none) (hroom : A.depth < recursionLimit) (hga : (ga, GenP g) ∈ O) (hgs : c.gs[g]? = some (.suspended k lvs cd p fs cl)) (hL : LastK (genC c pm G) A.in1 k cd fs)
    (q : ∀ s', At { c with gs := c.gs.setIfInBounds g .finished } O s' → Q none s') : wpAny (model c.prog c.w) A (pyNext (.ref ga)) Q E s := by
  refine w_pyNext hh x.nolimit hroom (x.own _ hga).isGen (by rw [x.gens]; exact hgs) ?_
  refine rt_mono (hL (s.setGen g .running)) ?_
  rintro e s₁ ⟨rfl, rfl⟩
  refine .inr ⟨rfl, fun h' hk => q _ ?_⟩
  have y₂ := At.setGen (g := g) (z := .finished) (At.setGen (g := g) (z := .running) x)
  have e2 : (c.gs.setIfInBounds g GenState.running).setIfInBounds g .finished = c.gs.setIfInBounds g .finished := by simp
  dsimp only at y₂
  rw [e2] at y₂
  exact y₂.keeps ⟨h', _, rfl, hk⟩
theorem w_done {A : Around} {E : Value → Shared → Prop} {Q : Option Value → Shared → Prop} {ga : Addr} {g : Nat} (x : At c O s) (hh : A.handled = none) (hga : (ga, GenP g) ∈ O) (hgs : c.gs[g]? = some .finished)
    (q : ∀ s', At c O s' → Q none s') : wpAny (model c.prog c.w) A (pyNext (.ref ga)) Q E s :=
  w_pyNext_done hh (x.own _ hga).isGen (by rw [x.gens]; exact hgs) fun h' hk => q _ (x.keeps ⟨h', s.toks, rfl, hk⟩)
end
end Mine

namespace Mine

section
variable {c : Cx} {O : Led} {s : Shared} {E : Value → Shared → Prop}

theorem genOk_of {pm : Value} {G : Addr} (o : Own c) : GenOk c pm G := fun A Mu sg gs hA hd =>
  ⟨⟨hA, rfl, rfl, o.std.len, o.std.range, o.std.list, o.std.iter, o.std.next⟩, o.ok, hd, o.cls, o.box, o.far⟩

abbrev argMap (v : Value) : Str → Option Value := upd (fun _ => none) "addresses" v

/-- a walk is made -/
theorem far_call {pm v : Value} {Q : Value → Shared → Prop} (o : Own c) (hfn : c.K.lookup 21 = some ⟨.type "function", none, .func (fdOf "_find_address_range" 1 20 pm), #[]⟩) (x : At c O s)
    (k : ∀ G ga s', At { c with Mu := (G, NsP (argMap v)) :: c.Mu, gs := c.gs.push (.fresh (.func (fnBody 1) (genC c pm G).env)) } ((ga, GenP c.gs.size) :: O) s' → Q (.ref ga) s') :
    wpAny (model c.prog c.w) c.A (call (.ref 21) [v]) Q E s := by
  have hroom : c.A.depth < recursionLimit := by have := o.room; omega
  refine wpAny_call (codeAny_call_generator (fd := fdOf "_find_address_range" 1 20 pm) (body := fnBody 1) hroom (x.In _ _ hfn) rfl rfl rfl rfl (codeRec_of x.In o.ok.code21) ?_)
  have hb : BindsTo s (fdOf "_find_address_range" 1 20 pm) ⟨[v], []⟩ [(("addresses" : Str), v)] := BindsTo.of_eq rfl
  refine hb _ _ _ _ ?_
  refine wpAny_newFunctionEnv (by show ∀ x ∈ (fnScope 1).names, x.2 ≠ .cell; decide) (locs rfl) (fun h₀ hns₀ hsb₀ => ⟨x.nolimit.fresh _ hsb₀, ?_⟩) rfl
  have kp : ∀ b o, s.heap.get? b = some o → h₀.get? b = some o := fun b o e => hsb₀.extBut b o (Nat.ne_of_lt (Heap.lt_size e)) (Heap.get?_push_of_some _ e)
  have g₁ : Grow [(s.heap.objs.size, NsP (argMap v))] s { s with heap := h₀, toks := s.toks + 1 } := by
    refine Grow.one ⟨h₀, s.toks + 1, rfl, kp⟩ (fresh_size _) (Has.of_ns hns₀ fun y u hu => ?_)
    by_cases h : y = "addresses"
    · subst h
      rw [show argMap v "addresses" = some v from upd_same] at hu
      simpa using hu
    · rw [show argMap v y = none from upd_ne h] at hu; cases hu
  have x₁ := At.growMu (c := c) x g₁
  generalize hG : s.heap.objs.size = G at *
  dsimp only
  have hgs : s.gens = c.gs := x.gens
  have g₂ : Grow [(h₀.objs.size, GenP c.gs.size)] { s with heap := h₀, toks := s.toks + 1 } { s with heap := h₀.push { cls := .type "generator", data := .fields #[.int s.gens.size 0, .str (fdOf "_find_address_range" 1 20 pm).name (s.toks + 1), .str (fdOf "_find_address_range" 1 20 pm).qualname (s.toks + 1 + 1)] }, toks := s.toks + 1 + 1 + 1 } := by
    refine Grow.one ⟨_, _, rfl, fun b o e => Heap.get?_push_of_some _ e⟩ (fresh_size _) ⟨_, Heap.get?_push_size _ rfl, _, _, rfl, by rw [hgs], rfl⟩
  have x₂ := (At.grow x₁ g₂).withGs (gs := c.gs.push (.fresh (.func (fnBody 1) (genC c pm G).env)))
  refine k G h₀.objs.size _ ?_
  have e3 : (s.gens.push (.fresh (.func (fnBody 1) (newEnv (fdOf "_find_address_range" 1 20 pm).scope G (fdOf "_find_address_range" 1 20 pm).globals (fdOf "_find_address_range" 1 20 pm).closure
    ((fdOf "_find_address_range" 1 20 pm).qualname ++ ".<locals>.") (some 21) (fdOf "_find_address_range" 1 20 pm).code none (fdOf "_find_address_range" 1 20 pm).builtins)))) = c.gs.push (.fresh (.func (fnBody 1) (genC c pm G).env)) := by rw [hgs]; rfl
  rw [← e3] at x₂ ⊢
  exact x₂

theorem e_far {e : Expr} {p pos : Pos} {pm v : Value} {Q : Value → Shared → Prop} (o : Own c) (hfn : c.K.lookup 21 = some ⟨.type "function", none, .func (fdOf "_find_address_range" 1 20 pm), #[]⟩) (x : At c O s) (h : TV c O (eval e c.env) (· = v))
    (k : ∀ G ga s', At { c with Mu := (G, NsP (argMap v)) :: c.Mu, gs := c.gs.push (.fresh (.func (fnBody 1) (genC c pm G).env)) } ((ga, GenP c.gs.size) :: O) s' → Q (.ref ga) s')
    (hk : c.env.kindOf "_find_address_range" = some .globalImplicit := by rfl) (hf : c.env.scope.kind = .function := by rfl) (hs : starEach [e] c.env = [(false, eval e c.env)] := by rfl) :
    wpAny (model c.prog c.w) c.A (eval (.Call (.Name "_find_address_range" p) [e] [] pos) c.env) Q E s :=
  Call_Name1 ((e_glob o.far hk o.std.gl hf).use x fun f s₁ e₁ k₁ x₁ => by
    subst e₁
    refine callWith_of (P := c.K.In) (args := [(false, eval e c.env)]) rfl (keeps_K o.ok.keep21) (evalArgs_plain (spliced_cons (h.use x₁ fun u s₂ q k₂ x₂ => spliced_nil ⟨x₂.In, ?_⟩)))
    subst q
    exact far_call o hfn x₂ k) hs

/-- next(walk, None) -/
theorem e_next {x d : Str} {p p1 p2 pos : Pos} {k : Nat} {ga : Addr} {g : Nat} {Q : Value → Shared → Prop} (S : Std c) (y : At c O s) (h : TV c O (eval (.Name x p1) c.env) (· = .ref ga)) (hga : (ga, GenP g) ∈ O)
    (hn : ∀ s', At c O s' → wpAny (model c.prog c.w) c.A.in1 (pyNext (.ref ga)) (fun r s' => Q (r.getD .none) s') E s')
    (hk : c.env.kindOf "next" = some .globalImplicit := by rfl) (hf : c.env.scope.kind = .function := by rfl) (hs : starEach [.Name x p1, .Constant .none k p2] c.env = [(false, eval (.Name x p1) c.env), (false, eval (.Constant .none k p2) c.env)] := by rfl) :
    wpAny (model c.prog c.w) c.A (eval (.Call (.Name "next" p) [.Name x p1, .Constant .none k p2] [] pos) c.env) Q E s :=
  Call_Name2 ((e_bi S.next.1 S.next.2 hk S.gl S.bu hf).use y fun f s₁ e₁ k₁ x₁ => by
    subst e₁
    refine callWith_builtin (args := [(false, eval (.Name x p1) c.env), (false, eval (.Constant .none k p2) c.env)]) rfl (evalArgs_plain (spliced_cons (h.use x₁ fun v s₂ e₂ k₂ x₂ => spliced_cons (e_none.use x₂ fun u s₃ e₃ k₃ x₃ => spliced_nil ?_))))
    subst e₂; subst e₃
    exact call_next2 (x₃.own _ hga).isGen.typeIs slot_gen_next (hn s₃ x₃)) hs

/-- iter(list): a new iterator -/
theorem e_iter {e : Expr} {p pos : Pos} {l : Addr} {vs : List Value} {Q : Value → Shared → Prop} (S : Std c) (y : At c O s) (h : TV c O (eval e c.env) (· = .ref l)) (hl : InL c O (l, LP vs))
    (k : ∀ it s', At { c with Mu := (it, IterP l 0) :: c.Mu } O s' → Q (.ref it) s')
    (hk : c.env.kindOf "iter" = some .globalImplicit := by rfl) (hf : c.env.scope.kind = .function := by rfl) (hs : starEach [e] c.env = [(false, eval e c.env)] := by rfl) :
    wpAny (model c.prog c.w) c.A (eval (.Call (.Name "iter" p) [e] [] pos) c.env) Q E s :=
  Call_Name1 ((e_bi S.iter.1 S.iter.2 hk S.gl S.bu hf).use y fun f s₁ e₁ k₁ x₁ => by
    subst e₁
    refine callWith_builtin (args := [(false, eval e c.env)]) rfl (evalArgs_plain (spliced_cons (h.use x₁ fun v s₂ e₂ k₂ x₂ => ?_)))
    subst e₂
    refine spliced_nil (call_iter (wpAny_pyIter_list (x₂.has hl).isList ?_))
    refine k _ _ (At.growMu (c := c) x₂ (Grow.one Kp.push (fresh_size _) ⟨_, Heap.get?_push_size _ rfl, rfl, rfl⟩))) hs

/-- an assignment whose right side changes the state -/
theorem x_assign_raw {x : Str} {p' pos : Pos} {e : Expr} {Q : Flow → Shared → Prop}
    (h : wpAny (model c.prog c.w) c.A (eval e c.env) (fun v s' => ∃ c' O', At c' O' s' ∧ (c'.prog = c.prog ∧ c'.w = c.w ∧ c'.A = c.A ∧ c'.env = c.env) ∧ Stores c' x ∧ ∀ s'', At (c'.set x v) O' s'' → Q .next s'') E s)
    (hs : swapsWith e (some (.Name x p')) pos.line c.env = pure false := by rfl) : wpAny (model c.prog c.w) c.A (exec (.Assign [.Name x p'] e pos) c.env) Q E s :=
  wpAny_Assign_Name (wpAny_mono h (fun v s' ⟨c', O', y, ⟨h1, h2, h3, h4⟩, hx, k⟩ => by
    rw [← h1, ← h2, ← h3, ← h4]
    exact w_store hx y fun s'' _ y' => k s'' y') fun _ _ e => e) hs
end
end Mine

namespace Mine

section
variable {prog : Program} {w : World} {A : Around} {R : Result → Shared → Prop}

theorem Alt.eq_with {X : List Addr} {s s' : Shared} (a : Alt X s s') : s' = { s with heap := s'.heap, toks := s'.toks } := by
  obtain ⟨h, t, rfl, _⟩ := a; rfl

/-- the loop of list(..) over a list iterator, to its very end -/
theorem ext_loop {S it l : Addr} {vs : List Value} {res : Value} (hh : A.handled = none) (h1 : S ≠ it) (h2 : S ≠ l) (h3 : it ≠ l) (hn : vs.length ≤ 100000) :
    ∀ (m i : Nat) (s : Shared) (acc : List Value) (c : Nat), vs.length - i = m → i ≤ vs.length → acc.length ≤ i → s.heap.IsListIter it l i → s.heap.IsList l vs.toArray → s.heap.get? S = some { cls := .type "list", dict := none, data := .seq acc.toArray c, slots := #[] } →
    (∀ s' c', Alt [S, it] s s' → Has s'.heap (it, EndP) → s'.heap.get? S = some { cls := .type "list", dict := none, data := .seq (acc ++ vs.drop i).toArray c', slots := #[] } → R (.ok (.ret res)) s') →
    codeAny (model prog w) A (.builtin "list.extend.loop" ⟨[.ref S, .ref it, res], []⟩) R s := by
  intro m
  induction m with
  | zero =>
    intro i s acc c hm hi ha hit hl hS hR
    refine codeAny_builtin F.entry_extend_loop ?_
    rw [Around.under_plainId F.plain_extend_loop _]
    show wpAny _ A.in1 (pyNext (.ref it) >>= _) _ _ s
    refine wpAny_bind (next_end (A := A.in1) hh hit hl (by simp; omega) fun h' he hx => ?_)
    refine wpAny_pure (hR _ c ((Alt.of_ext (tk := s.toks) hx).sub (by simp)) he ?_)
    rw [List.drop_of_length_le (by omega), List.append_nil]
    exact hx S _ h1 hS
  | succ m ih =>
    intro i s acc c hm hi ha hit hl hS hR
    have hlt : i < vs.length := by omega
    refine codeAny_builtin F.entry_extend_loop ?_
    rw [Around.under_plainId F.plain_extend_loop _]
    show wpAny _ A.in1 (pyNext (.ref it) >>= _) _ _ s
    refine wpAny_bind (wpAny_pyNext_list_item hit hl (x := vs[i]) (by simp [hlt]) fun h' hit' hs => ?_)
    have hS' : h'.get? S = some { cls := .type "list", dict := none, data := .seq acc.toArray c, slots := #[] } := (hs.2 S h1).trans hS
    have hl' : h'.IsList l vs.toArray := by
      obtain ⟨o, e, q⟩ := hl
      exact ⟨o, (hs.2 l (Ne.symm h3)).trans e, q⟩
    show wpAny _ A.in1 (updateSeq S (·.push vs[i]) >>= _) _ _ _
    refine wpAny_bind ?_
    have hU := Heap.get?_update_self (Obj.mapSeq (·.push vs[i])) hS' rfl
    have hO : ∀ b, b ≠ S → (h'.update S (Obj.mapSeq (·.push vs[i]))).get? b = h'.get? b := fun b hb => Heap.get?_update_other _ _ (Ne.symm hb)
    have e0 : (Obj.mapSeq (·.push vs[i]) ({ cls := .type "list", dict := none, data := .seq acc.toArray c, slots := #[] } : Obj)) = { cls := .type "list", dict := none, data := .seq (acc ++ [vs[i]]).toArray (c + 1), slots := #[] } := by
      simp [Obj.mapSeq_push_plain]
    rw [e0] at hU
    refine wpAny_updateSeq hS' rfl (wpAny_pure ⟨plainId_quiet F.plain_extend_loop _, ih (i + 1) _ (acc ++ [vs[i]]) (c + 1) (by omega) hlt (by simp; omega) ?_ ?_ hU fun s'' c'' al'' he'' hS'' => ?_⟩) ?_ ?_
    · obtain ⟨o, e, q⟩ := hit'
      exact ⟨o, (hO it (Ne.symm h1)).trans e, q⟩
    · obtain ⟨o, e, q⟩ := hl'
      exact ⟨o, (hO l (Ne.symm h2)).trans e, q⟩
    · refine hR s'' c'' (Alt.trans ?_ al'') he'' ?_
      · refine ⟨_, s.toks, rfl, fun b o hb e => ?_⟩
        simp only [List.mem_cons, List.not_mem_nil, or_false, not_or] at hb
        exact (hO b hb.1).trans ((hs.2 b hb.2).trans e)
      · rw [List.append_assoc, List.singleton_append, ← List.drop_eq_getElem_cons hlt] at hS''
        exact hS''
    · rw [List.size_toArray]; exact small_line (by omega)
    · show (acc.toArray.push vs[i]).size ≤ sizeLine + 1
      rw [Array.size_push, List.size_toArray]
      have := small_line (n := acc.length) (by omega)
      omega

theorem call_list_iter {E : Value → Shared → Prop} {Q : Value → Shared → Prop} {s : Shared} {it l : Addr} {i : Nat} {vs : List Value} (hh : A.handled = none) (hit : s.heap.IsListIter it l i) (hl : s.heap.IsList l vs.toArray) (h3 : it ≠ l) (hi : i ≤ vs.length) (hn : vs.length ≤ 100000)
    (hQ : ∀ h' tk, (∀ b o, b ≠ it → s.heap.get? b = some o → h'.get? b = some o) → Has h' (it, EndP) → Has h' (s.heap.objs.size, LP (vs.drop i)) → Q (.ref s.heap.objs.size) { s with heap := h', toks := tk }) :
    wpAny (model prog w) A (call (.type "list") [.ref it]) Q E s := by
  have litt : it < s.heap.objs.size := by obtain ⟨o, e, _⟩ := hit; exact Heap.lt_size e
  have ltl : l < s.heap.objs.size := by obtain ⟨o, e, _⟩ := hl; exact Heap.lt_size e
  have h1 : s.heap.objs.size ≠ it := Nat.ne_of_gt litt
  have h2 : s.heap.objs.size ≠ l := Nat.ne_of_gt ltl
  refine callType_codes (Q₁ := fun obj s₁ => obj = .ref s.heap.objs.size ∧ s₁ = { s with heap := s.heap.push { cls := .type "list", data := .seq #[] } }) F.called_list (F.typeCall_list_1 _) F.entry_list_init
    (code_list_new _ ⟨rfl, rfl⟩) fun obj s₁ h₁ => ?_
  obtain ⟨rfl, rfl⟩ := h₁
  have hS : (s.heap.push { cls := .type "list", data := .seq #[] }).get? s.heap.objs.size = some { cls := .type "list", data := .seq #[] } := Heap.get?_push_size _ rfl
  refine ⟨⟨_, hS, rfl⟩, F.args_list_init_2 _ _, ?_⟩
  generalize hSe : s.heap.objs.size = S at *
  show wpAny _ A.in1.in1 (do let old ← Builtin.List.listItems (.ref S); Builtin.List.listUpdate (.ref S) (fun _ => #[]); letGo old.toList.reverse; Builtin.List.listExtendWith (.ref S) (.ref it) .none) _ _ _
  refine wpAny_bind ?_
  unfold Builtin.List.listItems
  refine wpAny_bind (wpAny_seqItems hS rfl (wpAny_pure ?_))
  show wpAny _ A.in1.in1 (updateSeq S (fun _ => #[]) >>= fun _ => letGo (#[] : Array Value).toList.reverse >>= fun _ => Builtin.List.listExtendWith (.ref S) (.ref it) .none) _ _ _
  refine wpAny_bind (wpAny_updateSeq hS rfl ?_)
  have hS₂ := Heap.get?_update_self (Obj.mapSeq (fun _ => (#[] : Array Value))) hS rfl
  have oth : ∀ b o, b ≠ S → s.heap.get? b = some o → ((s.heap.push { cls := .type "list", data := .seq #[] }).update S (Obj.mapSeq (fun _ => (#[] : Array Value)))).get? b = some o :=
    fun b o hb e => (Heap.get?_update_other _ _ (Ne.symm hb)).trans (Heap.get?_push_of_some _ e)
  refine wpAny_bind (wpAny_letGo ?_)
  generalize hh' : (s.heap.push { cls := .type "list", data := .seq #[] }).update S (Obj.mapSeq (fun _ => (#[] : Array Value))) = h' at hS₂ oth
  have hit₂ : h'.IsListIter it l i := by obtain ⟨o, e, q⟩ := hit; exact ⟨o, oth it o (Ne.symm h1) e, q⟩
  have hl₂ : h'.IsList l vs.toArray := by obtain ⟨o, e, q⟩ := hl; exact ⟨o, oth l o (Ne.symm h2) e, q⟩
  unfold Builtin.List.listExtendWith
  have hT : ({ s with heap := h' } : Shared).TypeIs (.ref it) "list_iterator" := Heap.IsListIter.typeIs (s := { s with heap := h' }) hit₂
  refine wpAny_bind (wpAny_typeOf hT ?_)
  have g1 : Builtin.List.listSameRef (.ref S) (.ref it) = false := by simp [Builtin.List.listSameRef, h1]
  rw [if_neg (by rw [g1]; decide)]
  refine wpAny_bind (wpAny_pyIter_listiter hit₂ ?_)
  refine wpAny_bind (wpAny_holding ?_)
  unfold Builtin.List.listLengthHint
  refine wpAny_bind (wpAny_specialOf hT F.nolen_li ?_)
  show wpAny _ A.in1.in1 (specialOf (Value.ref it) (Str.ofString "__length_hint__") >>= _) _ _ _
  refine wpAny_bind (wpAny_specialOf hT F.hint_li ?_)
  (generalize hid : ("list_iterator.__length_hint__" : String) = id0; (fail_if_success (clear hid id0)); wp_delta; rw [show splitId id0 = some ("list_iterator", "__length_hint__") from by subst hid; decide +kernel]; subst hid)
  refine wpAny_bind (wpAny_isInstance (b := true) hT (by rw [isSubtype_type]; kernel_rfl) ?_)
  refine wpAny_pure ?_
  rw [if_neg (by decide)]
  obtain ⟨c0, hS₃⟩ : ∃ c0, h'.get? S = some { cls := .type "list", dict := none, data := .seq ([] : List Value).toArray c0, slots := #[] } := ⟨_, hS₂⟩
  refine wpAny_pure ⟨plainId_quiet F.plain_extend_loop _, ext_loop (A := A.in1) hh h1 h2 h3 hn (vs.length - i) i _ [] _ rfl hi (Nat.zero_le _) hit₂ hl₂ hS₃ fun s' c' al he hS' => ?_⟩
  refine ⟨rfl, ?_⟩
  rw [al.eq_with]
  refine hQ _ _ (fun b o hb e => ?_) he ⟨_, hS', c', rfl⟩
  have hbS : b ≠ S := fun h => by
    rw [h, ← hSe, fresh_size] at e; cases e
  exact al.get (by simp [hb, hbS]) (oth b o hbS e)
end
end Mine

namespace Mine

section
variable {c : Cx} {O : Led} {s : Shared} {E : Value → Shared → Prop}

/-- list(it): the rest of the list, and the iterator is at its end -/
theorem e_listiter {e : Expr} {p pos : Pos} {G it l : Addr} {pg : Obj → Prop} {i : Nat} {vs : List Value} {X : Led} {sg : Str → Option Value} {gs : Array GenState} {Q : Value → Shared → Prop} (S : Std (c.up ((G, pg) :: (it, IterP l i) :: (l, LP vs) :: X) sg gs)) (hwc : c.wc = true)
    (y : At (c.up ((G, pg) :: (it, IterP l i) :: (l, LP vs) :: X) sg gs) O s) (h : TV (c.up ((G, pg) :: (it, IterP l i) :: (l, LP vs) :: X) sg gs) O (eval e c.env) (· = .ref it)) (hi : i ≤ vs.length) (hn : vs.length ≤ 100000)
    (k : ∀ D s', At (c.up ((G, pg) :: (it, EndP) :: (l, LP vs) :: X) sg gs) ((D, LP (vs.drop i)) :: O) s' → Q (.ref D) s')
    (hk : c.env.kindOf "list" = some .globalImplicit := by rfl) (hf : c.env.scope.kind = .function := by rfl) (hs : starEach [e] c.env = [(false, eval e c.env)] := by rfl) :
    wpAny (model c.prog c.w) c.A (eval (.Call (.Name "list" p) [e] [] pos) c.env) Q E s :=
  Call_Name1 ((e_bi (c := c.up ((G, pg) :: (it, IterP l i) :: (l, LP vs) :: X) sg gs) S.list.1 S.list.2 hk S.gl S.bu hf).use y fun f s₁ e₁ k₁ x₁ => by
    subst e₁
    refine PyProof.Rows.callWith_type (args := [(false, eval e c.env)]) rfl (evalArgs_plain (spliced_cons (h.use x₁ fun v s₂ e₂ k₂ x₂ => ?_)))
    subst e₂
    have nd := x₂.nodup
    unfold Cx.places at nd
    dsimp only at nd
    rw [hwc, if_pos rfl, List.nodup_cons, List.nodup_append] at nd
    obtain ⟨_, _, n3, _⟩ := nd
    simp only [List.map_cons, List.nodup_cons, List.mem_cons, not_or] at n3
    refine spliced_nil (call_list_iter S.hh (x₂.mu _ (.tail _ (.head _))).isIter (x₂.mu _ (.tail _ (.tail _ (.head _)))).isList n3.2.1.1 hi hn fun h' tk kp he hD => ?_)
    refine k _ _ (At.addO ?_ hD ?_)
    · refine At.alts (c := c.up [] sg gs) (L := [(G, pg), (it, IterP l i)]) (L' := [(G, pg), (it, EndP)]) (Mu := (l, LP vs) :: X) x₂ hwc ⟨h', tk, rfl, fun b o hb e => kp b o (fun h => hb (h ▸ .tail _ (.head _))) e⟩ rfl ?_
      intro q hq
      rcases List.mem_cons.mp hq with rfl | hq
      · exact (x₂.mu _ (.head _)).keep fun o e => kp _ o n3.1.1 e
      · rw [List.mem_singleton.mp hq]; exact he
    · intro h
      refine x₂.alive (a := s₂.heap.objs.size) ?_ (fresh_size _)
      rcases Cx.mem_places.mp h with h | h | ⟨p, h⟩
      · exact Cx.mem_places.mpr (.inl h)
      · exact Cx.mem_places.mpr (.inr (.inl h))
      · refine Cx.mem_places.mpr (.inr (.inr ?_))
        rcases List.mem_cons.mp h with h | h
        · have := congrArg Prod.fst h
          exact ⟨_, by rw [show s₂.heap.objs.size = G from this]; exact .head _⟩
        · rcases List.mem_cons.mp h with h | h
          · have := congrArg Prod.fst h
            exact ⟨_, .tail _ (by rw [show s₂.heap.objs.size = it from this]; exact .head _)⟩
          · exact ⟨p, .tail _ (.tail _ h)⟩) hs

/-- x.append(e), for a list that is written -/
theorem x_append {x : Str} {p apos pos spos : Pos} {e : Expr} {D : Addr} {xs : List Value} {X : Led} {P : Value → Led → Prop} {Q : Flow → Shared → Prop} (hwc : c.wc = true) (hMu : c.Mu = (D, LP xs) :: X) (y : At c O s)
    (h1 : TV c O (eval (.Name x p) c.env) (· = .ref D)) (h2 : Tr c O (eval e c.env) P) (hn : xs.length ≤ 100000)
    (k : ∀ v N s', P v N → At { c with Mu := (D, LP (xs ++ [v])) :: X } (N ++ O) s' → Q .next s')
    (hbase : attributeBase (.Name x p) "append" c.env (eval (.Name x p) c.env) = eval (.Name x p) c.env := by rfl)
    (hfew : ((backTo pos (starEach [e] c.env)).all (fun x => !x.1) && (backToKw pos (keywordEach [] c.env)).all (fun x => x.1.isSome)
      && decide (([e] : List Expr).length + ([] : List Keyword).length + (if ([] : List Keyword).isEmpty then 0 else 1) < 30)) = true := by rfl)
    (hline : (apos.endLine == pos.line) = true := by rfl) (htrees : backTo pos (starEach [e] c.env) = [(false, eval e c.env)] := by rfl)
    (hi : interactive c.env = false := by rfl) (hs : swapsWith (.Call (.Attribute (.Name x p) "append" apos) [e] [] pos) none spos.line c.env = pure false := by rfl) :
    wpAny (model c.prog c.w) c.A (exec (.Expr (.Call (.Attribute (.Name x p) "append" apos) [e] [] pos) spos) c.env) Q E s := by
  refine wpAny_Expr_any (wpAny_Call_append hbase hfew hline htrees (h1.use y fun v s₁ q k₁ y₁ => ?_)) hi hs
  subst q
  have hD : (D, LP xs) ∈ c.Mu := by rw [hMu]; exact .head _
  obtain ⟨o, eo, n, rfl⟩ := y₁.mu _ hD
  refine ⟨D, xs.toArray, rfl, ⟨_, n, eo, rfl, rfl, rfl⟩, h2.use y₁ fun v s₂ N p g y₂ => ?_⟩
  obtain ⟨o, eo, n, rfl⟩ := y₂.mu _ hD
  refine wpAny_list_append_plain ⟨n, eo⟩ (fun h' hl hsb => k v N _ p ?_) (by rw [List.size_toArray]; exact small_line hn)
  have y₃ : At { c with Mu := (D, LP xs) :: X } (N ++ O) s₂ := by rw [← hMu]; exact y₂
  refine At.setMu (c := c) y₃ hwc (Alt.of_same (tk := s₂.toks) hsb) ?_
  obtain ⟨n', e'⟩ := hl
  exact ⟨_, e', n', by simp⟩

theorem x_if {t : Expr} {b o : List Stmt} {pos : Pos} {q : Bool} {Q : Flow → Shared → Prop} (y : At c O s) (h : TV c O (isTrue t c.env (eval t c.env)) (· = q))
    (h1 : q = true → ∀ s', At c O s' → wpAny (model c.prog c.w) c.A (execs b c.env) Q E s') (h2 : q = false → ∀ s', At c O s' → wpAny (model c.prog c.w) c.A (execs o c.env) Q E s') :
    wpAny (model c.prog c.w) c.A (exec (.If t b o pos) c.env) Q E s :=
  wpAny_If (h.use y fun v s' hv k y' => by
    subst hv
    cases v with
    | true => exact h1 rfl s' y'
    | false => exact h2 rfl s' y')

theorem e_concat {l r : Expr} {pos : Pos} {P1 P2 R : Value → Led → Prop} (h1 : Tr c O (eval l c.env) P1) (h2 : ∀ a N1, P1 a N1 → Tr c (N1 ++ O) (eval r c.env) P2)
    (h3 : ∀ a N1 b N2, P1 a N1 → P2 b N2 → ∃ A xs B ys, a = .ref A ∧ b = .ref B ∧ InL c (N2 ++ (N1 ++ O)) (A, LP xs) ∧ InL c (N2 ++ (N1 ++ O)) (B, LP ys) ∧ xs.length + ys.length ≤ 100000 ∧ ∀ D, R (.ref D) ((D, LP (xs ++ ys)) :: (N2 ++ N1))) :
    Tr c O (eval (.BinOp l .Add r pos) c.env) R :=
  e_binL h1 h2 fun a N1 b N2 p1 p2 s E x => by
    obtain ⟨A, xs, B, ys, rfl, rfl, hA, hB, hn, hR⟩ := h3 a N1 b N2 p1 p2
    obtain ⟨n, eA⟩ := (x.has hA).isL
    obtain ⟨n', eB⟩ := (x.has hB).isL
    refine P.add_list eA eB ⟨[(s.heap.objs.size, LP (xs ++ ys))], hR _, Grow.one Kp.push (fresh_size _) ?_⟩ (by rw [List.size_toArray, List.size_toArray]; exact small_line hn)
    exact ⟨_, Heap.get?_push_size _ rfl, 0, by simp⟩

theorem t_cmpL {l r : Expr} {op : CmpOp} {pos : Pos} {w : Sem Value} {q : Bool} {P1 P2 : Value → Led → Prop} (h1 : Tr c O (eval l c.env) P1) (h2 : ∀ a N1, P1 a N1 → Tr c (N1 ++ O) (eval r c.env) P2)
    (h3 : ∀ a N1 b N2, P1 a N1 → P2 b N2 → TV c (N2 ++ (N1 ++ O)) (compareOp op a b) (· = .bool q))
    (hm : behindInMarks op r = false := by with_unfolding_all rfl) : TV c O (isTrue (.Compare l [op] [r] pos) c.env w) (· = q) := fun s E x =>
  wpAny_isTrue_Compare1 (h1.use x fun a s₁ N1 p₁ k₁ x₁ => (h2 a N1 p₁).use x₁ fun b s₂ N2 p₂ k₂ x₂ => (h3 a N1 b N2 p₁ p₂).use x₂ fun v s₃ p₃ k₃ _ => by subst p₃; exact wpAny_truthy_bool ⟨rfl, k₁.1.trans (k₂.1.trans k₃)⟩) hm

/-- two lists that are alike, item by item -/
theorem q_ne_alike {l b : Addr} {xs ys : List Value} (hu : c.A.units < cLine) (hl : InL c O (l, LP xs)) (hb : InL c O (b, LP ys)) (hn : xs.length = ys.length)
    (he : ∀ s, At c O s → ∀ j (h1 : j < xs.toArray.size) (h2 : j < ys.toArray.size), SeqAt.EqAt c.A.in1 s xs.toArray[j] ys.toArray[j] true) : TV c O (compareOp .NotEq (.ref l) (.ref b)) (· = .bool false) := fun s E x => by
  refine SeqAt.RcNeAt.lists (e := fun _ => true) (x.has hl).isList (x.has hb).isList (by simpa using hn) hu (he s x) _ _ _ _ ?_
  exact ⟨by simp, Kp.refl s⟩
theorem q_eq_alike {l b : Addr} {xs ys : List Value} (hu : c.A.units < cLine) (hl : InL c O (l, LP xs)) (hb : InL c O (b, LP ys)) (hn : xs.length = ys.length)
    (he : ∀ s, At c O s → ∀ j (h1 : j < xs.toArray.size) (h2 : j < ys.toArray.size), SeqAt.EqAt c.A.in1 s xs.toArray[j] ys.toArray[j] true) : TV c O (compareOp .Eq (.ref l) (.ref b)) (· = .bool true) := fun s E x => by
  refine SeqAt.RcAt.lists (e := fun _ => true) (x.has hl).isList (x.has hb).isList (by simpa using hn) hu (he s x) _ _ _ _ ?_
  exact ⟨by simp, Kp.refl s⟩
theorem q_ne_nil {l b : Addr} (hu : c.A.units < cLine) (hl : InL c O (l, LP [])) (hb : InL c O (b, LP [])) : TV c O (compareOp .NotEq (.ref l) (.ref b)) (· = .bool false) :=
  q_ne_alike hu hl hb rfl fun s _ j h1 _ => absurd h1 (by simp)

theorem t_chain {l r₁ r₂ : Expr} {op₁ op₂ : CmpOp} {pos : Pos} {w : Sem Value} {q₁ q₂ : Bool} {P P1 P2 : Value → Prop} (h : TV c O (eval l c.env) P) (h1 : TV c O (eval r₁ c.env) P1) (h2 : TV c O (eval r₂ c.env) P2)
    (h3 : ∀ a b, P a → P1 b → TV c O (compareOp op₁ a b) (· = .bool q₁)) (h4 : ∀ a b, P1 a → P2 b → TV c O (compareOp op₂ a b) (· = .bool q₂))
    (hm : lastMarks [op₁, op₂] [r₁, r₂] = false := by with_unfolding_all rfl) : TV c O (isTrue (.Compare l [op₁, op₂] [r₁, r₂] pos) c.env w) (· = (q₁ && q₂)) := fun s E x =>
  isTrue_chain (ops := []) (rs := []) (h.use x fun a s₁ p k x₁ => test_link (h1.use x₁ fun b s₂ p1 k₁ x₂ => (h3 a b p p1).use x₂ fun v s₃ hv k₂ x₃ => by
    subst hv
    refine wpAny_truthy_bool ?_
    cases q₁ with
    | false => simp only [Bool.false_eq_true, if_false]; exact ⟨rfl, k.trans (k₁.trans k₂)⟩
    | true =>
      simp only [if_true]
      exact test_last (h2.use x₃ fun d s₄ p2 k₃ x₄ => (h4 b d p1 p2).use x₄ fun v s₅ hv k₄ _ => by
        subst hv
        exact wpAny_truthy_bool ⟨by simp, k.trans (k₁.trans (k₂.trans (k₃.trans k₄)))⟩))) hm

/-- an 'and' of two whose second part changes the state -/
theorem t_and_raw {e1 e2 : Expr} {pos : Pos} {w : Sem Value} {q : Bool} {Q : Bool → Shared → Prop} (y : At c O s) (h1 : TV c O (isTrue e1 c.env (eval e1 c.env)) (· = q)) (h0 : q = false → ∀ s', At c O s' → Q false s')
    (h2 : q = true → ∀ s', At c O s' → wpAny (model c.prog c.w) c.A (isTrue e2 c.env (eval e2 c.env)) Q E s') : wpAny (model c.prog c.w) c.A (isTrue (.BoolOp .And [e1, e2] pos) c.env w) Q E s := by
  have e : isTrue (.BoolOp .And [e1, e2] pos) c.env w = allTrue .And [e1, e2] c.env := by rfl
  rw [e, allTrue_cons]
  refine wpAny_bind (h1.use y fun b s₁ hb _ y₁ => ?_)
  subst hb
  cases b with
  | false => exact wpAny_pure (h0 rfl s₁ y₁)
  | true =>
    show wpAny _ _ (allTrue .And [e2] c.env) Q E s₁
    rw [allTrue_cons]
    refine wpAny_bind (wpAny_mono (h2 rfl s₁ y₁) (fun b s₂ hq => ?_) fun _ _ e => e)
    cases b with
    | false => exact wpAny_pure hq
    | true => exact wpAny_pure hq
end
end Mine

namespace Mine

section
variable {c : Cx} {O : Led} {s s' : Shared} {E : Value → Shared → Prop}

/-- a list that is written no more -/
theorem At.toO {Mu : Led} {p : Ent} (x : At { c with Mu := p :: Mu } O s) (hwc : c.wc = true) : At { c with Mu := Mu } (p :: O) s := by
  have y : At { c with Mu := Mu } O s := x.mu_sub (List.sublist_cons_self _ _)
  refine y.addO (x.mu _ (.head _)) ?_
  have nd := x.nodup
  unfold Cx.places at nd ⊢
  dsimp only at nd ⊢
  rw [hwc, if_pos rfl, List.nodup_cons, List.nodup_append, List.map_cons, List.nodup_cons] at nd
  rw [hwc, if_pos rfl]
  obtain ⟨n1, n2, n3, n4⟩ := nd
  intro h
  rcases List.mem_cons.mp h with h | h
  · exact n1 (by rw [← h]; exact List.mem_append_right _ (.head _))
  · rcases List.mem_append.mp h with h | h
    · exact n4 _ h _ (.head _) rfl
    · exact n3.1 h

/-- a list that is written from now on -/
theorem At.toMu {p : Ent} (x : At c O s) (hp : p ∈ O) (hB : c.B.get? p.1 = none) : At { c with Mu := p :: c.Mu } (O.filter fun q => decide (q.1 ≠ p.1)) s := by
  have y : At { c with Mu := c.Mu ++ [p] } (O.filter fun q => decide (q.1 ≠ p.1)) s := by
    refine At.addMu (c := c) (Mu := c.Mu) (x.sub fun q hq => (List.mem_filter.mp hq).1) (x.own p hp) (x.offO p hp) (fun q hq => ?_) (fun o e => by rw [hB] at e; cases e)
    simpa using (List.mem_filter.mp hq).2
  exact y.mu_perm (by simpa using (List.perm_append_comm (l₁ := c.Mu) (l₂ := [p])))

theorem LP.not_inst {xs : List Value} {d : Addr} {o : Obj} (h : LP xs o) (h' : BP d o) : False := by
  obtain ⟨n, rfl⟩ := h
  have : (Data.seq xs.toArray n) = Data.plain := congrArg Obj.data h'
  cases this
theorem LP.not_dict {xs : List Value} {v : Value} {o : Obj} (h : LP xs o) (h' : DP v o) : False := by
  obtain ⟨n, rfl⟩ := h
  obtain ⟨hh, t, m, e⟩ := h'
  have : (Data.seq xs.toArray n) = Data.dict _ _ := congrArg Obj.data e
  cases this
theorem Bx.off {l : Addr} {vs : List Value} {n : Int} {v : Value} (x : At c O s) (hl : (l, LP vs) ∈ O) (h : Bx O n v) : Bx (O.filter fun q => decide (q.1 ≠ l)) n v := by
  obtain ⟨b, u, rfl, ⟨d, h1, h2⟩, hu⟩ := h
  obtain ⟨ol, el, hol⟩ := x.own _ hl
  refine ⟨b, u, rfl, ⟨d, List.mem_filter.mpr ⟨h1, ?_⟩, List.mem_filter.mpr ⟨h2, ?_⟩⟩, hu⟩
  · simp only [decide_eq_true_eq]
    rintro rfl
    obtain ⟨o, e, ho⟩ := x.own _ h1
    dsimp only at e el
    rw [el] at e; cases e
    exact hol.not_inst ho
  · simp only [decide_eq_true_eq]
    rintro rfl
    obtain ⟨o, e, ho⟩ := x.own _ h2
    dsimp only at e el
    rw [el] at e; cases e
    exact hol.not_dict ho

theorem Paired.get_some {α β : Type} {R : α → β → Prop} {as : List α} {us : List β} (hp : Paired R as us) {j : Nat} {a : α} (h : as[j]? = some a) : ∃ u, us[j]? = some u ∧ R a u := by
  have hj : j < as.length := (List.getElem?_eq_some_iff.mp h).1
  have hj' : j < us.length := by rw [← hp.length]; exact hj
  exact ⟨us[j], by simp [hj'], paired_get hp j a us[j] h (by simp [hj'])⟩

/-- a walk that holds a box is asked -/
theorem next_mid {A : Around} {Q : Option Value → Shared → Prop} {pm : Value} {G it l ga : Addr} {g n : Nat} {k₀ : Resume → Sem Fin} {lvs₀ : List Value} {cd₀ : Code} {p₀ : Pos} {fs₀ : List Frame} {f sg : Str → Option Value} {gs : Array GenState} {st : ItSt} {vs : List Value} {ns : List Int} {X : Led}
    {pv : Value} {np : Int} (x : At (c.up ((G, NsP f) :: (it, st.P l) :: (l, LP vs) :: X) sg gs) O s) (hwc : c.wc = true) (hh : A.handled = none) (hroom : A.depth < recursionLimit) (hga : (ga, GenP g) ∈ O) (hgs : gs[g]? = some (.suspended k₀ lvs₀ cd₀ p₀ fs₀ false))
    (hS : Susp (genC c pm G) A.in1 it l (n + 1) k₀ cd₀ fs₀) (hit : f "it" = some (.ref it)) (hip : f "ip" = some pv) (hb : Bx O np pv) (hp : Paired (Bx O) ns vs)
    (k1 : ∀ T k lvs cd p fs f' lastv i nv s', st = .at i → (pv :: st.rest vs)[run np (st.rest ns)]? = some lastv → (st.rest vs)[run np (st.rest ns)]? = some nv → f' "it" = some (.ref it) → f' "ip" = some nv → Susp (genC c pm G) A.in1 it l n k cd fs →
      At (c.up ((G, NsP f') :: (it, IterP l (i + run np (st.rest ns) + 1)) :: (l, LP vs) :: X) sg (gs.setIfInBounds g (.suspended k lvs cd p fs false))) ((T, TP [pv, lastv]) :: O) s' → Q (some (.ref T)) s')
    (k2 : ∀ T k lvs cd p fs f' lastv s', (pv :: st.rest vs)[run np (st.rest ns)]? = some lastv → run np (st.rest ns) = (st.rest ns).length → LastK (genC c pm G) A.in1 k cd fs →
      At (c.up ((G, NsP f') :: (it, EndP) :: (l, LP vs) :: X) sg (gs.setIfInBounds g (.suspended k lvs cd p fs false))) ((T, TP [pv, lastv]) :: O) s' → Q (some (.ref T)) s') :
    wpAny (model c.prog c.w) A (pyNext (.ref ga)) Q E s := by
  refine w_told (pm := pm) (st := st) (ns := ns) (fv := pv) (lv := pv) (nl := np) (S := Susp (genC c pm G) A.in1 it l n) (L := LastK (genC c pm G) A.in1) x hwc hh hroom hga hgs ?_ k1 k2
  have y := At.toGen (c := c.up ((G, NsP f) :: (it, st.P l) :: (l, LP vs) :: X) sg (gs.setIfInBounds g .running)) (pm := pm) (At.setGen (g := g) (z := .running) x) hwc
  exact hS (s.setGen g .running) O f (gs.setIfInBounds g .running) st vs ns pv np y hit hip hb hp

/-- a walk that has not begun is asked -/
theorem next_fresh {A : Around} {Q : Option Value → Shared → Prop} {pm : Value} {G it l ga : Addr} {g : Nat} (n : Nat) {f sg : Str → Option Value} {gs : Array GenState} {i : Nat} {vs : List Value} {ns : List Int} {X : Led}
    {pv : Value} {np : Int} (x : At (c.up ((G, NsP f) :: (it, IterP l i) :: (l, LP vs) :: X) sg gs) O s) (hwc : c.wc = true) (hh : A.handled = none) (hroom : A.depth + 30 < recursionLimit) (hga : (ga, GenP g) ∈ O) (hgs : gs[g]? = some (.fresh (.func (fnBody 1) (genC c pm G).env)))
    (o : GenOk c pm G) (hit : f "addresses" = some (.ref it)) (hv : vs[i]? = some pv) (hb : Bx O np pv) (hp : Paired (Bx O) ns vs)
    (k1 : ∀ T k lvs cd p fs f' lastv nv s', (pv :: vs.drop (i + 1))[run np (ns.drop (i + 1))]? = some lastv → (vs.drop (i + 1))[run np (ns.drop (i + 1))]? = some nv → f' "it" = some (.ref it) → f' "ip" = some nv → Susp (genC c pm G) A.in1 it l n k cd fs →
      At (c.up ((G, NsP f') :: (it, IterP l (i + 1 + run np (ns.drop (i + 1)) + 1)) :: (l, LP vs) :: X) sg (gs.setIfInBounds g (.suspended k lvs cd p fs false))) ((T, TP [pv, lastv]) :: O) s' → Q (some (.ref T)) s')
    (k2 : ∀ T k lvs cd p fs f' lastv s', (pv :: vs.drop (i + 1))[run np (ns.drop (i + 1))]? = some lastv → run np (ns.drop (i + 1)) = (ns.drop (i + 1)).length → LastK (genC c pm G) A.in1 k cd fs →
      At (c.up ((G, NsP f') :: (it, EndP) :: (l, LP vs) :: X) sg (gs.setIfInBounds g (.suspended k lvs cd p fs false))) ((T, TP [pv, lastv]) :: O) s' → Q (some (.ref T)) s') :
    wpAny (model c.prog c.w) A (pyNext (.ref ga)) Q E s := by
  refine w_told (pm := pm) (st := .at (i + 1)) (ns := ns) (fv := pv) (lv := pv) (nl := np) (S := Susp (genC c pm G) A.in1 it l n) (L := LastK (genC c pm G) A.in1) x hwc hh (by omega) hga hgs ?_ ?_ k2
  · have y := At.toGen (c := c.up ((G, NsP f) :: (it, IterP l i) :: (l, LP vs) :: X) sg (gs.setIfInBounds g .running)) (pm := pm) (At.setGen (g := g) (z := .running) x) hwc
    exact gen_fresh_iter o (A := A.in1) hh (by show A.depth + 20 < recursionLimit; omega) n y hit hv hb hp
  · intro T k lvs cd p fs f' lastv j nv s' hj
    cases hj
    exact k1 T k lvs cd p fs f' lastv nv s'
end

theorem Std.comp {c : Cx} {scope : Scope} {cl : List (Str × Addr)} {C : Addr} {sg : Str → Option Value} (S : Std c) : Std (c.comp scope cl C sg) := ⟨S.hh, S.gl, S.bu, S.len, S.range, S.list, S.iter, S.next⟩
theorem Own.comp {c : Cx} {scope : Scope} {cl : List (Str × Addr)} {C : Addr} {sg : Str → Option Value} (o : Own c) : Own (c.comp scope cl C sg) := ⟨o.std.comp, o.ok, o.room, o.cls, o.box, o.far⟩

theorem run_spec : ∀ (x : Int) (l : List Int) (r : Nat), (∀ i y, i < r → l[i]? = some y → y = x + i + 1) → r ≤ l.length → (r = l.length ∨ ∃ y, l[r]? = some y ∧ y ≠ x + r + 1) → run x l = r
  | x, [], r, h1, h2, h3 => by simp at h2; subst h2; rfl
  | x, m :: t, r, h1, h2, h3 => by
    unfold run
    cases r with
    | zero =>
      rcases h3 with h3 | ⟨y, h3, h4⟩
      · simp at h3
      · simp only [List.getElem?_cons_zero, Option.some.injEq] at h3
        subst h3
        rw [if_neg (by simpa using h4)]
    | succ r =>
      have h0 := h1 0 m (by omega) (by simp)
      have hm : m = x + 1 := by simpa using h0
      rw [if_pos hm]
      congr 1
      refine run_spec m t r (fun i y hi hy => ?_) (by simpa using h2) ?_
      · have := h1 (i + 1) y (by omega) (by simpa using hy)
        rw [this, hm]; push_cast; omega
      · rcases h3 with h3 | ⟨y, h3, h4⟩
        · left; simpa using h3
        · refine .inr ⟨y, by simpa using h3, fun h => h4 ?_⟩
          rw [h, hm]; push_cast; omega
end Mine

namespace Mine

section
variable {c : Cx} {O : Led} {s s' : Shared} {E : Value → Shared → Prop}

theorem Stores.set {x y : Str} {v : Value} (h : Stores c y) : Stores (c.set x v) y := by
  cases h with
  | loc a b d e => exact .loc a b d e
  | cell a b d e f => exact .cell a b d e f

/-- a pair is taken apart -/
theorem w_assign2 {x y : Str} {px py pt : Pos} {k : Nat} {T : Addr} {u v : Value} {Q : Unit → Shared → Prop} (hh : c.A.handled = none) (z : At c O s) (hT : InL c O (T, TP [u, v])) (hx : Stores c x) (hy : Stores c y)
    (q : ∀ s', At ((c.set x u).set y v) O s' → Q () s') : wpAny (model c.prog c.w) c.A (assign (.Tuple [.Name x px, .Name y py] k pt) c.env (.ref T)) Q E s := by
  refine wpAny_assign_Tuple hh (z.has hT).isTuple rfl rfl fun h₃ hx₃ => ?_
  have z₁ : At c O { s with heap := h₃ } := z.keeps ⟨h₃, s.toks, rfl, fun b o e => hx₃ b o (Nat.ne_of_lt (Heap.lt_size e)) e⟩
  show wpAny _ _ (do holding [v] (assign (.Name x px) c.env u); do holding [] (assign (.Name y py) c.env v); pure ()) _ _ _
  refine wpAny_bind (wpAny_holding (wpAny_assign_Name (w_store hx z₁ fun s₄ _ z₄ => ?_)))
  refine wpAny_bind (wpAny_holding (wpAny_assign_Name (w_store (c := c.set x u) hy.set z₄ fun s₅ _ z₅ => wpAny_pure ?_)))
  exact q s₅ z₅

/-- a walk owns no tuple -/
theorem w_letgo {target : Expr} {ga : Addr} {g : Nat} {v : Value} {Q : Unit → Shared → Prop} (hga : Has s.heap (ga, GenP g)) (q : Q () s) : wpAny (model c.prog c.w) c.A (letOwnedTupleGo target (.ref ga) v) Q E s := by
  obtain ⟨o, eo, nm, qn, hc, hd, _⟩ := hga
  have key : ∀ T, wpAny (model c.prog c.w) c.A (do
      let o ← load ga
      match o.cls, o.data with
      | .type n, .fields vs =>
        if ["enumerate", "zip", "dict_itemiterator", "dict_reverseitemiterator", "odict_iterator", "itertools.zip_longest", "itertools.pairwise"].contains n && vs[0]? == some (rawInt T) then
          rule "for.unpacks-the-owned-tuple"
          updateField ga 0 .none
      | _, _ => pure ()) Q E s := by
    intro T
    refine wpAny_bind (wpAny_load eo ?_)
    rw [hc, hd]
    dsimp only
    rw [if_neg (by
      rw [show (["enumerate", "zip", "dict_itemiterator", "dict_reverseitemiterator", "odict_iterator", "itertools.zip_longest", "itertools.pairwise"].contains "generator") = false from by decide, Bool.false_and]
      decide)]
    exact wpAny_pure q
  cases target <;> first | exact wpAny_pure q | (cases v <;> first | exact wpAny_pure q | exact key _)

/-- append, wherever the list stands -/
theorem x_append_at {x : Str} {p apos pos spos : Pos} {e : Expr} {D : Addr} {xs : List Value} {X Y : Led} {P : Value → Led → Prop} {Q : Flow → Shared → Prop} (hwc : c.wc = true) (hMu : c.Mu = X ++ (D, LP xs) :: Y) (y : At c O s)
    (h1 : TV c O (eval (.Name x p) c.env) (· = .ref D)) (h2 : Tr c O (eval e c.env) P) (hn : xs.length ≤ 100000)
    (k : ∀ v N s', P v N → At { c with Mu := X ++ (D, LP (xs ++ [v])) :: Y } (N ++ O) s' → Q .next s')
    (hbase : attributeBase (.Name x p) "append" c.env (eval (.Name x p) c.env) = eval (.Name x p) c.env := by rfl)
    (hfew : ((backTo pos (starEach [e] c.env)).all (fun x => !x.1) && (backToKw pos (keywordEach [] c.env)).all (fun x => x.1.isSome)
      && decide (([e] : List Expr).length + ([] : List Keyword).length + (if ([] : List Keyword).isEmpty then 0 else 1) < 30)) = true := by rfl)
    (hline : (apos.endLine == pos.line) = true := by rfl) (htrees : backTo pos (starEach [e] c.env) = [(false, eval e c.env)] := by rfl)
    (hi : interactive c.env = false := by rfl) (hs : swapsWith (.Call (.Attribute (.Name x p) "append" apos) [e] [] pos) none spos.line c.env = pure false := by rfl) :
    wpAny (model c.prog c.w) c.A (exec (.Expr (.Call (.Attribute (.Name x p) "append" apos) [e] [] pos) spos) c.env) Q E s := by
  have pm : (X ++ (D, LP xs) :: Y).Perm ((D, LP xs) :: (X ++ Y)) := List.perm_middle
  have pm' : ∀ v, ((D, LP (xs ++ [v])) :: (X ++ Y)).Perm (X ++ (D, LP (xs ++ [v])) :: Y) := fun v => List.perm_middle.symm
  have y' : At { c with Mu := (D, LP xs) :: (X ++ Y) } O s := At.mu_perm (c := c) (by rw [← hMu]; exact y) pm
  have tv : ∀ {α : Type} {t : Sem α} {P' : α → Prop}, TV c O t P' → TV { c with Mu := (D, LP xs) :: (X ++ Y) } O t P' := fun h s E z => h s E (by have := At.mu_perm (c := c) z pm.symm; rw [← hMu] at this; exact this)
  have tr : ∀ {α : Type} {t : Sem α} {P' : α → Led → Prop}, Tr c O t P' → Tr { c with Mu := (D, LP xs) :: (X ++ Y) } O t P' := fun h s E z => h s E (by have := At.mu_perm (c := c) z pm.symm; rw [← hMu] at this; exact this)
  exact x_append (c := { c with Mu := (D, LP xs) :: (X ++ Y) }) hwc rfl y' (tv h1) (tr h2) hn (fun v N s' hp z => k v N s' hp (At.mu_perm (c := c) z (pm' v))) hbase hfew hline htrees hi hs

/-- subscripts of what is no name -/
theorem sub_tail {value slice : Expr} {v i : Value} {T id : String} {ops : List Value} {Q : Value → Shared → Prop} (hT : s.TypeIs v T) (hl : typeLookup (.type T) "__getitem__" = pure (some (.builtin id))) (h : wpAny (model c.prog c.w) c.A (getItem v i) Q E s)
    (hs : subscripted slice false v i = operate ops (getItem v i)) : wpAny (model c.prog c.w) c.A (subscriptTail value slice v i) Q E s := by
  have fin : wpAny (model c.prog c.w) c.A (subscripted slice false v i) (fun r s₃ => wpAny (model c.prog c.w) c.A (letTemporaryGo value v r >>= fun _ => pure r) Q E s₃) E s := by
    rw [hs]
    exact wpAny_operating (wpAny_mono h (fun r s₃ h₃ => wpAny_bind (wpAny_letTemporaryGo (wpAny_pure h₃))) fun _ _ x => x)
  unfold subscriptTail
  refine wpAny_bind ?_
  rw [getitemInPython_of_ne hT.not_modules]
  refine wpAny_bind (wpAny_specialOf hT hl ?_)
  first
    | exact wpAny_pure (wpAny_bind fin)
    | exact wpAny_bind (wpAny_pure (wpAny_bind fin))
    | exact wpAny_bind fin
theorem e_titemT {value slice : Expr} {pos : Pos} {l : Addr} {xs : List Value} {k : Int} {v : Value} (h1 : TV c O (eval value c.env) (· = .ref l)) (h2 : TV c O (eval slice c.env) (IsInt k)) (hl : InL c O (l, TP xs))
    (h0 : 0 ≤ k) (hk : k < 2 ^ 63) (hx : xs[k.toNat]? = some v)
    (hs : ∀ a i, subscripted slice false a i = operate [a, i] (getItem a i) := by intro _ _; with_unfolding_all rfl) :
    TV c O (eval (.Subscript value slice pos) c.env) (· = v) := fun s E x =>
  Subscript_ (h1.use x fun a s₁ e₁ k₁ x₁ => h2.use x₁ fun b s₂ ⟨t, e₂⟩ k₂ x₂ => by
    subst e₁; subst e₂
    have hlt : k < (xs.length : Int) := by
      have := (List.getElem?_eq_some_iff.mp hx).1; omega
    exact sub_tail (x₂.has hl).isTuple.typeIs F.slot_tuple_getitem.lookup (getItem_tuple (x₂.has hl).isTup (by omega) hk (j := k.toNat) (by rw [List.size_toArray]; exact seqIndex_of h0 hlt) (by simpa using hx) ⟨rfl, k₁.trans k₂⟩) (hs _ _))

theorem paired_ints {vs : List Value} {ns : List Int} (h : Paired IsInt ns vs) : IntsAre vs ns := by
  induction h with
  | nil => exact .nil
  | cons a _ ih => obtain ⟨t, rfl⟩ := a; exact .cons _ t ih
theorem q_notin {v : Value} {a : Int} {l : Addr} {vs : List Value} {ns : List Int} (hv : IsInt a v) (hl : InL c O (l, LP vs)) (hp : Paired IsInt ns vs) : TV c O (compareOp .NotIn v (.ref l)) (· = .bool (!(ns.any (· == a)))) := fun s E x => by
  obtain ⟨t, rfl⟩ := hv
  exact notin_list_ints (x.has hl).isList (paired_ints hp) ⟨rfl, Kp.refl s⟩

/-- a walk over a list itself, before it begins -/
theorem At.toGenL {pm : Value} {G l : Addr} {f : Str → Option Value} {vs : List Value} {X : Led} (x : At { c with Mu := (G, NsP f) :: (l, LP vs) :: X } O s) (hwc : c.wc = true) : At ((genC c pm G).up [(l, LP vs)] f c.gs) O s := by
  have nd := x.nodup
  have sub : ∀ a, a ∈ ((genC c pm G).up [(l, LP vs)] f c.gs).places → a ∈ ({ c with Mu := (G, NsP f) :: (l, LP vs) :: X } : Cx).places := fun a h => by
    rcases Cx.mem_places.mp h with h | ⟨_, y, h⟩ | ⟨p, h⟩
    · have h' : a = G := h
      subst h'
      exact Cx.mem_places.mpr (.inr (.inr ⟨_, .head _⟩))
    · exact nomatch (show (y, a) ∈ ([] : List (Str × Addr)) from h)
    · refine Cx.mem_places.mpr (.inr (.inr ⟨p, ?_⟩))
      have h' : (a, p) ∈ [(l, LP vs)] := h
      rw [List.mem_singleton.mp h']; exact .tail _ (.head _)
  obtain ⟨m, hm, hf⟩ := (x.mu _ (.head _)).ns
  refine ⟨x.base, x.own, fun p hp => ?_, ⟨m, hm, fun y v _ hv => hf y v hv⟩, fun y a v h _ => ?_, fun p h => ?_, ?_, fun p hp h => x.offO p hp (sub _ h), fun b o e h => x.offB b o e (sub _ h), x.gens, x.os, x.kin, x.tg, x.tb, x.nl⟩
  · have h' : p ∈ [(l, LP vs)] := hp
    rw [List.mem_singleton.mp h']; exact x.mu _ (.tail _ (.head _))
  · exact nomatch (show ([] : List (Str × Addr)).lookup y = some a from h)
  · exact nomatch (show p ∈ ([] : List (Str × Addr)) from h)
  · unfold Cx.places at nd
    dsimp only at nd
    rw [hwc, if_pos rfl, List.nodup_cons, List.nodup_append] at nd
    obtain ⟨_, _, n3, _⟩ := nd
    show ([G, l] : List Addr).Nodup
    refine List.Nodup.sublist ?_ n3
    simp

theorem next_fresh_list {A : Around} {Q : Option Value → Shared → Prop} {pm : Value} {G l ga : Addr} {g : Nat} (n : Nat) {f sg : Str → Option Value} {gs : Array GenState} {vs : List Value} {ns : List Int} {X : Led}
    {pv : Value} {np : Int} (x : At (c.up ((G, NsP f) :: (l, LP vs) :: X) sg gs) O s) (hwc : c.wc = true) (hh : A.handled = none) (hroom : A.depth + 30 < recursionLimit) (hga : (ga, GenP g) ∈ O) (hgs : gs[g]? = some (.fresh (.func (fnBody 1) (genC c pm G).env)))
    (o : GenOk c pm G) (hit : f "addresses" = some (.ref l)) (hv : vs[0]? = some pv) (hb : Bx O np pv) (hp : Paired (Bx O) ns vs)
    (k1 : ∀ it T k lvs cd p fs f' lastv nv s', (pv :: vs.drop 1)[run np (ns.drop 1)]? = some lastv → (vs.drop 1)[run np (ns.drop 1)]? = some nv → f' "it" = some (.ref it) → f' "ip" = some nv → Susp (genC c pm G) A.in1 it l n k cd fs →
      At (c.up ((G, NsP f') :: (it, IterP l (1 + run np (ns.drop 1) + 1)) :: (l, LP vs) :: X) sg (gs.setIfInBounds g (.suspended k lvs cd p fs false))) ((T, TP [pv, lastv]) :: O) s' → Q (some (.ref T)) s')
    (k2 : ∀ it T k lvs cd p fs f' lastv s', (pv :: vs.drop 1)[run np (ns.drop 1)]? = some lastv → run np (ns.drop 1) = (ns.drop 1).length → LastK (genC c pm G) A.in1 k cd fs →
      At (c.up ((G, NsP f') :: (it, EndP) :: (l, LP vs) :: X) sg (gs.setIfInBounds g (.suspended k lvs cd p fs false))) ((T, TP [pv, lastv]) :: O) s' → Q (some (.ref T)) s') :
    wpAny (model c.prog c.w) A (pyNext (.ref ga)) Q E s := by
  have x₁ := At.setGen (g := g) (z := .running) x
  have y := At.toGenL (c := c.up ((G, NsP f) :: (l, LP vs) :: X) sg (gs.setIfInBounds g .running)) (pm := pm) x₁ hwc
  refine w_pyNext hh x.nolimit (by omega) (x.own _ hga).isGen (by rw [x.gens]; exact hgs) (gst := .fresh (.func (fnBody 1) (genC c pm G).env)) (rt_mono (gen_fresh_list o (A := A.in1) hh (by show A.depth + 20 < recursionLimit; omega) n y hit hv hb hp) ?_)
  rintro e s₁ ⟨it, s₂, hnew, kp, y₂, v, lvs, k, cd, p, fs, T, sg', lastv, rfl, hfs, rfl, hT, al, hits, hlast, hc⟩
  refine .inl ⟨_, lvs, k, cd, p, fs, rfl, hfs, ?_⟩
  have x₂ : At (c.up ((G, NsP f) :: (it, IterP l 0) :: (l, LP vs) :: X) sg (gs.setIfInBounds g .running)) O s₂ := by
    have := At.growMu (c := c.up [] sg (gs.setIfInBounds g .running)) x₁ (Grow.one (p := (it, IterP l 0)) kp hnew (y₂.mu _ (.head _)))
    exact At.mu_perm (c := c.up [] sg (gs.setIfInBounds g .running)) this (List.Perm.swap _ _ _)
  have e2 : ∀ z : GenState, (gs.setIfInBounds g GenState.running).setIfInBounds g z = gs.setIfInBounds g z := fun z => by simp
  rcases hc with ⟨i, nv, hi, hnv, hip, y₃, hS⟩ | ⟨hr, y₃, hL⟩
  · cases hi
    have y₄ := At.ofGen (c := c.up ((G, NsP f) :: (it, IterP l 0) :: (l, LP vs) :: X) sg (gs.setIfInBounds g .running)) (T := (T, TP [pv, lastv])) x₂ hwc al hT y₃
    have y₅ := At.setGen (g := g) (z := .suspended k lvs cd p fs false) y₄
    dsimp only at y₅
    rw [e2] at y₅
    exact k1 it T k lvs cd p fs _ lastv nv _ hlast hnv ((if_pos rfl).trans hits) ((if_pos rfl).trans hip) hS y₅
  · have y₄ := At.ofGen (c := c.up ((G, NsP f) :: (it, IterP l 0) :: (l, LP vs) :: X) sg (gs.setIfInBounds g .running)) (T := (T, TP [pv, lastv])) x₂ hwc al hT y₃
    have y₅ := At.setGen (g := g) (z := .suspended k lvs cd p fs false) y₄
    dsimp only at y₅
    rw [e2] at y₅
    exact k2 it T k lvs cd p fs _ lastv _ hlast hr hL y₅
end
end Mine

namespace Mine
section
variable {c : Cx} {O : Led}
theorem x_for2 {x x2 : Str} {px px2 pt pos : Pos} {kk : Nat} {iter : Expr} {body : List Stmt} {items : List (Value × Value)} {s : Shared} {Q : Flow → Shared → Prop} {E : Value → Shared → Prop}
    (hh : c.A.handled = none) (hx : Stores c x) (hy : Stores c x2) (S : Src c O iter items (IsPair O)) (hcl : c.wc = true) (J : Nat → Led → Led → (Str → Option Value) → Array GenState → Prop) (y : At c O s) (h0 : J 0 O c.Mu c.sg c.gs)
    (sub : ∀ i O' Mu sg gs, J i O' Mu sg gs → ∀ p ∈ O, p ∈ O')
    (turn : ∀ i a O' Mu sg gs T H s E', items[i]? = some a → J i O' Mu sg gs → At (((c.up (Mu ++ T) sg gs).set x a.1).set x2 a.2) (H ++ O') s →
      wpAny (model c.prog c.w) c.A (execs body c.env) (TurnEnd c T H (J (i + 1)) Q) E' s)
    (done : ∀ O' Mu sg gs s, J items.length O' Mu sg gs → At (c.up Mu sg gs) O' s → Q .next s)
    (hs : ∀ x, foldedSetIterable iter c.env x = pure x := by intro _; rfl) :
    wpAny (model c.prog c.w) c.A (exec (.For (.Tuple [.Name x px, .Name x2 px2] kk pt) iter body [] pos) c.env) Q E s := by
  refine wpAny_For (S s E _ y fun I fq St s₂ k₂ W st live hIn off mod => ?_) hs
  have hx' : ∀ Mu sg gs, Stores (c.up Mu sg gs) x := fun Mu sg gs => by
    cases hx with
    | loc a b d e => exact .loc a b d e
    | cell a b d e f => exact .cell a b d e f
  have hy' : ∀ Mu sg gs, Stores (c.up Mu sg gs) x2 := fun Mu sg gs => by
    cases hy with
    | loc a b d e => exact .loc a b d e
    | cell a b d e f => exact .cell a b d e f
  have hB : ∀ o, c.B.get? I ≠ some o := fun o e => by rw [y.base I o e] at hIn; cases hIn
  have live1 : ∀ i h, St i h → ∀ b ∈ fq, h.get? b ≠ none := fun i h hs b hb => live i h hs b (List.mem_cons_of_mem _ hb)
  have liveI : ∀ i h, St i h → ∃ o, h.get? I = some o := fun i h hs => Option.ne_none_iff_exists'.mp (live i h hs I (.head _))
  refine codeAny_forLoop_any (fun k s' => ∃ i O' Mu sg gs, i ≤ items.length ∧ k = items.length - i ∧ J i O' Mu sg gs ∧ At (c.up (Mu ++ Mine.holds s'.heap [I]) sg gs) (Mine.holds s'.heap fq ++ O') s' ∧ St i s'.heap) ?_ items.length ?_
  · rintro n s₃ ⟨i, O', Mu, sg, gs, hi, rfl, hJ, x₃, st₃⟩
    have Ipl : I ∈ (c.up (Mu ++ Mine.holds s₃.heap [I]) sg gs).places := Cx.mem_places.mpr (.inr (.inr ⟨_, List.mem_append_right _ (.head _)⟩))
    have x₄ : At (c.up Mu sg gs) (Mine.holds s₃.heap fq ++ O') s₃ := At.drop (c := c.up Mu sg gs) x₃
    have hO' : ∀ p ∈ O', p.1 ≠ I := fun p hp h => x₃.offO p (List.mem_append_right _ hp) (h ▸ Ipl)
    have offI : I ∉ (c.up Mu sg gs).places := by
      have nd := x₃.nodup
      unfold Cx.places at nd ⊢
      dsimp only at nd ⊢
      rw [List.map_append, ← List.append_assoc, ← List.cons_append, List.nodup_append] at nd
      intro h
      exact nd.2.2 I h I (by simp [Mine.holds]) rfl
    have offF : ∀ b ∈ fq, b ∉ (c.up Mu sg gs).places := fun b hb => x₄.offO (b, _) (List.mem_append_left _ (List.mem_map.mpr ⟨b, hb, rfl⟩))
    have x₄' : At (c.up Mu sg gs) O' s₃ := x₄.sub fun p hp => List.mem_append_right _ hp
    have nw : ∀ {P : Prop}, (c.up Mu sg gs).wc = false → P := fun h => absurd (hcl.symm.trans h) (by simp)
    by_cases hlt : i < items.length
    · refine W.item i s₃ _ _ hlt st₃ fun v h' tk ⟨a, ha, hR⟩ st₄ k₄ => ?_
      have x₅ : At (c.up Mu sg gs) O' { s₃ with heap := h', toks := tk } := x₄'.moved (fp := []) ⟨h', tk, rfl, k₄⟩ offI hO' hB (fun h => nw h)
      obtain ⟨oI, eI⟩ := liveI _ _ st₄
      have x₆ : At (c.up (Mu ++ Mine.holds h' [I]) sg gs) (Mine.holds h' fq ++ O') { s₃ with heap := h', toks := tk } := by
        refine At.addMu (c := c.up Mu sg gs) (p := (I, fun o => h'.get? I = some o)) (x₅.holds (live1 _ _ st₄) offF) ⟨oI, eI, eI⟩ offI ?_ hB
        intro q hq
        rcases List.mem_append.mp hq with h | h
        · obtain ⟨b, hb, rfl⟩ := List.mem_map.mp h
          exact (off b hb).2
        · exact hO' q h
      refine w_letgo_of (mod _ _ st₄) ?_
      obtain ⟨Tp, rfl, hTp⟩ := hR
      refine w_assign2 (c := c.up (Mu ++ Mine.holds h' [I]) sg gs) hh x₆ (.inl (List.mem_append_right _ (sub i O' Mu sg gs hJ _ hTp))) (hx' _ sg gs) (hy' _ sg gs) fun s₇ x₇ => ?_
      refine wpAny_mono (turn i a O' Mu sg gs _ _ s₇ _ ha hJ x₇) (fun f s₈ h₈ => ?_) fun _ _ e => e
      have fin : (∃ O Mu sg gs, J (i + 1) O Mu sg gs ∧ At (c.up (Mu ++ Mine.holds h' [I]) sg gs) (Mine.holds h' fq ++ O) s₈) → ∃ m, m < items.length - i ∧ ∃ j O'' Mu sg gs, j ≤ items.length ∧ m = items.length - j ∧ J j O'' Mu sg gs ∧
          At (c.up (Mu ++ Mine.holds s₈.heap [I]) sg gs) (Mine.holds s₈.heap fq ++ O'') s₈ ∧ St j s₈.heap := by
        rintro ⟨O₉, Mu₉, sg₉, gs₉, hJ₉, x₉⟩
        have keepI : ∀ o, h'.get? I = some o → s₈.heap.get? I = some o := fun o e => holds_get (fp := [I]) (.head _) (fun p hp => x₉.mu p (List.mem_append_right _ hp)) e
        have keepF : ∀ b ∈ fq, ∀ o, h'.get? b = some o → s₈.heap.get? b = some o := fun b hb o e => holds_get hb (fun p hp => x₉.own p (List.mem_append_left _ hp)) e
        have st₉ : St (i + 1) s₈.heap := W.frame _ _ _ st₄ fun b hb o e => by
          rcases List.mem_cons.mp hb with rfl | hb
          · exact keepI o e
          · exact keepF b hb o e
        have eH : Mine.holds s₈.heap fq = Mine.holds h' fq := by
          refine List.map_congr_left fun b hb => ?_
          obtain ⟨o, e⟩ := Option.ne_none_iff_exists'.mp (live1 _ _ st₄ b hb)
          rw [e, keepF b hb o e]
        have eI' : Mine.holds s₈.heap [I] = Mine.holds h' [I] := by
          refine List.map_congr_left fun b hb => ?_
          rw [List.mem_singleton.mp hb, eI, keepI oI eI]
        exact ⟨items.length - (i + 1), by omega, i + 1, O₉, Mu₉, sg₉, gs₉, hlt, rfl, hJ₉, by rw [eH, eI']; exact x₉, st₉⟩
      cases f with
      | next => exact fin h₈
      | cont => exact fin h₈
      | brk => exact h₈
      | ret v => exact h₈
    · have hin : i = items.length := by omega
      subst hin
      refine W.done s₃ _ _ st₃ fun h' tk k₄ => ?_
      exact wpAny_execs_nil (done O' Mu sg gs _ hJ (x₄'.moved (fp := []) ⟨h', tk, rfl, k₄⟩ offI hO' hB (fun h => nw h)))
  · obtain ⟨oI, eI⟩ := liveI _ _ st
    have x₂ := y.keeps k₂
    refine ⟨0, O, c.Mu, c.sg, c.gs, Nat.zero_le _, rfl, h0, ?_, st⟩
    refine At.addMu (c := c) (Mu := c.Mu) (p := (I, fun o => s₂.heap.get? I = some o)) (x₂.holds (live1 _ _ st) fun b hb => (off b hb).1) ⟨oI, eI, eI⟩ (fun h => y.alive h hIn) ?_ hB
    intro q hq
    rcases List.mem_append.mp hq with h | h
    · obtain ⟨b, hb, rfl⟩ := List.mem_map.mp h
      exact (off b hb).2
    · intro e
      obtain ⟨o, eo, _⟩ := y.own q h
      rw [e, hIn] at eo; cases eo
end
end Mine

namespace Mine
open_top hd5 for PySem.Challenge.rw_dm0182_01

set_option maxHeartbeats 4000000

noncomputable abbrev theK (P : Params) : Frag := hd5.heap_39 P
theorem theK_ok (P : Params) : KOk (theK P) := by
  refine ⟨?_, ?_, ?_, ?_, ?_, ?_, ?_, ?_, ?_, ?_, ?_, ?_, ?_, ?_, ?_⟩
  · kernel_rfl
  · kernel_rfl
  · kernel_rfl
  · kernel_rfl
  · kernel_rfl
  · kernel_rfl
  · kernel_rfl
  · kernel_rfl
  · kernel_rfl
  · kernel_rfl
  · kernel_rfl
  · exact ⟨_, rfl⟩
  · kernel_rfl
  · exact ⟨_, rfl⟩
  · kernel_rfl
theorem theK_law (P : Params) : ∃ pm, (theK P).lookup 48 = some ⟨.type "function", none, .func (fdOf "law" 5 47 pm), #[]⟩ := ⟨_, rfl⟩
theorem theK_code (P : Params) : codeIn (theK P) (.ref 47) "law" = true := by kernel_rfl
def stdNames : List Str := ["len", "range", "list", "iter", "next", "isinstance", "str", "int", "sum", "sorted", "type", "tuple", "AttributeError", "TypeError"]
/-- the text's names, as the written part of the heap has them -/
theorem theK_names (P : Params) : ∃ es ep, (theK P).lookup mainGlobals = some ⟨.type "dict", none, .dict es ep, #[]⟩ ∧ nsFind es "_BaseConstants" = some (.ref 32) ∧ nsFind es "_law_box" = some (.ref 43) ∧ nsFind es "_find_address_range" = some (.ref 21) ∧ nsFind es "law" = some (.ref 48) ∧
    (stdNames.all fun x => (nsFind es x).isNone) = true :=
  ⟨_, _, rfl, by kernel_rfl, by kernel_rfl, by kernel_rfl, by kernel_rfl, by kernel_rfl⟩

theorem ns_names {h : Heap} {mg : Str → Option Value} {P : Params} (KX : (theK P).In h) (hg : h.Ns mainGlobals mg) : mg "_BaseConstants" = some (.ref 32) ∧ mg "_law_box" = some (.ref 43) ∧ mg "_find_address_range" = some (.ref 21) ∧ mg "law" = some (.ref 48) ∧ ∀ x ∈ stdNames, mg x = none := by
  obtain ⟨es, ep, hK, h1, h2, h3, h4, h5⟩ := theK_names P
  obtain ⟨o, es', ep', ho, hd, hk, hm⟩ := hg
  have := KX _ _ hK
  rw [ho] at this
  cases this
  cases hd
  refine ⟨(hm _).symm.trans h1, (hm _).symm.trans h2, (hm _).symm.trans h3, (hm _).symm.trans h4, fun x hx => (hm _).symm.trans ?_⟩
  have := List.all_eq_true.mp h5 x hx
  simpa using this

abbrev lawEnv (pm : Value) (L : Addr) : Env := callEnvC (fdOf "law" 5 47 pm) L 48
noncomputable abbrev lawC (w : World) (s : Shared) (mg mb : Str → Option Value) (pm : Value) (l : Addr) : Cx :=
  { prog := theP, w := w, A := callerA.deeper (lawEnv pm s.heap.objs.size), B := s.heap, env := lawEnv pm s.heap.objs.size, os := s.os, wc := true, Mu := [], sg := upd (fun _ => none) "script" (.ref l), gs := #[], K := theK w.params, mg := mg, mb := mb }

theorem law_own {w : World} {s : Shared} {mg mb : Str → Option Value} {pm : Value} {l : Addr} (KX : (theK w.params).In s.heap) (hg : s.heap.Ns mainGlobals mg) (hb : ∀ x : Str, x ≠ "__name__" → mb x = bootBuiltins x) : Own (lawC w s mg mb pm l) := by
  obtain ⟨h1, h2, h3, h4, h5⟩ := ns_names KX hg
  refine ⟨⟨rfl, rfl, rfl, ?_, ?_, ?_, ?_, ?_⟩, theK_ok _, of_decide_eq_true (by kernel_rfl), h1, h2, h3⟩
  · exact ⟨h5 _ (by decide), (hb _ (by decide)).trans rfl⟩
  · exact ⟨h5 _ (by decide), (hb _ (by decide)).trans rfl⟩
  · exact ⟨h5 _ (by decide), (hb _ (by decide)).trans rfl⟩
  · exact ⟨h5 _ (by decide), (hb _ (by decide)).trans rfl⟩
  · exact ⟨h5 _ (by decide), (hb _ (by decide)).trans rfl⟩

theorem lookup_of_mem : ∀ {cs : List (Str × Addr)}, (cs.map (·.1)).Nodup → ∀ p ∈ cs, cs.lookup p.1 = some p.2
  | [], _, _, h => nomatch h
  | q :: r, nd, p, h => by
    rw [List.map_cons, List.nodup_cons] at nd
    rcases List.mem_cons.mp h with rfl | h
    · simp [List.lookup]
    · have hne : p.1 ≠ q.1 := fun e => nd.1 (List.mem_map.mpr ⟨p, h, e⟩)
      have : (p.1 == q.1) = false := by simpa using hne
      unfold List.lookup
      rw [this]
      exact lookup_of_mem nd.2 p h

/-- what a law's body must do -/
def LawEnds (s : Shared) (f : Flow) (s' : Shared) : Prop := f = .ret (.bool true) ∧ ∃ c O, c.B = s.heap ∧ c.os = s.os ∧ AllBare c.gs ∧ At c O s'



theorem env_nd (pm : Value) (L : Addr) : ((lawEnv pm L).cells.map (·.1)).Nodup := by
  have e : (lawEnv pm L).cells.map (·.1) = (cellsFrom 1 (fnScope 5).names []).map (·.1) := by kernel_rfl
  rw [e]; decide +kernel
theorem env_script (pm : Value) (L : Addr) : (lawEnv pm L).kindOf "script" = some .local := by kernel_rfl
theorem env_noscript (pm : Value) (L : Addr) : (lawEnv pm L).cells.lookup ("script" : Str) = none := by kernel_rfl
theorem env_loc (pm : Value) (L : Addr) : (lawEnv pm L).locals = L := rfl
theorem law_at {w : World} {s s' : Shared} {mg mb : Str → Option Value} {pm : Value} {l : Addr} (KX : (theK w.params).In s.heap) (hg : s.heap.Ns mainGlobals mg) (hb : s.heap.Ns builtinsNs mb) (hn : s.heap.NoLimit) (hgens : s.gens = #[])
    (x : InCallC s (lawEnv pm s.heap.objs.size).locals (bindL (lawEnv pm s.heap.objs.size).kindOf [(("script" : Str), .ref l)] fun _ => none) (lawEnv pm s.heap.objs.size).cells (bindC (lawEnv pm s.heap.objs.size).kindOf [(("script" : Str), .ref l)] fun _ => none) s') :
    At (lawC w s mg mb pm l) [] s' := by
  obtain ⟨⟨⟨h', tk, rfl⟩, hns, hkeep, hfresh⟩, hcell, hap, hab⟩ := x
  have nd := env_nd pm s.heap.objs.size
  have hloc := env_script pm s.heap.objs.size
  have hcs := env_noscript pm s.heap.objs.size
  have hL := env_loc pm s.heap.objs.size
  have sgs : ∀ y v, (lawC w s mg mb pm l).sg y = some v → y = "script" ∧ v = .ref l := fun y v hv => by
    have hv' : upd (fun _ => none) "script" (.ref l) y = some v := hv
    by_cases h : y = "script"
    · subst h; rw [upd_same] at hv'; exact ⟨rfl, (Option.some.inj hv').symm⟩
    · rw [upd_ne h] at hv'; cases hv'
  have pl : ∀ a, a ∈ (lawC w s mg mb pm l).places → s.heap.objs.size ≤ a := fun a ha => by
    rcases Cx.mem_places.mp ha with h | ⟨_, y, h⟩ | ⟨p, h⟩
    · rw [h]; exact Nat.le_refl _
    · exact Nat.le_of_lt (hab y a h)
    · cases h
  refine ⟨fun b o e => hkeep b o e, (fun p hp => nomatch hp), (fun p hp => nomatch hp), ⟨_, hns, fun y v hy hv => ?_⟩, fun y a v hy hv => ?_, fun p hp => ⟨_, hcell p.1 p.2 (lookup_of_mem nd p hp)⟩, ?_, (fun p hp => nomatch hp), fun b o e h => ?_, hgens, rfl, KX, hg, hb, hn⟩
  · obtain ⟨rfl, rfl⟩ := sgs y v hv
    simp only [bindL, hloc, if_true]
  · obtain ⟨rfl, rfl⟩ := sgs y v hv
    have : (lawEnv pm s.heap.objs.size).cells.lookup ("script" : Str) = some a := hy
    rw [hcs] at this; cases this
  · show (s.heap.objs.size :: ((lawEnv pm s.heap.objs.size).cells.map (·.2) ++ [])).Nodup
    rw [List.append_nil, List.nodup_cons]
    refine ⟨fun h => ?_, ?_⟩
    · obtain ⟨p, hp, e⟩ := List.mem_map.mp h
      have := hab p.1 p.2 hp
      rw [e, hL] at this
      exact Nat.lt_irrefl _ this
    · unfold List.Nodup; rw [List.pairwise_map]; exact hap
  · exact absurd (Heap.lt_size e) (Nat.not_lt.mpr (pl b h))

set_option maxHeartbeats 4000000
abbrev theRow : RowW := PySem.Challenge.rw_dm0182_01.row.toRowW
theorem args_of {w : World} {s₀ s₁ : Shared} {args : List WData} {vals : List Value} {as : List Addr} (hpre : PySem.Challenge.rw_dm0182_01.row.toRowW.claim.pre args = true) (hlay : WData.layableAll args = true)
    (hrd : ReadsAllW PySem.Challenge.rw_dm0182_01.row.toRowW.records (classAt s₀.heap) s₁.heap vals args as) (hwl : WellAll w.params s₁.heap vals args) (hlo : ∀ a ∈ as, (a == sysModules) = false) :
    ∃ l vs ns, vals = [.ref l] ∧ s₁.heap.IsList l vs.toArray ∧ IntsAre vs ns ∧ ns.length ≤ 63 := by
  w_on
  wrow_args hpre hlay hrd hwl hlo
  all_goals (
    rename_i hc _
    rename IntsAre _ _ => hI
    rename Heap.IsList _ _ _ => hL
    exact ⟨_, _, _, rfl, hL, hI, by omega⟩)

theorem post_ok (args : List WData) : PySem.Challenge.rw_dm0182_01.row.toRowW.claim.post args (.bool true) args = true := by
  wrow_post

theorem enter (main : ∀ (w : World) (s s' : Shared) (mg mb : Str → Option Value) (pm : Value) (l : Addr) (vs : List Value) (ns : List Int) (E : Value → Shared → Prop), Own (lawC w s mg mb pm l) → (lawC w s mg mb pm l).A.units < cLine → (∀ x ∈ stdNames, mg x = none) → (∀ x : Str, x ≠ "__name__" → mb x = bootBuiltins x) → s.heap.IsList l vs.toArray → IntsAre vs ns → ns.length ≤ 63 →
    At (lawC w s mg mb pm l) [] s' → wpAny (model theP w) (lawC w s mg mb pm l).A (execs (fnBody 5) (lawC w s mg mb pm l).env) (LawEnds s) E s') : PySem.Challenge.rw_dm0182_01.Holds := by
  refine hd5 ?_
  intro w s₀ s₁ mg mb G Y fa o pm cd doc dV kV ho hd hcd hD hmg hg args vals as hpre hlay hrd hwl hlo
  have KX : (theK w.params).In s₁.heap := kIn_of Y
  have T := G.T
  have hlaw : mg "law" = some (.ref 48) := (ns_names KX T.g).2.2.2.1
  have hfa : fa = 48 := by
    have h1 : mg "law" = some (.ref fa) := hmg
    rw [hlaw] at h1; cases h1; rfl
  subst hfa
  obtain ⟨pm', hfn⟩ := theK_law w.params
  obtain ⟨l, vs, ns, rfl, hL, hI, hn⟩ := args_of hpre hlay hrd hwl hlo
  have hroom : callerA.depth < recursionLimit := of_decide_eq_true (by kernel_rfl)
  refine enter_call (codeAny_call_cells (fd := fdOf "law" 5 47 pm') (body := fnBody 5) (binds := [(("script" : Str), .ref l)]) hroom (KX _ _ hfn) rfl T.nolimit (codeRec_of KX (theK_code _)) rfl rfl rfl ?_ ?_ rfl rfl rfl)
  · intro x hx
    rw [List.mem_singleton.mp hx]
    exact .inl (env_script pm' 0)
  · intro s' x
    have A₀ : At (lawC w s₁ mg mb pm' l) [] s' := law_at KX T.g T.b T.nolimit hg x
    refine wpAny_mono (main w s₁ s' mg mb pm' l vs ns _ (law_own KX T.g T.builtins) (of_decide_eq_true (by kernel_rfl)) (ns_names KX T.g).2.2.2.2 T.builtins hL hI hn A₀) ?_ fun _ _ e => e
    rintro f s'' ⟨rfl, c, O, hB, hos, hgs, z⟩
    refine ⟨.inl ⟨.bool true, .bool true, [], rfl, fun cls => rfl, .bool true, ?_, fun _ => ⟨List.nodup_nil, fun a ha => nomatch ha⟩⟩, .of_keep ?_, ?_, ?_⟩
    · exact post_ok args
    · intro b o e; exact z.base b o (hB ▸ e)
    · exact z.os.trans hos
    · rw [z.gens]; exact hgs
end Mine

namespace Mine

abbrev LC (b : Cx) (pm : Value) (L : Addr) : Cx := { b with env := lawEnv pm L, wc := true }
theorem env_cell {pm : Value} {L : Addr} {x : Str} (h : ((lawEnv pm L).cells.lookup x).isSome = true) : ∃ a, (lawEnv pm L).cells.lookup x = some a := Option.isSome_iff_exists.mp h

theorem ints_paired {vs : List Value} {ns : List Int} (h : IntsAre vs ns) : Paired IsInt ns vs := by
  induction h with
  | nil => exact .nil
  | cons _ _ _ ih => exact .cons ⟨_, rfl⟩ ih
theorem paired_take {α β : Type} {R : α → β → Prop} {as : List α} {us : List β} (h : Paired R as us) (k : Nat) : Paired R (as.take k) (us.take k) := by
  induction h generalizing k with
  | nil => simpa using .nil
  | cons a _ ih => cases k with
    | zero => exact .nil
    | succ k => exact .cons a (ih k)
theorem paired_drop {α β : Type} {R : α → β → Prop} {as : List α} {us : List β} (h : Paired R as us) (k : Nat) : Paired R (as.drop k) (us.drop k) := by
  induction h generalizing k with
  | nil => simpa using .nil
  | cons a h ih => cases k with
    | zero => exact .cons a h
    | succ k => exact ih k

def isStart (ns : List Int) (k : Nat) : Bool := k == 0 || (ns.getD k 0 - ns.getD (k - 1) 0 != 1)
def startsOf (ns : List Int) : List Nat := (List.range ns.length).filter (isStart ns)
/-- where the next stretch begins -/
def nxt (ns : List Int) (j : Nat) : Nat := (startsOf ns).getD (j + 1) ns.length

theorem paired_map_right {α β : Type} {R : α → β → Prop} {γ : Type} {f : γ → α} {as : List γ} {us : List β} (h : Paired (fun a u => R (f a) u) as us) : Paired R (as.map f) us := by
  induction h with
  | nil => exact .nil
  | cons a _ ih => exact .cons a ih
theorem paired_append {α β : Type} {R : α → β → Prop} {as as' : List α} {us us' : List β} (h : Paired R as us) (h' : Paired R as' us') : Paired R (as ++ as') (us ++ us') := by
  induction h with
  | nil => exact h'
  | cons a _ ih => exact .cons a ih

theorem csg_free {sg : Str → Option Value} {cl : List (Str × Addr)} {x y : Str} {v : Value} (h : y ≠ x) (hs : (cl.lookup y).isSome = true) : csg sg cl x v y = sg y := by
  unfold csg; rw [if_neg h, if_pos hs]
/-- a name of the frame around, read in a comprehension -/
theorem e_free {c : Cx} {O : Led} {scope : Scope} {C : Addr} {x y : Str} {u v : Value} {pos : Pos} (hv : c.sg y = some v) (hne : y ≠ x := by decide) (hs : ((c.cl scope).lookup y).isSome = true := by kernel_rfl)
    (hl : (compEnvC scope (c.cl scope) C c.env).kindOf y = some .cell := by rfl) (hk : (compEnvC scope (c.cl scope) C c.env).scope.kind = .function := by rfl) (hd : (y == ("__debug__" : Str)) = false := by decide) :
    TV (c.comp scope (c.cl scope) C (csg c.sg (c.cl scope) x u)) O (eval (.Name y pos) (compEnvC scope (c.cl scope) C c.env)) (· = v) := by
  obtain ⟨a, ha⟩ := Option.isSome_iff_exists.mp hs
  exact e_cell (c := c.comp scope (c.cl scope) C (csg c.sg (c.cl scope) x u)) ((csg_free hne hs).trans hv) ha hl hk hd

/-- a comprehension's own name -/
theorem e_tgt {c : Cx} {O : Led} {scope : Scope} {cl : List (Str × Addr)} {C : Addr} {x : Str} {v : Value} {pos : Pos}
    (hl : (compEnvC scope cl C c.env).kindOf x = some .local := by rfl) (hk : (compEnvC scope cl C c.env).scope.kind = .function := by rfl) (hd : (x == ("__debug__" : Str)) = false := by decide) :
    TV (c.comp scope cl C (csg c.sg cl x v)) O (eval (.Name x pos) (compEnvC scope cl C c.env)) (· = v) :=
  e_local (c := c.comp scope cl C (csg c.sg cl x v)) csg_same hl hk hd
theorem e_tgtI {c : Cx} {O : Led} {scope : Scope} {cl : List (Str × Addr)} {C : Addr} {x : Str} {v : Value} {pos : Pos} {i : Int} (h : IsInt i v)
    (hl : (compEnvC scope cl C c.env).kindOf x = some .local := by rfl) (hk : (compEnvC scope cl C c.env).scope.kind = .function := by rfl) (hd : (x == ("__debug__" : Str)) = false := by decide) :
    TV (c.comp scope cl C (csg c.sg cl x v)) O (eval (.Name x pos) (compEnvC scope cl C c.env)) (IsInt i) :=
  (e_tgt hl hk hd).mono fun u hu => hu ▸ h

theorem Src.eq {c : Cx} {O : Led} {α : Type} {iter : Expr} {items items' : List α} {R : α → Value → Prop} (h : items = items') (S : Src c O iter items R) : Src c O iter items' R := h ▸ S

def endsOf (ns : List Int) : List Int := ((startsOf ns).drop 1).map (fun (i : Nat) => (i : Int) - 1) ++ [(ns.length : Int) - 1]

theorem starts_sorted (ns : List Int) : (startsOf ns).Pairwise (· < ·) := List.Pairwise.filter _ List.pairwise_lt_range
theorem mem_starts {ns : List Int} {k : Nat} : k ∈ startsOf ns ↔ k < ns.length ∧ isStart ns k = true := by
  unfold startsOf; rw [List.mem_filter, List.mem_range]
theorem starts_mono {ns : List Int} {i j a b : Nat} (h1 : (startsOf ns)[i]? = some a) (h2 : (startsOf ns)[j]? = some b) (h : i < j) : a < b := by
  obtain ⟨hi, rfl⟩ := List.getElem?_eq_some_iff.mp h1
  obtain ⟨hj, rfl⟩ := List.getElem?_eq_some_iff.mp h2
  exact List.pairwise_iff_getElem.mp (starts_sorted ns) i j hi hj h
theorem starts_first {ns : List Int} (h : 0 < ns.length) : (startsOf ns)[0]? = some 0 := by
  unfold startsOf
  obtain ⟨n, hn⟩ : ∃ n, ns.length = n + 1 := ⟨ns.length - 1, by omega⟩
  rw [hn, List.range_succ_eq_map, List.filter_cons]
  simp [isStart]
theorem nxt_some {ns : List Int} {j e : Nat} (h : (startsOf ns)[j + 1]? = some e) : nxt ns j = e := by unfold nxt; rw [List.getD_eq_getElem?_getD, h]; rfl
theorem nxt_none {ns : List Int} {j : Nat} (h : (startsOf ns)[j + 1]? = none) : nxt ns j = ns.length := by unfold nxt; rw [List.getD_eq_getElem?_getD, h]; rfl
theorem nxt_cases (ns : List Int) (j : Nat) : ((startsOf ns)[j + 1]? = some (nxt ns j)) ∨ ((startsOf ns)[j + 1]? = none ∧ nxt ns j = ns.length) := by
  cases h : (startsOf ns)[j + 1]? with
  | none => exact .inr ⟨rfl, nxt_none h⟩
  | some e => rw [nxt_some h]; exact .inl rfl

theorem seg_bounds {ns : List Int} {j a : Nat} (h : (startsOf ns)[j]? = some a) : a < nxt ns j ∧ nxt ns j ≤ ns.length := by
  have ha := (mem_starts.mp (List.mem_of_getElem? h)).1
  rcases nxt_cases ns j with h1 | ⟨h1, h2⟩
  · exact ⟨starts_mono h h1 (by omega), Nat.le_of_lt (mem_starts.mp (List.mem_of_getElem? h1)).1⟩
  · omega

theorem seg_mid {ns : List Int} {j a k : Nat} (h : (startsOf ns)[j]? = some a) (h1 : a < k) (h2 : k < nxt ns j) : ns.getD k 0 = ns.getD (k - 1) 0 + 1 := by
  have hb := seg_bounds h
  have hk : k < ns.length := by omega
  cases hs : isStart ns k with
  | true =>
    exfalso
    obtain ⟨i, hi⟩ := List.getElem?_of_mem (mem_starts.mpr ⟨hk, hs⟩)
    have hji : j < i := by
      rcases Nat.lt_trichotomy j i with h' | h' | h'
      · exact h'
      · subst h'; rw [h] at hi; cases hi; omega
      · have := starts_mono hi h h'; omega
    rcases nxt_cases ns j with h3 | ⟨h3, h4⟩
    · by_cases h5 : i = j + 1
      · subst h5; rw [h3] at hi; cases hi; omega
      · have := starts_mono h3 hi (by omega); omega
    · have := List.getElem?_eq_none_iff.mp h3
      have := (List.getElem?_eq_some_iff.mp hi).1
      omega
  | false =>
    unfold isStart at hs
    simp only [Bool.or_eq_false_iff, bne_eq_false_iff_eq] at hs
    omega

theorem seg_line {ns : List Int} {j a : Nat} (h : (startsOf ns)[j]? = some a) : ∀ t, a + t < nxt ns j → ns.getD (a + t) 0 = ns.getD a 0 + t
  | 0, _ => by simp
  | t + 1, ht => by
    rw [seg_mid h (k := a + (t + 1)) (by omega) ht, show a + (t + 1) - 1 = a + t from by omega, seg_line h t (by omega)]
    push_cast; omega

theorem seg_run {ns : List Int} {j a : Nat} (h : (startsOf ns)[j]? = some a) : run (ns.getD a 0) (ns.drop (a + 1)) = nxt ns j - a - 1 := by
  have hb := seg_bounds h
  refine run_spec _ _ _ (fun i y hi hy => ?_) (by rw [List.length_drop]; omega) ?_
  · rw [List.getElem?_drop] at hy
    have e1 : ns.getD (a + 1 + i) 0 = y := by rw [List.getD_eq_getElem?_getD, hy]; rfl
    rw [← e1, show a + 1 + i = a + (i + 1) from by omega, seg_line h (i + 1) (by omega)]
    push_cast; omega
  · rcases nxt_cases ns j with h1 | ⟨h1, h2⟩
    · right
      obtain ⟨he, hs⟩ := mem_starts.mp (List.mem_of_getElem? h1)
      refine ⟨ns.getD (nxt ns j) 0, ?_, fun hc => ?_⟩
      · rw [List.getElem?_drop, show a + 1 + (nxt ns j - a - 1) = nxt ns j from by omega]
        simp [he]
      · have e2 := seg_line h (nxt ns j - 1 - a) (by omega)
        rw [show a + (nxt ns j - 1 - a) = nxt ns j - 1 from by omega] at e2
        unfold isStart at hs
        rw [Bool.or_eq_true] at hs
        rcases hs with hs | hs
        · have : nxt ns j = 0 := by simpa using hs
          omega
        · rw [bne_iff_ne] at hs
          apply hs
          rw [hc, e2]
          omega
    · left; rw [List.length_drop, h2]; omega

theorem ends_get {ns : List Int} {j a : Nat} (h : (startsOf ns)[j]? = some a) : (endsOf ns)[j]? = some ((nxt ns j : Int) - 1) := by
  have hj := (List.getElem?_eq_some_iff.mp h).1
  unfold endsOf
  rcases nxt_cases ns j with h1 | ⟨h1, h2⟩
  · have hj1 := (List.getElem?_eq_some_iff.mp h1).1
    rw [List.getElem?_append_left (by rw [List.length_map, List.length_drop]; omega), List.getElem?_map, List.getElem?_drop, Nat.add_comm, h1]
    rfl
  · have := List.getElem?_eq_none_iff.mp h1
    rw [List.getElem?_append_right (by rw [List.length_map, List.length_drop]; omega), List.length_map, List.length_drop, show j - ((startsOf ns).length - 1) = 0 from by omega, h2]
    rfl
/-- a walk over a row that has told j of its stretches -/
def WS (c : Cx) (A : Around) (pm : Value) (G it l : Addr) (ns : List Int) (rvs : List Value) (j : Nat) (f : Str → Option Value) (st : ItSt) (gst : GenState) : Prop :=
  (j = 0 ∧ st = .at 0 ∧ f = argMap (.ref it) ∧ gst = .fresh (.func (fnBody 1) (genC c pm G).env)) ∨
  (∃ a pv k lvs cd p fs, (startsOf ns)[j]? = some a ∧ 0 < j ∧ st = .at (a + 1) ∧ rvs[a]? = some pv ∧ f "it" = some (.ref it) ∧ f "ip" = some pv ∧ gst = .suspended k lvs cd p fs false ∧ Susp (genC c pm G) A it l (2000 - j) k cd fs) ∨
  (∃ k lvs cd p fs, j = (startsOf ns).length ∧ 0 < j ∧ st = .ended ∧ gst = .suspended k lvs cd p fs false ∧ LastK (genC c pm G) A k cd fs)

section
variable {c : Cx} {O : Led} {s s' : Shared} {E : Value → Shared → Prop}

theorem getD_paired {R : Int → Value → Prop} {ns : List Int} {us : List Value} (hp : Paired R ns us) {j : Nat} {u : Value} (h : us[j]? = some u) : R (ns.getD j 0) u := by
  have hj : j < us.length := (List.getElem?_eq_some_iff.mp h).1
  have hj' : j < ns.length := by rw [hp.length]; exact hj
  exact paired_get hp j _ u (by simp [hj']) h

theorem tell {A : Around} {Q : Option Value → Shared → Prop} {pm : Value} {G it l ga : Addr} {g j a : Nat} {gst : GenState} {f sg : Str → Option Value} {gs : Array GenState} {st : ItSt} {rvs : List Value} {ns : List Int} {X : Led}
    (x : At (c.up ((G, NsP f) :: (it, st.P l) :: (l, LP rvs) :: X) sg gs) O s) (hwc : c.wc = true) (hh : A.handled = none) (hroom : A.depth + 30 < recursionLimit) (hga : (ga, GenP g) ∈ O) (hgs : gs[g]? = some gst)
    (o : GenOk c pm G) (hp : Paired (Bx O) ns rvs) (hn : ns.length ≤ 1000) (hw : WS c A.in1 pm G it l ns rvs j f st gst) (ha : (startsOf ns)[j]? = some a)
    (k : ∀ T pv lastv f' st' gst' s', rvs[a]? = some pv → rvs[nxt ns j - 1]? = some lastv → WS c A.in1 pm G it l ns rvs (j + 1) f' st' gst' → gst'.bare = true →
      At (c.up ((G, NsP f') :: (it, st'.P l) :: (l, LP rvs) :: X) sg (gs.setIfInBounds g gst')) ((T, TP [pv, lastv]) :: O) s' → Q (some (.ref T)) s') :
    wpAny (model c.prog c.w) A (pyNext (.ref ga)) Q E s := by
  have hb := seg_bounds ha
  have hrun := seg_run ha
  have hlen : ns.length = rvs.length := hp.length
  have hjm : j < (startsOf ns).length := (List.getElem?_eq_some_iff.mp ha).1
  have hsl : (startsOf ns).length ≤ ns.length := by unfold startsOf; exact Nat.le_trans (List.length_filter_le _ _) (by simp)
  have idx : ∀ (pv lastv : Value), rvs[a]? = some pv → (pv :: rvs.drop (a + 1))[nxt ns j - a - 1]? = some lastv → rvs[nxt ns j - 1]? = some lastv := by
    intro pv lastv h1 h2
    have : pv :: rvs.drop (a + 1) = rvs.drop a := by
      have h3 : a < rvs.length := by omega
      rw [List.drop_eq_getElem_cons h3]
      congr 1
      rw [List.getElem?_eq_getElem h3] at h1
      exact (Option.some.inj h1).symm
    rw [this, List.getElem?_drop, show a + (nxt ns j - a - 1) = nxt ns j - 1 from by omega] at h2
    exact h2
  have more : ∀ nv, (rvs.drop (a + 1))[nxt ns j - a - 1]? = some nv → (startsOf ns)[j + 1]? = some (nxt ns j) ∧ rvs[nxt ns j]? = some nv := by
    intro nv h1
    rw [List.getElem?_drop, show a + 1 + (nxt ns j - a - 1) = nxt ns j from by omega] at h1
    have h2 : nxt ns j < rvs.length := (List.getElem?_eq_some_iff.mp h1).1
    rcases nxt_cases ns j with h3 | ⟨h3, h4⟩
    · exact ⟨h3, h1⟩
    · omega
  have fin : nxt ns j - a - 1 = (ns.drop (a + 1)).length → j + 1 = (startsOf ns).length := by
    intro h1
    rw [List.length_drop] at h1
    rcases nxt_cases ns j with h3 | ⟨h3, h4⟩
    · have := (mem_starts.mp (List.mem_of_getElem? h3)).1; omega
    · have := List.getElem?_eq_none_iff.mp h3; omega
  rcases hw with ⟨rfl, rfl, rfl, rfl⟩ | ⟨a', pv, k₀, lvs₀, cd₀, p₀, fs₀, ha', hj, rfl, hpv, hit, hip, rfl, hS⟩ | ⟨k₀, lvs₀, cd₀, p₀, fs₀, hj, _⟩
  · have h0 : a = 0 := by
      have := starts_first (ns := ns) (by omega)
      rw [this] at ha; cases ha; rfl
    subst h0
    obtain ⟨pv, hpv⟩ : ∃ pv, rvs[0]? = some pv := ⟨rvs[0], by simp [show 0 < rvs.length from by omega]⟩
    refine next_fresh (pm := pm) (n := 2000 - 1) (i := 0) (ns := ns) (pv := pv) (np := ns.getD 0 0) x hwc hh hroom hga hgs o upd_same hpv (getD_paired hp hpv) hp ?_ ?_
    · intro T k' lvs cd p fs f' lastv nv s' h1 h2 h3 h4 h5 x'
      rw [hrun] at h1 h2 x'
      obtain ⟨h6, h7⟩ := more nv h2
      refine k T pv lastv f' (.at (nxt ns 0 + 1)) (.suspended k' lvs cd p fs false) s' hpv (idx pv lastv hpv h1) (.inr (.inl ⟨nxt ns 0, nv, k', lvs, cd, p, fs, h6, by omega, rfl, h7, h3, h4, rfl, h5⟩)) rfl ?_
      rw [show 0 + 1 + (nxt ns 0 - 0 - 1) + 1 = nxt ns 0 + 1 from by omega] at x'
      exact x'
    · intro T k' lvs cd p fs f' lastv s' h1 h2 h3 x'
      rw [hrun] at h1 h2
      exact k T pv lastv f' .ended (.suspended k' lvs cd p fs false) s' hpv (idx pv lastv hpv h1) (.inr (.inr ⟨k', lvs, cd, p, fs, fin h2, by omega, rfl, rfl, h3⟩)) rfl x'
  · rw [ha] at ha'; cases ha'
    have hS' : Susp (genC c pm G) A.in1 it l (2000 - (j + 1) + 1) k₀ cd₀ fs₀ := by rw [show 2000 - (j + 1) + 1 = 2000 - j from by omega]; exact hS
    refine next_mid (pm := pm) (n := 2000 - (j + 1)) (ns := ns) (pv := pv) (np := ns.getD a 0) x hwc hh (by omega) hga hgs hS' hit hip (getD_paired hp hpv) hp ?_ ?_
    · intro T k' lvs cd p fs f' lastv i nv s' h0 h1 h2 h3 h4 h5 x'
      cases h0
      have h1' : (pv :: rvs.drop (a + 1))[run (ns.getD a 0) (ns.drop (a + 1))]? = some lastv := h1
      have h2' : (rvs.drop (a + 1))[run (ns.getD a 0) (ns.drop (a + 1))]? = some nv := h2
      have x'' : At (c.up ((G, NsP f') :: (it, IterP l (a + 1 + run (ns.getD a 0) (ns.drop (a + 1)) + 1)) :: (l, LP rvs) :: X) sg (gs.setIfInBounds g (.suspended k' lvs cd p fs false))) ((T, TP [pv, lastv]) :: O) s' := x'
      rw [hrun] at h1' h2' x''
      obtain ⟨h6, h7⟩ := more nv h2'
      refine k T pv lastv f' (.at (nxt ns j + 1)) (.suspended k' lvs cd p fs false) s' hpv (idx pv lastv hpv h1') (.inr (.inl ⟨nxt ns j, nv, k', lvs, cd, p, fs, h6, by omega, rfl, h7, h3, h4, rfl, h5⟩)) rfl ?_
      rw [show a + 1 + (nxt ns j - a - 1) + 1 = nxt ns j + 1 from by omega] at x''
      exact x''
    · intro T k' lvs cd p fs f' lastv s' h1 h2 h3 x'
      have h1' : (pv :: rvs.drop (a + 1))[run (ns.getD a 0) (ns.drop (a + 1))]? = some lastv := h1
      have h2' : run (ns.getD a 0) (ns.drop (a + 1)) = (ns.drop (a + 1)).length := h2
      rw [hrun] at h1' h2'
      exact k T pv lastv f' .ended (.suspended k' lvs cd p fs false) s' hpv (idx pv lastv hpv h1') (.inr (.inr ⟨k', lvs, cd, p, fs, fin h2', by omega, rfl, rfl, h3⟩)) rfl x'
  · omega
end
theorem AllBare.set {gs : Array GenState} {g : Nat} {z : GenState} (h : AllBare gs) (hz : z.bare = true) : AllBare (gs.setIfInBounds g z) := by
  intro y hy
  rcases Array.mem_or_eq_of_mem_setIfInBounds hy with h' | h'
  · exact h y h'
  · rw [h']; exact hz
theorem AllBare.push {gs : Array GenState} {z : GenState} (h : AllBare gs) (hz : z.bare = true) : AllBare (gs.push z) := by
  intro y hy
  rcases Array.mem_push.mp hy with h' | h'
  · exact h y h'
  · rw [h']; exact hz

/-- row[starts[k]], told[0] and the like -/
theorem get_int {us : List Value} {is : List Int} {j : Nat} {a : Int} (hp : Paired IsInt is us) (h : is[j]? = some a) : ∃ u, us[j]? = some u ∧ IsInt a u := Paired.get_some hp h

end Mine

namespace Mine

section
variable {c : Cx} {O : Led} {s s' : Shared} {E : Value → Shared → Prop}

theorem Has.isLI {h : Heap} {l : Addr} {xs : List Value} (x : Has h (l, LI xs)) : h.IsList l xs.toArray := by
  obtain ⟨o, e, hc, n, hd⟩ := x; exact ⟨o, e, hc, n, hd⟩
theorem Has.toLI {h : Heap} {l : Addr} {xs : List Value} (x : Has h (l, LP xs)) : Has h (l, LI xs) := by
  obtain ⟨o, e, q⟩ := x; exact ⟨o, e, q.li⟩
theorem Has.ofIsList {h : Heap} {l : Addr} {xs : List Value} (x : h.IsList l xs.toArray) : Has h (l, LI xs) := by
  obtain ⟨o, e, hc, n, hd⟩ := x; exact ⟨o, e, hc, n, hd⟩

/-- next(e, None), whatever names the walk -/
theorem e_nextE {e : Expr} {p p2 pos : Pos} {k : Nat} {ga : Addr} {g : Nat} {Q : Value → Shared → Prop} (S : Std c) (y : At c O s) (h : TV c O (eval e c.env) (· = .ref ga)) (hga : (ga, GenP g) ∈ O)
    (hn : ∀ s', At c O s' → wpAny (model c.prog c.w) c.A.in1 (pyNext (.ref ga)) (fun r s' => Q (r.getD .none) s') E s')
    (hk : c.env.kindOf "next" = some .globalImplicit := by rfl) (hf : c.env.scope.kind = .function := by rfl) (hs : starEach [e, .Constant .none k p2] c.env = [(false, eval e c.env), (false, eval (.Constant .none k p2) c.env)] := by rfl) :
    wpAny (model c.prog c.w) c.A (eval (.Call (.Name "next" p) [e, .Constant .none k p2] [] pos) c.env) Q E s :=
  Call_Name2 ((e_bi S.next.1 S.next.2 hk S.gl S.bu hf).use y fun f s₁ e₁ k₁ x₁ => by
    subst e₁
    refine callWith_builtin (args := [(false, eval e c.env), (false, eval (.Constant .none k p2) c.env)]) rfl (evalArgs_plain (spliced_cons (h.use x₁ fun v s₂ e₂ k₂ x₂ => spliced_cons (e_none.use x₂ fun u s₃ e₃ k₃ x₃ => spliced_nil ?_))))
    subst e₂; subst e₃
    exact call_next2 (x₃.own _ hga).isGen.typeIs slot_gen_next (hn s₃ x₃)) hs

theorem e_itemI {value slice : Expr} {pos : Pos} {l : Addr} {xs : List Value} {k : Int} {v : Value} (h1 : TV c O (eval value c.env) (· = .ref l)) (h2 : TV c O (eval slice c.env) (IsInt k)) (hl : InL c O (l, LI xs))
    (h0 : 0 ≤ k) (hk : k < 2 ^ 63) (hx : xs[k.toNat]? = some v)
    (hs : ∀ a i, subscripted slice false a i = operate [a, i] (getItem a i) := by intro _ _; with_unfolding_all rfl) (ht : ∀ a r, letTemporaryGo value a r = pure () := by intro _ _; with_unfolding_all rfl) :
    TV c O (eval (.Subscript value slice pos) c.env) (· = v) := fun s E x =>
  Subscript_ (h1.use x fun a s₁ e₁ k₁ x₁ => h2.use x₁ fun b s₂ ⟨t, e₂⟩ k₂ x₂ => by
    subst e₁; subst e₂
    exact subscriptTail_ops (x₂.has hl).isLI.typeIs slot_list_getitem.lookup (wpAny_getItem_list (x₂.has hl).isLI h0 hk (by simpa using hx) ⟨rfl, k₁.trans k₂⟩) (hs _ _) (ht _))

/-- a list's item is written -/
theorem x_setitem {o i val : Expr} {pos' pos : Pos} {D : Addr} {xs : List Value} {X Y : Led} {k : Int} {P : Value → Prop} {Q : Flow → Shared → Prop} (hwc : c.wc = true) (hMu : c.Mu = X ++ (D, LI xs) :: Y) (y : At c O s)
    (h1 : TV c O (eval val c.env) P) (h2 : TV c O (eval o c.env) (· = .ref D)) (h3 : TV c O (eval i c.env) (IsInt k)) (h0 : 0 ≤ k) (hf : k < 2 ^ 63) (hn : k < xs.length)
    (q : ∀ v s', P v → At { c with Mu := X ++ (D, LI (xs.set k.toNat v)) :: Y } O s' → Q .next s')
    (hs : swapsWith val (some (.Subscript o i pos')) pos.line c.env = pure false := by rfl) :
    wpAny (model c.prog c.w) c.A (exec (.Assign [.Subscript o i pos'] val pos) c.env) Q E s := by
  refine wpAny_Assign_Subscript (h1.use y fun v s₁ hv k₁ y₁ => h2.use y₁ fun u s₂ hu k₂ y₂ => h3.use y₂ fun z s₃ ⟨t, hz⟩ k₃ y₃ => ?_) hs
  subst hu; subst hz
  have hD : (D, LI xs) ∈ c.Mu := by rw [hMu]; exact List.mem_append_right _ (.head _)
  refine wpAny_setItem_list (y₃.mu _ hD).isLI h0 hf (by simpa using hn) fun h' hl hsb => q v _ hv ?_
  have y₄ : At { c with Mu := (D, LI xs) :: (X ++ Y) } O s₃ := At.mu_perm (c := c) (by rw [← hMu]; exact y₃) List.perm_middle
  have y₅ : At { c with Mu := (D, LI (xs.set k.toNat v)) :: (X ++ Y) } O { s₃ with heap := h' } := by
    refine At.setMu (c := c) y₄ hwc (Alt.of_same (tk := s₃.toks) hsb) (Has.ofIsList ?_)
    have e : xs.toArray.setIfInBounds k.toNat v = (xs.set k.toNat v).toArray := by simp
    rw [← e]; exact hl
  exact At.mu_perm (c := c) y₅ List.perm_middle.symm

/-- x += e, for whole numbers -/
theorem x_aug {x : Str} {p' pos : Pos} {e : Expr} {a d : Int} {v : Value} {Q : Flow → Shared → Prop} (hx : Stores c x) (hv : c.sg x = some v) (ha : IsInt a v) (h : TV c O (eval e c.env) (IsInt d)) (y : At c O s)
    (q : ∀ u s', IsInt (a + d) u → At (c.set x u) O s' → Q .next s') (hk : c.env.scope.kind = .function := by rfl) (hl : c.env.kindOf x = some .local := by rfl) :
    wpAny (model c.prog c.w) c.A (exec (.AugAssign (.Name x p') .Add e pos) c.env) Q E s := by
  obtain ⟨m, hn, hm⟩ := y.ns
  refine wpAny_AugAssign_Name (wpAny_loadName_local hk hl hn (hm x v hl hv) (h.use y fun u s₁ ⟨t, hu⟩ k₁ y₁ => ?_))
  obtain ⟨t', rfl⟩ := ha
  subst hu
  refine iadd_int ?_
  exact w_store hx (y₁.keeps Kp.toks) fun s₂ _ y₂ => q _ s₂ ⟨_, rfl⟩ y₂

/-- a while loop that writes names alone -/
theorem x_while {test : Expr} {body : List Stmt} {pos : Pos} {Mu : Led} {sg : Str → Option Value} {gs : Array GenState} {Q : Flow → Shared → Prop} (J : Nat → (Str → Option Value) → Prop) (n : Nat) (y : At (c.up Mu sg gs) O s) (h0 : J n sg)
    (turn : ∀ n sg s E', J n sg → At (c.up Mu sg gs) O s → wpAny (model c.prog c.w) c.A (isTrue test c.env (eval test c.env)) (fun b s₂ =>
      if b then wpAny (model c.prog c.w) c.A (execs body c.env) (fun f s₃ => f = .next ∧ ∃ m sg', m < n ∧ J m sg' ∧ At (c.up Mu sg' gs) O s₃) E' s₂ else Q .next s₂) E' s) :
    wpAny (model c.prog c.w) c.A (exec (.While test body [] pos) c.env) Q E s := by
  refine wpAny_While (codeAny_whileLoop (fun n s => ∃ sg, J n sg ∧ At (c.up Mu sg gs) O s) ?_ n ⟨sg, h0, y⟩)
  rintro n s ⟨sg, hJ, z⟩
  refine wpAny_mono (turn n sg s _ hJ z) (fun b s₂ h => ?_) fun _ _ e => e
  cases b with
  | true =>
    simp only [if_true] at h ⊢
    refine wpAny_mono h (fun f s₃ h₃ => ?_) fun _ _ e => e
    obtain ⟨rfl, m, sg', hm, hJ', z'⟩ := h₃
    exact ⟨m, hm, sg', hJ', z'⟩
  | false =>
    simp only [Bool.false_eq_true, if_false] at h ⊢
    exact wpAny_execs_nil h

theorem At.toLI {X Y : Led} {D : Addr} {xs : List Value} (x : At { c with Mu := X ++ (D, LP xs) :: Y } O s) (hwc : c.wc = true) : At { c with Mu := X ++ (D, LI xs) :: Y } O s := by
  have y : At { c with Mu := (D, LP xs) :: (X ++ Y) } O s := At.mu_perm (c := c) x List.perm_middle
  have z : At { c with Mu := (D, LI xs) :: (X ++ Y) } O s := At.alts (L := [(D, LP xs)]) (L' := [(D, LI xs)]) y hwc (Alt.refl _ s) rfl fun p hp => by rw [List.mem_singleton.mp hp]; exact (y.mu _ (.head _)).toLI
  exact At.mu_perm (c := c) z List.perm_middle.symm
end
end Mine

namespace Mine

/-- a def's frame: what stands at the call is the base -/
abbrev fnC (c : Cx) (h : Heap) (f : Addr) (name : Str) (i : Nat) (cd : Addr) (pm : Value) (sg : Str → Option Value) : Cx :=
  { c with A := c.A.deeper (callEnvC (fdOf name i cd pm) h.objs.size f), B := h, env := callEnvC (fdOf name i cd pm) h.objs.size f, wc := true, Mu := [], sg := sg }

abbrev two (x1 x2 : Str) (v1 v2 : Value) : Str → Option Value := upd (upd (fun _ => none) x1 v1) x2 v2

/-- the looks at a def's scope that the kernel makes -/
def fnLook (i : Nat) : Bool :=
  decide (((cellsFrom 1 (fnScope i).names []).map (·.1)).Nodup) && ((cellsFrom 1 (fnScope i).names []).map (·.1)).all fun y => (fnScope i).names.lookup y != some .local

theorem cells_names (k : Nat) : ∀ (names : List (Str × NameKind)) (acc acc' : List (Str × Addr)) (m : Nat), acc.map (·.1) = acc'.map (·.1) → (cellsFrom k names acc).map (·.1) = (cellsFrom m names acc').map (·.1) := by
  intro names
  induction names generalizing k with
  | nil => intro acc acc' m h; exact h
  | cons p r ih =>
    intro acc acc' m h
    obtain ⟨n, kd⟩ := p
    unfold cellsFrom
    split
    · exact ih _ _ _ _ (by simp [h])
    · exact ih _ _ _ _ h

section
variable {c : Cx} {O : Led} {s s' : Shared}
theorem fn_at {f cd : Addr} {name x1 x2 : Str} {i : Nat} {pm v1 v2 : Value} (x : At c O s) (hl : fnLook i = true) (hne : x1 ≠ x2)
    (z : InCallC s (callEnvC (fdOf name i cd pm) s.heap.objs.size f).locals (bindL (callEnvC (fdOf name i cd pm) s.heap.objs.size f).kindOf [(x1, v1), (x2, v2)] fun _ => none) (callEnvC (fdOf name i cd pm) s.heap.objs.size f).cells
      (bindC (callEnvC (fdOf name i cd pm) s.heap.objs.size f).kindOf [(x1, v1), (x2, v2)] fun _ => none) s') : At (fnC c s.heap f name i cd pm (two x1 x2 v1 v2)) O s' := by
  obtain ⟨⟨⟨h', tk, rfl⟩, hns, hkeep, hfresh⟩, hcell, hap, hab⟩ := z
  unfold fnLook at hl
  rw [Bool.and_eq_true, decide_eq_true_iff, List.all_eq_true] at hl
  have en : (callEnvC (fdOf name i cd pm) s.heap.objs.size f).cells.map (·.1) = (cellsFrom 1 (fnScope i).names []).map (·.1) := cells_names _ (fnScope i).names [] [] _ rfl
  have nd : ((callEnvC (fdOf name i cd pm) s.heap.objs.size f).cells.map (·.1)).Nodup := by rw [en]; exact hl.1
  have nl : ∀ y a, (callEnvC (fdOf name i cd pm) s.heap.objs.size f).cells.lookup y = some a → (callEnvC (fdOf name i cd pm) s.heap.objs.size f).kindOf y ≠ some .local := fun y a h => by
    have := hl.2 y (by rw [← en]; exact List.mem_map.mpr ⟨(y, a), mem_of_lookup h, rfl⟩)
    have h' : ¬ (List.lookup y (fnScope i).names = some NameKind.local) := by simpa using this
    exact h'
  have sgs : ∀ y v, two x1 x2 v1 v2 y = some v → (y = x2 ∧ v = v2) ∨ (y = x1 ∧ v = v1) := fun y v hv => by
    have hv' : upd (upd (fun _ => none) x1 v1) x2 v2 y = some v := hv
    by_cases h : y = x2
    · subst h; rw [upd_same] at hv'; exact .inl ⟨rfl, (Option.some.inj hv').symm⟩
    · rw [upd_ne h] at hv'
      by_cases h' : y = x1
      · subst h'; rw [upd_same] at hv'; exact .inr ⟨rfl, (Option.some.inj hv').symm⟩
      · rw [upd_ne h'] at hv'; cases hv'
  have pl : ∀ a, a ∈ (fnC c s.heap f name i cd pm (two x1 x2 v1 v2)).places → s.heap.objs.size ≤ a := fun a ha => by
    rcases Cx.mem_places.mp ha with h | ⟨_, y, h⟩ | ⟨p, h⟩
    · rw [h]; exact Nat.le_refl _
    · exact Nat.le_of_lt (hab y a h)
    · cases h
  refine ⟨fun b o e => hkeep b o e, fun p hp => (x.own p hp).keep fun o e => hkeep _ o e, (fun p hp => nomatch hp), ⟨_, hns, fun y v hy hv => ?_⟩, fun y a v hy hv => ?_, fun p hp => ⟨_, hcell p.1 p.2 (lookup_of_mem nd p hp)⟩, ?_, fun p hp h => ?_, fun b o e h => ?_, x.gens, x.os, x.In, x.gl, x.bi, x.nolimit⟩
  · rcases sgs y v hv with ⟨rfl, rfl⟩ | ⟨rfl, rfl⟩
    · have hy' : (callEnvC (fdOf name i cd pm) s.heap.objs.size f).kindOf y = some .local := hy
      simp only [bindL, hy', if_true]
    · have hy' : (callEnvC (fdOf name i cd pm) s.heap.objs.size f).kindOf y = some .local := hy
      simp only [bindL, hy', if_true]
      split
      · simp [hne]
      · simp
  · have hy' := nl y a hy
    have := hcell y a hy
    have e : bindC (callEnvC (fdOf name i cd pm) s.heap.objs.size f).kindOf [(x1, v1), (x2, v2)] (fun _ => none) y = some v := by
      rcases sgs y v hv with ⟨rfl, rfl⟩ | ⟨rfl, rfl⟩
      · simp only [bindC, if_neg hy', if_true]
      · simp only [bindC, if_neg hy', if_true]
        split
        · simp
        · simp [hne]
    rw [e] at this
    exact this
  · show (s.heap.objs.size :: ((callEnvC (fdOf name i cd pm) s.heap.objs.size f).cells.map (·.2) ++ [])).Nodup
    rw [List.append_nil, List.nodup_cons]
    refine ⟨fun h => ?_, ?_⟩
    · obtain ⟨p, hp, e⟩ := List.mem_map.mp h
      have := hab p.1 p.2 hp
      rw [e] at this
      exact Nat.lt_irrefl _ this
    · unfold List.Nodup; rw [List.pairwise_map]; exact hap
  · obtain ⟨o, e, _⟩ := x.own p hp
    exact absurd (Heap.lt_size e) (Nat.not_lt.mpr (pl _ h))
  · exact absurd (Heap.lt_size e) (Nat.not_lt.mpr (pl b h))

theorem Own.fn {h : Heap} {f cd : Addr} {name : Str} {i : Nat} {pm : Value} {sg : Str → Option Value} (o : Own c) (hd : c.A.depth + 11 < recursionLimit) : Own (fnC c h f name i cd pm sg) :=
  ⟨⟨o.std.hh, rfl, rfl, o.std.len, o.std.range, o.std.list, o.std.iter, o.std.next⟩, o.ok, by show c.A.depth + 1 + 10 < recursionLimit; omega, o.cls, o.box, o.far⟩

/-- all that stood stands, whatever else of the state has moved -/
theorem At.grown {N : Led} (x : At c O s) (k : ∀ b o, s.heap.get? b = some o → s'.heap.get? b = some o) (hg : s'.gens = s.gens) (ho : s'.os = s.os) (n : ∀ p ∈ N, s.heap.get? p.1 = none ∧ Has s'.heap p) : At c (N ++ O) s' := by
  refine ⟨fun b o e => k _ _ (x.base b o e), fun p hp => ?_, fun p hp => (x.mu p hp).keep fun o e => k _ _ e, ?_, fun y a v hy hv => ?_, fun p hp => ?_, x.nodup, fun p hp => ?_, x.offB, hg.trans x.gens, ho.trans x.os, x.kin, x.tg, x.tb, x.nl⟩
  · rcases List.mem_append.mp hp with h | h
    · exact (n p h).2
    · exact (x.own p h).keep fun o e => k _ _ e
  · obtain ⟨m, hn, hm⟩ := x.ns
    exact ⟨m, hn.keeps fun b o e => k b o e, hm⟩
  · exact (x.cell y a v hy hv).keeps fun b o e => k b o e
  · obtain ⟨v, hv⟩ := x.cellAlive p hp
    exact ⟨v, hv.keeps fun b o e => k b o e⟩
  · rcases List.mem_append.mp hp with h | h
    · exact fun hq => x.alive hq (n p h).1
    · exact x.offO p h

theorem fn_call {f cd : Addr} {name x1 x2 : Str} {i : Nat} {pm v1 v2 : Value} {P : Value → Led → Prop} {E : Value → Shared → Prop} {Q : Value → Shared → Prop} (o : Own c) (hfn : c.K.lookup f = some ⟨.type "function", none, .func (fdOf name i cd pm), #[]⟩) (hcode : codeIn c.K (.ref cd) name = true)
    (hl : fnLook i = true) (hne : x1 ≠ x2) (hbind : bindArgs (fdOf name i cd pm) ⟨[v1, v2], []⟩ = pure [(x1, v1), (x2, v2)])
    (hkind : ∀ L : Addr, ∀ x ∈ [(x1, v1), (x2, v2)], (fdOf name i cd pm).scope.names.lookup x.1 = some .local ∨ ((fdOf name i cd pm).scope.names.lookup x.1 = some .cell ∧ ((cellsFrom (L + 1) (fdOf name i cd pm).scope.names []).lookup x.1).isSome = true))
    (body : ∀ s s' E, At c O s → At (fnC c s.heap f name i cd pm (two x1 x2 v1 v2)) O s' → wpAny (model c.prog c.w) (fnC c s.heap f name i cd pm (two x1 x2 v1 v2)).A (execs (fnBody i) (fnC c s.heap f name i cd pm (two x1 x2 v1 v2)).env)
      (fun fl s'' => ∃ v c'' O'' N, fl = .ret v ∧ P v N ∧ c''.B = s.heap ∧ c''.gs = c.gs ∧ c''.os = c.os ∧ At c'' O'' s'' ∧ ∀ p ∈ N, p ∈ O'' ∧ s.heap.get? p.1 = none) E s')
    (x : At c O s) (k : ∀ v N s', P v N → At c (N ++ O) s' → Q v s')
    (hco : (fdOf name i cd pm).scope.isCoroutine = false := by rfl) (hgen : (fdOf name i cd pm).scope.isGenerator = false := by rfl) (hk : (fdOf name i cd pm).scope.kind = .function := by rfl) :
    wpAny (model c.prog c.w) c.A (call (.ref f) [v1, v2]) Q E s := by
  have hroom : c.A.depth < recursionLimit := by have := o.room; omega
  refine wpAny_call (codeAny_call_cells (fd := fdOf name i cd pm) (body := fnBody i) (binds := [(x1, v1), (x2, v2)]) hroom (x.In _ _ hfn) rfl x.nolimit (codeRec_of x.In hcode) rfl hbind rfl (hkind _) (fun s₁ z => ?_) hco hgen hk)
  refine wpAny_mono (body s s₁ _ x (fn_at x hl hne z)) ?_ fun _ _ e => e
  rintro fl s'' ⟨v, c'', O'', N, rfl, hP, hB, hgs, hos, y, hN⟩
  exact k v N s'' hP (x.grown (fun b o e => y.base b o (hB ▸ e)) (y.gens.trans (hgs.trans x.gens.symm)) (y.os.trans (hos.trans x.os.symm)) fun p hp => ⟨(hN p hp).2, y.own p (hN p hp).1⟩)

/-- a call of a def by its name, two arguments -/
theorem e_fn2 {f : Addr} {name : Str} {e1 e2 : Expr} {p pos : Pos} {v1 : Value} {P2 : Value → Prop} {E : Value → Shared → Prop} {Q : Value → Shared → Prop} (S : Std c) (hg : c.mg name = some (.ref f)) (hkp : keepIn c.K (.ref f) = true) (x : At c O s)
    (h1 : TV c O (eval e1 c.env) (· = v1)) (h2 : TV c O (eval e2 c.env) P2) (k : ∀ v2 s', P2 v2 → At c O s' → wpAny (model c.prog c.w) c.A (call (.ref f) [v1, v2]) Q E s')
    (hk : c.env.kindOf name = some .globalImplicit := by rfl) (hf : c.env.scope.kind = .function := by rfl) (hs : starEach [e1, e2] c.env = [(false, eval e1 c.env), (false, eval e2 c.env)] := by rfl) (hd : (name == ("__debug__" : Str)) = false := by decide) :
    wpAny (model c.prog c.w) c.A (eval (.Call (.Name name p) [e1, e2] [] pos) c.env) Q E s :=
  Call_Name2 ((e_glob hg hk S.gl hf hd).use x fun f s₁ e₁ k₁ x₁ => by
    subst e₁
    refine callWith_of (P := c.K.In) (args := [(false, eval e1 c.env), (false, eval e2 c.env)]) rfl (keeps_K hkp) (evalArgs_plain (spliced_cons (h1.use x₁ fun v s₂ q k₂ x₂ => spliced_cons (h2.use x₂ fun u s₃ q' k₃ x₃ => spliced_nil ⟨x₃.In, ?_⟩))))
    subst q
    exact k u s₃ q' x₃) hs
end
end Mine

namespace Mine

section
variable {c : Cx} {O : Led} {s s' : Shared} {E : Value → Shared → Prop}

/-- append; what is new is told so -/
theorem x_append_fr {x : Str} {p apos pos spos : Pos} {e : Expr} {D : Addr} {xs : List Value} {X Y : Led} {P : Value → Led → Prop} {Q : Flow → Shared → Prop} (hwc : c.wc = true) (hMu : c.Mu = X ++ (D, LP xs) :: Y) (y : At c O s)
    (h1 : TV c O (eval (.Name x p) c.env) (· = .ref D)) (h2 : Tr c O (eval e c.env) P) (hn : xs.length ≤ 100000)
    (k : ∀ v N s', P v N → (∀ q ∈ N, c.B.get? q.1 = none) → At { c with Mu := X ++ (D, LP (xs ++ [v])) :: Y } (N ++ O) s' → Q .next s')
    (hbase : attributeBase (.Name x p) "append" c.env (eval (.Name x p) c.env) = eval (.Name x p) c.env := by rfl)
    (hfew : ((backTo pos (starEach [e] c.env)).all (fun x => !x.1) && (backToKw pos (keywordEach [] c.env)).all (fun x => x.1.isSome)
      && decide (([e] : List Expr).length + ([] : List Keyword).length + (if ([] : List Keyword).isEmpty then 0 else 1) < 30)) = true := by rfl)
    (hline : (apos.endLine == pos.line) = true := by rfl) (htrees : backTo pos (starEach [e] c.env) = [(false, eval e c.env)] := by rfl)
    (hi : interactive c.env = false := by rfl) (hs : swapsWith (.Call (.Attribute (.Name x p) "append" apos) [e] [] pos) none spos.line c.env = pure false := by rfl) :
    wpAny (model c.prog c.w) c.A (exec (.Expr (.Call (.Attribute (.Name x p) "append" apos) [e] [] pos) spos) c.env) Q E s := by
  refine x_append_at hwc hMu y h1 (P := fun v N => P v N ∧ ∀ q ∈ N, c.B.get? q.1 = none) (fun s E z => (h2.use z fun v s₁ N p g _ => ⟨N, ⟨p, fun q hq => ?_⟩, g⟩)) hn (fun v N s' hp z => k v N s' hp.1 hp.2 z) hbase hfew hline htrees hi hs
  have h3 := (g.2 q hq).1
  cases e3 : c.B.get? q.1 with
  | none => rfl
  | some o => rw [z.base _ _ e3] at h3; cases h3

/-- extend by a list -/
theorem x_extend {x : Str} {p apos pos spos : Pos} {e : Expr} {D : Addr} {xs : List Value} {X Y : Led} {P : Value → Led → Prop} {Q : Flow → Shared → Prop} (hwc : c.wc = true) (hMu : c.Mu = X ++ (D, LP xs) :: Y) (y : At c O s)
    (h1 : TV c O (eval (.Name x p) c.env) (· = .ref D)) (h2 : Tr c O (eval e c.env) P)
    (hp : ∀ v N, P v N → ∃ b ys, v = .ref b ∧ (b, LP ys) ∈ N ++ O ∧ xs.length + ys.length ≤ 100000)
    (k : ∀ v N b ys s', P v N → v = .ref b → (b, LP ys) ∈ N ++ O → (∀ q ∈ N, c.B.get? q.1 = none) → At { c with Mu := X ++ (D, LP (xs ++ ys)) :: Y } (N ++ O) s' → Q .next s')
    (hbase : attributeBase (.Name x p) "extend" c.env (eval (.Name x p) c.env) = eval (.Name x p) c.env := by rfl)
    (hfew : ((backTo pos (starEach [e] c.env)).all (fun x => !x.1) && (backToKw pos (keywordEach [] c.env)).all (fun x => x.1.isSome)
      && decide (([e] : List Expr).length + ([] : List Keyword).length + (if ([] : List Keyword).isEmpty then 0 else 1) < 30)) = true := by rfl)
    (hline : (apos.endLine == pos.line) = true := by rfl) (htrees : backTo pos (starEach [e] c.env) = [(false, eval e c.env)] := by rfl)
    (hi : interactive c.env = false := by rfl) (hs : swapsWith (.Call (.Attribute (.Name x p) "extend" apos) [e] [] pos) none spos.line c.env = pure false := by rfl) :
    wpAny (model c.prog c.w) c.A (exec (.Expr (.Call (.Attribute (.Name x p) "extend" apos) [e] [] pos) spos) c.env) Q E s := by
  have hD : (D, LP xs) ∈ c.Mu := by rw [hMu]; exact List.mem_append_right _ (.head _)
  refine wpAny_Expr_any (wpAny_Call_method hbase hfew hline PySem.F.plainAttrs_list PySem.F.slot_list_extend PySem.F.type_list_extend (h1.use y fun v s₁ q k₁ y₁ => ?_)) hi hs
  subst q
  refine ⟨(y₁.mu _ hD).isList.typeIs, fun a ha => ?_, ?_⟩
  · cases ha
    obtain ⟨o, eo, n, rfl⟩ := y₁.mu _ hD
    exact ⟨_, eo, rfl⟩
  rw [htrees]
  refine PySem.P.extend_list (h2.use y₁ fun v s₂ N p g y₂ => ?_)
  obtain ⟨b, ys, rfl, hb, hn⟩ := hp v N p
  obtain ⟨o, eo, n, rfl⟩ := y₂.mu _ hD
  obtain ⟨o', eo', n', rfl⟩ := y₂.own _ hb
  have hsz : xs.toArray.size + ys.toArray.size ≤ sizeLine := by rw [List.size_toArray, List.size_toArray]; exact small_line hn
  refine ⟨b, xs.toArray, ys.toArray, n, n', by omega, by omega, extend_door hsz, rfl, eo, eo', k _ N b ys _ p rfl hb (fun q hq => ?_) ?_⟩
  · have h3 := (g.2 q hq).1
    cases e3 : c.B.get? q.1 with
    | none => rfl
    | some o => rw [y₁.base _ _ e3] at h3; cases h3
  · have y₃ : At { c with Mu := (D, LP xs) :: (X ++ Y) } (N ++ O) s₂ := At.mu_perm (c := c) (by rw [← hMu]; exact y₂) List.perm_middle
    have hsb := Heap.SameBut.update s₂.heap D (Obj.mapSeq fun x => x ++ ys.toArray)
    have y₄ := At.setMu (c := c) (p' := LP (xs ++ ys)) y₃ hwc (Alt.of_same (tk := s₂.toks) hsb) ⟨_, Heap.get?_update_self _ eo (by rw [mapSeq_app]; rfl), by rw [mapSeq_app]; exact ⟨_, by rw [show xs.toArray ++ ys.toArray = (xs ++ ys).toArray from by simp]⟩⟩
    exact At.mu_perm (c := c) y₄ List.perm_middle.symm

/-- a comprehension over a tuple of pairs that is made on the spot -/
theorem e_compT {x x2 : Str} {px px2 pt pos : Pos} {kk : Nat} {iter elt : Expr} {ifs : List Expr} {scope : Scope} (RI : List (Value × Value) → Prop) (hh : c.A.handled = none)
    (h : Tr c O (eval iter c.env) fun v N => ∃ t vs items, v = .ref t ∧ (t, TP vs) ∈ N ∧ Paired (IsPair N) items vs ∧ RI items ∧ items.length ≤ 100000)
    (p : Value × Value → Bool) (F : Value × Value → Value → Led → Prop) (hF : ∀ a y N N', F a y N → (∀ q ∈ N, q ∈ N') → F a y N')
    (tests : ∀ items N (i : Nat) a v C, RI items → items[i]? = some a → IsPair (N ++ O) a v → TV (c.comp scope (c.cl scope) C (csg2 c.sg (c.cl scope) x x2 a.1 a.2)) (N ++ O) (testsOf ifs (compEnvC scope (c.cl scope) C c.env)) (· = p a))
    (elem : ∀ items N (i : Nat) a v C, RI items → items[i]? = some a → IsPair (N ++ O) a v → p a = true → Tr (c.comp scope (c.cl scope) C (csg2 c.sg (c.cl scope) x x2 a.1 a.2)) (N ++ O) (eval elt (compEnvC scope (c.cl scope) C c.env)) (F a))
    (hl : scopeLook c scope = true := by rfl) (hk : scope.kind = .function := by rfl) (hx : scope.names.lookup x = some .local := by rfl) (hx2 : scope.names.lookup x2 = some .local := by rfl)
    (hs : ∀ x, foldedSetIterable iter c.env x = pure x := by intro _; rfl) :
    Tr c O (eval (.ListComp elt [⟨.Tuple [.Name x px, .Name x2 px2] kk pt, iter, ifs, 0⟩] scope pos) c.env) (fun r N => ∃ D ys N1 items, r = .ref D ∧ N = (D, LP ys) :: N1 ∧ RI items ∧ Paired (fun a y => F a y N1) (items.filter p) ys) := fun s E y => by
  rw [eval_ListComp]
  refine wpAny_comprehension_free (use := none) rfl hs (closureFor_eq (scopeLook_free hl)) hk (scopeLook_ok hl hk).names (h.use y fun v s₁ N0 pv g y₁ => ?_)
  obtain ⟨t, vs, items, rfl, hm, hP, hRI, hn⟩ := pv
  have hT := (y₁.own _ (List.mem_append_left _ hm)).isTuple
  refine wpAny_pyIter_tuple hT ?_
  have hlt : t < s₁.heap.objs.size := by obtain ⟨o, ho, _⟩ := hT; exact Heap.lt_size ho
  have W := Walks.tuple (prog := c.prog) (w := c.w) (A := c.A) hh s₁.heap.objs.size t (Nat.ne_of_lt hlt) vs.toArray
  have hlen : vs.toArray.size = items.length := by rw [List.size_toArray, hP.length]
  refine comp_core (O := N0 ++ O) (RR := fun acc C => compPost _ _ _ none _ acc C) (items := items) (R := IsPair (N0 ++ O)) (s := s₁) p F hF (fun a _ => csg2 c.sg (c.cl scope) x x2 a.1 a.2) (fun y a h => cl_lookup h) cl_mem (scopeLook_ok hl hk) (bind_pair hh hl hk hx hx2) (fun _ _ => csg2_sub (cl_not hl hx) (cl_not hl hx2))
    (fun i a v C => tests items N0 i a v C hRI) (fun i a v C => elem items N0 i a v C hRI) hn y₁ Kp.push (fq := [t]) (Walks.cong W hlen fun i v hi e => ?_) ⟨⟨_, Heap.get?_push_size _ rfl, rfl, rfl⟩, hT.push _⟩ (fresh_size _) ?_ ?_ ?_
  · have hi' : i < items.length := by rw [← hlen]; exact hi
    obtain ⟨T, h1, h2⟩ := paired_get hP i items[i] v (by simp [hi']) (by simpa using e)
    exact ⟨items[i], by simp [hi'], T, h1, List.mem_append_left _ h2⟩
  · rintro i h ⟨⟨o, ho, _⟩, ⟨o', ho', _⟩⟩ b hb
    simp only [List.mem_cons, List.not_mem_nil, or_false] at hb
    rcases hb with rfl | rfl
    · rw [ho]; simp
    · rw [ho']; simp
  · rintro i h ⟨⟨o, ho, hc, _⟩, _⟩
    exact ⟨o, "tuple_iterator", ho, hc, by decide⟩
  · intro D C s' ys N m kp x' new hns nC pC neC hP'
    refine ⟨m, hns, fun h' hs' => ⟨(D, LP ys) :: (N ++ N0), ⟨D, ys, N ++ N0, items, rfl, rfl, hRI, hP'.mono fun a y hf => hF a y N _ hf fun q hq => List.mem_append_left _ hq⟩, ?_, fun q hq => ?_⟩⟩
    · refine g.1.trans ?_
      obtain ⟨h1, t1, rfl, k1⟩ := kp
      exact ⟨h', t1, rfl, fun b o e => hs'.extBut b o (fun h => by rw [h, nC] at e; cases e) (k1 b o e)⟩
    · have hq' : q ∈ (D, LP ys) :: (N ++ (N0 ++ O)) := by
        rcases List.mem_cons.mp hq with h | h
        · exact h ▸ .head _
        · rcases List.mem_append.mp h with h | h
          · exact .tail _ (List.mem_append_left _ h)
          · exact .tail _ (List.mem_append_right _ (List.mem_append_left _ h))
      refine ⟨?_, (x'.own q hq').keep fun o e => hs'.extBut _ o (neC q hq') e⟩
      rcases List.mem_cons.mp hq with h | h
      · exact g.1.none (new q (h ▸ .head _))
      · rcases List.mem_append.mp h with h | h
        · exact g.1.none (new q (.tail _ h))
        · exact (g.2 q h).1

theorem e_lenT {e : Expr} {p pos : Pos} {l : Addr} {xs : List Value} (S : Std c) (h : TV c O (eval e c.env) (· = .ref l)) (hl : InL c O (l, TP xs)) (hn : xs.length ≤ 100000)
    (hk : c.env.kindOf "len" = some .globalImplicit := by rfl) (hf : c.env.scope.kind = .function := by rfl) (hs : starEach [e] c.env = [(false, eval e c.env)] := by rfl) :
    TV c O (eval (.Call (.Name "len" p) [e] [] pos) c.env) (IsInt xs.length) := fun s E x =>
  Call_Name1 ((e_bi S.len.1 S.len.2 hk S.gl S.bu hf).use x fun f s₁ e₁ k₁ x₁ => by
    subst e₁
    exact callWith_builtin (args := [(false, eval e c.env)]) rfl (evalArgs_plain (spliced_cons (h.use x₁ fun v s₂ e₂ k₂ x₂ => by
      subst e₂
      exact spliced_nil (PyProof.Rows.len_tuple (x₂.has hl).isTup (by rw [List.size_toArray]; omega) ⟨⟨_, by rw [List.size_toArray]⟩, k₁.trans (k₂.trans Kp.toks)⟩)))) ) hs

/-- type(e), for a tuple -/
theorem e_typeT {e : Expr} {p pos : Pos} {l : Addr} {xs : List Value} (S : Std c) (hty : c.mg "type" = none ∧ c.mb "type" = some (.type "type")) (h : TV c O (eval e c.env) (· = .ref l)) (hl : InL c O (l, TP xs))
    (hk : c.env.kindOf "type" = some .globalImplicit := by rfl) (hf : c.env.scope.kind = .function := by rfl) (hs : starEach [e] c.env = [(false, eval e c.env)] := by rfl) :
    TV c O (eval (.Call (.Name "type" p) [e] [] pos) c.env) (· = .type "tuple") := fun s E x =>
  Call_Name1 ((e_bi hty.1 hty.2 hk S.gl S.bu hf).use x fun f s₁ e₁ k₁ x₁ => by
    subst e₁
    exact PyProof.Rows.callWith_type (args := [(false, eval e c.env)]) rfl (evalArgs_plain (spliced_cons (h.use x₁ fun v s₂ e₂ k₂ x₂ => by
      subst e₂
      exact spliced_nil (call_type_of (x₂.has hl).isTuple.typeIs (by decide) ⟨rfl, k₁.trans k₂⟩)))) ) hs

/-- sum(e), for a list of ints -/
theorem e_sum {e : Expr} {p pos : Pos} {l : Addr} {vs : List Value} {ns : List Int} (S : Std c) (hsu : c.mg "sum" = none ∧ c.mb "sum" = some (.builtin "sum")) (h : TV c O (eval e c.env) (· = .ref l)) (hl : ∀ s, At c O s → s.heap.IsList l vs.toArray) (hi : IntsAre vs ns)
    (hk : c.env.kindOf "sum" = some .globalImplicit := by rfl) (hf : c.env.scope.kind = .function := by rfl) (hs : starEach [e] c.env = [(false, eval e c.env)] := by rfl) :
    TV c O (eval (.Call (.Name "sum" p) [e] [] pos) c.env) (IsInt ns.sum) := fun s E x =>
  Call_Name1 ((e_bi hsu.1 hsu.2 hk S.gl S.bu hf).use x fun f s₁ e₁ k₁ x₁ => by
    subst e₁
    refine callWith_builtin (args := [(false, eval e c.env)]) rfl (evalArgs_plain (spliced_cons (h.use x₁ fun v s₂ e₂ k₂ x₂ => ?_)))
    subst e₂
    obtain ⟨xs, hx⟩ := hi.allInts.items
    refine spliced_nil (sum_intListG S.hh (hx ▸ hl _ x₂) fun h' tk t' kp => ?_)
    have e1 : ns = xs.toList.map (·.1) := by
      rw [← nums_intItems, ← hx]
      exact (show numsOf vs.toArray.toList = ns from hi.numsOf).symm
    have e2 : preSum (numAt xs) xs.size = ns.sum := by
      rw [preSum_eq, List.take_of_length_le (by simp), e1]
    rw [e2]
    exact ⟨⟨_, rfl⟩, (k₁.trans k₂).trans ⟨h', tk, rfl, kp⟩⟩) hs

/-- the loop of list(..) over a walk -/
theorem walk_loop {A : Around} {S ga : Addr} {sg : Str → Option Value} {res : Value} {R : Result → Shared → Prop} (hwc : c.wc = true) (I : Nat → List Value → Led → Array GenState → Led → Prop) (Fin : List Value → Led → Array GenState → Led → Prop)
    (hI : ∀ j acc Mu gs O, I j acc Mu gs O → acc.length + j ≤ 100000)
    (turn : ∀ j acc Mu gs O s E, I j acc Mu gs O → At (c.up (Mu ++ [(S, LP acc)]) sg gs) O s → wpAny (model c.prog c.w) A.in1 (pyNext (.ref ga)) (fun r s' => match r with
      | none => ∃ Mu' gs' O', Fin acc Mu' gs' O' ∧ At (c.up (Mu' ++ [(S, LP acc)]) sg gs') O' s'
      | some v => ∃ m Mu' gs' O', m < j ∧ I m (acc ++ [v]) Mu' gs' O' ∧ At (c.up (Mu' ++ [(S, LP acc)]) sg gs') O' s') E s)
    (hR : ∀ acc Mu gs O s', Fin acc Mu gs O → At (c.up (Mu ++ [(S, LP acc)]) sg gs) O s' → R (.ok (.ret res)) s') :
    ∀ (n j : Nat) acc Mu gs O s, j ≤ n → I j acc Mu gs O → At (c.up (Mu ++ [(S, LP acc)]) sg gs) O s → codeAny (model c.prog c.w) A (.builtin "list.extend.loop" ⟨[.ref S, .ref ga, res], []⟩) R s := by
  intro n
  induction n with
  | zero =>
    intro j acc Mu gs O s hj hi y
    refine codeAny_builtin PySem.F.entry_extend_loop ?_
    rw [Around.under_plainId PySem.F.plain_extend_loop _]
    show wpAny _ A.in1 (pyNext (.ref ga) >>= _) _ _ s
    refine wpAny_bind (wpAny_mono (turn j acc Mu gs O s _ hi y) ?_ fun _ _ e => e)
    intro r s₁ h
    cases r with
    | none =>
      obtain ⟨Mu', gs', O', hf, y'⟩ := h
      exact wpAny_pure (hR acc Mu' gs' O' s₁ hf y')
    | some v =>
      obtain ⟨m, Mu', gs', O', hm, _⟩ := h
      omega
  | succ n ih =>
    intro j acc Mu gs O s hj hi y
    refine codeAny_builtin PySem.F.entry_extend_loop ?_
    rw [Around.under_plainId PySem.F.plain_extend_loop _]
    show wpAny _ A.in1 (pyNext (.ref ga) >>= _) _ _ s
    refine wpAny_bind (wpAny_mono (turn j acc Mu gs O s _ hi y) ?_ fun _ _ e => e)
    intro r s₁ h
    cases r with
    | none =>
      obtain ⟨Mu', gs', O', hf, y'⟩ := h
      exact wpAny_pure (hR acc Mu' gs' O' s₁ hf y')
    | some v =>
      obtain ⟨m, Mu', gs', O', hm, hi', y'⟩ := h
      have hsz := hI _ _ _ _ _ hi
      show wpAny _ A.in1 (updateSeq S (·.push v) >>= _) _ _ _
      refine wpAny_bind ?_
      have y₁ : At { c.up [] sg gs' with Mu := (S, LP acc) :: Mu' } O' s₁ := At.mu_perm (c := c.up [] sg gs') y' List.perm_append_comm
      obtain ⟨o, eo, cn, rfl⟩ := y₁.mu _ (.head _)
      have hU := Heap.get?_update_self (Obj.mapSeq (·.push v)) eo rfl
      have e0 : (Obj.mapSeq (·.push v) ({ cls := .type "list", dict := none, data := .seq acc.toArray cn, slots := #[] } : Obj)) = { cls := .type "list", dict := none, data := .seq (acc ++ [v]).toArray (cn + 1), slots := #[] } := by
        simp [Obj.mapSeq_push_plain]
      refine wpAny_updateSeq eo rfl (wpAny_pure ⟨plainId_quiet PySem.F.plain_extend_loop _, ih m (acc ++ [v]) Mu' gs' O' _ (by omega) hi' ?_⟩) ?_ ?_
      · have y₂ := At.setMu (c := c.up [] sg gs') (p' := LP (acc ++ [v])) y₁ hwc (Alt.of_same (tk := s₁.toks) (Heap.SameBut.update s₁.heap S (Obj.mapSeq (·.push v)))) ⟨_, hU, cn + 1, e0⟩
        exact At.mu_perm (c := c.up [] sg gs') y₂ (List.perm_append_singleton _ _).symm
      · rw [List.size_toArray]; exact small_line (by omega)
      · show (acc.toArray.push v).size ≤ sizeLine + 1
        rw [Array.size_push, List.size_toArray]
        have := small_line (n := acc.length) (by omega)
        omega

/-- list(walk) -/
theorem call_list_walk {A : Around} {ga : Addr} {g : Nat} {Mu : Led} {sg : Str → Option Value} {gs : Array GenState} {Q : Value → Shared → Prop} (hwc : c.wc = true) (I : Nat → List Value → Led → Array GenState → Led → Prop) (Fin : List Value → Led → Array GenState → Led → Prop)
    (hI : ∀ j acc Mu gs O, I j acc Mu gs O → acc.length + j ≤ 100000) {j : Nat} (h0 : I j [] Mu gs O) (y : At (c.up Mu sg gs) O s) (hga : (ga, GenP g) ∈ O)
    (turn : ∀ S j acc Mu gs O s E, I j acc Mu gs O → At (c.up (Mu ++ [(S, LP acc)]) sg gs) O s → wpAny (model c.prog c.w) A.in1.in1 (pyNext (.ref ga)) (fun r s' => match r with
      | none => ∃ Mu' gs' O', Fin acc Mu' gs' O' ∧ At (c.up (Mu' ++ [(S, LP acc)]) sg gs') O' s'
      | some v => ∃ m Mu' gs' O', m < j ∧ I m (acc ++ [v]) Mu' gs' O' ∧ At (c.up (Mu' ++ [(S, LP acc)]) sg gs') O' s') E s)
    (hQ : ∀ S acc Mu' gs' O' s', Fin acc Mu' gs' O' → At (c.up Mu' sg gs') ((S, LP acc) :: O') s' → Q (.ref S) s') :
    wpAny (model c.prog c.w) A (call (.type "list") [.ref ga]) Q E s := by
  refine callType_codes (Q₁ := fun obj s₁ => obj = .ref s.heap.objs.size ∧ s₁ = { s with heap := s.heap.push { cls := .type "list", data := .seq #[] } }) PySem.F.called_list (PySem.F.typeCall_list_1 _) PySem.F.entry_list_init
    (code_list_new _ ⟨rfl, rfl⟩) fun obj s₁ h₁ => ?_
  obtain ⟨rfl, rfl⟩ := h₁
  have hS : (s.heap.push { cls := .type "list", data := .seq #[] }).get? s.heap.objs.size = some { cls := .type "list", data := .seq #[] } := Heap.get?_push_size _ rfl
  have y₁ : At { c.up [] sg gs with Mu := (s.heap.objs.size, LP []) :: Mu } O { s with heap := s.heap.push { cls := .type "list", data := .seq #[] } } :=
    At.growMu (c := c.up [] sg gs) y (Grow.one (Kp.push (s := s)) (fresh_size _) Has.newList)
  refine ⟨⟨_, hS, rfl⟩, PySem.F.args_list_init_2 _ _, ?_⟩
  generalize hSe : s.heap.objs.size = S at *
  generalize (s.heap.push { cls := .type "list", data := .seq #[] } : Heap) = h1 at *
  show wpAny _ A.in1.in1 (do let old ← Builtin.List.listItems (.ref S); Builtin.List.listUpdate (.ref S) (fun _ => #[]); letGo old.toList.reverse; Builtin.List.listExtendWith (.ref S) (.ref ga) .none) _ _ _
  refine wpAny_bind ?_
  unfold Builtin.List.listItems
  refine wpAny_bind (wpAny_seqItems hS rfl (wpAny_pure ?_))
  show wpAny _ A.in1.in1 (updateSeq S (fun _ => #[]) >>= fun _ => letGo (#[] : Array Value).toList.reverse >>= fun _ => Builtin.List.listExtendWith (.ref S) (.ref ga) .none) _ _ _
  refine wpAny_bind (wpAny_updateSeq hS rfl ?_)
  have hS₂ := Heap.get?_update_self (Obj.mapSeq (fun _ => (#[] : Array Value))) hS rfl
  refine wpAny_bind (wpAny_letGo ?_)
  have y₂ := At.setMu (c := c.up [] sg gs) (p' := LP []) y₁ hwc (Alt.of_same (tk := s.toks) (Heap.SameBut.update h1 S (Obj.mapSeq (fun _ => (#[] : Array Value))))) ⟨_, hS₂, _, rfl⟩
  generalize h1.update S (Obj.mapSeq (fun _ => (#[] : Array Value))) = h2 at *
  have hG := (y₂.own _ hga).isGen
  have hT : ({ s with heap := h2 } : Shared).TypeIs (.ref ga) "generator" := hG.typeIs
  have hne : S ≠ ga := fun h => by
    have h3 := y₂.offO _ hga
    exact h3 (Cx.mem_places.mpr (.inr (.inr ⟨LP [], by rw [← h]; exact .head _⟩)))
  unfold Builtin.List.listExtendWith
  refine wpAny_bind (wpAny_typeOf hT ?_)
  have g1 : Builtin.List.listSameRef (.ref S) (.ref ga) = false := by simp [Builtin.List.listSameRef, hne]
  have g2 : (Value.type "generator" == Value.type "list") = false := by decide
  have g3 : (Value.type "generator" == Value.type "tuple") = false := by decide
  simp only [g1, g2, g3, Bool.or_false, Bool.false_eq_true, if_false]
  refine wpAny_bind (wpAny_pyIter_gen hG ?_)
  refine wpAny_bind (wpAny_holding ?_)
  unfold Builtin.List.listLengthHint
  refine wpAny_bind (wpAny_specialOf hT PySem.F.gen_no_len ?_)
  show wpAny _ A.in1.in1 (specialOf (Value.ref ga) (Str.ofString "__length_hint__") >>= _) _ _ _
  refine wpAny_bind (wpAny_specialOf hT PySem.F.gen_no_hint ?_)
  refine wpAny_pure ?_
  show wpAny _ A.in1.in1 (rule "list.extend.makes-room" >>= fun _ => Builtin.List.listTouch (.ref S) >>= fun _ =>
    again (.builtin "list.extend.loop" ⟨[.ref S, .ref ga, .none], []⟩)) _ _ _
  refine wpAny_bind (wpAny_rule ?_)
  refine wpAny_bind ?_
  show wpAny _ A.in1.in1 (updateSeq S (·.push .none) >>= fun _ => updateSeq S (·.pop)) _ _ _
  obtain ⟨o, eo, cn, rfl⟩ := y₂.mu _ (.head _)
  have eo' : h2.get? S = some { cls := .type "list", data := .seq #[] cn } := eo
  refine wpAny_bind (wpAny_updateSeq eo' rfl ?_)
  have hS₄ := Heap.get?_update_self (Obj.mapSeq (·.push Value.none)) eo' rfl
  refine wpAny_updateSeq (hz := by seq_fits) hS₄ rfl ?_
  have hS₅ := Heap.get?_update_self (Obj.mapSeq (·.pop)) hS₄ rfl
  have y₃ : At { c.up [] sg gs with Mu := (S, LP []) :: Mu } O { s with heap := (h2.update S (Obj.mapSeq (·.push Value.none))).update S (Obj.mapSeq (·.pop)) } := by
    refine At.setMu (c := c.up [] sg gs) (p' := LP []) y₂ hwc ⟨_, s.toks, rfl, fun b o hb e => ?_⟩ ⟨_, hS₅, _, rfl⟩
    have hb' : b ≠ S := by simpa using hb
    exact (Heap.get?_update_other _ _ (Ne.symm hb')).trans ((Heap.get?_update_other _ _ (Ne.symm hb')).trans e)
  refine wpAny_pure ⟨plainId_quiet PySem.F.plain_extend_loop _, walk_loop (A := A.in1) (sg := sg) hwc I Fin hI (turn S) (fun acc Mu' gs' O' s' hf z => ?_) j j [] Mu gs O _ (Nat.le_refl _) h0 (At.mu_perm (c := c.up [] sg gs) y₃ (List.perm_append_singleton _ _).symm)⟩
  refine ⟨rfl, hQ S acc Mu' gs' O' s' hf ?_⟩
  have z₁ : At { c.up [] sg gs' with Mu := (S, LP acc) :: Mu' } O' s' := At.mu_perm (c := c.up [] sg gs') z List.perm_append_comm
  exact At.toO (c := c.up [] sg gs') z₁ hwc
end
end Mine

namespace Mine

section
variable {c : Cx} {O : Led} {s s' : Shared} {E : Value → Shared → Prop}

/-- a comprehension's own frame, held among what is written -/
theorem At.toComp {scope : Scope} {cl : List (Str × Addr)} {C : Addr} {f sgv : Str → Option Value} {Mu : Led} (x : At { c with Mu := (C, NsP f) :: Mu } O s) (hcl : ∀ y a, cl.lookup y = some a → c.env.cells.lookup y = some a) (hclm : ∀ p ∈ cl, p ∈ c.env.cells)
    (hcs : ∀ y a u, cl.lookup y = some a → sgv y = some u → c.sg y = some u) (hloc : ∀ y u, (relabel scope c.env).names.lookup y = some .local → sgv y = some u → f y = some u) :
    At (({ c with Mu := Mu } : Cx).comp scope cl C sgv) O s := by
  obtain ⟨m, hns, hm⟩ := (x.mu _ (.head _)).ns
  have hC : C ∈ ({ c with Mu := (C, NsP f) :: Mu } : Cx).places := Cx.mem_places.mpr (.inr (.inr ⟨_, .head _⟩))
  have sub : ∀ a, a ∈ (({ c with Mu := Mu } : Cx).comp scope cl C sgv).places → a ∈ ({ c with Mu := (C, NsP f) :: Mu } : Cx).places := fun a ha => by
    rcases Cx.mem_places.mp ha with h | ⟨h, _⟩ | ⟨r, h⟩
    · rw [show a = C from h]; exact hC
    · cases h
    · exact Cx.mem_places.mpr (.inr (.inr ⟨r, .tail _ h⟩))
  refine ⟨x.base, x.own, fun p hp => x.mu p (.tail _ hp), ⟨m, hns, fun w u hw hu => hm w u (hloc w u hw hu)⟩, fun w b u hw hu => x.cell w b u (hcl w b hw) (hcs w b u hw hu), fun w hw => x.cellAlive w (hclm w hw), ?_, fun q hq h => x.offO q hq (sub _ h), fun b o e h => x.offB b o e (sub _ h), x.gens, x.os, x.kin, x.tg, x.tb, x.nl⟩
  have nd := x.nodup
  unfold Cx.places at nd ⊢
  rw [List.nodup_cons, List.nodup_append] at nd
  show (C :: ([] ++ Mu.map (·.1))).Nodup
  rw [List.nil_append]
  exact nd.2.2.1

/-- a comprehension's frame is let go -/
theorem At.endComp {Mu : Led} {sg : Str → Option Value} {gs : Array GenState} {D C : Addr} {acc : List Value} {f : Str → Option Value} {h' : Heap} (x : At (c.up (Mu ++ [(D, LP acc), (C, NsP f)]) sg gs) O s) (hwc : c.wc = true) (hs : Heap.SameBut C s.heap h') :
    At (c.up Mu sg gs) ((D, LP acc) :: O) { s with heap := h' } := by
  have x₁ : At { c.up [] sg gs with Mu := (C, NsP f) :: (D, LP acc) :: Mu } O s := At.mu_perm (c := c.up [] sg gs) x ((List.perm_append_comm (l₁ := Mu) (l₂ := [(D, LP acc), (C, NsP f)])).trans (List.Perm.swap _ _ _))
  have x₂ : At { c.up [] sg gs with Mu := (D, LP acc) :: Mu } O s := At.mu_sub (c := c.up [] sg gs) x₁ (List.sublist_cons_self _ _)
  have hC : C ∈ ({ c.up [] sg gs with Mu := (C, NsP f) :: (D, LP acc) :: Mu } : Cx).places := Cx.mem_places.mpr (.inr (.inr ⟨_, .head _⟩))
  have nd := x₁.nodup
  unfold Cx.places at nd
  dsimp only at nd
  rw [hwc, if_pos rfl, List.nodup_cons, List.nodup_append, List.map_cons, List.nodup_cons] at nd
  obtain ⟨n1, n2, n3, n4⟩ := nd
  have hC' : C ∉ ({ c.up [] sg gs with Mu := (D, LP acc) :: Mu } : Cx).places := by
    unfold Cx.places
    dsimp only
    rw [hwc, if_pos rfl]
    intro h
    rcases List.mem_cons.mp h with h | h
    · exact n1 (List.mem_append_right _ (by rw [← h]; exact .head _))
    · rcases List.mem_append.mp h with h | h
      · exact n4 _ h _ (.head _) rfl
      · exact n3.1 h
  have x₃ := x₂.moved (fp := []) (Alt.of_same (tk := s.toks) hs) hC' (fun p hp h => x₁.offO p hp (h ▸ hC)) (fun o e => x₁.offB C o e hC) (fun h => absurd (hwc.symm.trans h) (by simp))
  exact At.toO (c := c.up [] sg gs) x₃ hwc

theorem comp_walk {x x2 : Str} {px px2 pt pos : Pos} {kk : Nat} {iter elt : Expr} {scope : Scope} {ga : Addr} {g : Nat} {Mu : Led} {sg : Str → Option Value} {gs : Array GenState} {RR : Value → Addr → Result → Shared → Prop} (hwc : c.wc = true) (hh : c.A.handled = none)
    (hl : scopeLook c scope = true) (hk : scope.kind = .function) (hx : scope.names.lookup x = some .local) (hx2 : scope.names.lookup x2 = some .local)
    (I : Nat → List Value → Led → Array GenState → Led → Prop) (Fin : List Value → Led → Array GenState → Led → Prop) (hI : ∀ j acc Mu gs O, I j acc Mu gs O → acc.length + j ≤ 100000) {j : Nat} (h0 : I j [] Mu gs O) (y : At (c.up Mu sg gs) O s) (hga : (ga, GenP g) ∈ O)
    (turn : ∀ X j acc Mu gs O s E, I j acc Mu gs O → At (c.up (Mu ++ X) sg gs) O s → wpAny (model c.prog c.w) c.A (pyNext (.ref ga)) (fun r s' => match r with
      | none => ∃ Mu' gs' O', Fin acc Mu' gs' O' ∧ At (c.up (Mu' ++ X) sg gs') O' s'
      | some v => ∃ T p q Mu' gs' O', v = .ref T ∧ (T, TP [p, q]) ∈ O' ∧ (ga, GenP g) ∈ O' ∧ At (c.up (Mu' ++ X) sg gs') O' s' ∧
          ∀ C Y, Tr ((c.up (Mu' ++ Y) sg gs').comp scope (c.cl scope) C (csg2 sg (c.cl scope) x x2 p q)) O' (eval elt (compEnvC scope (c.cl scope) C c.env)) fun u N => ∃ m, m < j ∧ I m (acc ++ [u]) Mu' gs' (N ++ O')) E s)
    (hRR : ∀ D C acc Mu gs O s f, Fin acc Mu gs O → At (c.up (Mu ++ [(D, LP acc), (C, NsP f)]) sg gs) O s → RR (.ref D) C (.ok .next) s) :
    wpAny (model c.prog c.w) c.A (newList []) (fun acc s₃ => wpAny (model c.prog c.w) c.A (newFunctionEnv scope c.env.globals (c.cl scope) [] c.env.qual none .none (some c.env)) (fun cenv s₄ =>
      codeAny (model c.prog c.w) c.A (.compStart (.ListComp elt [⟨.Tuple [.Name x px, .Name x2 px2] kk pt, iter, [], 0⟩] scope pos) 0 (.ref ga) acc { cenv with scope := relabel scope c.env }) (RR acc cenv.locals) s₄) E s₃) E s := by
  have so := scopeLook_ok hl hk
  refine wpAny_newObj_type (wpAny_newFunctionEnv so.cell (by intro y hy; simp at hy) (fun h₁ hns₁ hsb₁ => ?_) so.kind)
  dsimp only at hns₁ hsb₁ ⊢
  have g1 : Grow [(s.heap.objs.size, LP [])] s { s with heap := s.heap.push { cls := .type "list", dict := none, data := .seq ([] : List Value).toArray } } := Grow.one Kp.push (fresh_size _) Has.newList
  have y1 := At.growMu (c := c.up [] sg gs) y g1
  generalize hH2 : s.heap.push { cls := .type "list", dict := none, data := .seq ([] : List Value).toArray } = H2 at hns₁ hsb₁ g1 y1 ⊢
  have g2 : Grow [(H2.objs.size, NsP fun _ => none)] { s with heap := H2 } { s with heap := h₁, toks := s.toks + ([] : List (Str × Value)).length } :=
    Grow.one ⟨h₁, _, rfl, fun b o e => hsb₁.extBut b o (Nat.ne_of_lt (Heap.lt_size e)) (Heap.get?_push_of_some _ e)⟩ (fresh_size _) (Has.of_ns hns₁ fun y v h => nomatch h)
  have y2 := At.growMu (c := c.up [] sg gs) y1 g2
  generalize s.heap.objs.size = D at *
  generalize H2.objs.size = C at *
  have y3 : At (c.up (Mu ++ [(D, LP []), (C, NsP fun _ => none)]) sg gs) O { s with heap := h₁, toks := s.toks + ([] : List (Str × Value)).length } :=
    At.mu_perm (c := c.up [] sg gs) y2 ((List.Perm.swap _ _ _).trans (List.perm_append_comm (l₁ := [(D, LP []), (C, NsP fun _ => none)]) (l₂ := Mu)))
  generalize ({ s with heap := h₁, toks := s.toks + ([] : List (Str × Value)).length } : Shared) = s₃ at *
  have loop : codeAny (model c.prog c.w) c.A (.compLoop (.ListComp elt [⟨.Tuple [.Name x px, .Name x2 px2] kk pt, iter, [], 0⟩] scope pos) 0 (.ref ga) (.ref D) (compEnvC scope (c.cl scope) C c.env)) (RR (.ref D) C) s₃ := by
    refine compLoop_any (fun n s' => ∃ acc Mu gs O f, I n acc Mu gs O ∧ At (c.up (Mu ++ [(D, LP acc), (C, NsP f)]) sg gs) O s') ?_ j ⟨[], Mu, gs, O, _, h0, y3⟩
    rintro n s' ⟨acc, Mu', gs', O', f, hi, z⟩
    refine wpAny_mono (turn _ n acc Mu' gs' O' s' _ hi z) (fun r s₁ h => ?_) fun _ _ e => e
    cases r with
    | none =>
      obtain ⟨Mu₁, gs₁, O₁, hF, z₁⟩ := h
      exact hRR D C acc Mu₁ gs₁ O₁ s₁ f hF z₁
    | some v =>
      obtain ⟨T, p, q, Mu₁, gs₁, O₁, rfl, hT, hg, z₁, el⟩ := h
      refine w_letgo (c := c) (z₁.own _ hg) ?_
      obtain ⟨m, hns, _⟩ := (z₁.mu (C, NsP f) (List.mem_append_right _ (.tail _ (.head _)))).ns
      refine bind_pair (c := c.up (Mu₁ ++ [(D, LP acc), (C, NsP f)]) sg gs₁) hh hl hk hx hx2 C (.ref T) (p, q) s₁ m _ _ ⟨T, rfl, hT⟩ z₁ hns fun s₄ m' al hns₄ hm' => ?_
      refine wpAny_tests_nil ?_
      rw [if_pos rfl]
      have pmC : ∀ f' : Str → Option Value, (Mu₁ ++ [(D, LP acc), (C, NsP f')]).Perm ((C, NsP f') :: (Mu₁ ++ [(D, LP acc)])) := fun f' => by
        have e : Mu₁ ++ [(D, LP acc), (C, NsP f')] = (Mu₁ ++ [(D, LP acc)]) ++ [(C, NsP f')] := by simp
        rw [e]; exact List.perm_append_comm
      have z₂ : At { c.up [] sg gs₁ with Mu := (C, NsP m') :: (Mu₁ ++ [(D, LP acc)]) } O₁ s₄ := At.setMu (c := c.up [] sg gs₁) (At.mu_perm (c := c.up [] sg gs₁) z₁ (pmC f)) hwc al (Has.of_ns hns₄ fun _ _ h => h)
      have z₃ := At.toComp (c := c.up [] sg gs₁) (scope := scope) (cl := c.cl scope) (sgv := csg2 sg (c.cl scope) x x2 p q) z₂ (fun y a h => cl_lookup h) cl_mem (csg2_sub (cl_not hl hx) (cl_not hl hx2)) hm'
      refine (el C [(D, LP acc)]).use z₃ fun u s₅ N hu g₅ _ => ?_
      obtain ⟨m₁, hm₁, hi'⟩ := hu
      have z₅ := z₂.grow g₅
      have pmD : ∀ acc' : List Value, ((C, NsP m') :: (Mu₁ ++ [(D, LP acc')])).Perm ((D, LP acc') :: (Mu₁ ++ [(C, NsP m')])) := fun acc' => by
        refine (List.Perm.cons _ List.perm_append_comm).trans ((List.Perm.swap _ _ _).trans (List.Perm.cons _ ?_))
        exact (List.perm_append_comm (l₁ := [(C, NsP m')]) (l₂ := Mu₁))
      have z₆ := At.mu_perm (c := c.up [] sg gs₁) z₅ (pmD acc)
      obtain ⟨o, eo, nn, rfl⟩ := z₆.mu _ (.head _)
      have hb := hI _ _ _ _ _ hi
      refine wpAny_list_append_plain ⟨nn, eo⟩ (fun h' hl' hsb => ⟨m₁, hm₁, acc ++ [u], Mu₁, gs₁, N ++ O₁, m', hi', ?_⟩) (by rw [List.size_toArray]; exact small_line (by omega))
      have z₇ : At { c.up [] sg gs₁ with Mu := (D, LP (acc ++ [u])) :: (Mu₁ ++ [(C, NsP m')]) } (N ++ O₁) { s₅ with heap := h' } := by
        refine At.setMu (c := c.up [] sg gs₁) z₆ hwc (Alt.of_same (tk := s₅.toks) hsb) ?_
        obtain ⟨n', e'⟩ := hl'
        exact ⟨_, e', n', by simp⟩
      refine At.mu_perm (c := c.up [] sg gs₁) z₇ ?_
      refine (pmD _).symm.trans ?_
      have e : Mu₁ ++ [(D, LP (acc ++ [u])), (C, NsP m')] = (Mu₁ ++ [(D, LP (acc ++ [u]))]) ++ [(C, NsP m')] := by simp
      rw [e]; exact (List.perm_append_singleton _ _).symm
  exact codeAny_compStart_list loop (wpAny_pyIter_gen (y3.own _ hga).isGen loop)
end
end Mine

namespace Mine

theorem fresh_B {c : Cx} {O : Led} {s : Shared} (y : At c O s) {a : Addr} (h : s.heap.get? a = none) : c.B.get? a = none := by
  cases e : c.B.get? a with
  | none => rfl
  | some o => rw [y.base a o e] at h; cases h

/-- a row's stretches, by their first and last numbers -/
def spansOf (ns : List Int) : List (Int × Int) := (List.range (startsOf ns).length).map fun j => (ns.getD ((startsOf ns).getD j 0) 0, ns.getD (nxt ns j - 1) 0)
theorem spansOf_length (ns : List Int) : (spansOf ns).length = (startsOf ns).length := by simp [spansOf]
theorem spansOf_get {ns : List Int} {j a : Nat} (h : (startsOf ns)[j]? = some a) : (spansOf ns)[j]? = some (ns.getD a 0, ns.getD (nxt ns j - 1) 0) := by
  have hj := (List.getElem?_eq_some_iff.mp h).1
  unfold spansOf
  rw [List.getElem?_map, List.getElem?_range hj]
  simp [List.getD_eq_getElem?_getD, h]

section
variable {c : Cx} {O : Led} {s s' : Shared} {E : Value → Shared → Prop}

/-- the first stretch of a walk over a list itself -/
theorem tell_list {A : Around} {Q : Option Value → Shared → Prop} {pm : Value} {G l ga : Addr} {g : Nat} {sg : Str → Option Value} {gs : Array GenState} {rvs : List Value} {ns : List Int} {X : Led}
    (x : At (c.up ((G, NsP (argMap (.ref l))) :: (l, LP rvs) :: X) sg gs) O s) (hwc : c.wc = true) (hh : A.handled = none) (hroom : A.depth + 30 < recursionLimit) (hga : (ga, GenP g) ∈ O) (hgs : gs[g]? = some (.fresh (.func (fnBody 1) (genC c pm G).env)))
    (o : GenOk c pm G) (hp : Paired (Bx O) ns rvs) (n0 : 0 < ns.length) (hn : ns.length ≤ 1000)
    (k : ∀ it T pv lastv f' st' gst' s', rvs[0]? = some pv → rvs[nxt ns 0 - 1]? = some lastv → WS c A.in1 pm G it l ns rvs 1 f' st' gst' → gst'.bare = true →
      At (c.up ((G, NsP f') :: (it, st'.P l) :: (l, LP rvs) :: X) sg (gs.setIfInBounds g gst')) ((T, TP [pv, lastv]) :: O) s' → Q (some (.ref T)) s') :
    wpAny (model c.prog c.w) A (pyNext (.ref ga)) Q E s := by
  have ha := starts_first n0
  have hb := seg_bounds ha
  have hrun := seg_run ha
  have hlen : ns.length = rvs.length := hp.length
  obtain ⟨pv, hpv⟩ : ∃ pv, rvs[0]? = some pv := ⟨rvs[0], by simp [show 0 < rvs.length from by omega]⟩
  have idx : ∀ lastv, (pv :: rvs.drop 1)[nxt ns 0 - 0 - 1]? = some lastv → rvs[nxt ns 0 - 1]? = some lastv := by
    intro lastv h2
    have : pv :: rvs.drop 1 = rvs := by
      have h3 : 0 < rvs.length := by omega
      cases rvs with
      | nil => simp at h3
      | cons r t => simp at hpv; simp [hpv]
    rw [this] at h2
    exact h2
  refine next_fresh_list (pm := pm) (n := 2000 - 1) (ns := ns) (pv := pv) (np := ns.getD 0 0) x hwc hh hroom hga hgs o upd_same hpv (getD_paired hp hpv) hp ?_ ?_
  · intro it T k' lvs cd p fs f' lastv nv s' h1 h2 h3 h4 h5 x'
    rw [hrun] at h1 h2 x'
    have h2' : rvs[nxt ns 0]? = some nv := by rw [List.getElem?_drop, show 1 + (nxt ns 0 - 0 - 1) = nxt ns 0 from by omega] at h2; exact h2
    have h6 : (startsOf ns)[0 + 1]? = some (nxt ns 0) := by
      rcases nxt_cases ns 0 with h | ⟨h, h'⟩
      · exact h
      · have := (List.getElem?_eq_some_iff.mp h2').1; omega
    refine k it T pv lastv f' (.at (nxt ns 0 + 1)) (.suspended k' lvs cd p fs false) s' hpv (idx lastv h1) (.inr (.inl ⟨nxt ns 0, nv, k', lvs, cd, p, fs, h6, by omega, rfl, h2', h3, h4, rfl, h5⟩)) rfl ?_
    rw [show 1 + (nxt ns 0 - 0 - 1) + 1 = nxt ns 0 + 1 from by omega] at x'
    exact x'
  · intro it T k' lvs cd p fs f' lastv s' h1 h2 h3 x'
    rw [hrun] at h1 h2
    have h7 : 1 = (startsOf ns).length := by
      rw [List.length_drop] at h2
      have hm := (List.getElem?_eq_some_iff.mp ha).1
      rcases nxt_cases ns 0 with h | ⟨h, h'⟩
      · have := (mem_starts.mp (List.mem_of_getElem? h)).1; omega
      · have := List.getElem?_eq_none_iff.mp h; omega
    exact k it T pv lastv f' .ended (.suspended k' lvs cd p fs false) s' hpv (idx lastv h1) (.inr (.inr ⟨k', lvs, cd, p, fs, h7, by omega, rfl, rfl, h3⟩)) rfl x'

/-- what the loop of a comprehension over a walk knows -/
def CW (c : Cx) (pw : Value) (l ga G : Addr) (g : Nat) (ns : List Int) (rvs : List Value) (R : Int × Int → Value → Led → Prop) (X O₀ : Led) (j : Nat) (acc : List Value) (Mu : Led) (gs : Array GenState) (O : Led) : Prop :=
  acc.length + j = (startsOf ns).length ∧ (∀ q ∈ O₀, q ∈ O) ∧ AllBare gs ∧ Paired (fun a u => R a u O) ((spansOf ns).take acc.length) acc ∧ ∃ gst, gs[g]? = some gst ∧
    ((acc = [] ∧ gst = .fresh (.func (fnBody 1) (genC c pw G).env) ∧ Mu = (G, NsP (argMap (.ref l))) :: (l, LP rvs) :: X) ∨
     (∃ it f st, 0 < acc.length ∧ Mu = (G, NsP f) :: (it, st.P l) :: (l, LP rvs) :: X ∧ WS c c.A.in1 pw G it l ns rvs acc.length f st gst))

theorem take_snoc {α : Type} {l : List α} {j : Nat} {a : α} (h : l[j]? = some a) : l.take (j + 1) = l.take j ++ [a] := by
  obtain ⟨hj, rfl⟩ := List.getElem?_eq_some_iff.mp h
  rw [List.take_succ_eq_append_getElem hj]

set_option maxHeartbeats 2000000 in
theorem comp_far {x x2 : Str} {px px2 pt pos : Pos} {kk : Nat} {iter elt : Expr} {scope : Scope} {ga G l : Addr} {pw : Value} {X : Led} {sg : Str → Option Value} {gs : Array GenState} {RR : Value → Addr → Result → Shared → Prop} {ns : List Int} {rvs : List Value} (hwc : c.wc = true) (hh : c.A.handled = none)
    (hroom : c.A.depth + 30 < recursionLimit) (hgo : GenOk c pw G)
    (hl : scopeLook c scope = true) (hk : scope.kind = .function) (hx : scope.names.lookup x = some .local) (hx2 : scope.names.lookup x2 = some .local)
    (R : Int × Int → Value → Led → Prop) (hR : ∀ a u N N', R a u N → (∀ q ∈ N, q ∈ N') → R a u N') (n0 : 0 < ns.length) (hn : ns.length ≤ 1000) (hp : Paired (Bx O) ns rvs) (hbare : AllBare gs)
    (y : At (c.up ((G, NsP (argMap (.ref l))) :: (l, LP rvs) :: X) sg (gs.push (.fresh (.func (fnBody 1) (genC c pw G).env)))) ((ga, GenP gs.size) :: O) s)
    (elem : ∀ C Y gs' O' p q n m, (∀ r ∈ O, r ∈ O') → Bx O' n p → Bx O' m q → Tr ((c.up Y sg gs').comp scope (c.cl scope) C (csg2 sg (c.cl scope) x x2 p q)) O' (eval elt (compEnvC scope (c.cl scope) C c.env)) fun u N => R (n, m) u (N ++ O'))
    (hRR : ∀ D C acc gs' O' s f, Paired (fun a u => R a u O') (spansOf ns) acc → (∀ q ∈ O, q ∈ O') → AllBare gs' → At (c.up ((l, LP rvs) :: X ++ [(D, LP acc), (C, NsP f)]) sg gs') O' s → RR (.ref D) C (.ok .next) s) :
    wpAny (model c.prog c.w) c.A (newList []) (fun acc s₃ => wpAny (model c.prog c.w) c.A (newFunctionEnv scope c.env.globals (c.cl scope) [] c.env.qual none .none (some c.env)) (fun cenv s₄ =>
      codeAny (model c.prog c.w) c.A (.compStart (.ListComp elt [⟨.Tuple [.Name x px, .Name x2 px2] kk pt, iter, [], 0⟩] scope pos) 0 (.ref ga) acc { cenv with scope := relabel scope c.env }) (RR acc cenv.locals) s₄) E s₃) E s := by
  have hsl : (startsOf ns).length ≤ ns.length := by unfold startsOf; exact Nat.le_trans (List.length_filter_le _ _) (by simp)
  refine comp_walk (g := gs.size) hwc hh hl hk hx hx2 (CW c pw l ga G gs.size ns rvs R X ((ga, GenP gs.size) :: O))
    (fun acc Mu gs' O' => Paired (fun a u => R a u O') (spansOf ns) acc ∧ (∀ q ∈ O, q ∈ O') ∧ AllBare gs' ∧ ∃ f it, Mu = (G, NsP f) :: (it, EndP) :: (l, LP rvs) :: X) ?bound (j := (startsOf ns).length) ?start y (.head _) ?turn ?fin
  case bound =>
    intro j acc Mu gs' O' hI
    have := hI.1
    omega
  case start =>
    refine ⟨by simp, fun q hq => hq, AllBare.push hbare rfl, by simpa using .nil, _, ?_, .inl ⟨rfl, rfl, rfl⟩⟩
    simp
  case turn =>
    rintro X' j acc Mu gs' O' s E' ⟨hj, hsub, hbr, hH, gst, hgst, hway⟩ z
    have hga : (ga, GenP gs.size) ∈ O' := hsub _ (.head _)
    have hO : ∀ q ∈ O, q ∈ O' := fun q hq => hsub q (.tail _ hq)
    have hgl : gs.size < gs'.size := (Array.getElem?_eq_some_iff.mp hgst).1
    have hP : Paired (Bx O') ns rvs := hp.mono fun a u h => h.mono hO
    have next : ∀ {T : Addr} {a : Nat} {pv lastv : Value} {m : Nat} {Mu' : Led} {gs'' : Array GenState}, (startsOf ns)[acc.length]? = some a → rvs[a]? = some pv → rvs[nxt ns acc.length - 1]? = some lastv → AllBare gs'' →
        (∃ gst', gs''[gs.size]? = some gst' ∧ ∃ it f st, Mu' = (G, NsP f) :: (it, st.P l) :: (l, LP rvs) :: X ∧ WS c c.A.in1 pw G it l ns rvs (acc.length + 1) f st gst') →
        ∀ C Y, Tr ((c.up (Mu' ++ Y) sg gs'').comp scope (c.cl scope) C (csg2 sg (c.cl scope) x x2 pv lastv)) ((T, TP [pv, lastv]) :: O') (eval elt (compEnvC scope (c.cl scope) C c.env)) fun u N => ∃ m, m < j ∧ CW c pw l ga G gs.size ns rvs R X ((ga, GenP gs.size) :: O) m (acc ++ [u]) Mu' gs'' (N ++ (T, TP [pv, lastv]) :: O') := by
      intro T a pv lastv m Mu' gs'' ha h1 h2 hb ⟨gst', hg', it, f, st, hMu, hws⟩ C Y
      have hal := (List.getElem?_eq_some_iff.mp ha).1
      refine (elem C (Mu' ++ Y) gs'' ((T, TP [pv, lastv]) :: O') pv lastv (ns.getD a 0) (ns.getD (nxt ns acc.length - 1) 0) (fun q hq => .tail _ (hO q hq)) ((getD_paired hP h1).mono fun q hq => .tail _ hq) ((getD_paired hP h2).mono fun q hq => .tail _ hq)).mono fun u N hu => ?_
      refine ⟨j - 1, by omega, by rw [List.length_append]; simp; omega, fun q hq => List.mem_append_right _ (.tail _ (hsub q hq)), hb, ?_, gst', hg', .inr ⟨it, f, st, by simp, hMu, by rw [List.length_append]; exact hws⟩⟩
      rw [List.length_append, List.length_singleton, take_snoc (spansOf_get ha)]
      exact paired_append (hH.mono fun a u h => hR a u _ _ h fun q hq => List.mem_append_right _ (.tail _ hq)) (.cons hu .nil)
    rcases hway with ⟨rfl, rfl, rfl⟩ | ⟨it, f, st, h0, rfl, hws⟩
    · refine tell_list (c := c) (pm := pw) (X := X ++ X') z hwc hh hroom hga hgst hgo hP n0 hn ?_
      intro it T pv lastv f' st' gst' s' h1 h2 h3 h4 z'
      exact ⟨T, pv, lastv, (G, NsP f') :: (it, st'.P l) :: (l, LP rvs) :: X, _, _, rfl, .head _, .tail _ hga, z', next (m := 0) (starts_first n0) h1 h2 (AllBare.set hbr h4) ⟨gst', by simp [hgl], it, f', st', rfl, h3⟩⟩
    · by_cases hjz : j = 0
      · rcases hws with ⟨h, _⟩ | ⟨a', pv', k', lvs, cd, p', fs, ha', _⟩ | ⟨k', lvs, cd, p', fs, hm, h2, hst, hg, hLK⟩
        · omega
        · have := (List.getElem?_eq_some_iff.mp ha').1; omega
        · subst hg; subst hst
          refine w_last (c := c.up (((G, NsP f) :: (it, ItSt.ended.P l) :: (l, LP rvs) :: X) ++ X') sg gs') (pm := pw) (G := G) z hh (by omega) hga hgst hLK fun s' z' => ?_
          refine ⟨_, _, _, ⟨?_, hO, AllBare.set hbr rfl, f, it, rfl⟩, z'⟩
          rw [List.take_of_length_le (by rw [spansOf_length]; omega)] at hH
          exact hH
      · obtain ⟨a, ha⟩ : ∃ a, (startsOf ns)[acc.length]? = some a := ⟨(startsOf ns)[acc.length]'(by omega), by simp [show acc.length < (startsOf ns).length from by omega]⟩
        refine tell (c := c) (pm := pw) (X := X ++ X') z hwc hh hroom hga hgst hgo hP hn hws ha ?_
        intro T pv lastv f' st' gst' s' h1 h2 h3 h4 z'
        exact ⟨T, pv, lastv, (G, NsP f') :: (it, st'.P l) :: (l, LP rvs) :: X, _, _, rfl, .head _, .tail _ hga, z', next (m := 0) ha h1 h2 (AllBare.set hbr h4) ⟨gst', by simp [hgl], it, f', st', rfl, h3⟩⟩
  case fin =>
    rintro D C acc Mu gs' O' s f ⟨hP, hO, hbr, f', it, rfl⟩ z
    refine hRR D C acc gs' O' s f hP hO hbr ?_
    exact At.mu_sub (c := c.up [] sg gs') z (List.Sublist.cons _ (List.Sublist.cons _ (List.Sublist.refl _)))

theorem Stores.up {x : Str} {Mu : Led} {sg : Str → Option Value} {gs : Array GenState} (h : Stores c x) : Stores (c.up Mu sg gs) x := by
  cases h with
  | loc a b d e => exact .loc a b d e
  | cell a b d e f => exact .cell a b d e f

/-- z = [.. for x, x2 in _find_address_range(w)] -/
theorem x_assign_far {z w : Str} {pz spos p1 p2 p3 : Pos} {x x2 : Str} {px px2 pt pos : Pos} {kk : Nat} {elt : Expr} {scope : Scope} {l : Addr} {pw : Value} {X : Led} {sg : Str → Option Value} {gs : Array GenState} {Q : Flow → Shared → Prop} {ns : List Int} {rvs : List Value} (hz : Stores c z) (hwc : c.wc = true)
    (o : Own (c.up ((l, LP rvs) :: X) sg gs)) (hroom : c.A.depth + 30 < recursionLimit) (hfn : c.K.lookup 21 = some ⟨.type "function", none, .func (fdOf "_find_address_range" 1 20 pw), #[]⟩)
    (R : Int × Int → Value → Led → Prop) (hR : ∀ a u N N', R a u N → (∀ q ∈ N, q ∈ N') → R a u N') (n0 : 0 < ns.length) (hn : ns.length ≤ 1000) (hp : Paired (Bx O) ns rvs) (hbare : AllBare gs)
    (y : At (c.up ((l, LP rvs) :: X) sg gs) O s) (hw : TV (c.up ((l, LP rvs) :: X) sg gs) O (eval (.Name w p2) c.env) (· = .ref l))
    (elem : ∀ C Y gs' O' p q n m, (∀ r ∈ O, r ∈ O') → Bx O' n p → Bx O' m q → Tr ((c.up Y sg gs').comp scope (c.cl scope) C (csg2 sg (c.cl scope) x x2 p q)) O' (eval elt (compEnvC scope (c.cl scope) C c.env)) fun u N => R (n, m) u (N ++ O'))
    (k : ∀ D acc gs' O' s', Paired (fun a u => R a u O') (spansOf ns) acc → (∀ q ∈ O, q ∈ O') → (D, LP acc) ∈ O' → AllBare gs' → At (c.up ((l, LP rvs) :: X) (upd sg z (.ref D)) gs') O' s' → Q .next s')
    (hsw : swapsWith (.ListComp elt [⟨.Tuple [.Name x px, .Name x2 px2] kk pt, .Call (.Name "_find_address_range" p1) [.Name w p2] [] p3, [], 0⟩] scope pos) (some (.Name z pz)) spos.line c.env = pure true := by rfl)
    (hl : scopeLook c scope = true := by rfl) (hk : scope.kind = .function := by rfl) (hx : scope.names.lookup x = some .local := by rfl) (hx2 : scope.names.lookup x2 = some .local := by rfl)
    (hs : ∀ x, foldedSetIterable (.Call (.Name "_find_address_range" p1) [.Name w p2] [] p3) c.env x = pure x := by intro _; rfl)
    (hk1 : c.env.kindOf "_find_address_range" = some .globalImplicit := by rfl) (hf1 : c.env.scope.kind = .function := by rfl) (hs1 : starEach [.Name w p2] c.env = [(false, eval (.Name w p2) c.env)] := by rfl) :
    wpAny (model c.prog c.w) c.A (exec (.Assign [.Name z pz] (.ListComp elt [⟨.Tuple [.Name x px, .Name x2 px2] kk pt, .Call (.Name "_find_address_range" p1) [.Name w p2] [] p3, [], 0⟩] scope pos) spos) c.env) Q E s := by
  rw [exec_Assign_Name_used _ _ _ _ hsw]
  refine wpAny_bind (wpAny_standAt (wpAny_bind ?_))
  show wpAny _ _ (do let _ ← comprehension (.ListComp elt [⟨.Tuple [.Name x px, .Name x2 px2] kk pt, .Call (.Name "_find_address_range" p1) [.Name w p2] [] p3, [], 0⟩] scope pos) scope c.env _ (newList []) false (eval (.Call (.Name "_find_address_range" p1) [.Name w p2] [] p3) c.env) (some (assign (.Name z pz) c.env))) _ _ s
  refine wpAny_bind (wpAny_mono (wpAny_comprehension_free (use := some (assign (.Name z pz) c.env)) (Q := fun _ s' => Q .next s') rfl hs (closureFor_eq (scopeLook_free hl)) hk (scopeLook_ok hl hk).names
    (e_far (c := c.up ((l, LP rvs) :: X) sg gs) o hfn y hw (fun G ga s₁ y₁ => wpAny_pyIter_gen (y₁.own _ (.head _)).isGen ?_) hk1 hf1 hs1)) (fun _ s' hq => wpAny_pure (wpAny_pure hq)) fun _ _ e => e)
  refine comp_far (RR := fun acc C => compPost _ _ _ (some (assign (.Name z pz) c.env)) (fun _ s' => Q .next s') acc C) (pw := pw) (G := G) (gs := gs) hwc o.std.hh hroom (show GenOk c pw G from genOk_of (c := c.up ((l, LP rvs) :: X) sg gs) o) hl hk hx hx2 R hR n0 hn hp hbare y₁ elem ?_
  intro D C acc gs' O' s₂ f hP hO hbr z₂
  show wpAny _ _ (assign (.Name z pz) c.env (.ref D)) _ _ _
  refine wpAny_assign_Name (w_store (c := c.up ((l, LP rvs) :: X ++ [(D, LP acc), (C, NsP f)]) sg gs') hz.up z₂ fun s₃ _ z₃ => ?_)
  obtain ⟨m, hns, _⟩ := (z₃.mu (C, NsP f) (List.mem_append_right _ (.tail _ (.head _)))).ns
  refine ⟨m, hns, fun h' hs' => k D acc gs' _ _ (hP.mono fun a u h => hR a u _ _ h fun q hq => .tail _ hq) (fun q hq => .tail _ (hO q hq)) (.head _) hbr ?_⟩
  exact At.endComp (c := c) z₃ hwc hs'

/-- [.. for x, x2 in _find_address_range(w)] -/
theorem e_far_comp {w : Str} {p1 p2 p3 : Pos} {x x2 : Str} {px px2 pt pos : Pos} {kk : Nat} {elt : Expr} {scope : Scope} {l : Addr} {pw : Value} {X : Led} {sg : Str → Option Value} {gs : Array GenState} {Q : Value → Shared → Prop} {ns : List Int} {rvs : List Value} (hwc : c.wc = true)
    (o : Own (c.up ((l, LP rvs) :: X) sg gs)) (hroom : c.A.depth + 30 < recursionLimit) (hfn : c.K.lookup 21 = some ⟨.type "function", none, .func (fdOf "_find_address_range" 1 20 pw), #[]⟩)
    (R : Int × Int → Value → Led → Prop) (hR : ∀ a u N N', R a u N → (∀ q ∈ N, q ∈ N') → R a u N') (n0 : 0 < ns.length) (hn : ns.length ≤ 1000) (hp : Paired (Bx O) ns rvs) (hbare : AllBare gs)
    (y : At (c.up ((l, LP rvs) :: X) sg gs) O s) (hw : TV (c.up ((l, LP rvs) :: X) sg gs) O (eval (.Name w p2) c.env) (· = .ref l))
    (elem : ∀ C Y gs' O' p q n m, (∀ r ∈ O, r ∈ O') → Bx O' n p → Bx O' m q → Tr ((c.up Y sg gs').comp scope (c.cl scope) C (csg2 sg (c.cl scope) x x2 p q)) O' (eval elt (compEnvC scope (c.cl scope) C c.env)) fun u N => R (n, m) u (N ++ O'))
    (k : ∀ D acc gs' O' s', Paired (fun a u => R a u O') (spansOf ns) acc → (∀ q ∈ O, q ∈ O') → (D, LP acc) ∈ O' → AllBare gs' → At (c.up ((l, LP rvs) :: X) sg gs') O' s' → Q (.ref D) s')
    (hl : scopeLook c scope = true := by rfl) (hk : scope.kind = .function := by rfl) (hx : scope.names.lookup x = some .local := by rfl) (hx2 : scope.names.lookup x2 = some .local := by rfl)
    (hs : ∀ x, foldedSetIterable (.Call (.Name "_find_address_range" p1) [.Name w p2] [] p3) c.env x = pure x := by intro _; rfl)
    (hk1 : c.env.kindOf "_find_address_range" = some .globalImplicit := by rfl) (hf1 : c.env.scope.kind = .function := by rfl) (hs1 : starEach [.Name w p2] c.env = [(false, eval (.Name w p2) c.env)] := by rfl) :
    wpAny (model c.prog c.w) c.A (eval (.ListComp elt [⟨.Tuple [.Name x px, .Name x2 px2] kk pt, .Call (.Name "_find_address_range" p1) [.Name w p2] [] p3, [], 0⟩] scope pos) c.env) Q E s := by
  rw [eval_ListComp]
  refine wpAny_comprehension_free (use := none) rfl hs (closureFor_eq (scopeLook_free hl)) hk (scopeLook_ok hl hk).names
    (e_far (c := c.up ((l, LP rvs) :: X) sg gs) o hfn y hw (fun G ga s₁ y₁ => wpAny_pyIter_gen (y₁.own _ (.head _)).isGen ?_) hk1 hf1 hs1)
  refine comp_far (RR := fun acc C => compPost _ _ _ none _ acc C) (pw := pw) (G := G) (gs := gs) hwc o.std.hh hroom (show GenOk c pw G from genOk_of (c := c.up ((l, LP rvs) :: X) sg gs) o) hl hk hx hx2 R hR n0 hn hp hbare y₁ elem ?_
  intro D C acc gs' O' s₂ f hP hO hbr z₂
  obtain ⟨m, hns, _⟩ := (z₂.mu (C, NsP f) (List.mem_append_right _ (.tail _ (.head _)))).ns
  refine ⟨m, hns, fun h' hs' => k D acc gs' _ _ (hP.mono fun a u h => hR a u _ _ h fun q hq => .tail _ hq) (fun q hq => .tail _ (hO q hq)) (.head _) hbr ?_⟩
  exact At.endComp (c := c) z₂ hwc hs'

/-- extend by a list whose making changes the state -/
theorem x_extend_raw {x : Str} {p apos pos spos : Pos} {e : Expr} {D : Addr} {xs : List Value} {Mu : Led} {sg : Str → Option Value} {gs : Array GenState} {Q : Flow → Shared → Prop} (hwc : c.wc = true) (hMu : (D, LP xs) ∈ Mu) (y : At (c.up Mu sg gs) O s)
    (h1 : TV (c.up Mu sg gs) O (eval (.Name x p) c.env) (· = .ref D))
    (h2 : ∀ s E, At (c.up Mu sg gs) O s → wpAny (model c.prog c.w) c.A (eval e c.env) (fun v s' => ∃ b ys X Y gs' O', v = .ref b ∧ (b, LP ys) ∈ O' ∧ xs.length + ys.length ≤ 100000 ∧ At (c.up (X ++ (D, LP xs) :: Y) sg gs') O' s' ∧
      ∀ s'', At (c.up (X ++ (D, LP (xs ++ ys)) :: Y) sg gs') O' s'' → Q .next s'') E s)
    (hbase : attributeBase (.Name x p) "extend" c.env (eval (.Name x p) c.env) = eval (.Name x p) c.env := by rfl)
    (hfew : ((backTo pos (starEach [e] c.env)).all (fun x => !x.1) && (backToKw pos (keywordEach [] c.env)).all (fun x => x.1.isSome)
      && decide (([e] : List Expr).length + ([] : List Keyword).length + (if ([] : List Keyword).isEmpty then 0 else 1) < 30)) = true := by rfl)
    (hline : (apos.endLine == pos.line) = true := by rfl) (htrees : backTo pos (starEach [e] c.env) = [(false, eval e c.env)] := by rfl)
    (hi : interactive c.env = false := by rfl) (hs : swapsWith (.Call (.Attribute (.Name x p) "extend" apos) [e] [] pos) none spos.line c.env = pure false := by rfl) :
    wpAny (model c.prog c.w) c.A (exec (.Expr (.Call (.Attribute (.Name x p) "extend" apos) [e] [] pos) spos) c.env) Q E s := by
  refine wpAny_Expr_any (wpAny_Call_method hbase hfew hline PySem.F.plainAttrs_list PySem.F.slot_list_extend PySem.F.type_list_extend (h1.use y fun v s₁ q k₁ y₁ => ?_)) hi hs
  subst q
  refine ⟨(y₁.mu _ hMu).isList.typeIs, fun a ha => ?_, ?_⟩
  · cases ha
    obtain ⟨o, eo, n, rfl⟩ := y₁.mu _ hMu
    exact ⟨_, eo, rfl⟩
  rw [htrees]
  refine PySem.P.extend_list (wpAny_mono (h2 s₁ _ y₁) (fun v s₂ hv => ?_) fun _ _ e => e)
  obtain ⟨b, ys, X, Y, gs', O', rfl, hb, hn, y₂, k⟩ := hv
  obtain ⟨o, eo, n, rfl⟩ := y₂.mu (D, LP xs) (List.mem_append_right _ (.head _))
  obtain ⟨o', eo', n', rfl⟩ := y₂.own _ hb
  have hsz : xs.toArray.size + ys.toArray.size ≤ sizeLine := by rw [List.size_toArray, List.size_toArray]; exact small_line hn
  refine ⟨b, xs.toArray, ys.toArray, n, n', by omega, by omega, extend_door hsz, rfl, eo, eo', k _ ?_⟩
  have y₃ : At { c.up [] sg gs' with Mu := (D, LP xs) :: (X ++ Y) } O' s₂ := At.mu_perm (c := c.up [] sg gs') y₂ List.perm_middle
  have hsb := Heap.SameBut.update s₂.heap D (Obj.mapSeq fun x => x ++ ys.toArray)
  have y₄ := At.setMu (c := c.up [] sg gs') (p' := LP (xs ++ ys)) y₃ hwc (Alt.of_same (tk := s₂.toks) hsb) ⟨_, Heap.get?_update_self _ eo (by rw [mapSeq_app]; rfl), by rw [mapSeq_app]; exact ⟨_, by rw [show xs.toArray ++ ys.toArray = (xs ++ ys).toArray from by simp]⟩⟩
  exact At.mu_perm (c := c.up [] sg gs') y₄ List.perm_middle.symm
end
end Mine

namespace Mine

def CellP (w : Option Value) (o : Obj) : Prop := o.data = .cell w
theorem Has.isCell {h : Heap} {a : Addr} {w : Option Value} (x : Has h (a, CellP w)) : h.IsCell a w := let ⟨o, e, q⟩ := x; ⟨o, e, q⟩

section
variable {M : Model} {A : Around} {E : Value → Shared → Prop} {s : Shared}
theorem newEnv_cell {scope : Scope} {globals : Addr} {qual : Str} {env : Env} {x : Str} {Q : Env → Shared → Prop}
    (hpc : ∀ h, pushCells h scope.names = h.push { cls := .type "cell", data := .cell none }) (hcf : ∀ n, cellsFrom n scope.names [] = [(x, n)])
    (hQ : Q { scope := scope, locals := s.heap.objs.size, globals := globals, cells := [(x, s.heap.objs.size + 1)], qual := qual, func := none, code := env.code, frame := env.frame, builtins := env.builtins }
      { s with heap := (s.heap.push { cls := .type "dict", data := .dict #[] }).push { cls := .type "cell", data := .cell none } }) :
    wpAny M A (newFunctionEnv scope globals [] [] qual none .none (some env)) Q E s := by
  simp only [newFunctionEnv, Option.isSome_some, if_true]
  refine wpAny_bind (wpAny_alloc ?_)
  refine wpAny_bind (wpAny_layCells _ (fun name kind cells => by cases hkc : kind == NameKind.cell <;> simp [hkc]) _ _ _ _ ?_)
  rw [hpc, hcf, show ({ s with heap := s.heap.push { cls := .type "dict", data := .dict #[] } } : Shared).heap.objs.size = s.heap.objs.size + 1 from Heap.size_push ..]
  refine wpAny_bind ?_
  rw [List.forIn_nil]
  exact wpAny_pure (wpAny_pure hQ)
end

abbrev Cx.cellc (c : Cx) (scope : Scope) (x : Str) (K C : Addr) (Mu : Led) (v : Value) : Cx := { c with env := compEnvC scope [(x, K)] C c.env, wc := true, Mu := Mu, sg := upd (fun _ => none) x v }

section
variable {c : Cx} {O : Led} {s s' : Shared} {E : Value → Shared → Prop}

theorem At.toCell {scope : Scope} {x : Str} {K C : Addr} {f : Str → Option Value} {v : Value} {Mu : Led} (y : At { c with Mu := (C, NsP f) :: (K, CellP (some v)) :: Mu } O s) (hx : (relabel scope c.env).names.lookup x ≠ some .local) : At (c.cellc scope x K C Mu v) O s := by
  obtain ⟨m, hns, hm⟩ := (y.mu _ (.head _)).ns
  have hK := (y.mu _ (.tail _ (.head _))).isCell
  have sub : ∀ a, a ∈ (c.cellc scope x K C Mu v).places → a ∈ ({ c with Mu := (C, NsP f) :: (K, CellP (some v)) :: Mu } : Cx).places := fun a ha => by
    rcases Cx.mem_places.mp ha with h | ⟨_, z, h⟩ | ⟨r, h⟩
    · exact Cx.mem_places.mpr (.inr (.inr ⟨_, by rw [show a = C from h]; exact .head _⟩))
    · have h' : (z, a) = (x, K) := List.mem_singleton.mp h
      cases h'
      exact Cx.mem_places.mpr (.inr (.inr ⟨_, .tail _ (.head _)⟩))
    · exact Cx.mem_places.mpr (.inr (.inr ⟨r, .tail _ (.tail _ h)⟩))
  have sgs : ∀ z u, upd (fun _ => none) x v z = some u → z = x ∧ u = v := fun z u h => by
    by_cases hz : z = x
    · subst hz; rw [upd_same] at h; exact ⟨rfl, (Option.some.inj h).symm⟩
    · rw [upd_ne hz] at h; cases h
  refine ⟨y.base, y.own, fun p hp => y.mu p (.tail _ (.tail _ hp)), ⟨m, hns, fun z u hz hu => ?_⟩, fun z a u hz hu => ?_, fun p hp => ?_, ?_, fun q hq h => y.offO q hq (sub _ h), fun b o e h => y.offB b o e (sub _ h), y.gens, y.os, y.kin, y.tg, y.tb, y.nl⟩
  · obtain ⟨rfl, rfl⟩ := sgs z u hu
    exact absurd hz hx
  · obtain ⟨rfl, rfl⟩ := sgs z u hu
    have hz' : ([(z, K)] : List (Str × Addr)).lookup z = some a := hz
    simp at hz'
    rw [← hz']; exact hK
  · have h' : p = (x, K) := List.mem_singleton.mp hp
    subst h'
    exact ⟨_, hK⟩
  · have nd := y.nodup
    unfold Cx.places at nd ⊢
    rw [List.nodup_cons, List.nodup_append] at nd
    exact nd.2.2.1

/-- z = [.. for x in w], the comprehension's own name in a cell -/
theorem x_assign_cellcomp {α : Type} {z x w : Str} {pz spos px p2 pos : Pos} {elt : Expr} {scope : Scope} {l : Addr} {vs : List Value} {items : List α} {R : α → Value → Prop} {Q : Flow → Shared → Prop} (hz : Stores c z) (hwc : c.wc = true) (hh : c.A.handled = none)
    (F : α → Value → Prop) (hl : (l, LP vs) ∈ O) (hP : Paired R items vs) (hn : items.length ≤ 100000) (y : At c O s) (hw : TV c O (eval (.Name w p2) c.env) (· = .ref l))
    (elem : ∀ K C Mu a v, R a v → Tr (c.cellc scope x K C Mu v) O (eval elt (compEnvC scope [(x, K)] C c.env)) fun u _ => F a u)
    (k : ∀ D ys s', Paired F items ys → At (c.set z (.ref D)) ((D, LP ys) :: O) s' → Q .next s')
    (hpc : ∀ h, pushCells h scope.names = h.push { cls := .type "cell", data := .cell none } := by intro _; rfl) (hcf : ∀ n, cellsFrom n scope.names [] = [(x, n)] := by intro _; rfl)
    (hsw : swapsWith (.ListComp elt [⟨.Name x px, .Name w p2, [], 0⟩] scope pos) (some (.Name z pz)) spos.line c.env = pure true := by rfl)
    (hfr : freeOk c.env scope.names = true := by rfl) (hcl : c.cl scope = [] := by rfl) (hk : scope.kind = .function := by rfl) (hnm : ∀ y ∈ scope.names, y.2 = .local → scope.names.lookup y.1 = some .local := by decide)
    (hx : (relabel scope c.env).names.lookup x = some .cell := by rfl)
    (hs : ∀ x, foldedSetIterable (.Name w p2) c.env x = pure x := by intro _; rfl) :
    wpAny (model c.prog c.w) c.A (exec (.Assign [.Name z pz] (.ListComp elt [⟨.Name x px, .Name w p2, [], 0⟩] scope pos) spos) c.env) Q E s := by
  have hclos : closureFor scope c.env = pure [] := by rw [closureFor_eq hfr]; exact congrArg _ hcl
  have hlen := hP.length
  rw [exec_Assign_Name_used _ _ _ _ hsw]
  refine wpAny_bind (wpAny_standAt (wpAny_bind ?_))
  show wpAny _ _ (do let _ ← comprehension (.ListComp elt [⟨.Name x px, .Name w p2, [], 0⟩] scope pos) scope c.env _ (newList []) false (eval (.Name w p2) c.env) (some (assign (.Name z pz) c.env))) _ _ s
  refine wpAny_bind (wpAny_mono (wpAny_comprehension_free (use := some (assign (.Name z pz) c.env)) (Q := fun _ s' => Q .next s') rfl hs hclos hk hnm (hw.use y fun v s₁ e₁ k₁ y₁ => ?_)) (fun _ s' hq => wpAny_pure (wpAny_pure hq)) fun _ _ e => e)
  subst e₁
  refine wpAny_pyIter_list (y₁.own _ hl).isList ?_
  have y₂ := At.growMu (c := c) y₁ (Grow.one (p := (s₁.heap.objs.size, IterP l 0)) (Kp.push (s := s₁) (o := { cls := .type "list_iterator", data := .fields #[.ref l, .int 0 0] })) (fresh_size _) ⟨_, Heap.get?_push_size _ rfl, rfl, rfl⟩)
  generalize s₁.heap.objs.size = I at *
  generalize ({ s₁ with heap := s₁.heap.push { cls := .type "list_iterator", data := .fields #[.ref l, .int 0 0] } } : Shared) = s₂ at *
  refine wpAny_newObj_type ?_
  have y₃ := At.growMu (c := c) y₂ (Grow.one (p := (s₂.heap.objs.size, LP [])) (Kp.push (s := s₂) (o := { cls := .type "list", dict := none, data := .seq ([] : List Value).toArray })) (fresh_size _) Has.newList)
  generalize s₂.heap.objs.size = D at *
  generalize ({ s₂ with heap := s₂.heap.push { cls := .type "list", dict := none, data := .seq ([] : List Value).toArray } } : Shared) = s₃ at *
  refine newEnv_cell hpc hcf ?_
  have y₄ := At.growMu (c := c) y₃ (Grow.one (p := (s₃.heap.objs.size, NsP fun _ => none)) (Kp.push (s := s₃) (o := { cls := .type "dict", data := .dict #[] })) (fresh_size _) (Has.of_ns (Heap.Ns.new s₃.heap (.type "dict")) fun _ _ h => nomatch h))
  have y₅ := At.growMu (c := c) y₄ (Grow.one (p := (s₃.heap.objs.size + 1, CellP none)) (Kp.push (s := { s₃ with heap := s₃.heap.push { cls := .type "dict", data := .dict #[] } }) (o := { cls := .type "cell", data := .cell none })) (by have := fresh_size (s₃.heap.push { cls := .type "dict", data := .dict #[] }); rw [Heap.size_push] at this; exact this)
    ⟨{ cls := .type "cell", data := .cell none }, by have := Heap.get?_push_size (s₃.heap.push { cls := .type "dict", data := .dict #[] }) (o := { cls := .type "cell", data := .cell none }) rfl; rw [Heap.size_push] at this; exact this, rfl⟩)
  generalize s₃.heap.objs.size + 1 = K at *
  generalize s₃.heap.objs.size = C at *
  generalize ({ s₃ with heap := (s₃.heap.push { cls := .type "dict", data := .dict #[] }).push { cls := .type "cell", data := .cell none } } : Shared) = s₄ at *
  have hxl : (relabel scope c.env).names.lookup x ≠ some .local := by rw [hx]; simp
  have loop : codeAny (model c.prog c.w) c.A (.compLoop (.ListComp elt [⟨.Name x px, .Name w p2, [], 0⟩] scope pos) 0 (.ref I) (.ref D) (compEnvC scope [(x, K)] C c.env)) (compPost (model c.prog c.w) c.A E (some (assign (.Name z pz) c.env)) (fun _ s' => Q .next s') (.ref D) C) s₄ := by
    refine compLoop_any (fun n s' => ∃ i acc wv, n = items.length + 1 - i ∧ i ≤ items.length ∧ Paired F (items.take i) acc ∧ At { c with Mu := (K, CellP wv) :: (C, NsP fun _ => none) :: (D, LP acc) :: (I, IterP l i) :: c.Mu } O s') ?_ (items.length + 1) ⟨0, [], none, rfl, Nat.zero_le _, by simpa using .nil, y₅⟩
    rintro n s' ⟨i, acc, wv, rfl, hi, hacc, a⟩
    have pI : ∀ (st : Obj → Prop), ((K, CellP wv) :: (C, NsP fun _ => none) :: (D, LP acc) :: (I, st) :: c.Mu).Perm ((I, st) :: (K, CellP wv) :: (C, NsP fun _ => none) :: (D, LP acc) :: c.Mu) := fun st =>
      List.perm_middle (l₁ := [(K, CellP wv), (C, NsP fun _ => none), (D, LP acc)])
    have a₁ := At.mu_perm (c := c) a (pI _)
    by_cases hlt : i < items.length
    · obtain ⟨u, hu⟩ : ∃ u, items[i]? = some u := ⟨items[i], by simp [hlt]⟩
      obtain ⟨v, hv, hR⟩ := Paired.get_some hP hu
      refine n_item (c := c) a₁ hwc (a₁.own _ hl).isList hv fun s₅ _ a₅ => ?_
      dsimp only
      refine w_letgo_of ⟨_, "list_iterator", (a₅.mu _ (.head _)).choose_spec.1, (a₅.mu _ (.head _)).choose_spec.2.1, by decide⟩ ?_
      have a₆ := At.mu_perm (c := c) a₅ (pI _).symm
      refine wpAny_assign_Name (wpAny_storeName_cell (env := compEnvC scope [(x, K)] C c.env) hk hx (by simp [compEnvC]) (a₆.mu _ (.head _)).isCell fun h' hc' hs' => ?_)
      refine wpAny_tests_nil ?_
      rw [if_pos rfl]
      have a₇ := At.setMu (c := c) (p' := CellP (some v)) a₆ hwc (Alt.of_same (tk := s₅.toks) hs') (by obtain ⟨o, e, q⟩ := hc'; exact ⟨o, e, q⟩)
      have a₈ := At.toCell (c := c) (scope := scope) (x := x) (At.mu_perm (c := c) a₇ (List.Perm.swap _ _ _)) hxl
      refine (elem K C _ u v hR).use a₈ fun r s₉ N hr g₉ _ => ?_
      have a₉ := (a₇.grow g₉).sub (O' := O) fun q hq => List.mem_append_right _ hq
      have pD : ∀ acc' : List Value, ((K, CellP (some v)) :: (C, NsP fun _ => none) :: (D, LP acc') :: (I, IterP l (i + 1)) :: c.Mu).Perm ((D, LP acc') :: (K, CellP (some v)) :: (C, NsP fun _ => none) :: (I, IterP l (i + 1)) :: c.Mu) := fun acc' =>
        List.perm_middle (l₁ := [(K, CellP (some v)), (C, NsP fun _ => none)])
      have b₁ := At.mu_perm (c := c) a₉ (pD acc)
      obtain ⟨o, eo, nn, rfl⟩ := b₁.mu _ (.head _)
      have hal : acc.length ≤ items.length := by rw [← hacc.length, List.length_take]; omega
      refine wpAny_list_append_plain ⟨nn, eo⟩ (fun h' hl' hsb => ⟨items.length + 1 - (i + 1), by omega, i + 1, acc ++ [r], some v, rfl, hlt, ?_, ?_⟩) (by rw [List.size_toArray]; exact small_line (by omega))
      · rw [take_snoc hu]; exact paired_append hacc (.cons hr .nil)
      · refine At.mu_perm (c := c) ?_ (pD _).symm
        refine At.setMu (c := c) b₁ hwc (Alt.of_same (tk := s₉.toks) hsb) ?_
        obtain ⟨n', e'⟩ := hl'
        exact ⟨_, e', n', by simp⟩
    · have hie : i = items.length := by omega
      subst hie
      refine n_end (c := c) a₁ hwc hh (a₁.own _ hl).isList (List.getElem?_eq_none (by omega)) fun s₅ _ a₅ => ?_
      rw [List.take_length] at hacc
      dsimp only
      show wpAny _ _ (assign (.Name z pz) c.env (.ref D)) _ _ _
      refine wpAny_assign_Name (w_store (c := { c with Mu := (I, EndP) :: (K, CellP wv) :: (C, NsP fun _ => none) :: (D, LP acc) :: c.Mu }) hz.up a₅ fun s₆ _ a₆ => ?_)
      obtain ⟨m, hns, _⟩ := (a₆.mu (C, NsP fun _ => none) (.tail _ (.tail _ (.head _)))).ns
      refine ⟨m, hns, fun h' hs' => k D acc _ hacc ?_⟩
      have a₇ := At.mu_sub (c := c.set z (.ref D)) (Mu' := (C, NsP fun _ => none) :: (D, LP acc) :: c.Mu) a₆ (List.Sublist.cons _ (List.Sublist.cons _ (List.Sublist.refl _)))
      have a₈ := At.mu_perm (c := c.set z (.ref D)) (Mu' := c.Mu ++ [(D, LP acc), (C, NsP fun _ => none)]) a₇ ((List.Perm.swap _ _ _).trans (List.perm_append_comm (l₁ := [(D, LP acc), (C, NsP fun _ => none)]) (l₂ := c.Mu)))
      exact At.endComp (c := c) (sg := upd c.sg z (.ref D)) (gs := c.gs) a₈ hwc hs'
  have hself : wpAny (model c.prog c.w) c.A (pyIter (.ref I)) (fun it' s' => codeAny (model c.prog c.w) c.A (.compLoop (.ListComp elt [⟨.Name x px, .Name w p2, [], 0⟩] scope pos) 0 it' (.ref D) (compEnvC scope [(x, K)] C c.env)) (compPost (model c.prog c.w) c.A E (some (assign (.Name z pz) c.env)) (fun _ s' => Q .next s') (.ref D) C) s')
      (notedBy (model c.prog c.w) c.A (compEnvC scope [(x, K)] C c.env) fun e s' => compPost (model c.prog c.w) c.A E (some (assign (.Name z pz) c.env)) (fun _ s' => Q .next s') (.ref D) C (.error e) s') s₄ :=
    wpAny_pyIter_listiter (y₅.mu (I, IterP l 0) (.tail _ (.tail _ (.tail _ (.head _))))).isIter loop
  exact codeAny_compStart_list loop hself
end
end Mine

namespace Mine

section
variable {c : Cx} {O : Led}

theorem b_pow {a n : Int} {v u : Value} (hv : IsInt a v) (hu : IsInt n u) (hn : 0 ≤ n) (hn2 : n ≤ 1000000) (ha : a.natAbs < 2 ^ 64) : TV c O (binaryOp .Pow v u) (IsInt (a ^ n.toNat)) := fun s E x => by
  obtain ⟨t, rfl⟩ := hv; obtain ⟨t', rfl⟩ := hu
  exact pow_int_small hn hn2 ha ⟨⟨_, rfl⟩, Kp.toks⟩
theorem e_pow {l r : Expr} {pos : Pos} {a n : Int} (h1 : TV c O (eval l c.env) (IsInt a)) (h2 : TV c O (eval r c.env) (IsInt n)) (hn : 0 ≤ n) (hn2 : n ≤ 1000000) (ha : a.natAbs < 2 ^ 64) : TV c O (eval (.BinOp l .Pow r pos) c.env) (IsInt (a ^ n.toNat)) := e_bin h1 h2 fun _ _ p q => b_pow p q hn hn2 ha
theorem e_mul {l r : Expr} {pos : Pos} {a b : Int} (h1 : TV c O (eval l c.env) (IsInt a)) (h2 : TV c O (eval r c.env) (IsInt b)) (hm : IntMulOk a b) : TV c O (eval (.BinOp l .Mult r pos) c.env) (IsInt (a * b)) := e_bin h1 h2 fun _ _ p q => b_mul p q hm

theorem b_cat {x y : Str} {v u : Value} (hv : IsStr x v) (hu : IsStr y u) (hn : x.length + y.length ≤ 100000) : TV c O (binaryOp .Add v u) (IsStr (x ++ y)) := fun s E z => by
  obtain ⟨t, rfl⟩ := hv; obtain ⟨t', rfl⟩ := hu
  exact PyProof.Rows.add_str (fun t' tk => ⟨⟨_, rfl⟩, Kp.toks⟩) (small_line hn)
theorem e_cat {l r : Expr} {pos : Pos} {x y : Str} (h1 : TV c O (eval l c.env) (IsStr x)) (h2 : TV c O (eval r c.env) (IsStr y)) (hn : x.length + y.length ≤ 100000) : TV c O (eval (.BinOp l .Add r pos) c.env) (IsStr (x ++ y)) := e_bin h1 h2 fun _ _ p q => b_cat p q hn
theorem e_catL {l r : Expr} {pos : Pos} {x y : Str} (h1 : Tr c O (eval l c.env) fun v N => IsStr x v) (h2 : ∀ N, TV c (N ++ O) (eval r c.env) (IsStr y)) (hn : x.length + y.length ≤ 100000) : Tr c O (eval (.BinOp l .Add r pos) c.env) fun v N => IsStr (x ++ y) v :=
  e_binL (P2 := fun v N => IsStr y v) h1 (fun a N1 _ => (h2 N1).tr.mono fun v N h => h.2) fun a N1 b N2 p q => (b_cat p q hn).tr.mono fun v N h => h.2
theorem e_catR {l r : Expr} {pos : Pos} {x y : Str} (h1 : TV c O (eval l c.env) (IsStr x)) (h2 : Tr c O (eval r c.env) fun v N => IsStr y v) (hn : x.length + y.length ≤ 100000) : Tr c O (eval (.BinOp l .Add r pos) c.env) fun v N => IsStr (x ++ y) v :=
  e_binL (P1 := fun v N => N = [] ∧ IsStr x v) (P2 := fun v N => IsStr y v) h1.tr (fun a N1 h => by rw [h.1]; exact h2) fun a N1 b N2 p q => (b_cat p.2 q hn).tr.mono fun v N h => h.2

/-- a text of n ones -/
def ones (n : Nat) : Str := ⟨(List.replicate n 49).toArray⟩
theorem fold_ones : ∀ (n : Nat) (a : Array Nat), (List.replicate n (#[49] : Array Nat)).foldl (· ++ ·) a = a ++ (List.replicate n 49).toArray
  | 0, a => by simp
  | n + 1, a => by
    rw [List.replicate_succ, List.foldl_cons, fold_ones n]
    apply Array.ext'
    simp [List.replicate_succ]
theorem b_ones {k : Int} {v u : Value} (hv : IsStr "1" v) (hu : IsInt k u) (h1 : 1 ≤ k) (h2 : k ≤ 100000) : TV c O (binaryOp .Mult v u) (IsStr (ones k.toNat)) := fun s E z => by
  obtain ⟨t, rfl⟩ := hv; obtain ⟨t', rfl⟩ := hu
  have e1 : (Str.ofString "1") = ⟨#[49]⟩ := by decide +kernel
  have el : (Str.ofString "1").length = 1 := by rw [e1]; rfl
  refine P.mul_str ?_ ?_ ?_ ?_
  · rw [decide_eq_false (by omega), decide_eq_false (by omega)]; rfl
  · intro h3 h4 h5
    rw [el] at h5
    have : (2 ^ 63 - 1 : Int) / k ≥ 1 := by
      apply (Int.le_ediv_iff_mul_le (by omega)).mpr
      omega
    omega
  · intro h3 h4
    show decide (_ > sizeLine) = false
    rw [el]
    exact decide_eq_false (by have := small_line (n := 1 * k.toNat) (by omega); omega)
  · rw [if_neg (by omega)]
    split
    · rename_i h3
      rw [el] at h3
      have hk : k = 1 := by simpa using h3
      subst hk
      exact ⟨⟨t, by rw [e1]; rfl⟩, Kp.refl s⟩
    · have e2 : (⟨(List.replicate k.toNat (Str.ofString "1").cps).foldl (· ++ ·) #[]⟩ : Str) = ones k.toNat := by
        rw [e1]
        show (⟨(List.replicate k.toNat (#[49] : Array Nat)).foldl (· ++ ·) #[]⟩ : Str) = _
        rw [fold_ones]; simp [ones]
      rw [e2]
      exact ⟨by show (ones k.toNat).cps.size ≤ _; simp only [ones, List.size_toArray, List.length_replicate]; exact small_line (by omega), ⟨_, rfl⟩, Kp.toks⟩

/-- str(n), a small number -/
theorem e_strOf {e : Expr} {p pos : Pos} {n : Int} (S : Std c) (hst : c.mg "str" = none ∧ c.mb "str" = some (.type "str")) (h : TV c O (eval e c.env) (IsInt n)) (hn : n.natAbs.log2 < 1920)
    (hk : c.env.kindOf "str" = some .globalImplicit := by rfl) (hf : c.env.scope.kind = .function := by rfl) (hs : starEach [e] c.env = [(false, eval e c.env)] := by rfl) :
    TV c O (eval (.Call (.Name "str" p) [e] [] pos) c.env) (IsStr (toString n)) := fun s E x =>
  Call_Name1 ((e_bi hst.1 hst.2 hk S.gl S.bu hf).use x fun f s₁ e₁ k₁ x₁ => by
    subst e₁
    exact PyProof.Rows.callWith_type (args := [(false, eval e c.env)]) rfl (evalArgs_plain (spliced_cons (h.use x₁ fun v s₂ ⟨t, e₂⟩ k₂ x₂ => by
      subst e₂
      exact spliced_nil (PySem.P.str_of_int hn ⟨⟨_, rfl⟩, k₁.trans (k₂.trans Kp.toks)⟩)))) ) hs

theorem paired_strs {vs : List Value} {ys : List Str} (h : Paired IsStr ys vs) : StrsAre vs ys := by
  induction h with
  | nil => exact .nil
  | cons a _ ih => obtain ⟨t, rfl⟩ := a; exact .cons _ t ih

/-- 'x'.join(e), e a list of texts that is made on the spot -/
theorem e_join {y : Str} {kk : Nat} {pc apos pos : Pos} {e : Expr} {P : Value → Led → Prop} {ys : List Str} (h : Tr c O (eval e c.env) P) (hP : ∀ v N, P v N → ∃ D us, v = .ref D ∧ (D, LP us) ∈ N ∧ Paired IsStr ys us)
    (hok : (ys.map (·.length)).sum + ys.length * y.length ≤ 16777216)
    (hbase : attributeBase (.Constant (.str y) kk pc) "join" c.env (eval (.Constant (.str y) kk pc) c.env) = eval (.Constant (.str y) kk pc) c.env := by rfl) (hs : starEach [e] c.env = [(false, eval e c.env)] := by rfl)
    (hline : (apos.endLine == pos.line) = true := by rfl) :
    Tr c O (eval (.Call (.Attribute (.Constant (.str y) kk pc) "join" apos) [e] [] pos) c.env) (fun v N => IsStr (Txt.join y ys) v) := fun s E x =>
  Call_method1 hbase hs hline (e_str.use x fun v s₁ ⟨t, e₁⟩ k₁ x₁ => by
    subst e₁
    refine SB.join (h.use x₁ fun u s₂ N p g x₂ => ?_)
    obtain ⟨D, us, rfl, hD, hu⟩ := hP u N p
    obtain ⟨l, hv, ht⟩ := strsAre_values (paired_strs hu)
    subst hv
    refine ⟨D, l, rfl, (x₂.own _ (List.mem_append_left _ hD)).isList, ys, ht, joinOk_of hok, fun t' k => ⟨[], ⟨_, rfl⟩, Grow.nil ?_⟩⟩
    exact (k₁.trans g.1).trans Kp.toks)

/-- x[i:j] of a text -/
theorem e_strslice {value : Expr} {lo hi : Expr} {p pos : Pos} {x : Str} {i j : Int} (h1 : TV c O (eval value c.env) (IsStr x)) (h2 : TV c O (eval lo c.env) (IsInt i)) (h3 : TV c O (eval hi c.env) (IsInt j)) (hn : x.length ≤ 100000)
    (ht : ∀ a r, letTemporaryGo value a r = pure () := by intro _ _; with_unfolding_all rfl) :
    TV c O (eval (.Subscript value (.Slice (some lo) (some hi) none p) pos) c.env) (IsStr (Txt.slice x (some i) (some j))) := fun s E z =>
  Subscript_ (h1.use z fun a s₁ ⟨t, e₁⟩ k₁ z₁ => by
    subst e₁
    refine wpAny_Slice ?_
    rw [evalPart_some]
    refine h2.use z₁ fun vl s₂ ⟨tl, e₂⟩ k₂ z₂ => ?_
    subst e₂
    rw [evalPart_some]
    refine h3.use z₂ fun vu s₃ ⟨tu, e₃⟩ k₃ z₃ => ?_
    subst e₃
    rw [evalPart_none]
    refine wpAny_pure ?_
    refine tail_of_ItemOn (SBH.sliceItem_ss (P := fun h => ∀ b o, s₃.heap.get? b = some o → h.get? b = some o) (fun h o hk b ob e => Heap.get?_push_of_some _ (hk b ob e)) (fun _ _ e => e) (fun h' t' k kp => ⟨⟨_, rfl⟩, k₁.trans (k₂.trans (k₃.trans ⟨h', k, rfl, kp⟩))⟩) (small_line hn)) (by with_unfolding_all rfl) (ht _))

theorem q_streq {x y : Str} {v u : Value} (hv : IsStr x v) (hu : IsStr y u) : TV c O (compareOp .Eq v u) (· = .bool (x == y)) := fun s E z => by
  obtain ⟨t, rfl⟩ := hv; obtain ⟨t', rfl⟩ := hu
  exact PyProof.Rows.eq_str ⟨rfl, Kp.refl s⟩
end
end Mine

namespace Mine

/-- two rising lists with like members -/
theorem eq_of_rising : ∀ {l l' : List Int}, l.Pairwise (· < ·) → l'.Pairwise (· < ·) → (∀ x, x ∈ l ↔ x ∈ l') → l = l'
  | [], [], _, _, _ => rfl
  | [], b :: r, _, _, h => absurd ((h b).mpr (.head _)) (by simp)
  | a :: r, [], _, _, h => absurd ((h a).mp (.head _)) (by simp)
  | a :: r, b :: r', h1, h2, h => by
    rw [List.pairwise_cons] at h1 h2
    have e : a = b := by
      rcases List.mem_cons.mp ((h a).mp (.head _)) with e | e
      · exact e
      · rcases List.mem_cons.mp ((h b).mpr (.head _)) with e' | e'
        · exact e'.symm
        · have := h1.1 b e'; have := h2.1 a e; omega
    subst e
    congr 1
    refine eq_of_rising h1.2 h2.2 fun x => ⟨fun hx => ?_, fun hx => ?_⟩
    · rcases List.mem_cons.mp ((h x).mp (.tail _ hx)) with e | e
      · have := h1.1 x hx; omega
      · exact e
    · rcases List.mem_cons.mp ((h x).mpr (.tail _ hx)) with e | e
      · have := h2.1 x hx; omega
      · exact e

/-- a longest stretch of a set of numbers -/
def Span (S : Int → Prop) (p : Int × Int) : Prop := p.1 ≤ p.2 ∧ (∀ t, p.1 ≤ t → t ≤ p.2 → S t) ∧ ¬ S (p.1 - 1) ∧ ¬ S (p.2 + 1)
theorem Span.end_eq {S : Int → Prop} {v e e' : Int} (h : Span S (v, e)) (h' : Span S (v, e')) : e = e' := by
  obtain ⟨h1, h2, h3, h4⟩ := h
  obtain ⟨h1', h2', h3', h4'⟩ := h'
  dsimp only at *
  rcases Int.lt_trichotomy e e' with h | h | h
  · exact absurd (h2' (e + 1) (by omega) (by omega)) h4
  · exact h
  · exact absurd (h2 (e' + 1) (by omega) (by omega)) h4'
theorem spans_eq {S : Int → Prop} : ∀ {P P' : List (Int × Int)}, P.map (·.1) = P'.map (·.1) → (∀ p ∈ P, Span S p) → (∀ p ∈ P', Span S p) → P = P'
  | [], [], _, _, _ => rfl
  | [], _ :: _, h, _, _ => by simp at h
  | _ :: _, [], h, _, _ => by simp at h
  | (v, e) :: r, (v', e') :: r', h, h1, h2 => by
    simp only [List.map_cons, List.cons.injEq] at h
    obtain ⟨rfl, h⟩ := h
    rw [Span.end_eq (h1 _ (.head _)) (h2 _ (.head _)), spans_eq h (fun p hp => h1 p (.tail _ hp)) fun p hp => h2 p (.tail _ hp)]

section
variable {ns : List Int}

theorem rising_get (hr : ns.Pairwise (· < ·)) {i j : Nat} (hi : i < j) (hj : j < ns.length) : ns.getD i 0 < ns.getD j 0 := by
  have := List.pairwise_iff_getElem.mp hr i j (by omega) hj hi
  simpa [List.getD_eq_getElem?_getD, hj, show i < ns.length from by omega] using this
theorem mem_getD {x : Int} (h : x ∈ ns) : ∃ i, i < ns.length ∧ ns.getD i 0 = x := by
  obtain ⟨i, hi, e⟩ := List.getElem_of_mem h
  exact ⟨i, hi, by simpa [List.getD_eq_getElem?_getD, hi] using e⟩
theorem getD_mem {i : Nat} (hi : i < ns.length) : ns.getD i 0 ∈ ns := by
  simp [List.getD_eq_getElem?_getD, hi]
theorem isStart_iff (hr : ns.Pairwise (· < ·)) {k : Nat} (hk : k < ns.length) : isStart ns k = true ↔ (ns.getD k 0 - 1) ∉ ns := by
  unfold isStart
  rw [Bool.or_eq_true, beq_iff_eq, bne_iff_ne]
  constructor
  · intro h hm
    obtain ⟨i, hi, e⟩ := mem_getD hm
    have hik : i < k := by
      rcases Nat.lt_trichotomy i k with h' | h' | h'
      · exact h'
      · subst h'; omega
      · have := rising_get hr h' hi; omega
    rcases h with h | h
    · omega
    · by_cases h' : i = k - 1
      · subst h'; omega
      · have h1 := rising_get hr (show i < k - 1 from by omega) (by omega)
        have h2 := rising_get hr (show k - 1 < k from by omega) hk
        omega
  · intro h
    by_cases h0 : k = 0
    · exact .inl h0
    · right
      intro e
      apply h
      have : ns.getD k 0 - 1 = ns.getD (k - 1) 0 := by omega
      rw [this]
      exact getD_mem (by omega)

theorem spansOf_firsts (ns : List Int) : (spansOf ns).map (·.1) = (startsOf ns).map fun a => ns.getD a 0 := by
  unfold spansOf
  rw [List.map_map]
  apply List.ext_getElem?
  intro i
  rw [List.getElem?_map, List.getElem?_map]
  by_cases hi : i < (startsOf ns).length
  · rw [List.getElem?_range hi]
    simp [List.getD_eq_getElem?_getD, hi]
  · rw [List.getElem?_eq_none (by simp; omega), List.getElem?_eq_none (by omega)]
    rfl
theorem spans_rising (hr : ns.Pairwise (· < ·)) : ((spansOf ns).map (·.1)).Pairwise (· < ·) := by
  rw [spansOf_firsts, List.pairwise_map]
  refine (starts_sorted ns).imp_of_mem fun {a b} ha hb hab => ?_
  exact rising_get hr hab (mem_starts.mp hb).1
theorem spans_span (hr : ns.Pairwise (· < ·)) {p : Int × Int} (hp : p ∈ spansOf ns) : p.1 ∈ ns ∧ Span (· ∈ ns) p := by
  unfold spansOf at hp
  obtain ⟨j, hj, rfl⟩ := List.mem_map.mp hp
  have hj' : j < (startsOf ns).length := List.mem_range.mp hj
  have ha : (startsOf ns)[j]? = some ((startsOf ns).getD j 0) := by simp [List.getD_eq_getElem?_getD, hj']
  generalize (startsOf ns).getD j 0 = a at ha ⊢
  have hb := seg_bounds ha
  have hs := (mem_starts.mp (List.mem_of_getElem? ha))
  have hline := fun t ht => seg_line ha t ht
  have hlast := hline (nxt ns j - 1 - a) (by omega)
  rw [show a + (nxt ns j - 1 - a) = nxt ns j - 1 from by omega] at hlast
  refine ⟨getD_mem (by omega), ?_, fun t h1 h2 => ?_, (isStart_iff hr hs.1).mp hs.2, ?_⟩
  · dsimp only
    rw [hlast]; omega
  · dsimp only at h1 h2
    have h3 := hline (t - ns.getD a 0).toNat (by omega)
    have h4 : t = ns.getD (a + (t - ns.getD a 0).toNat) 0 := by omega
    rw [h4]
    exact getD_mem (by omega)
  · dsimp only
    intro hm
    obtain ⟨i, hi, e⟩ := mem_getD hm
    have h1 : nxt ns j - 1 < i := by
      rcases Nat.lt_trichotomy i (nxt ns j - 1) with h' | h' | h'
      · have := rising_get hr h' (by omega); omega
      · rw [h'] at e; omega
      · exact h'
    rcases nxt_cases ns j with h2 | ⟨h2, h3⟩
    · have hs2 := mem_starts.mp (List.mem_of_getElem? h2)
      have h4 : i = nxt ns j := by
        by_cases h' : i = nxt ns j
        · exact h'
        · have h5 := rising_get hr (show nxt ns j < i from by omega) hi
          have h6 := rising_get hr (show nxt ns j - 1 < nxt ns j from by omega) hs2.1
          omega
      subst h4
      apply (isStart_iff hr hs2.1).mp hs2.2
      rw [e]
      have : ns.getD (nxt ns j - 1) 0 + 1 - 1 = ns.getD (nxt ns j - 1) 0 := by omega
      rw [this]
      exact getD_mem (by omega)
    · omega
theorem spans_all (hr : ns.Pairwise (· < ·)) {v : Int} (hv : v ∈ ns) (hn : (v - 1) ∉ ns) : ∃ e, (v, e) ∈ spansOf ns := by
  obtain ⟨k, hk, rfl⟩ := mem_getD hv
  have hs : k ∈ startsOf ns := mem_starts.mpr ⟨hk, (isStart_iff hr hk).mpr hn⟩
  have : ns.getD k 0 ∈ (spansOf ns).map (·.1) := by rw [spansOf_firsts]; exact List.mem_map.mpr ⟨k, hs, rfl⟩
  obtain ⟨p, hp, e⟩ := List.mem_map.mp this
  exact ⟨p.2, by rw [← e]; exact hp⟩
end

/-- the picture -/
def bit (x : Int) (c : Nat) : Bool := (x.fdiv (2 ^ c)).fmod 2 == 1
def bitsOf (x : Int) : List Bool := (List.range 6).map (bit x)
def lineCells (i : Nat) (x : Int) : List Int := ((List.range 6).filter (bit x)).map fun (c : Nat) => 7 * (i : Int) + (c : Int)
def cellNums (xs : List Int) : List Int := (List.range xs.length).flatMap fun i => lineCells i (xs.getD i 0)

theorem mem_lineCells {i : Nat} {x v : Int} : v ∈ lineCells i x ↔ ∃ c : Nat, c < 6 ∧ bit x c = true ∧ v = 7 * (i : Int) + (c : Int) := by
  unfold lineCells
  constructor
  · intro h
    obtain ⟨c, hc, rfl⟩ := List.mem_map.mp h
    obtain ⟨h1, h2⟩ := List.mem_filter.mp hc
    exact ⟨c, List.mem_range.mp h1, h2, rfl⟩
  · rintro ⟨c, h1, h2, rfl⟩
    exact List.mem_map.mpr ⟨c, List.mem_filter.mpr ⟨List.mem_range.mpr h1, h2⟩, rfl⟩
theorem bitsOf_get {x : Int} {c : Nat} : (bitsOf x).getD c false = (decide (c < 6) && bit x c) := by
  unfold bitsOf
  by_cases h : c < 6
  · simp [List.getD_eq_getElem?_getD, h]
  · simp [List.getD_eq_getElem?_getD, h]
theorem mem_cells {xs : List Int} {i c : Nat} (hc : c < 7) : (7 * (i : Int) + (c : Int)) ∈ cellNums xs ↔ i < xs.length ∧ (bitsOf (xs.getD i 0)).getD c false = true := by
  unfold cellNums
  rw [List.mem_flatMap]
  constructor
  · rintro ⟨j, hj, hv⟩
    obtain ⟨d, h1, h2, h3⟩ := mem_lineCells.mp hv
    have e1 : i = j := by omega
    have e2 : c = d := by omega
    subst e1; subst e2
    exact ⟨List.mem_range.mp hj, by rw [bitsOf_get, h2]; simp [h1]⟩
  · rintro ⟨h1, h2⟩
    rw [bitsOf_get, Bool.and_eq_true, decide_eq_true_eq] at h2
    exact ⟨i, List.mem_range.mpr h1, mem_lineCells.mpr ⟨c, h2.1, h2.2, rfl⟩⟩
theorem cells_form {xs : List Int} {v : Int} (h : v ∈ cellNums xs) : ∃ i c : Nat, i < xs.length ∧ c < 6 ∧ v = 7 * (i : Int) + (c : Int) := by
  unfold cellNums at h
  obtain ⟨j, hj, hv⟩ := List.mem_flatMap.mp h
  obtain ⟨d, h1, h2, h3⟩ := mem_lineCells.mp hv
  exact ⟨j, d, List.mem_range.mp hj, h1, h3⟩
theorem cells_rising (xs : List Int) : (cellNums xs).Pairwise (· < ·) := by
  unfold cellNums
  rw [List.pairwise_flatMap]
  refine ⟨fun i _ => ?_, ?_⟩
  · unfold lineCells
    rw [List.pairwise_map]
    refine (List.Pairwise.filter _ List.pairwise_lt_range).imp fun {a b} h => ?_
    omega
  · refine List.pairwise_lt_range.imp fun {a b} h x hx y hy => ?_
    obtain ⟨c, h1, _, rfl⟩ := mem_lineCells.mp hx
    obtain ⟨d, h2, _, rfl⟩ := mem_lineCells.mp hy
    omega
theorem cells_len (xs : List Int) : (cellNums xs).length ≤ 6 * xs.length := by
  unfold cellNums
  rw [List.length_flatMap]
  have : ∀ l : List Nat, (l.map fun i => (lineCells i (xs.getD i 0)).length).sum ≤ 6 * l.length := by
    intro l
    induction l with
    | nil => simp
    | cons a r ih =>
      have h1 : (lineCells a (xs.getD a 0)).length ≤ 6 := by
        unfold lineCells
        rw [List.length_map]
        exact Nat.le_trans (List.length_filter_le _ _) (by simp)
      simp only [List.map_cons, List.sum_cons, List.length_cons]
      omega
  have h2 := this (List.range xs.length)
  simpa using h2

/-- what a line shows -/
def specB (bs : List Bool) (l r : Nat) : Bool := (List.range (r + 1 - l)).all (fun t => bs.getD (l + t) false) && (l == 0 || !bs.getD (l - 1) false) && !bs.getD (r + 1) false
def sh (xs : List Int) (l r i : Nat) : Bool := decide (i < xs.length) && specB (bitsOf (xs.getD i 0)) l r
def stackNums (xs : List Int) (l r : Nat) : List Int := ((spansOf (cellNums xs)).filter fun p => p.1.fmod 7 == (l : Int) && p.2.fmod 7 == (r : Int)).map fun p => p.1.fdiv 7
def showNums (xs : List Int) (l r : Nat) : List Int := ((List.range xs.length).filter (sh xs l r)).map fun (i : Nat) => (i : Int)

theorem specB_iff {bs : List Bool} {l r : Nat} (h : l ≤ r) : specB bs l r = true ↔ (∀ c, l ≤ c → c ≤ r → bs.getD c false = true) ∧ (l = 0 ∨ bs.getD (l - 1) false = false) ∧ bs.getD (r + 1) false = false := by
  unfold specB
  rw [Bool.and_eq_true, Bool.and_eq_true, List.all_eq_true, Bool.or_eq_true, beq_iff_eq]
  simp only [Bool.not_eq_true']
  constructor
  · rintro ⟨⟨h1, h2⟩, h3⟩
    refine ⟨fun c hc hc' => ?_, h2, h3⟩
    have := h1 (c - l) (List.mem_range.mpr (by omega))
    rwa [show l + (c - l) = c from by omega] at this
  · rintro ⟨h1, h2, h3⟩
    exact ⟨⟨fun t ht => h1 (l + t) (by omega) (by have := List.mem_range.mp ht; omega), h2⟩, h3⟩

theorem mem_show {xs : List Int} {l r : Nat} {v : Int} : v ∈ showNums xs l r ↔ ∃ i : Nat, v = (i : Int) ∧ sh xs l r i = true := by
  unfold showNums
  constructor
  · intro h
    obtain ⟨i, hi, rfl⟩ := List.mem_map.mp h
    exact ⟨i, rfl, (List.mem_filter.mp hi).2⟩
  · rintro ⟨i, rfl, h⟩
    refine List.mem_map.mpr ⟨i, List.mem_filter.mpr ⟨List.mem_range.mpr ?_, h⟩, rfl⟩
    unfold sh at h
    rw [Bool.and_eq_true, decide_eq_true_eq] at h
    exact h.1
theorem show_rising (xs : List Int) (l r : Nat) : (showNums xs l r).Pairwise (· < ·) := by
  unfold showNums
  rw [List.pairwise_map]
  refine (List.Pairwise.filter _ List.pairwise_lt_range).imp fun {a b} h => ?_
  omega

theorem span_line {xs : List Int} {l r i : Nat} (hl : l ≤ r) (hr : r < 6) (h : sh xs l r i = true) : Span (· ∈ cellNums xs) (7 * (i : Int) + (l : Int), 7 * (i : Int) + (r : Int)) := by
  unfold sh at h
  rw [Bool.and_eq_true, decide_eq_true_eq, specB_iff hl] at h
  obtain ⟨hi, h1, h2, h3⟩ := h
  refine ⟨by dsimp only; omega, fun t ht ht' => ?_, ?_, ?_⟩
  · dsimp only at ht ht'
    obtain ⟨c, hc⟩ : ∃ c : Nat, t = 7 * (i : Int) + (c : Int) := ⟨(t - 7 * (i : Int)).toNat, by omega⟩
    subst hc
    exact (mem_cells (by omega)).mpr ⟨hi, h1 c (by omega) (by omega)⟩
  · dsimp only
    intro hm
    rcases h2 with h2 | h2
    · subst h2
      obtain ⟨j, d, _, hd, e⟩ := cells_form hm
      omega
    · by_cases h0 : l = 0
      · subst h0
        obtain ⟨j, d, _, hd, e⟩ := cells_form hm
        omega
      · rw [show 7 * (i : Int) + (l : Int) - 1 = 7 * (i : Int) + ((l - 1 : Nat) : Int) from by omega] at hm
        have := ((mem_cells (by omega)).mp hm).2
        rw [h2] at this; cases this
  · dsimp only
    intro hm
    rw [show 7 * (i : Int) + (r : Int) + 1 = 7 * (i : Int) + ((r + 1 : Nat) : Int) from by omega] at hm
    have := ((mem_cells (by omega)).mp hm).2
    rw [h3] at this; cases this

theorem stack_eq {xs : List Int} {l r : Nat} (hl : l ≤ r) (hr : r < 6) : stackNums xs l r = showNums xs l r := by
  have mod7 : ∀ a : Int, a.fmod 7 = a % 7 := fun a => Int.fmod_eq_emod_of_nonneg a (by decide)
  have div7 : ∀ a : Int, a.fdiv 7 = a / 7 := fun a => Int.fdiv_eq_ediv_of_nonneg a (by decide)
  refine eq_of_rising ?_ (show_rising xs l r) fun v => ?_
  · unfold stackNums
    rw [List.pairwise_map]
    have h0 := spans_rising (cells_rising xs)
    rw [List.pairwise_map] at h0
    refine (List.Pairwise.filter _ h0).imp_of_mem fun {p q} hp hq h => ?_
    have h1 := (List.mem_filter.mp hp).2
    have h2 := (List.mem_filter.mp hq).2
    simp only [Bool.and_eq_true, beq_iff_eq, mod7] at h1 h2
    rw [div7, div7]
    omega
  · rw [mem_show]
    unfold stackNums
    constructor
    · intro h
      obtain ⟨⟨a, e⟩, hp, rfl⟩ := List.mem_map.mp h
      obtain ⟨hp, hq⟩ := List.mem_filter.mp hp
      simp only [Bool.and_eq_true, beq_iff_eq, mod7] at hq
      obtain ⟨ha, h1, h2, h3, h4⟩ := spans_span (cells_rising xs) hp
      dsimp only at *
      obtain ⟨i, c, hi, hc, rfl⟩ := cells_form ha
      have hcl : c = l := by omega
      subst hcl
      refine ⟨i, by rw [div7]; omega, ?_⟩
      obtain ⟨k, d, hk, hd, rfl⟩ := cells_form (h2 e h1 (Int.le_refl _))
      have hdr : d = r := by omega
      subst hdr
      have hki : k = i := by
        by_cases hki : i < k
        · have h5 := h2 (7 * (i : Int) + 6) (by omega) (by omega)
          obtain ⟨j, b, _, hb, e⟩ := cells_form h5
          omega
        · omega
      subst hki
      unfold sh
      rw [Bool.and_eq_true, decide_eq_true_eq, specB_iff hl]
      refine ⟨hk, fun b hb hb' => ?_, ?_, ?_⟩
      · exact ((mem_cells (by omega)).mp (h2 (7 * (k : Int) + (b : Int)) (by omega) (by omega))).2
      · by_cases h0 : c = 0
        · exact .inl h0
        · right
          cases hb : (bitsOf (xs.getD k 0)).getD (c - 1) false with
          | false => rfl
          | true =>
            exfalso; apply h3
            rw [show 7 * (k : Int) + (c : Int) - 1 = 7 * (k : Int) + ((c - 1 : Nat) : Int) from by omega]
            exact (mem_cells (by omega)).mpr ⟨hk, hb⟩
      · cases hb : (bitsOf (xs.getD k 0)).getD (d + 1) false with
        | false => rfl
        | true =>
          exfalso; apply h4
          rw [show 7 * (k : Int) + (d : Int) + 1 = 7 * (k : Int) + ((d + 1 : Nat) : Int) from by omega]
          exact (mem_cells (by omega)).mpr ⟨hk, hb⟩
    · rintro ⟨i, rfl, h⟩
      have hs := span_line hl hr h
      obtain ⟨e, he⟩ := spans_all (cells_rising xs) (hs.2.1 _ (Int.le_refl _) hs.1) hs.2.2.1
      have hee := Span.end_eq (spans_span (cells_rising xs) he).2 hs
      subst hee
      refine List.mem_map.mpr ⟨_, List.mem_filter.mpr ⟨he, ?_⟩, ?_⟩
      · simp only [Bool.and_eq_true, beq_iff_eq, mod7]
        omega
      · dsimp only
        rw [div7]; omega

/-- the rows that the told list holds for one pair of places -/
def rowQ (xs : List Int) (l r : Nat) : List (Int × Int) := spansOf (stackNums xs l r)

/-- the starts among the lines, as the second part of the law asks for them -/
def topB (xs : List Int) (l r t : Nat) : Bool := sh xs l r t && !(decide (0 < t) && sh xs l r (t - 1))
theorem row_eq {xs : List Int} {l r : Nat} (hl : l ≤ r) (hr : r < 6) {P : List (Int × Int)} (h1 : P.map (·.1) = ((List.range xs.length).filter (topB xs l r)).map fun (i : Nat) => (i : Int))
    (h2 : ∀ p ∈ P, ∃ a b : Nat, p = ((a : Int), (b : Int)) ∧ a ≤ b ∧ (∀ t, a ≤ t → t ≤ b → sh xs l r t = true) ∧ sh xs l r (b + 1) = false ∧ topB xs l r a = true) : P = rowQ xs l r := by
  have hst : rowQ xs l r = spansOf (showNums xs l r) := by unfold rowQ; rw [stack_eq hl hr]
  rw [hst]
  have nat_mem : ∀ t : Nat, ((t : Int) ∈ showNums xs l r) ↔ sh xs l r t = true := fun t => by
    rw [mem_show]
    exact ⟨fun ⟨i, e, h⟩ => by have : t = i := by omega
                               rw [this]; exact h, fun h => ⟨t, rfl, h⟩⟩
  have top_iff : ∀ a : Nat, topB xs l r a = true ↔ sh xs l r a = true ∧ ((a : Int) - 1) ∉ showNums xs l r := fun a => by
    unfold topB
    rw [Bool.and_eq_true, Bool.not_eq_true', Bool.and_eq_false_iff, decide_eq_false_iff_not]
    refine and_congr_right fun _ => ⟨fun h hm => ?_, fun h => ?_⟩
    · rcases h with h | h
      · obtain ⟨i, e, _⟩ := mem_show.mp hm
        omega
      · by_cases h0 : 0 < a
        · rw [show (a : Int) - 1 = ((a - 1 : Nat) : Int) from by omega, nat_mem, h] at hm
          cases hm
        · obtain ⟨i, e, _⟩ := mem_show.mp hm
          omega
    · by_cases h0 : 0 < a
      · right
        cases hb : sh xs l r (a - 1) with
        | false => rfl
        | true =>
          exfalso; apply h
          rw [show (a : Int) - 1 = ((a - 1 : Nat) : Int) from by omega, nat_mem]; exact hb
      · exact .inl h0
  refine spans_eq (S := (· ∈ showNums xs l r)) ?_ (fun p hp => ?_) fun p hp => (spans_span (show_rising xs l r) hp).2
  · rw [h1]
    refine eq_of_rising ?_ (spans_rising (show_rising xs l r)) fun v => ?_
    · rw [List.pairwise_map]
      refine (List.Pairwise.filter _ List.pairwise_lt_range).imp fun {a b} h => ?_
      omega
    · constructor
      · intro h
        obtain ⟨a, ha, rfl⟩ := List.mem_map.mp h
        obtain ⟨h3, h4⟩ := (top_iff a).mp (List.mem_filter.mp ha).2
        obtain ⟨e, he⟩ := spans_all (show_rising xs l r) ((nat_mem a).mpr h3) h4
        exact List.mem_map.mpr ⟨_, he, rfl⟩
      · intro h
        obtain ⟨⟨v', e⟩, hp, rfl⟩ := List.mem_map.mp h
        obtain ⟨h3, h4⟩ := spans_span (show_rising xs l r) hp
        obtain ⟨a, e1, h5⟩ := mem_show.mp h3
        have h6 := h4.2.2.1
        dsimp only at e1 h6 ⊢
        subst e1
        refine List.mem_map.mpr ⟨a, List.mem_filter.mpr ⟨List.mem_range.mpr ?_, (top_iff a).mpr ⟨h5, h6⟩⟩, rfl⟩
        unfold sh at h5
        rw [Bool.and_eq_true, decide_eq_true_eq] at h5
        exact h5.1
  · obtain ⟨a, b, rfl, h3, h4, h5, h6⟩ := h2 p hp
    refine ⟨by dsimp only; omega, fun t ht ht' => ?_, ((top_iff a).mp h6).2, ?_⟩
    · dsimp only at ht ht'
      obtain ⟨t', rfl⟩ : ∃ t' : Nat, t = (t' : Int) := ⟨t.toNat, by omega⟩
      exact (nat_mem t').mpr (h4 t' (by omega) (by omega))
    · dsimp only
      rw [show (b : Int) + 1 = ((b + 1 : Nat) : Int) from by omega, nat_mem, h5]
      simp
end Mine

namespace Mine

theorem csg2_free {sg : Str → Option Value} {cl : List (Str × Addr)} {x x2 y : Str} {u v : Value} (h : y ≠ x) (h2 : y ≠ x2) (hs : (cl.lookup y).isSome = true) : csg2 sg cl x x2 u v y = sg y := by
  unfold csg2; rw [if_neg h2, csg_free h hs]
theorem e_free2 {c : Cx} {O : Led} {scope : Scope} {C : Addr} {x x2 y : Str} {u v w : Value} {pos : Pos} (hv : c.sg y = some w) (hne : y ≠ x := by decide) (hne2 : y ≠ x2 := by decide) (hs : ((c.cl scope).lookup y).isSome = true := by kernel_rfl)
    (hl : (compEnvC scope (c.cl scope) C c.env).kindOf y = some .cell := by rfl) (hk : (compEnvC scope (c.cl scope) C c.env).scope.kind = .function := by rfl) (hd : (y == ("__debug__" : Str)) = false := by decide) :
    TV (c.comp scope (c.cl scope) C (csg2 c.sg (c.cl scope) x x2 u v)) O (eval (.Name y pos) (compEnvC scope (c.cl scope) C c.env)) (· = w) := by
  obtain ⟨a, ha⟩ := Option.isSome_iff_exists.mp hs
  exact e_cell (c := c.comp scope (c.cl scope) C (csg2 c.sg (c.cl scope) x x2 u v)) ((csg2_free hne hne2 hs).trans hv) ha hl hk hd
theorem Bx.of_box {P : Value → Prop} {n : Int} {r : Value} {N : Led} (hP : ∀ v, P v → IsInt n v) (h : ∃ v b d, P v ∧ r = .ref b ∧ N = [(b, BP d), (d, DP v)]) : Bx N n r := by
  obtain ⟨v, b, d, h1, rfl, rfl⟩ := h
  exact ⟨b, v, rfl, ⟨d, .head _, .tail _ (.head _)⟩, hP v h1⟩

theorem e_locI {c : Cx} {O : Led} {x : Str} {v : Value} {i : Int} {pos : Pos} (hv : c.sg x = some v) (hi : IsInt i v) (hl : c.env.kindOf x = some .local := by rfl) (hk : c.env.scope.kind = .function := by rfl) (hd : (x == ("__debug__" : Str)) = false := by decide) :
    TV c O (eval (.Name x pos) c.env) (IsInt i) := (e_local hv hl hk hd).mono fun u hu => hu ▸ hi
theorem e_itemInt {c : Cx} {O : Led} {value slice : Expr} {pos : Pos} {l : Addr} {xs : List Value} {k i : Int} {v : Value} (h1 : TV c O (eval value c.env) (· = .ref l)) (h2 : TV c O (eval slice c.env) (IsInt k)) (hl : InL c O (l, LP xs))
    (h0 : 0 ≤ k) (hk : k < 2 ^ 63) (hx : xs[k.toNat]? = some v) (hi : IsInt i v)
    (hs : ∀ a i, subscripted slice false a i = operate [a, i] (getItem a i) := by intro _ _; with_unfolding_all rfl) (ht : ∀ a r, letTemporaryGo value a r = pure () := by intro _ _; with_unfolding_all rfl) :
    TV c O (eval (.Subscript value slice pos) c.env) (IsInt i) := (e_item h1 h2 hl h0 hk hx hs ht).mono fun u hu => hu ▸ hi

theorem TurnEnd.next {c : Cx} {T H : Led} {J : Led → Led → (Str → Option Value) → Array GenState → Prop} {Q : Flow → Shared → Prop} {s' : Shared} {O Mu : Led} {sg : Str → Option Value} {gs : Array GenState} (hJ : J O Mu sg gs) (h : At (c.up (Mu ++ T) sg gs) (H ++ O) s') : TurnEnd c T H J Q .next s' :=
  ⟨O, Mu, sg, gs, hJ, h⟩

def numsOf (ns : List Int) : List Int := [6, 6, 10] ++ ns.take 12
theorem numsOf_len (ns : List Int) : 3 ≤ (numsOf ns).length ∧ (numsOf ns).length ≤ 15 := by
  unfold numsOf
  rw [List.length_append, List.length_take]
  simp only [List.length_cons, List.length_nil]
  omega

/-- the cells of the first i lines -/
def cellsTo (xs : List Int) (i : Nat) : List Int := (List.range i).flatMap fun i => lineCells i (xs.getD i 0)
def lineTo (i : Nat) (x : Int) (j : Nat) : List Int := ((List.range j).filter (bit x)).map fun (c : Nat) => 7 * (i : Int) + (c : Int)
theorem cellsTo_succ (xs : List Int) (i : Nat) : cellsTo xs (i + 1) = cellsTo xs i ++ lineCells i (xs.getD i 0) := by
  unfold cellsTo; rw [List.range_succ, List.flatMap_append]; simp
theorem lineTo_succ (i : Nat) (x : Int) (j : Nat) : lineTo i x (j + 1) = lineTo i x j ++ (if bit x j then [7 * (i : Int) + (j : Int)] else []) := by
  unfold lineTo
  rw [List.range_succ, List.filter_append, List.map_append]
  congr 1
  cases h : bit x j <;> simp [h]
theorem lineTo_len (i : Nat) (x : Int) (j : Nat) : (lineTo i x j).length ≤ j := by
  unfold lineTo
  rw [List.length_map]
  exact Nat.le_trans (List.length_filter_le _ _) (by simp)
theorem cellsTo_len (xs : List Int) (i : Nat) : (cellsTo xs i).length ≤ 6 * i := by
  induction i with
  | zero => simp [cellsTo]
  | succ i ih =>
    rw [cellsTo_succ, List.length_append]
    have : (lineCells i (xs.getD i 0)).length ≤ 6 := lineTo_len i _ 6
    omega

section
variable {b : Cx} {pm pw : Value} {L : Addr} {s : Shared} {E : Value → Shared → Prop}

set_option maxHeartbeats 2000000 in
theorem start1 (o : ∀ Mu sg gs, Own ((LC b pm L).up Mu sg gs)) {Q : Flow → Shared → Prop} {sg : Str → Option Value} {l : Addr} {vs : List Value} {ns : List Int} (hl : b.B.IsList l vs.toArray) (hI : IntsAre vs ns) (hn : ns.length ≤ 63)
    (hsc : sg "script" = some (.ref l)) (y : At ((LC b pm L).up [] sg #[]) [] s)
    (k : ∀ Dn nvs Dc O sg' s', Paired IsInt (numsOf ns) nvs → (Dn, LP nvs) ∈ O → sg' "numbers" = some (.ref Dn) → sg' "cells" = some (.ref Dc) → At ((LC b pm L).up [(Dc, LP [])] sg' #[]) O s' →
      wpAny (model b.prog b.w) b.A (execs ((fnBody 5).drop 2) (lawEnv pm L)) Q E s') :
    wpAny (model b.prog b.w) b.A (execs (fnBody 5) (lawEnv pm L)) Q E s := by
  have hp := ints_paired hI
  have hvl : vs.length = ns.length := hp.length.symm
  refine wpAny_execs_cons (x_assign (c := (LC b pm L).up [] sg #[]) (.loc rfl rfl rfl fun h => nomatch h) (P := fun v N => ∃ D ws N1, v = .ref D ∧ N = (D, LP ws) :: N1 ∧ Paired IsInt (numsOf ns) ws)
    (e_concat (e_listV (s_cons e_int (s_cons e_int (s_cons e_int s_nil))) ?_) (fun _ _ _ => e_slice (xs := vs) (e_local hsc) (fun s' x => let ⟨o, e, q⟩ := hl; ⟨o, x.base _ _ e, q⟩) p_none (p_some (k := 12) e_int) (by omega)) ?_) y ?_)
  · rintro vs ⟨v, r, rfl, _, v', r', rfl, _, v'', r'', rfl, _, rfl⟩; simp
  · rintro a N1 b' N2 ⟨A1, us, rfl, rfl, v, r, rfl, h1, v', r', rfl, h2, v'', r'', rfl, h3, rfl⟩ ⟨A2, rfl, rfl⟩
    refine ⟨A1, [v, v', v''], A2, cut vs none (some 12), rfl, rfl, .inl (.tail _ (.head _)), .inl (.head _), ?_, fun D => ⟨D, _, _, rfl, rfl, ?_⟩⟩
    · have := cut_length_le vs none (some 12)
      simp; omega
    · refine paired_append (.cons h1 (.cons h2 (.cons h3 .nil))) ?_
      rw [show ((12 : Int)) = ((12 : Nat) : Int) from rfl, cut_upto]; exact paired_take hp 12
  rintro v N s₁ ⟨Dn, nvs, N1, rfl, rfl, hP⟩ y₁
  refine wpAny_execs_cons (wpAny_Assign_Name ((e_listV (c := (LC b pm L).up [] (upd sg "numbers" (.ref Dn)) #[]) s_nil ?_).use y₁ ?_) rfl)
  · rintro vs rfl; simp
  rintro v s₂ N ⟨Dc, cvs, rfl, rfl, rfl⟩ g y₂
  have hB := fresh_B y₁ (g.2 _ (.head _)).1
  refine w_store (c := (LC b pm L).up [] (upd sg "numbers" (.ref Dn)) #[]) (.loc rfl rfl rfl fun h => nomatch h) y₂ fun s₃ _ y₃ => ?_
  have y₄ := (At.toMu y₃ (.head _) hB).sub (O' := (Dn, LP nvs) :: N1 ++ []) fun q hq => List.mem_filter.mpr ⟨List.mem_append_right _ hq, decide_eq_true fun h => (y₁.own q hq).alive (by rw [h]; exact (g.2 _ (.head _)).1)⟩
  exact k Dn nvs Dc _ _ s₃ hP (by simp) rfl rfl y₄

/-- numbers[line] // 2 ** c % 2, and the like -/
theorem e_bit {c : Cx} {O : Led} {e1 e2 : Expr} {k1 k2 : Nat} {p1 p2 p3 p4 p5 : Pos} {x : Int} {j : Nat} (hj : j < 6) (h1 : TV c O (eval e1 c.env) (IsInt x)) (h2 : TV c O (eval e2 c.env) (IsInt (j : Int))) :
    TV c O (eval (.BinOp (.BinOp e1 .FloorDiv (.BinOp (.Constant (.int 2) k1 p1) .Pow e2 p2) p3) .Mod (.Constant (.int 2) k2 p4) p5) c.env) (IsInt ((x.fdiv (2 ^ j)).fmod 2)) := by
  have hpw : TV c O (eval (.BinOp (.Constant (.int 2) k1 p1) .Pow e2 p2) c.env) (IsInt (2 ^ j)) := (e_pow e_int h2 (by omega) (by omega) (by decide)).mono fun v hv => by simpa using hv
  have hne : (2 : Int) ^ j ≠ 0 := by
    have : (0 : Int) < 2 ^ j := Int.pow_pos (by decide)
    omega
  refine e_mod (e_div h1 hpw hne (PyProof.noPylong_small ?_)) e_int (by decide)
  have : j = 0 ∨ j = 1 ∨ j = 2 ∨ j = 3 ∨ j = 4 ∨ j = 5 := by omega
  rcases this with rfl | rfl | rfl | rfl | rfl | rfl <;> decide

theorem irange_lt {a : Int} {n i : Nat} {x : Int} (h : (irange a n)[i]? = some x) : i < n ∧ x = a + (i : Int) := irange_get_some h

set_option maxHeartbeats 4000000 in
theorem cells1 (o : ∀ Mu sg gs, Own ((LC b pm L).up Mu sg gs)) {Q : Flow → Shared → Prop} {sg : Str → Option Value} {ns : List Int} {Dn Dc : Addr} {nvs : List Value} {O : Led} (hP : Paired IsInt (numsOf ns) nvs) (hDn : (Dn, LP nvs) ∈ O)
    (hsn : sg "numbers" = some (.ref Dn)) (hsc : sg "cells" = some (.ref Dc)) (y : At ((LC b pm L).up [(Dc, LP [])] sg #[]) O s)
    (k : ∀ cvs O' sg' s', Paired (Bx O') (cellNums (numsOf ns)) cvs → (∀ q ∈ O, q ∈ O') → sg' "numbers" = some (.ref Dn) → sg' "cells" = some (.ref Dc) → At ((LC b pm L).up [(Dc, LP cvs)] sg' #[]) O' s' →
      wpAny (model b.prog b.w) b.A (execs ((fnBody 5).drop 3) (lawEnv pm L)) Q E s') :
    wpAny (model b.prog b.w) b.A (execs ((fnBody 5).drop 2) (lawEnv pm L)) Q E s := by
  have hlen := numsOf_len ns
  have hvl := hP.length
  generalize hxs : numsOf ns = xs at *
  refine wpAny_execs_cons (x_for (c := (LC b pm L).up [(Dc, LP [])] sg #[]) (items := irange 0 nvs.length) (R := IsInt) (.loc rfl rfl rfl fun h => nomatch h) ?src rfl
    (fun i O' Mu sg' gs' => gs' = #[] ∧ (∀ q ∈ O, q ∈ O') ∧ sg' "numbers" = some (.ref Dn) ∧ sg' "cells" = some (.ref Dc) ∧ ∃ cvs, Mu = [(Dc, LP cvs)] ∧ Paired (Bx O') (cellsTo xs i) cvs) y ⟨rfl, fun q hq => hq, hsn, hsc, [], rfl, by simpa [cellsTo] using .nil⟩ ?turn ?done)
  case src =>
    refine Src.eq ?_ (src_range1 (n := (nvs.length : Int)) (o _ _ _).std (e_len (o _ _ _).std (e_local hsn) (.inl hDn) (by omega)) (by omega) (by omega))
    simp
  case turn =>
    rintro i li vi O' Mu sg' gs' T H s₁ E' hi hR ⟨rfl, hO', hsn', hsc', cvs, rfl, hcv⟩ y₁
    obtain ⟨hin, rfl⟩ := irange_lt hi
    obtain ⟨xv, hxv⟩ : ∃ xv, nvs[i]? = some xv := ⟨nvs[i], by simp [hin]⟩
    have hxi : IsInt (xs.getD i 0) xv := getD_paired hP hxv
    have hDn' : (Dn, LP nvs) ∈ H ++ O' := List.mem_append_right _ (hO' _ hDn)
    refine wpAny_execs_cons (x_for (c := (LC b pm L).up ((Dc, LP cvs) :: T) (upd sg' "line" vi) #[]) (items := irange 0 6) (R := IsInt) (.loc rfl rfl rfl fun h => nomatch h) ?src2 rfl
      (fun j O₂ Mu₂ sg₂ gs₂ => gs₂ = #[] ∧ (∀ q ∈ H ++ O', q ∈ O₂) ∧ sg₂ "numbers" = some (.ref Dn) ∧ sg₂ "cells" = some (.ref Dc) ∧ sg₂ "line" = some vi ∧ ∃ cvs₂, Mu₂ = (Dc, LP cvs₂) :: T ∧ Paired (Bx O₂) (cellsTo xs i ++ lineTo i (xs.getD i 0) j) cvs₂) y₁
      ⟨rfl, fun q hq => hq, hsn', hsc', rfl, cvs, rfl, ?_⟩ ?turn2 ?done2)
    case src2 => exact Src.eq rfl (src_range1 (n := 6) (o _ _ _).std e_int (by decide) (by decide))
    · have : lineTo i (xs.getD i 0) 0 = [] := rfl
      rw [this, List.append_nil]
      exact hcv.mono fun a u h => h.mono fun q hq => List.mem_append_right _ hq
    case turn2 =>
      rintro j cj vj O₂ Mu₂ sg₂ gs₂ T₂ H₂ s₂ E₂ hj hRj ⟨rfl, hO₂, hsn₂, hsc₂, hsl₂, cvs₂, rfl, hcv₂⟩ y₂
      obtain ⟨hj6, rfl⟩ := irange_lt hj
      rw [Int.zero_add] at hR hRj
      have hc₂len : cvs₂.length ≤ 6 * i + j := by
        have h1 := hcv₂.length
        rw [List.length_append] at h1
        have h2 := cellsTo_len xs i
        have h3 := lineTo_len i (xs.getD i 0) j
        omega
      refine wpAny_execs_cons (x_if (c := (LC b pm L).up ((Dc, LP cvs₂) :: T ++ T₂) (upd sg₂ "c" vj) #[]) y₂ (q := bit (xs.getD i 0) j) (t_cmp (e_bit hj6 (e_itemInt (l := Dn) (xs := nvs) (k := (i : Int)) (v := xv) (e_local hsn₂) (e_locI hsl₂ hR) (.inl (List.mem_append_right _ (hO₂ _ hDn'))) (by omega) (by omega) (by simpa using hxv) hxi) (e_locI (v := vj) rfl hRj)) e_int fun a b ha hb => q_eq ha hb) ?_ ?_)
      · intro hq s₃ y₃
        refine wpAny_execs_cons (x_append_at (c := (LC b pm L).up ((Dc, LP cvs₂) :: T ++ T₂) (upd sg₂ "c" vj) #[]) (X := []) (Y := T ++ T₂) rfl rfl y₃ (e_local hsc₂) (e_box (o _ _ _) (e_add (e_mul e_int (e_locI hsl₂ hR) ?_) (e_locI (v := vj) rfl hRj))) (by omega) ?_)
        · exact IntMulOk.of_left (by decide)
        · intro v N s₄ hv y₄
          have hbx := Bx.of_box (fun v h => h) hv
          refine wpAny_execs_nil (wpAny_execs_nil (TurnEnd.next (O := N ++ O₂) (Mu := (Dc, LP (cvs₂ ++ [v])) :: T) (sg := upd sg₂ "c" vj) ⟨rfl, fun q hq => List.mem_append_right _ (hO₂ q hq), hsn₂, hsc₂, hsl₂, _, rfl, ?_⟩ (y₄.sub fun q hq => ?_)))
          · rw [lineTo_succ, hq, if_pos rfl, ← List.append_assoc]
            exact paired_append (hcv₂.mono fun a u h => h.mono fun q hq => List.mem_append_right _ hq) (.cons (hbx.mono fun q hq => List.mem_append_left _ hq) .nil)
          · rcases List.mem_append.mp hq with h | h
            · exact List.mem_append_right _ (List.mem_append_left _ h)
            · rcases List.mem_append.mp h with h | h
              · exact List.mem_append_left _ h
              · exact List.mem_append_right _ (List.mem_append_right _ h)
      · intro hq s₃ y₃
        refine wpAny_execs_nil (wpAny_execs_nil (TurnEnd.next (O := O₂) (Mu := (Dc, LP cvs₂) :: T) (sg := upd sg₂ "c" vj) ⟨rfl, hO₂, hsn₂, hsc₂, hsl₂, _, rfl, ?_⟩ y₃))
        rw [lineTo_succ, hq]; simpa using hcv₂
    case done2 =>
      rintro O₂ Mu₂ sg₂ gs₂ s₂ ⟨rfl, hO₂, hsn₂, hsc₂, hsl₂, cvs₂, rfl, hcv₂⟩ y₂
      refine wpAny_execs_nil (TurnEnd.next (O := O₂) (Mu := [(Dc, LP cvs₂)]) ⟨rfl, fun q hq => hO₂ q (List.mem_append_right _ (hO' q hq)), hsn₂, hsc₂, cvs₂, rfl, ?_⟩ (y₂.sub fun q hq => ?_))
      · rw [cellsTo_succ]; exact hcv₂
      · rcases List.mem_append.mp hq with h | h
        · exact hO₂ q (List.mem_append_left _ h)
        · exact h
  case done =>
    rintro O' Mu sg' gs' s₁ ⟨rfl, hO', hsn', hsc', cvs, rfl, hcv⟩ y₁
    rw [irange_length, ← hvl] at hcv
    exact k cvs O' sg' s₁ hcv hO' hsn' hsc' y₁
end
end Mine

namespace Mine

/-- a tuple of two numbers, of four numbers -/
def Pr2 (a : Int × Int) (u : Value) (N : Led) : Prop := ∃ T v1 v2, u = .ref T ∧ (T, TP [v1, v2]) ∈ N ∧ IsInt a.1 v1 ∧ IsInt a.2 v2
def Q4 (a : Int × Int × Int × Int) (u : Value) (N : Led) : Prop := ∃ T v1 v2 v3 v4, u = .ref T ∧ (T, TP [v1, v2, v3, v4]) ∈ N ∧ IsInt a.1 v1 ∧ IsInt a.2.1 v2 ∧ IsInt a.2.2.1 v3 ∧ IsInt a.2.2.2 v4
theorem Pr2.mono {a : Int × Int} {u : Value} {N N' : Led} (h : Pr2 a u N) (hs : ∀ q ∈ N, q ∈ N') : Pr2 a u N' := let ⟨T, v1, v2, h1, h2, h3⟩ := h; ⟨T, v1, v2, h1, hs _ h2, h3⟩
theorem Q4.mono {a : Int × Int × Int × Int} {u : Value} {N N' : Led} (h : Q4 a u N) (hs : ∀ q ∈ N, q ∈ N') : Q4 a u N' := let ⟨T, v1, v2, v3, v4, h1, h2, h3⟩ := h; ⟨T, v1, v2, v3, v4, h1, hs _ h2, h3⟩

def valInt : Value → Int
  | .int i _ => i
  | _ => 0
theorem items_of {O : Led} : ∀ {sp : List (Int × Int)} {pvs : List Value}, Paired (fun a u => Pr2 a u O) sp pvs → ∃ its : List (Value × Value), Paired (IsPair O) its pvs ∧ its.map (fun a => (valInt a.1, valInt a.2)) = sp ∧ ∀ a ∈ its, IsInt (valInt a.1) a.1 ∧ IsInt (valInt a.2) a.2
  | _, _, .nil => ⟨[], .nil, rfl, fun a h => nomatch h⟩
  | _, _, .cons h t => by
    obtain ⟨its, h1, h2, h3⟩ := items_of t
    obtain ⟨T, v1, v2, rfl, hT, ⟨t1, rfl⟩, ⟨t2, rfl⟩⟩ := h
    refine ⟨(.int _ t1, .int _ t2) :: its, .cons ⟨T, rfl, hT⟩ h1, ?_, fun a ha => ?_⟩
    · rw [List.map_cons, h2]; rfl
    · rcases List.mem_cons.mp ha with rfl | ha
      · exact ⟨⟨t1, rfl⟩, ⟨t2, rfl⟩⟩
      · exact h3 a ha

theorem handed_int {n : Int} {u : Value} (h : IsInt n u) : handedIn u = true := by obtain ⟨t, rfl⟩ := h; rfl

section
variable {b : Cx} {pm pw : Value} {L : Addr} {s : Shared} {E : Value → Shared → Prop}

set_option maxHeartbeats 4000000 in
theorem pairs1 (o : ∀ Mu sg gs, Own ((LC b pm L).up Mu sg gs)) (hdeep : b.A.depth + 50 < recursionLimit) (hfn : b.K.lookup 21 = some ⟨.type "function", none, .func (fdOf "_find_address_range" 1 20 pw), #[]⟩) {Q : Flow → Shared → Prop} {sg : Str → Option Value} {ns : List Int} {Dn Dc : Addr} {nvs cvs : List Value} {O : Led}
    (hDn : (Dn, LP nvs) ∈ O) (hcv : Paired (Bx O) (cellNums (numsOf ns)) cvs) (hsn : sg "numbers" = some (.ref Dn)) (hsc : sg "cells" = some (.ref Dc)) (y : At ((LC b pm L).up [(Dc, LP cvs)] sg #[]) O s)
    (k : ∀ Dp pvs Dt O' sg' gs' s', Paired (fun a u => Pr2 a u O') (spansOf (cellNums (numsOf ns))) pvs → (Dp, LP pvs) ∈ O' → (∀ q ∈ O, q ∈ O') → sg' "numbers" = some (.ref Dn) → sg' "pairs" = some (.ref Dp) → sg' "told" = some (.ref Dt) → AllBare gs' →
      At ((LC b pm L).up [(Dt, LP [])] sg' gs') O' s' → wpAny (model b.prog b.w) b.A (execs ((fnBody 5).drop 5) (lawEnv pm L)) Q E s') :
    wpAny (model b.prog b.w) b.A (execs ((fnBody 5).drop 3) (lawEnv pm L)) Q E s := by
  have hlen := numsOf_len ns
  have n0 : 0 < (cellNums (numsOf ns)).length := by
    have : (7 * ((0 : Nat) : Int) + ((1 : Nat) : Int)) ∈ cellNums (numsOf ns) := (mem_cells (by omega)).mpr ⟨by omega, by
      have : (numsOf ns).getD 0 0 = 6 := rfl
      rw [this]; decide⟩
    exact List.length_pos_of_mem this
  have hn : (cellNums (numsOf ns)).length ≤ 1000 := by have := cells_len (numsOf ns); omega
  refine wpAny_execs_cons (x_assign_far (c := LC b pm L) (pw := pw) (l := Dc) (X := []) (gs := #[]) (ns := cellNums (numsOf ns)) (rvs := cvs) (.loc rfl rfl rfl fun h => nomatch h) rfl (o _ _ _) (by show b.A.depth + 30 < recursionLimit; omega) hfn Pr2 (fun a u N N' h hs => h.mono hs) n0 hn hcv (fun z hz => by simp at hz) y (e_local hsc) ?elem ?k)
  case elem =>
    intro C Y gs' O' p q n m hO' hp hq
    obtain ⟨b1, u1, rfl, hb1, hu1⟩ := hp
    obtain ⟨b2, u2, rfl, hb2, hu2⟩ := hq
    refine (e_tupleV (s_cons (e_ip (o _ _ _).comp (e_local (v := .ref b1) rfl) hb1 (handed_int hu1)) (s_cons (e_ip (o _ _ _).comp (e_local (v := .ref b2) rfl) hb2 (handed_int hu2)) s_nil)) ?_).mono ?_
    · rintro vs ⟨v, r, rfl, _, v', r', rfl, _, rfl⟩; simp
    · rintro r N ⟨T, vs, rfl, rfl, v, r, rfl, rfl, v', r', rfl, rfl, rfl⟩
      exact ⟨T, _, _, rfl, .head _, hu1, hu2⟩
  case k =>
    intro Dp pvs gs' O' s₁ hP hO' hDp hbr y₁
    have y₂ := At.mu_sub (c := (LC b pm L).up [] (upd sg "pairs" (.ref Dp)) gs') (Mu' := []) y₁ (List.nil_sublist _)
    refine wpAny_execs_cons (wpAny_Assign_Name ((e_listV (c := (LC b pm L).up [] (upd sg "pairs" (.ref Dp)) gs') s_nil ?_).use y₂ ?_) rfl)
    · rintro vs rfl; simp
    rintro v s₂ N ⟨Dt, tvs, rfl, rfl, rfl⟩ g y₃
    have hB := fresh_B y₂ (g.2 _ (.head _)).1
    refine w_store (c := (LC b pm L).up [] (upd sg "pairs" (.ref Dp)) gs') (.loc rfl rfl rfl fun h => nomatch h) y₃ fun s₃ _ y₄ => ?_
    have y₅ := (At.toMu y₄ (.head _) hB).sub (O' := O') fun q hq => List.mem_filter.mpr ⟨List.mem_append_right _ hq, decide_eq_true fun h => (y₂.own q hq).alive (by rw [h]; exact (g.2 _ (.head _)).1)⟩
    exact k Dp pvs Dt O' (upd (upd sg "pairs" (.ref Dp)) "told" (.ref Dt)) gs' s₃ hP hDp hO' hsn rfl rfl hbr y₅

def bodyA : List Stmt := match ((fnBody 5)[5]? : Option Stmt) with | some (.For _ _ [.For _ _ b _ _] _ _) => b | _ => []

theorem spans_len (ns : List Int) : (spansOf ns).length ≤ ns.length := by
  rw [spansOf_length]; unfold startsOf; exact Nat.le_trans (List.length_filter_le _ _) (by simp)
theorem stack_len (xs : List Int) (l r : Nat) : (stackNums xs l r).length ≤ 6 * xs.length := by
  unfold stackNums
  rw [List.length_map]
  exact Nat.le_trans (List.length_filter_le _ _) (Nat.le_trans (spans_len _) (cells_len xs))
theorem spans_nil : spansOf [] = [] := rfl

set_option maxHeartbeats 8000000 in
theorem turnA (o : ∀ Mu sg gs, Own ((LC b pm L).up Mu sg gs)) (hdeep : b.A.depth + 50 < recursionLimit) (hfn : b.K.lookup 21 = some ⟨.type "function", none, .func (fdOf "_find_address_range" 1 20 pw), #[]⟩) {Q : Flow → Shared → Prop} {sg : Str → Option Value} {gs : Array GenState} {xs : List Int} {Dp Dt : Addr} {pvs tvs : List Value} {O T : Led}
    (hxl : xs.length ≤ 15) (hP : Paired (fun a u => Pr2 a u O) (spansOf (cellNums xs)) pvs) (hDp : (Dp, LP pvs) ∈ O) (hsp : sg "pairs" = some (.ref Dp)) (hst : sg "told" = some (.ref Dt)) {l r : Nat} {lv rv : Value} (hsl : sg "left" = some lv) (hl : IsInt (l : Int) lv) (hsr : sg "right" = some rv) (hr : IsInt (r : Int) rv)
    (htl : tvs.length ≤ 50000) (hbr : AllBare gs) (y : At ((LC b pm L).up ((Dt, LP tvs) :: T) sg gs) O s)
    (k : ∀ tvs' O' sg' gs' s', Paired (fun a u => Q4 a u O') ((rowQ xs l r).map fun p => ((l : Int), (r : Int), p.1, p.2)) tvs' → (∀ q ∈ O, q ∈ O') → (∀ z : Str, z ≠ ("stack" : Str) → sg' z = sg z) → AllBare gs' → At ((LC b pm L).up ((Dt, LP (tvs ++ tvs')) :: T) sg' gs') O' s' → Q .next s') :
    wpAny (model b.prog b.w) b.A (execs bodyA (lawEnv pm L)) Q E s := by
  obtain ⟨its, hip, him, hii⟩ := items_of hP
  have hitl : its.length ≤ 90 := by
    have h1 : its.length = (spansOf (cellNums xs)).length := by rw [← him, List.length_map]
    have h2 := spans_len (cellNums xs)
    have h3 := cells_len xs
    omega
  refine wpAny_execs_cons (x_assign_comp2 (c := (LC b pm L).up ((Dt, LP tvs) :: T) sg gs) (items := its) (.loc rfl rfl rfl fun h => nomatch h) (o [] sg gs).std.hh ?src y rfl (fun a => (valInt a.1).fmod 7 == (l : Int) && (valInt a.2).fmod 7 == (r : Int)) (fun a y N => Bx N ((valInt a.1).fdiv 7) y) (fun a y N N' h hs => h.mono hs) ?tests ?elem (by omega) ?k)
  case src =>
    exact src_list (P := fun v N => N = [] ∧ v = .ref Dp) (o _ _ _).std (e_local hsp).tr (by rintro v N ⟨rfl, rfl⟩; exact ⟨Dp, pvs, rfl, hDp, hip⟩)
  case tests =>
    intro i a v C hi hv
    have h12 := hii a (List.mem_of_getElem? hi)
    refine (ts_one (t_all (a_and (t_cmp (e_mod (e_locI (v := a.1) rfl h12.1) e_int (by decide)) (e_free2 (w := lv) hsl) (fun x y hx hy => q_eq hx (hy ▸ hl))) fun _ => a_and (t_cmp (e_mod (e_locI (v := a.2) rfl h12.2) e_int (by decide)) (e_free2 (w := rv) hsr) (fun x y hx hy => q_eq hx (hy ▸ hr))) fun _ => a_nil))).mono fun v hv => ?_
    rw [hv]; simp
  case elem =>
    intro i a v C hi hv _
    have h12 := hii a (List.mem_of_getElem? hi)
    exact (e_box (o _ _ _).comp (e_div (e_locI (v := a.1) rfl h12.1) e_int (by decide) (PyProof.noPylong_small (by decide)))).mono fun r N h => Bx.of_box (fun v h => h) h
  case k =>
    intro D ys N s₁ hnew hP₁ y₁
    have hstk : Paired (Bx N) (stackNums xs l r) ys := by
      have h1 := paired_map_right (R := Bx N) (f := fun (a : Value × Value) => (valInt a.1).fdiv 7) hP₁
      have h2 : (its.filter fun a => (valInt a.1).fmod 7 == (l : Int) && (valInt a.2).fmod 7 == (r : Int)).map (fun (a : Value × Value) => (valInt a.1).fdiv 7) = stackNums xs l r := by
        unfold stackNums
        rw [← him, List.filter_map, List.map_map]
        rfl
      rw [h2] at h1; exact h1
    have hsl' := stack_len xs l r
    have hyl := hstk.length
    have hB := fresh_B y (hnew _ (.head _))
    have y₂ := At.toMu (c := (LC b pm L).up ((Dt, LP tvs) :: T) (upd sg "stack" (.ref D)) gs) y₁ (.head _) hB
    have hstk₂ : Paired (Bx (((D, LP ys) :: (N ++ O)).filter fun q => decide (q.1 ≠ D))) (stackNums xs l r) ys := hstk.mono fun a u h => Bx.off y₁ (.head _) (h.mono fun q hq => .tail _ (List.mem_append_left _ hq))
    have hO₂ : ∀ q ∈ O, q ∈ ((D, LP ys) :: (N ++ O)).filter fun q => decide (q.1 ≠ D) := fun q hq => List.mem_filter.mpr ⟨.tail _ (List.mem_append_right _ hq), decide_eq_true fun h => (y.own q hq).alive (by rw [h]; exact hnew _ (.head _))⟩
    generalize (((D, LP ys) :: (N ++ O)).filter fun q => decide (q.1 ≠ D)) = O₂ at y₂ hstk₂ hO₂
    refine wpAny_execs_cons (x_if (c := (LC b pm L).up ((D, LP ys) :: (Dt, LP tvs) :: T) (upd sg "stack" (.ref D)) gs) y₂ (q := decide ((ys.length : Int) > 0)) (t_cmp (e_len (l := D) (xs := ys) (o _ _ _).std (e_local (v := .ref D) rfl) (.inr (.head _)) (by omega)) e_int fun a b ha hb => q_gt ha hb) ?_ ?_)
    · intro hq s₂ y₃
      have hpos : 0 < ys.length := by have := of_decide_eq_true hq; omega
      refine wpAny_execs_cons (x_extend_raw (c := LC b pm L) (D := Dt) (xs := tvs) (Mu := (D, LP ys) :: (Dt, LP tvs) :: T) (sg := upd sg "stack" (.ref D)) (gs := gs) rfl (.tail _ (.head _)) y₃ (e_local hst) ?_)
      intro s₃ E₃ y₄
      refine e_far_comp (c := LC b pm L) (pw := pw) (l := D) (X := (Dt, LP tvs) :: T) (ns := stackNums xs l r) (rvs := ys) rfl (o _ _ _) (by show b.A.depth + 30 < recursionLimit; omega) hfn (fun a u N => Q4 ((l : Int), (r : Int), a.1, a.2) u N) (fun a u N N' h hs => h.mono hs) (by omega) (by omega) hstk₂ hbr y₄ (e_local (v := .ref D) rfl) ?elem2 ?k2
      case elem2 =>
        intro C Y gs' O' p q n m hO' hp hq
        obtain ⟨b1, u1, rfl, hb1, hu1⟩ := hp
        obtain ⟨b2, u2, rfl, hb2, hu2⟩ := hq
        refine (e_tupleV (s_cons (e_free2 (c := (LC b pm L).up Y (upd sg "stack" (.ref D)) gs') (y := "left") (w := lv) hsl) (s_cons (e_free2 (c := (LC b pm L).up Y (upd sg "stack" (.ref D)) gs') (y := "right") (w := rv) hsr) (s_cons (e_ip (o _ _ _).comp (e_local (v := .ref b1) rfl) hb1 (handed_int hu1)) (s_cons (e_ip (o _ _ _).comp (e_local (v := .ref b2) rfl) hb2 (handed_int hu2)) s_nil)))) ?_).mono ?_
        · rintro vs ⟨v, r, rfl, _, v', r', rfl, _, v₂, r₂, rfl, _, v₃, r₃, rfl, _, rfl⟩; simp
        · rintro rr N ⟨T, vs, rfl, rfl, v, r, rfl, rfl, v', r', rfl, rfl, v₂, r₂, rfl, rfl, v₃, r₃, rfl, rfl, rfl⟩
          exact ⟨T, _, _, _, _, rfl, .head _, hl, hr, hu1, hu2⟩
      case k2 =>
        intro D₂ acc gs' O' s₅ hacc hO' hD₂ hbr' y₅
        have hal : acc.length ≤ 90 := by
          have h1 := hacc.length
          have h2 := spans_len (stackNums xs l r)
          omega
        refine ⟨D₂, acc, [(D, LP ys)], T, gs', O', rfl, hD₂, by omega, y₅, fun s₆ y₆ => wpAny_execs_nil (wpAny_execs_nil ?_)⟩
        have y₇ := At.mu_sub (c := (LC b pm L).up [] (upd sg "stack" (.ref D)) gs') (Mu' := (Dt, LP (tvs ++ acc)) :: T) y₆ (List.Sublist.cons _ (List.Sublist.refl _))
        exact k acc O' _ gs' s₆ (paired_map_right (R := fun a u => Q4 a u O') (f := fun (p : Int × Int) => ((l : Int), (r : Int), p.1, p.2)) hacc) (fun q hq => hO' q (hO₂ q hq)) (fun z hz => upd_ne hz) hbr' y₇
    · intro hq s₂ y₃
      have h0 : ys.length = 0 := by have := of_decide_eq_false hq; omega
      have hnil : stackNums xs l r = [] := List.eq_nil_of_length_eq_zero (by omega)
      have y₄ := At.mu_sub (c := (LC b pm L).up [] (upd sg "stack" (.ref D)) gs) (Mu' := (Dt, LP tvs) :: T) y₃ (List.Sublist.cons _ (List.Sublist.refl _))
      refine wpAny_execs_nil (wpAny_execs_nil (k [] O₂ _ gs s₂ ?_ hO₂ (fun z hz => upd_ne hz) hbr (by rw [List.append_nil]; exact y₄)))
      unfold rowQ
      rw [hnil, spans_nil]; exact .nil
end
end Mine

namespace Mine

def cellS (b : Bool) : Str := if b then ("1" : Str) else ("0" : Str)
def joinS (bs : List Bool) : Str := Txt.join ("" : Str) (bs.map cellS)
def textS (bs : List Bool) : Str := (("0" : Str) ++ joinS bs) ++ ("0" : Str)
def markS (n : Nat) : Str := (("0" : Str) ++ ones n) ++ ("0" : Str)
theorem s0 : (Str.ofString "0") = ⟨#[48]⟩ := by decide +kernel
theorem s1 : (Str.ofString "1") = ⟨#[49]⟩ := by decide +kernel
theorem sE : (Str.ofString "") = ⟨#[]⟩ := by decide +kernel
theorem cellS_len (b : Bool) : (cellS b).length = 1 := by unfold cellS; rw [s0, s1]; cases b <;> rfl

def cellC (b : Bool) : Str := if b then ⟨#[49]⟩ else ⟨#[48]⟩
def textC (bs : List Bool) : Str := ((⟨#[48]⟩ : Str) ++ Txt.join ⟨#[]⟩ (bs.map cellC)) ++ (⟨#[48]⟩ : Str)
theorem textS_eq (bs : List Bool) : textS bs = textC bs := by
  unfold textS textC joinS
  have : cellS = cellC := by funext b; unfold cellS cellC; rw [s0, s1]
  rw [this, s0, sE]
def allB (f : Bool → Bool) : Bool := f true && f false
theorem allB_ok {f : Bool → Bool} (h : allB f = true) (b : Bool) : f b = true := by
  unfold allB at h
  rw [Bool.and_eq_true] at h
  cases b
  · exact h.2
  · exact h.1
def lookOne (bs : List Bool) : Bool := decide ((textC bs).length = 8) && (List.range 6).all fun l => (List.range 6).all fun r => !(decide (l ≤ r)) || ((Txt.slice (textC bs) (some (l : Int)) (some ((r : Int) + 3)) == ((⟨#[48]⟩ : Str) ++ ones (r + 1 - l)) ++ (⟨#[48]⟩ : Str)) == specB bs l r)
theorem look_all : (allB fun a => allB fun b => allB fun c => allB fun d => allB fun e => allB fun f => lookOne [a, b, c, d, e, f]) = true := by decide +kernel
theorem look_one (a b c d e f : Bool) : lookOne [a, b, c, d, e, f] = true := allB_ok (allB_ok (allB_ok (allB_ok (allB_ok (allB_ok look_all a) b) c) d) e) f
theorem bitsOf_six (x : Int) : bitsOf x = [bit x 0, bit x 1, bit x 2, bit x 3, bit x 4, bit x 5] := rfl
theorem text_len (x : Int) : (textS (bitsOf x)).length = 8 := by
  rw [textS_eq, bitsOf_six]
  have := look_one (bit x 0) (bit x 1) (bit x 2) (bit x 3) (bit x 4) (bit x 5)
  unfold lookOne at this
  rw [Bool.and_eq_true, decide_eq_true_eq] at this
  exact this.1
theorem text_shows (x : Int) {l r : Nat} (hl : l ≤ r) (hr : r < 6) : (Txt.slice (textS (bitsOf x)) (some (l : Int)) (some ((r : Int) + 3)) == markS (r + 1 - l)) = specB (bitsOf x) l r := by
  rw [textS_eq]
  unfold markS
  rw [s0, bitsOf_six]
  have := look_one (bit x 0) (bit x 1) (bit x 2) (bit x 3) (bit x 4) (bit x 5)
  unfold lookOne at this
  rw [Bool.and_eq_true] at this
  have h2 := List.all_eq_true.mp (List.all_eq_true.mp this.2 l (List.mem_range.mpr (by omega))) r (List.mem_range.mpr hr)
  rw [Bool.or_eq_true, Bool.not_eq_true', decide_eq_false_iff_not] at h2
  rcases h2 with h2 | h2
  · exact absurd hl h2
  · exact beq_iff_eq.mp h2
theorem str_app_len (x y : Str) : (x ++ y).length = x.length + y.length := by
  show (x.cps ++ y.cps).size = _
  rw [Array.size_append]; rfl
theorem join_len (x : Int) : (joinS (bitsOf x)).length = 6 := by
  have h := text_len x
  unfold textS at h
  rw [str_app_len, str_app_len, s0] at h
  have : (⟨#[48]⟩ : Str).length = 1 := rfl
  omega
theorem str_bit (x : Int) (j : Nat) : (Str.ofString (toString ((x.fdiv (2 ^ j)).fmod 2))) = cellS (bit x j) := by
  have h1 := Int.fmod_nonneg_of_pos (x.fdiv (2 ^ j)) (show (0 : Int) < 2 by decide)
  have h2 := Int.fmod_lt_of_pos (x.fdiv (2 ^ j)) (show (0 : Int) < 2 by decide)
  unfold bit cellS
  generalize (x.fdiv (2 ^ j)).fmod 2 = n at *
  have : n = 0 ∨ n = 1 := by omega
  rcases this with rfl | rfl <;> rfl
theorem bit_small (x : Int) (j : Nat) : ((x.fdiv (2 ^ j)).fmod 2).natAbs.log2 < 1920 := by
  have h1 := Int.fmod_nonneg_of_pos (x.fdiv (2 ^ j)) (show (0 : Int) < 2 by decide)
  have h2 := Int.fmod_lt_of_pos (x.fdiv (2 ^ j)) (show (0 : Int) < 2 by decide)
  generalize (x.fdiv (2 ^ j)).fmod 2 = n at *
  have : n = 0 ∨ n = 1 := by omega
  rcases this with rfl | rfl <;> decide
end Mine

namespace Mine

def quads (xs : List Int) (l r : Nat) : List (Int × Int × Int × Int) := (rowQ xs l r).map fun p => ((l : Int), (r : Int), p.1, p.2)
def rightTo (xs : List Int) (l j : Nat) : List (Int × Int × Int × Int) := (List.range j).flatMap fun t => quads xs l (l + t)
def leftTo (xs : List Int) (i : Nat) : List (Int × Int × Int × Int) := (List.range i).flatMap fun l => rightTo xs l (6 - l)
theorem rightTo_succ (xs : List Int) (l j : Nat) : rightTo xs l (j + 1) = rightTo xs l j ++ quads xs l (l + j) := by
  unfold rightTo; rw [List.range_succ, List.flatMap_append]; simp
theorem leftTo_succ (xs : List Int) (i : Nat) : leftTo xs (i + 1) = leftTo xs i ++ rightTo xs i (6 - i) := by
  unfold leftTo; rw [List.range_succ, List.flatMap_append]; simp
theorem quads_len {xs : List Int} (h : xs.length ≤ 15) (l r : Nat) : (quads xs l r).length ≤ 90 := by
  unfold quads rowQ
  rw [List.length_map]
  have := spans_len (stackNums xs l r)
  have := stack_len xs l r
  omega
theorem rightTo_len {xs : List Int} (h : xs.length ≤ 15) (l : Nat) : ∀ j, (rightTo xs l j).length ≤ 90 * j
  | 0 => by simp [rightTo]
  | j + 1 => by
    rw [rightTo_succ, List.length_append]
    have := rightTo_len h l j
    have := quads_len h l (l + j)
    omega
theorem leftTo_len {xs : List Int} (h : xs.length ≤ 15) : ∀ i, (leftTo xs i).length ≤ 540 * i
  | 0 => by simp [leftTo]
  | i + 1 => by
    rw [leftTo_succ, List.length_append]
    have := leftTo_len h i
    have := rightTo_len h i (6 - i)
    omega

theorem Own.cellc {c : Cx} {scope : Scope} {x : Str} {K C : Addr} {Mu : Led} {v : Value} (o : Own c) : Own (c.cellc scope x K C Mu v) := ⟨⟨o.std.hh, o.std.gl, o.std.bu, o.std.len, o.std.range, o.std.list, o.std.iter, o.std.next⟩, o.ok, o.room, o.cls, o.box, o.far⟩

section
variable {b : Cx} {pm pw : Value} {L : Addr} {s : Shared} {E : Value → Shared → Prop}

theorem env_c1 (x : Str) (h : ((lawEnv pm L).cells.lookup x).isSome = true) : ∃ a, (lawEnv pm L).cells.lookup x = some a := Option.isSome_iff_exists.mp h

set_option maxHeartbeats 8000000 in
theorem loopA (o : ∀ Mu sg gs, Own ((LC b pm L).up Mu sg gs)) (hdeep : b.A.depth + 50 < recursionLimit) (hfn : b.K.lookup 21 = some ⟨.type "function", none, .func (fdOf "_find_address_range" 1 20 pw), #[]⟩) {Q : Flow → Shared → Prop} {sg : Str → Option Value} {gs : Array GenState} {xs : List Int} {Dn Dp Dt : Addr} {pvs : List Value} {O : Led}
    (hxl : xs.length ≤ 15) (hP : Paired (fun a u => Pr2 a u O) (spansOf (cellNums xs)) pvs) (hDp : (Dp, LP pvs) ∈ O) (hsn : sg "numbers" = some (.ref Dn)) (hsp : sg "pairs" = some (.ref Dp)) (hst : sg "told" = some (.ref Dt)) (hbr : AllBare gs) (y : At ((LC b pm L).up [(Dt, LP [])] sg gs) O s)
    (k : ∀ tvs O' sg' gs' s', Paired (fun a u => Q4 a u O') (leftTo xs 6) tvs → (∀ q ∈ O, q ∈ O') → sg' "numbers" = some (.ref Dn) → sg' "told" = some (.ref Dt) → AllBare gs' → At ((LC b pm L).up [(Dt, LP tvs)] sg' gs') O' s' →
      wpAny (model b.prog b.w) b.A (execs ((fnBody 5).drop 6) (lawEnv pm L)) Q E s') :
    wpAny (model b.prog b.w) b.A (execs ((fnBody 5).drop 5) (lawEnv pm L)) Q E s := by
  obtain ⟨aL, haL⟩ := env_c1 (pm := pm) (L := L) "left" (by kernel_rfl)
  obtain ⟨aR, haR⟩ := env_c1 (pm := pm) (L := L) "right" (by kernel_rfl)
  refine wpAny_execs_cons (x_for (c := (LC b pm L).up [(Dt, LP [])] sg gs) (items := irange 0 6) (R := IsInt) (.cell aL rfl rfl haL rfl) ?src rfl
    (fun i O' Mu sg' gs' => AllBare gs' ∧ (∀ q ∈ O, q ∈ O') ∧ sg' "numbers" = some (.ref Dn) ∧ sg' "pairs" = some (.ref Dp) ∧ sg' "told" = some (.ref Dt) ∧ ∃ tvs, Mu = [(Dt, LP tvs)] ∧ Paired (fun a u => Q4 a u O') (leftTo xs i) tvs) y ⟨hbr, fun q hq => hq, hsn, hsp, hst, [], rfl, .nil⟩ ?turn ?done)
  case src => exact Src.eq rfl (src_range1 (n := 6) (o _ _ _).std e_int (by decide) (by decide))
  case turn =>
    rintro i li vi O' Mu sg' gs' T H s₁ E' hi hR ⟨hbr', hO', hsn', hsp', hst', tvs, rfl, htv⟩ y₁
    obtain ⟨hi6, rfl⟩ := irange_lt hi
    rw [Int.zero_add] at hR
    refine wpAny_execs_cons (x_for (c := (LC b pm L).up ((Dt, LP tvs) :: T) (upd sg' "left" vi) gs') (items := irange (i : Int) (6 - i)) (R := IsInt) (.cell aR rfl rfl haR rfl) ?src2 rfl
      (fun j O₂ Mu₂ sg₂ gs₂ => AllBare gs₂ ∧ (∀ q ∈ H ++ O', q ∈ O₂) ∧ sg₂ "numbers" = some (.ref Dn) ∧ sg₂ "pairs" = some (.ref Dp) ∧ sg₂ "told" = some (.ref Dt) ∧ sg₂ "left" = some vi ∧ ∃ tvs₂, Mu₂ = (Dt, LP tvs₂) :: T ∧ Paired (fun a u => Q4 a u O₂) (leftTo xs i ++ rightTo xs i j) tvs₂) y₁
      ⟨hbr', fun q hq => hq, hsn', hsp', hst', rfl, tvs, rfl, ?_⟩ ?turn2 ?done2)
    case src2 =>
      refine Src.eq ?_ (src_range2 (a := (i : Int)) (b := 6) (o _ _ _).std ((e_cell (v := vi) rfl haL).mono fun u hu => (show IsInt (i : Int) u from hu ▸ hR)) e_int (by omega) (by omega) (by decide) (by decide))
      congr 1; omega
    · rw [show rightTo xs i 0 = [] from rfl, List.append_nil]
      exact htv.mono fun a u h => h.mono fun q hq => List.mem_append_right _ hq
    case turn2 =>
      rintro j rj vj O₂ Mu₂ sg₂ gs₂ T₂ H₂ s₂ E₂ hj hRj ⟨hbr₂, hO₂, hsn₂, hsp₂, hst₂, hsl₂, tvs₂, rfl, htv₂⟩ y₂
      obtain ⟨hj6, rfl⟩ := irange_lt hj
      have hRj' : IsInt ((i + j : Nat) : Int) vj := by rw [show ((i + j : Nat) : Int) = (i : Int) + (j : Int) from by omega]; exact hRj
      have hOO : ∀ q ∈ O, q ∈ H₂ ++ O₂ := fun q hq => List.mem_append_right _ (hO₂ q (List.mem_append_right _ (hO' q hq)))
      have htl : tvs₂.length ≤ 50000 := by
        have h1 := htv₂.length
        rw [List.length_append] at h1
        have h2 := leftTo_len hxl i
        have h3 := rightTo_len hxl i j
        omega
      refine turnA (b := b) (pm := pm) (pw := pw) (L := L) (sg := upd sg₂ "right" vj) (gs := gs₂) (xs := xs) (Dp := Dp) (Dt := Dt) (tvs := tvs₂) (T := T ++ T₂) (O := H₂ ++ O₂) (l := i) (r := i + j) (lv := vi) (rv := vj) o hdeep hfn hxl (hP.mono fun a u h => h.mono hOO) (hOO _ hDp) hsp₂ hst₂ hsl₂ hR rfl hRj' htl hbr₂ y₂ ?_
      intro tvs' O₃ sg₃ gs₃ s₃ htv' hO₃ hsg hbr₃ y₃
      refine TurnEnd.next (O := O₃) (Mu := (Dt, LP (tvs₂ ++ tvs')) :: T) (sg := sg₃) (gs := gs₃) ⟨hbr₃, fun q hq => hO₃ q (List.mem_append_right _ (hO₂ q hq)), (hsg _ (by decide)).trans hsn₂, (hsg _ (by decide)).trans hsp₂, (hsg _ (by decide)).trans hst₂, (hsg _ (by decide)).trans hsl₂, _, rfl, ?_⟩ (y₃.sub fun q hq => ?_)
      · rw [rightTo_succ, ← List.append_assoc]
        exact paired_append (htv₂.mono fun a u h => h.mono fun q hq => hO₃ q (List.mem_append_right _ hq)) htv'
      · rcases List.mem_append.mp hq with h | h
        · exact hO₃ q (List.mem_append_left _ h)
        · exact h
    case done2 =>
      rintro O₂ Mu₂ sg₂ gs₂ s₂ ⟨hbr₂, hO₂, hsn₂, hsp₂, hst₂, hsl₂, tvs₂, rfl, htv₂⟩ y₂
      rw [irange_length] at htv₂
      refine wpAny_execs_nil (TurnEnd.next (O := O₂) (Mu := [(Dt, LP tvs₂)]) (sg := sg₂) (gs := gs₂) ⟨hbr₂, fun q hq => hO₂ q (List.mem_append_right _ (hO' q hq)), hsn₂, hsp₂, hst₂, tvs₂, rfl, ?_⟩ (y₂.sub fun q hq => ?_))
      · rw [leftTo_succ]; exact htv₂
      · rcases List.mem_append.mp hq with h | h
        · exact hO₂ q (List.mem_append_left _ h)
        · exact h
  case done =>
    rintro O' Mu sg' gs' s₁ ⟨hbr', hO', hsn', hsp', hst', tvs, rfl, htv⟩ y₁
    rw [irange_length] at htv
    exact k tvs O' sg' gs' s₁ htv hO' hsn' hst' hbr' y₁

set_option maxHeartbeats 8000000 in
theorem texts1 (o : ∀ Mu sg gs, Own ((LC b pm L).up Mu sg gs)) (hstr : b.mg "str" = none ∧ b.mb "str" = some (.type "str")) {Q : Flow → Shared → Prop} {sg : Str → Option Value} {gs : Array GenState} {xs : List Int} {Dn Dt : Addr} {nvs tvs : List Value} {O : Led}
    (hxl : xs.length ≤ 15) (hDn : (Dn, LP nvs) ∈ O) (hPn : Paired IsInt xs nvs) (hsn : sg "numbers" = some (.ref Dn)) (hst : sg "told" = some (.ref Dt)) (y : At ((LC b pm L).up [(Dt, LP tvs)] sg gs) O s)
    (k : ∀ Dx xvs Du O' sg' s', Paired (fun x u => IsStr (textS (bitsOf x)) u) xs xvs → (Dx, LP xvs) ∈ O' → (Dt, LP tvs) ∈ O' → (∀ q ∈ O, q ∈ O') → sg' "texts" = some (.ref Dx) → sg' "told" = some (.ref Dt) → sg' "due" = some (.ref Du) → At ((LC b pm L).up [(Du, LP [])] sg' gs) O' s' →
      wpAny (model b.prog b.w) b.A (execs ((fnBody 5).drop 8) (lawEnv pm L)) Q E s') :
    wpAny (model b.prog b.w) b.A (execs ((fnBody 5).drop 6) (lawEnv pm L)) Q E s := by
  have y₀ : At ((LC b pm L).up [] sg gs) ((Dt, LP tvs) :: O) s := At.toO (c := (LC b pm L).up [] sg gs) y rfl
  refine wpAny_execs_cons (x_assign_cellcomp (c := (LC b pm L).up [] sg gs) (x := "x") (l := Dn) (vs := nvs) (items := xs) (R := IsInt) (.loc rfl rfl rfl fun h => nomatch h) rfl (o [] sg gs).std.hh (fun x u => IsStr (textS (bitsOf x)) u) (.tail _ hDn) hPn (by omega) y₀ (e_local hsn) ?elem ?k)
  case elem =>
    intro K C Mu x v hx
    have ow := (o Mu sg gs).cellc (scope := (match ((fnBody 5)[6]? : Option Stmt) with | some (.Assign _ (.ListComp _ _ sc _) _) => sc | _ => default)) (x := "x") (K := K) (C := C) (Mu := Mu) (v := v)
    refine e_catL (x := ("0" : Str) ++ joinS (bitsOf x)) (y := "0") (e_catR (x := "0") (y := joinS (bitsOf x)) e_str (e_join (ys := (bitsOf x).map cellS) (e_comp (items := irange 0 6) (R := IsInt) ?src (fun _ => true) (fun a y N => IsStr (cellS (bit x a.toNat)) y) (fun a y N N' h hs => h) (fun i a v C hi hR => ts_nil) ?elem2 (by rw [irange_length]; omega)) ?hP ?hok) ?n1) (fun N => e_str) ?n2
    case src => exact Src.eq rfl (src_range1 (n := 6) ow.std e_int (by decide) (by decide))
    case elem2 =>
      intro i a va C' hi hR _
      obtain ⟨hi6, rfl⟩ := irange_lt hi
      rw [Int.zero_add] at hR ⊢
      refine (TV.tr (e_strOf ow.std.comp hstr (e_bit (x := x) (j := i) hi6 ((e_free (v := v) rfl).mono fun u hu => (show IsInt x u from hu ▸ hx)) (e_tgtI hR)) (bit_small x i))).mono fun u N h => ?_
      rw [str_bit] at h
      simpa using h.2
    case hP =>
      rintro v N ⟨D, ys, N1, rfl, rfl, hP⟩
      refine ⟨D, ys, rfl, .head _, ?_⟩
      exact paired_map_right (R := IsStr) (f := fun (a : Int) => cellS (bit x a.toNat)) hP
    case hok =>
      have h1 : ((bitsOf x).map cellS).map (·.length) = List.replicate 6 1 := by
        rw [bitsOf_six]; simp only [List.map_cons, List.map_nil, cellS_len]; rfl
      rw [h1, List.length_map, bitsOf_six]
      show (List.replicate 6 1).sum + 6 * (Str.ofString "").length ≤ 16777216
      rw [sE]; decide
    case n1 => rw [join_len, s0]; decide
    case n2 => rw [str_app_len, join_len, s0]; decide
  case k =>
    intro Dx xvs s₁ hxv y₁
    refine wpAny_execs_cons (wpAny_Assign_Name ((e_listV (c := (LC b pm L).up [] (upd sg "texts" (.ref Dx)) gs) s_nil ?_).use y₁ ?_) rfl)
    · rintro vs rfl; simp
    rintro v s₂ N ⟨Du, uvs, rfl, rfl, rfl⟩ g y₂
    have hB := fresh_B y₁ (g.2 _ (.head _)).1
    refine w_store (c := (LC b pm L).up [] (upd sg "texts" (.ref Dx)) gs) (.loc rfl rfl rfl fun h => nomatch h) y₂ fun s₃ _ y₃ => ?_
    have y₄ := (At.toMu y₃ (.head _) hB).sub (O' := (Dx, LP xvs) :: (Dt, LP tvs) :: O) fun q hq => List.mem_filter.mpr ⟨List.mem_append_right _ hq, decide_eq_true fun h => (y₁.own q hq).alive (by rw [h]; exact (g.2 _ (.head _)).1)⟩
    exact k Dx xvs Du _ (upd (upd sg "texts" (.ref Dx)) "due" (.ref Du)) s₃ hxv (.head _) (.tail _ (.head _)) (fun q hq => .tail _ (.tail _ hq)) rfl hst rfl y₄
end
end Mine

namespace Mine

def bodyB : List Stmt := match ((fnBody 5)[8]? : Option Stmt) with | some (.For _ _ [.For _ _ b _ _] _ _) => b | _ => []
def showVals (xs : List Int) (l r : Nat) : List Value := (xs.map fun x => Value.bool (specB (bitsOf x) l r)) ++ [.bool false]
theorem showVals_get {xs : List Int} {l r i : Nat} (h : i ≤ xs.length) : (showVals xs l r)[i]? = some (.bool (sh xs l r i)) := by
  unfold showVals sh
  by_cases hi : i < xs.length
  · rw [List.getElem?_append_left (by simpa using hi), List.getElem?_map]
    simp [hi, List.getD_eq_getElem?_getD]
  · have : i = xs.length := by omega
    subst this
    rw [List.getElem?_append_right (by simp)]
    simp
theorem showVals_len (xs : List Int) (l r : Nat) : (showVals xs l r).length = xs.length + 1 := by simp [showVals]
theorem sh_lt {xs : List Int} {l r i : Nat} (h : sh xs l r i = true) : i < xs.length := by
  unfold sh at h
  rw [Bool.and_eq_true, decide_eq_true_eq] at h
  exact h.1
theorem paired_eq {α : Type} {f : α → Value} : ∀ {as : List α} {ys : List Value}, Paired (fun a y => y = f a) as ys → ys = as.map f
  | _, _, .nil => rfl
  | _, _, .cons h t => by rw [h, paired_eq t]; rfl

section
variable {b : Cx} {pm pw : Value} {L : Addr} {s : Shared} {E : Value → Shared → Prop}

/-- what the loop over the lines knows -/
def LB (xs : List Int) (l r : Nat) (Dx Du Dh : Addr) (lv rv : Value) (uvs : List Value) (T O : Led) (sg : Str → Option Value) (gs : Array GenState) (t : Nat) (O' Mu : Led) (sg' : Str → Option Value) (gs' : Array GenState) : Prop :=
  gs' = gs ∧ (∀ q ∈ O, q ∈ O') ∧ (∀ z : Str, z ≠ "top" → z ≠ "bottom" → sg' z = sg z) ∧ ∃ (uvs' : List Value) (P : List (Int × Int)), Mu = (Du, LP (uvs ++ uvs')) :: T ∧ P.map (·.1) = ((List.range t).filter (topB xs l r)).map (fun (i : Nat) => (i : Int)) ∧
    (∀ p ∈ P, ∃ a b : Nat, p = ((a : Int), (b : Int)) ∧ a ≤ b ∧ (∀ t, a ≤ t → t ≤ b → sh xs l r t = true) ∧ sh xs l r (b + 1) = false ∧ topB xs l r a = true) ∧
    Paired (fun a u => Q4 a u O') (P.map fun p => ((l : Int), (r : Int), p.1, p.2)) uvs'

set_option maxHeartbeats 8000000 in
theorem turnB (o : ∀ Mu sg gs, Own ((LC b pm L).up Mu sg gs)) {Q : Flow → Shared → Prop} {sg : Str → Option Value} {gs : Array GenState} {xs : List Int} {Dx Du : Addr} {xvs uvs : List Value} {O T : Led}
    (hxl : xs.length ≤ 15) (hDx : (Dx, LP xvs) ∈ O) (hxv : Paired (fun x u => IsStr (textS (bitsOf x)) u) xs xvs) (hsx : sg "texts" = some (.ref Dx)) (hsu : sg "due" = some (.ref Du)) {l r : Nat} {lv rv : Value} (hsl : sg "left" = some lv) (hl : IsInt (l : Int) lv) (hsr : sg "right" = some rv) (hr : IsInt (r : Int) rv)
    (hlr : l ≤ r) (hr6 : r < 6) (hul : uvs.length ≤ 50000) (y : At ((LC b pm L).up ((Du, LP uvs) :: T) sg gs) O s)
    (k : ∀ uvs' O' sg' s', Paired (fun a u => Q4 a u O') (quads xs l r) uvs' → (∀ q ∈ O, q ∈ O') → (∀ z : Str, z ≠ "mark" → z ≠ "shows" → z ≠ "top" → z ≠ "bottom" → sg' z = sg z) → At ((LC b pm L).up ((Du, LP (uvs ++ uvs')) :: T) sg' gs) O' s' → Q .next s') :
    wpAny (model b.prog b.w) b.A (execs bodyB (lawEnv pm L)) Q E s := by
  obtain ⟨aL, haL⟩ := env_c1 (pm := pm) (L := L) "left" (by kernel_rfl)
  obtain ⟨aR, haR⟩ := env_c1 (pm := pm) (L := L) "right" (by kernel_rfl)
  obtain ⟨aM, haM⟩ := env_c1 (pm := pm) (L := L) "mark" (by kernel_rfl)
  have hxvl := hxv.length
  have e0 : (Str.ofString "0").length = 1 := by rw [s0]; rfl
  have eon : ∀ n, (ones n).length = n := fun n => by show (ones n).cps.size = n; simp [ones]
  -- mark
  refine wpAny_execs_cons (x_assignV (c := (LC b pm L).up ((Du, LP uvs) :: T) sg gs) (P := IsStr (markS (r + 1 - l))) (.cell aM rfl rfl haM rfl) (e_cat (x := ("0" : Str) ++ ones (r + 1 - l)) (y := "0") (e_cat (x := "0") (y := ones (r + 1 - l)) e_str (e_bin e_str (e_add (e_sub ((e_cell (v := rv) hsr haR).mono fun u hu => (show IsInt (r : Int) u from hu ▸ hr)) ((e_cell (v := lv) hsl haL).mono fun u hu => (show IsInt (l : Int) u from hu ▸ hl))) e_int) ?ones) ?n1) e_str ?n2) y ?_)
  case ones =>
    intro a b ha hb
    refine (b_ones ha hb (by omega) (by omega)).mono fun v hv => ?_
    rw [show ((r : Int) - (l : Int) + 1).toNat = r + 1 - l from by omega] at hv
    exact hv
  case n1 => rw [e0, eon]; omega
  case n2 => rw [str_app_len, e0, eon]; omega
  intro mv s₁ hmv y₁
  -- shows
  refine wpAny_execs_cons (x_assign (c := (LC b pm L).up ((Du, LP uvs) :: T) (upd sg "mark" mv) gs) (.loc rfl rfl rfl fun h => nomatch h) (P := fun v N => ∃ D N1, v = .ref D ∧ N = (D, LP (showVals xs l r)) :: N1)
    (e_concat (e_comp (items := xs) (R := fun x u => IsStr (textS (bitsOf x)) u) ?src (fun _ => true) (fun a y N => y = .bool (specB (bitsOf a) l r)) (fun a y N N' h hs => h) (fun i a v C hi hR => ts_nil) ?elem (by omega)) (fun _ _ _ => e_listV (s_cons e_bool s_nil) ?_) ?cat) y₁ ?_)
  case src => exact src_list (P := fun v N => N = [] ∧ v = .ref Dx) (o _ _ _).std (TV.tr (e_local hsx)) (by rintro v N ⟨rfl, rfl⟩; exact ⟨Dx, xvs, rfl, hDx, hxv⟩)
  case elem =>
    intro i a v C hi hR _
    refine (TV.tr (e_cmp (q := specB (bitsOf a) l r) (P1 := IsStr (Txt.slice (textS (bitsOf a)) (some (l : Int)) (some ((r : Int) + 3)))) (P2 := IsStr (markS (r + 1 - l))) (e_strslice ((e_tgt).mono fun u hu => (show IsStr (textS (bitsOf a)) u from hu ▸ hR)) ((e_free (v := lv) hsl).mono fun u hu => (show IsInt (l : Int) u from hu ▸ hl)) (e_add ((e_free (v := rv) hsr).mono fun u hu => (show IsInt (r : Int) u from hu ▸ hr)) e_int) (by rw [text_len]; omega)) ((e_free (v := mv) rfl).mono fun u hu => hu ▸ hmv) ?_)).mono fun u N h => h.2
    intro p q hp hq
    rw [← text_shows a hlr hr6]
    exact q_streq hp hq
  · rintro vs ⟨v, r, rfl, _, rfl⟩; simp
  case cat =>
    rintro a N1 b' N2 ⟨D1, ys, N3, rfl, rfl, hP⟩ ⟨D2, us, rfl, rfl, v, r', rfl, rfl, rfl⟩
    refine ⟨D1, ys, D2, [.bool false], rfl, rfl, .inl (.tail _ (.head _)), .inl (.head _), ?_, fun D => ⟨D, [(D2, LP [.bool false])] ++ (D1, LP ys) :: N3, rfl, ?_⟩⟩
    · have := hP.length
      rw [List.filter_eq_self.mpr (fun _ _ => rfl)] at this
      simp; omega
    · rw [List.filter_eq_self.mpr (fun _ _ => rfl)] at hP
      rw [paired_eq hP]; rfl
  rintro v N s₂ ⟨Dh, N1, rfl, rfl⟩ y₂
  have hO₂ : ∀ q ∈ O, q ∈ (Dh, LP (showVals xs l r)) :: N1 ++ O := fun q hq => List.mem_append_right _ hq
  have hDh₂ : (Dh, LP (showVals xs l r)) ∈ (Dh, LP (showVals xs l r)) :: N1 ++ O := .head _
  generalize ((Dh, LP (showVals xs l r)) :: N1 ++ O) = O₂ at y₂ hO₂ hDh₂
  -- the lines
  refine wpAny_execs_cons (x_for (c := (LC b pm L).up ((Du, LP uvs) :: T) (upd (upd sg "mark" mv) "shows" (.ref Dh)) gs) (items := irange 0 xs.length) (R := IsInt) (.loc rfl rfl rfl fun h => nomatch h) ?src2 rfl
    (LB xs l r Dx Du Dh lv rv uvs T O₂ (upd (upd sg "mark" mv) "shows" (.ref Dh)) gs) y₂ ⟨rfl, fun q hq => hq, fun z _ _ => rfl, [], [], by simp, rfl, (fun p hp => nomatch hp), .nil⟩ ?turn ?done)
  case src2 =>
    refine Src.eq ?_ (src_range1 (n := (xvs.length : Int)) (o _ _ _).std (e_len (o _ _ _).std (e_local hsx) (.inl (hO₂ _ hDx)) (by omega)) (by omega) (by omega))
    rw [hxvl]; simp
  case turn =>
    rintro t ti vt O' Mu sg' gs' T' H s₃ E' hi hR ⟨rfl, hO', hsg, uvs', P, rfl, hP1, hP2, hP3⟩ y₃
    obtain ⟨htn, rfl⟩ := irange_lt hi
    rw [Int.zero_add] at hR
    have nsh : sg' "shows" = some (.ref Dh) := hsg _ (by decide) (by decide)
    have ndu : sg' "due" = some (.ref Du) := (hsg _ (by decide) (by decide)).trans hsu
    have nle : sg' "left" = some lv := (hsg _ (by decide) (by decide)).trans hsl
    have nri : sg' "right" = some rv := (hsg _ (by decide) (by decide)).trans hsr
    have hDh' : (Dh, LP (showVals xs l r)) ∈ H ++ O' := List.mem_append_right _ (hO' _ hDh₂)
    have hul' : uvs'.length ≤ 15 := by
      have h1 := hP3.length
      have h2 : P.length = ((List.range t).filter (topB xs l r)).length := by
        have := congrArg List.length hP1
        simpa using this
      have h3 : ((List.range t).filter (topB xs l r)).length ≤ t := Nat.le_trans (List.length_filter_le _ _) (by simp)
      rw [List.length_map] at h1
      omega
    have hrange : (List.range (t + 1)).filter (topB xs l r) = (List.range t).filter (topB xs l r) ++ (if topB xs l r t then [t] else []) := by
      rw [List.range_succ, List.filter_append]
      congr 1
      cases h : topB xs l r t <;> simp [h]
    refine wpAny_execs_cons (x_if (c := (LC b pm L).up ((Du, LP (uvs ++ uvs')) :: T ++ T') (upd sg' "top" vt) gs') y₃ (q := sh xs l r t && (!(decide (0 < t) && sh xs l r (t - 1)) && (BoolOp.And == .And))) (t_all (a_and (t_plain (e_item (l := Dh) (xs := showVals xs l r) (k := (t : Int)) (e_local nsh) (e_locI (v := vt) rfl hR) (.inl hDh') (by omega) (by omega) (by rw [Int.toNat_natCast]; exact showVals_get (by omega)))) fun _ => a_and (t_not (t_plain ?prev)) fun _ => a_nil)) ?_ ?_)
    case prev =>
      by_cases h0 : 0 < t
      · refine (e_item (l := Dh) (xs := showVals xs l r) (k := (t : Int) - 1) (e_local nsh) (e_sub (e_locI (v := vt) rfl hR) e_int) (.inl hDh') (by omega) (by omega) (by rw [show ((t : Int) - 1).toNat = t - 1 from by omega]; exact showVals_get (by omega))).mono fun u hu => ?_
        rw [hu, decide_eq_true h0]; rfl
      · have ht0 : t = 0 := by omega
        subst ht0
        refine (e_item_neg (l := Dh) (xs := showVals xs l r) (k := ((0 : Nat) : Int) - 1) (v := .bool false) (e_local nsh) (e_sub (e_locI (v := vt) rfl hR) e_int) (.inl hDh') (by omega) (by rw [showVals_len]; omega) (by decide) ?_).mono fun u hu => ?_
        · rw [showVals_len, show (((0 : Nat) : Int) - 1 + ((xs.length + 1 : Nat) : Int)).toNat = xs.length from by omega, showVals_get (Nat.le_refl _)]
          unfold sh; simp
        · rw [hu]; rfl
    · intro hq s₄ y₄
      have htop : topB xs l r t = true := by unfold topB; simpa using hq
      have hsht : sh xs l r t = true := by
        rw [Bool.and_eq_true] at hq; exact hq.1
      -- bottom = top
      refine wpAny_execs_cons (x_assignV (c := (LC b pm L).up ((Du, LP (uvs ++ uvs')) :: T ++ T') (upd sg' "top" vt) gs') (.loc rfl rfl rfl fun h => nomatch h) (e_local (v := vt) rfl) y₄ fun v s₅ hv y₅ => ?_)
      subst hv
      refine wpAny_execs_cons (x_while (c := LC b pm L) (Mu := (Du, LP (uvs ++ uvs')) :: T ++ T') (gs := gs') (sg := upd (upd sg' "top" v) "bottom" v) (fun m sg₁ => ∃ (bt : Nat) (vb : Value), m = xs.length - bt ∧ t ≤ bt ∧ bt < xs.length ∧ IsInt (bt : Int) vb ∧ sg₁ "bottom" = some vb ∧ (∀ z : Str, z ≠ "bottom" → sg₁ z = upd sg' "top" v z) ∧ ∀ i, t ≤ i → i ≤ bt → sh xs l r i = true) (xs.length - t) y₅
        ⟨t, v, rfl, Nat.le_refl _, htn, hR, rfl, fun z hz => upd_ne hz, fun i h1 h2 => by rw [show i = t from by omega]; exact hsht⟩ ?wturn)
      case wturn =>
        rintro m sg₁ s₆ E₆ ⟨bt, vb, rfl, hb1, hb2, hvb, hsb, hsz, hall⟩ y₆
        have wsh : sg₁ "shows" = some (.ref Dh) := (hsz _ (by decide)).trans nsh
        have wdu : sg₁ "due" = some (.ref Du) := (hsz _ (by decide)).trans ndu
        have wle : sg₁ "left" = some lv := (hsz _ (by decide)).trans nle
        have wri : sg₁ "right" = some rv := (hsz _ (by decide)).trans nri
        have wto : sg₁ "top" = some v := hsz _ (by decide)
        refine (t_plain (c := (LC b pm L).up ((Du, LP (uvs ++ uvs')) :: T ++ T') sg₁ gs') (b := sh xs l r (bt + 1)) (e_item (l := Dh) (xs := showVals xs l r) (k := (bt : Int) + 1) (e_local wsh) (e_add (e_locI hsb hvb) e_int) (.inl hDh') (by omega) (by omega) (by rw [show ((bt : Int) + 1).toNat = bt + 1 from by omega]; exact showVals_get (by omega)))).use y₆ fun q s₇ hq₇ _ y₇ => ?_
        subst hq₇
        cases hn : sh xs l r (bt + 1) with
        | true =>
          simp only [if_true]
          refine wpAny_execs_cons (x_aug (c := (LC b pm L).up ((Du, LP (uvs ++ uvs')) :: T ++ T') sg₁ gs') (.loc rfl rfl rfl fun h => nomatch h) hsb hvb e_int y₇ fun u s₈ hu y₈ => wpAny_execs_nil ⟨rfl, xs.length - (bt + 1), _, ?_, ⟨bt + 1, u, rfl, by omega, sh_lt hn, by rw [show ((bt + 1 : Nat) : Int) = (bt : Int) + 1 from by omega]; exact hu, upd_same, fun z hz => (upd_ne hz).trans (hsz z hz), fun i h1 h2 => ?_⟩, y₈⟩)
          · have := sh_lt hn; omega
          · by_cases hib : i ≤ bt
            · exact hall i h1 hib
            · rw [show i = bt + 1 from by omega]; exact hn
        | false =>
          simp only [Bool.false_eq_true, if_false]
          refine wpAny_execs_cons (x_append_at (c := (LC b pm L).up ((Du, LP (uvs ++ uvs')) :: T ++ T') sg₁ gs') (X := []) (Y := T ++ T') rfl rfl y₇ (e_local wdu) (e_tupleV (s_cons (e_cell (v := lv) wle haL) (s_cons (e_cell (v := rv) wri haR) (s_cons (e_local wto) (s_cons (e_local hsb) s_nil)))) ?_) (by rw [List.length_append]; omega) ?_)
          · rintro vs ⟨v, r, rfl, _, v', r', rfl, _, v₂, r₂, rfl, _, v₃, r₃, rfl, _, rfl⟩; simp
          rintro w N s₈ ⟨Tu, vs, rfl, rfl, v1, r1, rfl, rfl, v2, r2, rfl, rfl, v3, r3, rfl, rfl, v4, r4, rfl, rfl, rfl⟩ y₈
          refine wpAny_execs_nil (wpAny_execs_nil (TurnEnd.next (O := [(Tu, TP [v1, v2, v3, v4])] ++ O') (Mu := (Du, LP (uvs ++ (uvs' ++ [.ref Tu]))) :: T) (sg := sg₁) (gs := gs') ⟨rfl, fun q hq => List.mem_append_right _ (hO' q hq), fun z h1 h2 => (hsz z h2).trans ((upd_ne h1).trans (hsg z h1 h2)), uvs' ++ [.ref Tu], P ++ [((t : Int), (bt : Int))], rfl, ?_, ?_, ?_⟩ ?_))
          · rw [hrange, htop, if_pos rfl, List.map_append, hP1]; simp
          · intro p hp
            rcases List.mem_append.mp hp with hp | hp
            · exact hP2 p hp
            · rw [List.mem_singleton.mp hp]
              exact ⟨t, bt, rfl, hb1, hall, hn, htop⟩
          · rw [List.map_append]
            exact paired_append (hP3.mono fun a u h => h.mono fun q hq => List.mem_append_right _ hq) (.cons ⟨Tu, _, _, _, _, rfl, .head _, hl, hr, hR, hvb⟩ .nil)
          · rw [← List.append_assoc uvs]
            refine y₈.sub fun q hq => ?_
            rcases List.mem_append.mp hq with h | h
            · exact List.mem_append_right _ (List.mem_append_left _ h)
            · rcases List.mem_append.mp h with h | h
              · exact List.mem_append_left _ h
              · exact List.mem_append_right _ (List.mem_append_right _ h)
    · intro hq s₄ y₄
      have htop : topB xs l r t = false := by unfold topB; simpa using hq
      refine wpAny_execs_nil (wpAny_execs_nil (TurnEnd.next (O := O') (Mu := (Du, LP (uvs ++ uvs')) :: T) (sg := upd sg' "top" vt) (gs := gs') ⟨rfl, hO', fun z h1 h2 => (upd_ne h1).trans (hsg z h1 h2), uvs', P, rfl, ?_, hP2, hP3⟩ y₄))
      rw [hrange, htop, hP1]; simp
  case done =>
    rintro O' Mu sg' gs' s₃ ⟨rfl, hO', hsg, uvs', P, rfl, hP1, hP2, hP3⟩ y₃
    rw [irange_length] at hP1
    have hPe := row_eq hlr hr6 hP1 hP2
    subst hPe
    exact wpAny_execs_nil (k uvs' O' sg' s₃ hP3 (fun q hq => hO' q (hO₂ q hq)) (fun z h1 h2 h3 h4 => (hsg z h3 h4).trans ((upd_ne h2).trans (upd_ne h1))) y₃)
end
end Mine

namespace Mine

theorem eqv_int {A : Around} {s : Shared} {n : Int} {u v : Value} (h : IsInt n u) (h' : IsInt n v) : SeqAt.EqAt A s u v true := by
  obtain ⟨t, rfl⟩ := h
  obtain ⟨t', rfl⟩ := h'
  have := SeqAt.EqAt.int_int (A := A) (s := s) n t n t'
  simpa using this
theorem eq_quad {A : Around} {s : Shared} {c : Cx} {O : Led} {a : Int × Int × Int × Int} {u v : Value} (hu : A.units < cLine) (y : At c O s) (h : Q4 a u O) (h' : Q4 a v O) : SeqAt.EqAt A s u v true := by
  obtain ⟨T, v1, v2, v3, v4, rfl, hT, h1, h2, h3, h4⟩ := h
  obtain ⟨T', v1', v2', v3', v4', rfl, hT', h1', h2', h3', h4'⟩ := h'
  by_cases hne : T = T'
  · subst hne; exact SeqAt.EqAt.same _
  · refine SeqAt.EqAt.of_refs hne ?_
    have := SeqAt.RcAt.tuples (A := A) (s := s) (e := fun _ => true) (y.own _ hT).isTuple (y.own _ hT').isTuple hu fun j hj hj' => ?_
    · exact this
    · have hj4 : j < 4 := by simpa using hj
      have : j = 0 ∨ j = 1 ∨ j = 2 ∨ j = 3 := by omega
      rcases this with rfl | rfl | rfl | rfl
      · exact eqv_int h1 h1'
      · exact eqv_int h2 h2'
      · exact eqv_int h3 h3'
      · exact eqv_int h4 h4'

section
variable {b : Cx} {pm pw : Value} {L : Addr} {s : Shared} {E : Value → Shared → Prop}

set_option maxHeartbeats 8000000 in
theorem loopB (o : ∀ Mu sg gs, Own ((LC b pm L).up Mu sg gs)) (hu : b.A.units < cLine) (hu1 : b.A.in1.units < cLine) {Q : Flow → Shared → Prop} {sg : Str → Option Value} {gs : Array GenState} {xs : List Int} {Dx Du Dt : Addr} {xvs tvs : List Value} {O : Led}
    (hxl : xs.length ≤ 15) (hDx : (Dx, LP xvs) ∈ O) (hxv : Paired (fun x u => IsStr (textS (bitsOf x)) u) xs xvs) (hDt : (Dt, LP tvs) ∈ O) (htv : Paired (fun a u => Q4 a u O) (leftTo xs 6) tvs) (hsx : sg "texts" = some (.ref Dx)) (hst : sg "told" = some (.ref Dt)) (hsu : sg "due" = some (.ref Du)) (y : At ((LC b pm L).up [(Du, LP [])] sg gs) O s)
    (k : ∀ Mu O' sg' s', At ((LC b pm L).up Mu sg' gs) O' s' → Q (.ret (.bool true)) s') :
    wpAny (model b.prog b.w) b.A (execs ((fnBody 5).drop 8) (lawEnv pm L)) Q E s := by
  obtain ⟨aL, haL⟩ := env_c1 (pm := pm) (L := L) "left" (by kernel_rfl)
  obtain ⟨aR, haR⟩ := env_c1 (pm := pm) (L := L) "right" (by kernel_rfl)
  refine wpAny_execs_cons (x_for (c := (LC b pm L).up [(Du, LP [])] sg gs) (items := irange 0 6) (R := IsInt) (.cell aL rfl rfl haL rfl) ?src rfl
    (fun i O' Mu sg' gs' => gs' = gs ∧ (∀ q ∈ O, q ∈ O') ∧ sg' "texts" = some (.ref Dx) ∧ sg' "told" = some (.ref Dt) ∧ sg' "due" = some (.ref Du) ∧ ∃ uvs, Mu = [(Du, LP uvs)] ∧ Paired (fun a u => Q4 a u O') (leftTo xs i) uvs) y ⟨rfl, fun q hq => hq, hsx, hst, hsu, [], rfl, .nil⟩ ?turn ?done)
  case src => exact Src.eq rfl (src_range1 (n := 6) (o _ _ _).std e_int (by decide) (by decide))
  case turn =>
    rintro i li vi O' Mu sg' gs' T H s₁ E' hi hR ⟨rfl, hO', hsx', hst', hsu', uvs, rfl, huv⟩ y₁
    obtain ⟨hi6, rfl⟩ := irange_lt hi
    rw [Int.zero_add] at hR
    refine wpAny_execs_cons (x_for (c := (LC b pm L).up ((Du, LP uvs) :: T) (upd sg' "left" vi) gs') (items := irange (i : Int) (6 - i)) (R := IsInt) (.cell aR rfl rfl haR rfl) ?src2 rfl
      (fun j O₂ Mu₂ sg₂ gs₂ => gs₂ = gs' ∧ (∀ q ∈ H ++ O', q ∈ O₂) ∧ sg₂ "texts" = some (.ref Dx) ∧ sg₂ "told" = some (.ref Dt) ∧ sg₂ "due" = some (.ref Du) ∧ sg₂ "left" = some vi ∧ ∃ uvs₂, Mu₂ = (Du, LP uvs₂) :: T ∧ Paired (fun a u => Q4 a u O₂) (leftTo xs i ++ rightTo xs i j) uvs₂) y₁
      ⟨rfl, fun q hq => hq, hsx', hst', hsu', rfl, uvs, rfl, ?_⟩ ?turn2 ?done2)
    case src2 =>
      refine Src.eq ?_ (src_range2 (a := (i : Int)) (b := 6) (o _ _ _).std ((e_cell (v := vi) rfl haL).mono fun u hu => (show IsInt (i : Int) u from hu ▸ hR)) e_int (by omega) (by omega) (by decide) (by decide))
      congr 1; omega
    · rw [show rightTo xs i 0 = [] from rfl, List.append_nil]
      exact huv.mono fun a u h => h.mono fun q hq => List.mem_append_right _ hq
    case turn2 =>
      rintro j rj vj O₂ Mu₂ sg₂ gs₂ T₂ H₂ s₂ E₂ hj hRj ⟨rfl, hO₂, hsx₂, hst₂, hsu₂, hsl₂, uvs₂, rfl, huv₂⟩ y₂
      obtain ⟨hj6, rfl⟩ := irange_lt hj
      have hRj' : IsInt ((i + j : Nat) : Int) vj := by rw [show ((i + j : Nat) : Int) = (i : Int) + (j : Int) from by omega]; exact hRj
      have hOO : ∀ q ∈ O, q ∈ H₂ ++ O₂ := fun q hq => List.mem_append_right _ (hO₂ q (List.mem_append_right _ (hO' q hq)))
      have hul : uvs₂.length ≤ 50000 := by
        have h1 := huv₂.length
        rw [List.length_append] at h1
        have h2 := leftTo_len hxl i
        have h3 := rightTo_len hxl i j
        omega
      refine turnB (b := b) (pm := pm) (L := L) (sg := upd sg₂ "right" vj) (gs := gs₂) (xs := xs) (Dx := Dx) (Du := Du) (uvs := uvs₂) (T := T ++ T₂) (O := H₂ ++ O₂) (l := i) (r := i + j) (lv := vi) (rv := vj) o hxl (hOO _ hDx) hxv hsx₂ hsu₂ hsl₂ hR rfl hRj' (by omega) (by omega) hul y₂ ?_
      intro uvs' O₃ sg₃ s₃ huv' hO₃ hsg y₃
      refine TurnEnd.next (O := O₃) (Mu := (Du, LP (uvs₂ ++ uvs')) :: T) (sg := sg₃) (gs := gs₂) ⟨rfl, fun q hq => hO₃ q (List.mem_append_right _ (hO₂ q hq)), (hsg _ (by decide) (by decide) (by decide) (by decide)).trans hsx₂, (hsg _ (by decide) (by decide) (by decide) (by decide)).trans hst₂, (hsg _ (by decide) (by decide) (by decide) (by decide)).trans hsu₂, (hsg _ (by decide) (by decide) (by decide) (by decide)).trans hsl₂, _, rfl, ?_⟩ (y₃.sub fun q hq => ?_)
      · rw [rightTo_succ, ← List.append_assoc]
        exact paired_append (huv₂.mono fun a u h => h.mono fun q hq => hO₃ q (List.mem_append_right _ hq)) huv'
      · rcases List.mem_append.mp hq with h | h
        · exact hO₃ q (List.mem_append_left _ h)
        · exact h
    case done2 =>
      rintro O₂ Mu₂ sg₂ gs₂ s₂ ⟨rfl, hO₂, hsx₂, hst₂, hsu₂, hsl₂, uvs₂, rfl, huv₂⟩ y₂
      rw [irange_length] at huv₂
      refine wpAny_execs_nil (TurnEnd.next (O := O₂) (Mu := [(Du, LP uvs₂)]) (sg := sg₂) (gs := gs₂) ⟨rfl, fun q hq => hO₂ q (List.mem_append_right _ (hO' q hq)), hsx₂, hst₂, hsu₂, uvs₂, rfl, ?_⟩ (y₂.sub fun q hq => ?_))
      · rw [leftTo_succ]; exact huv₂
      · rcases List.mem_append.mp hq with h | h
        · exact hO₂ q (List.mem_append_left _ h)
        · exact h
  case done =>
    rintro O' Mu sg' gs' s₁ ⟨rfl, hO', hsx', hst', hsu', uvs, rfl, huv⟩ y₁
    rw [irange_length] at huv
    refine wpAny_execs_cons (wpAny_Return_some ((e_cmp (c := (LC b pm L).up [(Du, LP uvs)] sg' gs') (q := true) (e_local hst') (e_local hsu') ?_).use y₁ fun v s₂ hv _ y₂ => ?_))
    · rintro p q rfl rfl
      refine q_eq_alike (xs := tvs) (ys := uvs) hu (.inl (hO' _ hDt)) (.inr (.head _)) (by rw [← htv.length, ← huv.length]) fun s₃ y₃ j h1 h2 => ?_
      have h1' : j < tvs.length := by simpa using h1
      have h2' : j < uvs.length := by simpa using h2
      have hj : j < (leftTo xs 6).length := by rw [htv.length]; exact h1'
      have q1 := paired_get htv j (leftTo xs 6)[j] tvs[j] (by simp [hj]) (by simp [h1'])
      have q2 := paired_get huv j (leftTo xs 6)[j] uvs[j] (by simp [hj]) (by simp [h2'])
      have := eq_quad (A := b.A.in1) (s := s₃) hu1 y₃ (q1.mono hO') q2
      simpa using this
    · subst hv
      exact k _ O' sg' s₂ y₂
end

set_option maxHeartbeats 4000000 in
theorem law1 : PySem.Challenge.rw_dm0182_01.Holds := by
  refine enter fun w s s' mg mb pm l vs ns E o hu hstd hbi hL hI hn y => ?_
  have o' : ∀ Mu sg gs, Own ((LC (lawC w s mg mb pm l) pm s.heap.objs.size).up Mu sg gs) := fun Mu sg gs =>
    ⟨⟨o.std.hh, o.std.gl, o.std.bu, o.std.len, o.std.range, o.std.list, o.std.iter, o.std.next⟩, o.ok, o.room, o.cls, o.box, o.far⟩
  have hstr : (lawC w s mg mb pm l).mg "str" = none ∧ (lawC w s mg mb pm l).mb "str" = some (.type "str") := ⟨hstd _ (by decide), (hbi _ (by decide)).trans rfl⟩
  have hdeep : (lawC w s mg mb pm l).A.depth + 50 < recursionLimit := of_decide_eq_true (by kernel_rfl)
  have hu1 : (lawC w s mg mb pm l).A.in1.units < cLine := of_decide_eq_true (by kernel_rfl)
  have hlen := numsOf_len ns
  obtain ⟨pw, hfn⟩ := (theK_ok w.params).fn21
  refine start1 (b := lawC w s mg mb pm l) (pm := pm) (L := s.heap.objs.size) o' hL hI hn rfl y fun Dn nvs Dc O₁ sg₁ s₁ hP hDn hsn hsc y₁ => ?_
  refine cells1 (b := lawC w s mg mb pm l) (pm := pm) (L := s.heap.objs.size) o' hP hDn hsn hsc y₁ fun cvs O₂ sg₂ s₂ hcv hO₂ hsn₂ hsc₂ y₂ => ?_
  refine pairs1 (b := lawC w s mg mb pm l) (pm := pm) (pw := pw) (L := s.heap.objs.size) o' hdeep hfn (hO₂ _ hDn) hcv hsn₂ hsc₂ y₂ fun Dp pvs Dt O₃ sg₃ gs₃ s₃ hpv hDp hO₃ hsn₃ hsp₃ hst₃ hbr₃ y₃ => ?_
  refine loopA (b := lawC w s mg mb pm l) (pm := pm) (pw := pw) (L := s.heap.objs.size) o' hdeep hfn hlen.2 hpv hDp hsn₃ hsp₃ hst₃ hbr₃ y₃ fun tvs O₄ sg₄ gs₄ s₄ htv hO₄ hsn₄ hst₄ hbr₄ y₄ => ?_
  refine texts1 (b := lawC w s mg mb pm l) (pm := pm) (L := s.heap.objs.size) o' hstr hlen.2 (hO₄ _ (hO₃ _ (hO₂ _ hDn))) hP hsn₄ hst₄ y₄ fun Dx xvs Du O₅ sg₅ s₅ hxv hDx hDt hO₅ hsx hst₅ hsu y₅ => ?_
  exact loopB (b := lawC w s mg mb pm l) (pm := pm) (L := s.heap.objs.size) o' hu hu1 hlen.2 hDx hxv hDt (htv.mono fun a u h => h.mono hO₅) hsx hst₅ hsu y₅ fun Mu O' sg' s' y' => ⟨rfl, _, O', rfl, rfl, hbr₄, y'⟩
end Mine


set_option maxRecDepth 100000 in
theorem PySem.Challenge.cw_dm0182_01_holds : PySem.Challenge.rw_dm0182_01.Holds :=
  Mine.law1
