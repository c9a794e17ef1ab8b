import PyProof.Rows.All
import Wide.All
import OpenK.AllK
import Wide.FinOn
import PySem.Challenge.RW_dm0182_06
open PySem PySem.W PyProof.Rows PySem.Calls
open Sem (wp)
set_option Elab.async false
set_option maxRecDepth 100000
set_option linter.unusedVariables false

namespace Mine

/-- what is known of one object -/
abbrev Ent := Addr × (Obj → Prop)
abbrev Led := List Ent
def Has (h : Heap) (p : Ent) : Prop := ∃ o, h.get? p.1 = some o ∧ p.2 o

theorem Has.keep {h h' : Heap} {p : Ent} (x : Has h p) (k : ∀ o, h.get? p.1 = some o → h'.get? p.1 = some o) : Has h' p :=
  let ⟨o, e, q⟩ := x; ⟨o, k o e, q⟩
theorem Has.alive {h : Heap} {p : Ent} (x : Has h p) : h.get? p.1 ≠ none := fun e => by
  obtain ⟨o, e', _⟩ := x; rw [e'] at e; cases e

structure Cx where
  prog : Program
  w : World
  A : Around
  B : Heap
  env : Env
  os : OsState
  wc : Bool
  Mu : Led
  sg : Str → Option Value
  gs : Array GenState
  K : Frag
  mg : Str → Option Value
  mb : Str → Option Value

def Cx.places (c : Cx) : List Addr := c.env.locals :: ((if c.wc then c.env.cells.map (·.2) else []) ++ c.Mu.map (·.1))

structure At (c : Cx) (O : Led) (s : Shared) : Prop where
  base : ∀ b o, c.B.get? b = some o → s.heap.get? b = some o
  own : ∀ p ∈ O, Has s.heap p
  mu : ∀ p ∈ c.Mu, Has s.heap p
  ns : ∃ m, s.heap.Ns c.env.locals m ∧ ∀ x v, c.env.kindOf x = some .local → c.sg x = some v → m x = some v
  cell : ∀ x a v, c.env.cells.lookup x = some a → c.sg x = some v → s.heap.IsCell a (some v)
  cellAlive : ∀ p ∈ c.env.cells, ∃ v, s.heap.IsCell p.2 v
  nodup : c.places.Nodup
  offO : ∀ p ∈ O, p.1 ∉ c.places
  offB : ∀ b o, c.B.get? b = some o → b ∉ c.places
  gens : s.gens = c.gs
  os : s.os = c.os
  kin : c.K.In c.B
  tg : c.B.Ns mainGlobals c.mg
  tb : c.B.Ns builtinsNs c.mb
  nl : c.B.NoLimit

/-- new objects, the old ones as they were -/
def Kp (s s' : Shared) : Prop := Keeps s s'
def Grow (N : Led) (s s' : Shared) : Prop := Kp s s' ∧ ∀ p ∈ N, s.heap.get? p.1 = none ∧ Has s'.heap p

theorem Kp.refl (s : Shared) : Kp s s := ⟨s.heap, s.toks, rfl, fun _ _ e => e⟩
theorem Kp.trans {s s₁ s₂ : Shared} (a : Kp s s₁) (b : Kp s₁ s₂) : Kp s s₂ := by
  obtain ⟨h, t, rfl, k⟩ := a
  obtain ⟨h', t', rfl, k'⟩ := b
  exact ⟨h', t', rfl, fun b o e => k' b o (k b o e)⟩
theorem Kp.get {s s' : Shared} (a : Kp s s') {b : Addr} {o : Obj} (e : s.heap.get? b = some o) : s'.heap.get? b = some o := by
  obtain ⟨h, t, rfl, k⟩ := a; exact k b o e
theorem Kp.gens {s s' : Shared} (a : Kp s s') : s'.gens = s.gens := by obtain ⟨h, t, rfl, k⟩ := a; rfl
theorem Kp.os {s s' : Shared} (a : Kp s s') : s'.os = s.os := by obtain ⟨h, t, rfl, k⟩ := a; rfl
theorem Kp.none {s s' : Shared} (a : Kp s s') {b : Addr} (e : s'.heap.get? b = none) : s.heap.get? b = none := by
  cases q : s.heap.get? b with
  | none => rfl
  | some o => rw [a.get q] at e; cases e

theorem Grow.nil {s s' : Shared} (k : Kp s s') : Grow [] s s' := ⟨k, fun _ h => nomatch h⟩
theorem Grow.trans {N N' : Led} {s s₁ s₂ : Shared} (a : Grow N s s₁) (b : Grow N' s₁ s₂) : Grow (N' ++ N) s s₂ := by
  refine ⟨a.1.trans b.1, fun p hp => ?_⟩
  rcases List.mem_append.mp hp with h | h
  · exact ⟨a.1.none (b.2 p h).1, (b.2 p h).2⟩
  · exact ⟨(a.2 p h).1, (a.2 p h).2.keep fun o e => b.1.get e⟩
theorem Grow.one {s s' : Shared} {p : Ent} (k : Kp s s') (n : s.heap.get? p.1 = none) (h : Has s'.heap p) : Grow [p] s s' :=
  ⟨k, fun q hq => by rw [List.mem_singleton.mp hq]; exact ⟨n, h⟩⟩
theorem Grow.sub {N N' : Led} {s s' : Shared} (a : Grow N s s') (h : ∀ p ∈ N', p ∈ N) : Grow N' s s' := ⟨a.1, fun p hp => a.2 p (h p hp)⟩

theorem Cx.mem_places {c : Cx} {a : Addr} : a ∈ c.places ↔ a = c.env.locals ∨ (c.wc = true ∧ ∃ x, (x, a) ∈ c.env.cells) ∨ ∃ p, (a, p) ∈ c.Mu := by
  unfold Cx.places
  cases h : c.wc <;> simp

theorem At.alive {c : Cx} {O : Led} {s : Shared} (x : At c O s) {a : Addr} (h : a ∈ c.places) : s.heap.get? a ≠ none := by
  intro e
  rcases Cx.mem_places.mp h with rfl | ⟨hw, y, hy⟩ | ⟨p, hp⟩
  · obtain ⟨m, ⟨o, _, _, ho, _⟩, _⟩ := x.ns
    rw [ho] at e; cases e
  · obtain ⟨v, o, ho, _⟩ := x.cellAlive _ hy
    dsimp only at ho
    rw [ho] at e; cases e
  · exact (x.mu _ hp).alive e

theorem At.grow {c : Cx} {O N : Led} {s s' : Shared} (x : At c O s) (g : Grow N s s') : At c (N ++ O) s' := by
  obtain ⟨k, n⟩ := g
  refine ⟨fun b o e => k.get (x.base b o e), fun p hp => ?_, fun p hp => (x.mu p hp).keep fun o e => k.get e, ?_, fun y a v hy hv => ?_, fun p hp => ?_, x.nodup, fun p hp => ?_, x.offB, k.gens.trans x.gens, k.os.trans x.os, x.kin, x.tg, x.tb, x.nl⟩
  · rcases List.mem_append.mp hp with h | h
    · exact (n p h).2
    · exact (x.own p h).keep fun o e => k.get e
  · obtain ⟨m, hn, hm⟩ := x.ns
    exact ⟨m, hn.keeps fun b o e => k.get e, hm⟩
  · exact (x.cell y a v hy hv).keeps fun b o e => k.get e
  · obtain ⟨v, hv⟩ := x.cellAlive p hp
    exact ⟨v, hv.keeps fun b o e => k.get e⟩
  · rcases List.mem_append.mp hp with h | h
    · exact fun hq => x.alive hq (n p h).1
    · exact x.offO p h
theorem At.keeps {c : Cx} {O : Led} {s s' : Shared} (x : At c O s) (k : Kp s s') : At c O s' := by simpa using x.grow (Grow.nil k)
theorem At.sub {c : Cx} {O O' : Led} {s : Shared} (x : At c O s) (h : ∀ p ∈ O', p ∈ O) : At c O' s :=
  ⟨x.base, fun p hp => x.own p (h p hp), x.mu, x.ns, x.cell, x.cellAlive, x.nodup, fun p hp => x.offO p (h p hp), x.offB, x.gens, x.os, x.kin, x.tg, x.tb, x.nl⟩

/-- a tree that changes nothing that stands -/
def Tr (c : Cx) (O : Led) {α : Type} (t : Sem α) (P : α → Led → Prop) : Prop :=
  ∀ s E, At c O s → wpAny (model c.prog c.w) c.A t (fun v s' => ∃ N, P v N ∧ Grow N s s') E s
/-- .. and hands nothing new on -/
def TV (c : Cx) (O : Led) {α : Type} (t : Sem α) (P : α → Prop) : Prop :=
  ∀ s E, At c O s → wpAny (model c.prog c.w) c.A t (fun v s' => P v ∧ Kp s s') E s

section
variable {c : Cx} {O : Led} {α β : Type} {s : Shared} {E : Value → Shared → Prop}

theorem Tr.use {t : Sem α} {P : α → Led → Prop} {Q : α → Shared → Prop} (h : Tr c O t P) (x : At c O s)
    (k : ∀ v s' N, P v N → Grow N s s' → At c (N ++ O) s' → Q v s') : wpAny (model c.prog c.w) c.A t Q E s :=
  wpAny_mono (h s E x) (fun v s' ⟨N, p, g⟩ => k v s' N p g (x.grow g)) fun _ _ e => e
theorem TV.use {t : Sem α} {P : α → Prop} {Q : α → Shared → Prop} (h : TV c O t P) (x : At c O s)
    (k : ∀ v s', P v → Kp s s' → At c O s' → Q v s') : wpAny (model c.prog c.w) c.A t Q E s :=
  wpAny_mono (h s E x) (fun v s' ⟨p, g⟩ => k v s' p g (x.keeps g)) fun _ _ e => e
theorem TV.tr {t : Sem α} {P : α → Prop} (h : TV c O t P) : Tr c O t (fun v N => N = [] ∧ P v) :=
  fun s E x => wpAny_mono (h s E x) (fun _ _ ⟨p, g⟩ => ⟨[], ⟨rfl, p⟩, Grow.nil g⟩) fun _ _ e => e
theorem TV.mono {t : Sem α} {P P' : α → Prop} (h : TV c O t P) (k : ∀ v, P v → P' v) : TV c O t P' :=
  fun s E x => wpAny_mono (h s E x) (fun _ _ ⟨p, g⟩ => ⟨k _ p, g⟩) fun _ _ e => e
theorem Tr.mono {t : Sem α} {P P' : α → Led → Prop} (h : Tr c O t P) (k : ∀ v N, P v N → P' v N) : Tr c O t P' :=
  fun s E x => wpAny_mono (h s E x) (fun _ _ ⟨N, p, g⟩ => ⟨N, k _ _ p, g⟩) fun _ _ e => e
theorem Tr.weak {O' : Led} {t : Sem α} {P : α → Led → Prop} (h : Tr c O t P) (k : ∀ p ∈ O, p ∈ O') : Tr c O' t P := fun s E x => h s E (x.sub k)
theorem TV.weak {O' : Led} {t : Sem α} {P : α → Prop} (h : TV c O t P) (k : ∀ p ∈ O, p ∈ O') : TV c O' t P := fun s E x => h s E (x.sub k)

theorem TV.pure {a : α} {P : α → Prop} (h : P a) : TV c O (Pure.pure a) P := fun s _ _ => wpAny_pure ⟨h, Kp.refl s⟩
theorem TV.bind {t : Sem α} {f : α → Sem β} {P : α → Prop} {R : β → Prop} (h : TV c O t P) (k : ∀ v, P v → TV c O (f v) R) : TV c O (t >>= f) R := fun s E x =>
  wpAny_bind (h.use x fun v s' p g x' => (k v p).use x' fun u s'' r g' _ => ⟨r, g.trans g'⟩)
theorem Tr.bindV {t : Sem α} {f : α → Sem β} {P : α → Prop} {R : β → Led → Prop} (h : TV c O t P) (k : ∀ v, P v → Tr c O (f v) R) : Tr c O (t >>= f) R := fun s E x =>
  wpAny_bind (h.use x fun v s' p g x' => (k v p).use x' fun u s'' N r g' _ => ⟨N, r, by simpa using (Grow.nil g).trans g'⟩)
end

def IsInt (i : Int) (v : Value) : Prop := ∃ t, v = .int i t
def IsStr (x : Str) (v : Value) : Prop := ∃ t, v = .str x t

theorem Kp.toks {s : Shared} {n : Nat} : Kp s { s with toks := n } := ⟨s.heap, n, rfl, fun _ _ e => e⟩
theorem Kp.push {s : Shared} {o : Obj} : Kp s { s with heap := s.heap.push o } := ⟨_, s.toks, rfl, fun _ _ e => Heap.get?_push_of_some _ e⟩
theorem Kp.pushToks {s : Shared} {o : Obj} {n : Nat} : Kp s { s with heap := s.heap.push o, toks := n } := ⟨_, n, rfl, fun _ _ e => Heap.get?_push_of_some _ e⟩

section
variable {c : Cx} {O : Led} {s : Shared}
theorem At.gl (x : At c O s) : s.heap.Ns mainGlobals c.mg := x.tg.keeps x.base
theorem At.bi (x : At c O s) : s.heap.Ns builtinsNs c.mb := x.tb.keeps x.base
theorem At.nolimit (x : At c O s) : s.heap.NoLimit := x.nl.keeps x.base
theorem At.In (x : At c O s) : c.K.In s.heap := x.kin.keeps x.base
end
end Mine

namespace Mine

/-- a plain list, a plain tuple -/
def LP (xs : List Value) (o : Obj) : Prop := ∃ n, o = { cls := .type "list", data := .seq xs.toArray n }
def TP (xs : List Value) (o : Obj) : Prop := ∃ n, o = { cls := .type "tuple", data := .seq xs.toArray n }
def InL (c : Cx) (O : Led) (p : Ent) : Prop := p ∈ O ∨ p ∈ c.Mu
theorem At.has {c : Cx} {O : Led} {s : Shared} {p : Ent} (x : At c O s) (h : InL c O p) : Has s.heap p := h.elim (x.own p) (x.mu p)
theorem Has.isList {h : Heap} {l : Addr} {xs : List Value} (x : Has h (l, LP xs)) : h.IsList l xs.toArray := by
  obtain ⟨o, e, n, rfl⟩ := x; exact ⟨_, e, rfl, n, rfl⟩
theorem Has.isL {h : Heap} {l : Addr} {xs : List Value} (x : Has h (l, LP xs)) : ∃ n, IsL h l xs.toArray n := by
  obtain ⟨o, e, n, rfl⟩ := x; exact ⟨n, e⟩
theorem Has.isTuple {h : Heap} {l : Addr} {xs : List Value} (x : Has h (l, TP xs)) : h.IsTuple l xs.toArray := by
  obtain ⟨o, e, n, rfl⟩ := x; exact ⟨_, e, rfl, n, rfl⟩
theorem Has.isTup {h : Heap} {l : Addr} {xs : List Value} (x : Has h (l, TP xs)) : IsTup h l xs.toArray := by
  obtain ⟨o, e, n, rfl⟩ := x; exact ⟨_, e, rfl, n, rfl⟩
theorem Has.newList {h : Heap} {xs : List Value} : Has (h.push { cls := .type "list", data := .seq xs.toArray }) (h.objs.size, LP xs) := ⟨_, Heap.get?_push_size _ rfl, 0, rfl⟩
theorem Has.newTuple {h : Heap} {xs : List Value} : Has (h.push { cls := .type "tuple", data := .seq xs.toArray }) (h.objs.size, TP xs) := ⟨_, Heap.get?_push_size _ rfl, 0, rfl⟩
theorem fresh_size (h : Heap) : h.get? h.objs.size = none := by
  cases e : h.get? h.objs.size with
  | none => rfl
  | some o => exact absurd (Heap.lt_size e) (Nat.lt_irrefl _)
theorem fresh_le {h : Heap} {a : Addr} (ha : h.objs.size ≤ a) : h.get? a = none := by
  cases e : h.get? a with
  | none => rfl
  | some o => exact absurd (Heap.lt_size e) (Nat.not_lt.mpr ha)

section
variable {c : Cx} {O : Led}

theorem e_int {i : Int} {k : Nat} {pos : Pos} : TV c O (eval (.Constant (.int i) k pos) c.env) (IsInt i) := fun s E x => wpAny_Constant_int ⟨⟨_, rfl⟩, Kp.toks⟩
theorem e_str {y : Str} {k : Nat} {pos : Pos} : TV c O (eval (.Constant (.str y) k pos) c.env) (IsStr y) := fun s E x => wpAny_Constant_str ⟨⟨_, rfl⟩, Kp.toks⟩
theorem e_none {k : Nat} {pos : Pos} : TV c O (eval (.Constant .none k pos) c.env) (· = .none) := fun s E x => wpAny_pure (a := Value.none) ⟨rfl, Kp.refl s⟩
theorem e_bool {b : Bool} {k : Nat} {pos : Pos} : TV c O (eval (.Constant (.bool b) k pos) c.env) (· = .bool b) := fun s E x => wpAny_pure (a := Value.bool b) ⟨rfl, Kp.refl s⟩

theorem e_local {x : Str} {v : Value} {pos : Pos} (hv : c.sg x = some v) (hl : c.env.kindOf x = some .local := by rfl) (hk : c.env.scope.kind = .function := by rfl) (hd : (x == ("__debug__" : Str)) = false := by decide) :
    TV c O (eval (.Name x pos) c.env) (· = v) := fun s E y => by
  obtain ⟨m, hn, hm⟩ := y.ns
  exact wpAny_Name (wpAny_loadName_local hk hl hn (hm x v hl hv) ⟨rfl, Kp.refl s⟩) hd
theorem e_cell {x : Str} {v : Value} {a : Addr} {pos : Pos} (hv : c.sg x = some v) (ha : c.env.cells.lookup x = some a) (hl : c.env.kindOf x = some .cell := by rfl) (hk : c.env.scope.kind = .function := by rfl) (hd : (x == ("__debug__" : Str)) = false := by decide) :
    TV c O (eval (.Name x pos) c.env) (· = v) := fun s E y => by
  exact wpAny_Name (wpAny_loadName_cell hk hl ha (y.cell x a v ha hv) ⟨rfl, Kp.refl s⟩) hd
theorem e_glob {x : Str} {v : Value} {pos : Pos} (hv : c.mg x = some v) (hl : c.env.kindOf x = some .globalImplicit := by rfl) (hg : c.env.globals = mainGlobals := by rfl) (hk : c.env.scope.kind = .function := by rfl) (hd : (x == ("__debug__" : Str)) = false := by decide) :
    TV c O (eval (.Name x pos) c.env) (· = v) := fun s E y => Name_function_global hk hl (loadGlobal_global (env := c.env) (by rw [hg]; exact y.gl) hv ⟨rfl, Kp.refl s⟩) hd
theorem e_bi {x : Str} {v : Value} {pos : Pos} (h0 : c.mg x = none) (hv : c.mb x = some v) (hl : c.env.kindOf x = some .globalImplicit := by rfl) (hg : c.env.globals = mainGlobals := by rfl) (hb : c.env.builtins = builtinsNs := by rfl) (hk : c.env.scope.kind = .function := by rfl) (hd : (x == ("__debug__" : Str)) = false := by decide) :
    TV c O (eval (.Name x pos) c.env) (· = v) := fun s E y => Name_function_global hk hl (loadGlobal_builtin (env := c.env) (by rw [hg]; exact y.gl) h0 (by rw [hb]; exact y.bi) hv ⟨rfl, Kp.refl s⟩) hd

theorem e_bin {l r : Expr} {op : Operator} {pos : Pos} {P1 P2 P3 : Value → Prop} (h1 : TV c O (eval l c.env) P1) (h2 : TV c O (eval r c.env) P2) (h3 : ∀ a b, P1 a → P2 b → TV c O (binaryOp op a b) P3) :
    TV c O (eval (.BinOp l op r pos) c.env) P3 := fun s E x =>
  wpAny_BinOp (h1.use x fun a s₁ p₁ k₁ x₁ => h2.use x₁ fun b s₂ p₂ k₂ x₂ => (h3 a b p₁ p₂).use x₂ fun v s₃ p₃ k₃ _ => ⟨p₃, k₁.trans (k₂.trans k₃)⟩)
theorem e_binL {l r : Expr} {op : Operator} {pos : Pos} {P1 P2 R : Value → Led → Prop} (h1 : Tr c O (eval l c.env) P1) (h2 : ∀ a N1, P1 a N1 → Tr c (N1 ++ O) (eval r c.env) P2)
    (h3 : ∀ a N1 b N2, P1 a N1 → P2 b N2 → Tr c (N2 ++ (N1 ++ O)) (binaryOp op a b) fun v N3 => R v (N3 ++ (N2 ++ N1))) : Tr c O (eval (.BinOp l op r pos) c.env) R := fun s E x =>
  wpAny_BinOp (h1.use x fun a s₁ N1 p₁ g₁ x₁ => (h2 a N1 p₁).use x₁ fun b s₂ N2 p₂ g₂ x₂ => (h3 a N1 b N2 p₁ p₂).use x₂ fun v s₃ N3 p₃ g₃ _ => ⟨_, p₃, (g₁.trans g₂).trans g₃⟩)

theorem b_add {a b : Int} {v u : Value} (hv : IsInt a v) (hu : IsInt b u) : TV c O (binaryOp .Add v u) (IsInt (a + b)) := fun s E x => by
  obtain ⟨t, rfl⟩ := hv; obtain ⟨t', rfl⟩ := hu
  exact add_int ⟨⟨_, rfl⟩, Kp.toks⟩
theorem b_sub {a b : Int} {v u : Value} (hv : IsInt a v) (hu : IsInt b u) : TV c O (binaryOp .Sub v u) (IsInt (a - b)) := fun s E x => by
  obtain ⟨t, rfl⟩ := hv; obtain ⟨t', rfl⟩ := hu
  exact AutoIntOps.sub_0 ⟨⟨_, rfl⟩, Kp.toks⟩
theorem b_mul {a b : Int} {v u : Value} (hv : IsInt a v) (hu : IsInt b u) (hm : IntMulOk a b) : TV c O (binaryOp .Mult v u) (IsInt (a * b)) := fun s E x => by
  obtain ⟨t, rfl⟩ := hv; obtain ⟨t', rfl⟩ := hu
  exact AutoIntOps.mul_0 ⟨⟨_, rfl⟩, Kp.toks⟩ hm
theorem b_mod {a b : Int} {v u : Value} (hv : IsInt a v) (hu : IsInt b u) (hb : b ≠ 0) : TV c O (binaryOp .Mod v u) (IsInt (a.fmod b)) := fun s E x => by
  obtain ⟨t, rfl⟩ := hv; obtain ⟨t', rfl⟩ := hu
  exact mod_int' hb ⟨⟨_, rfl⟩, Kp.toks⟩
theorem b_div {a b : Int} {v u : Value} (hv : IsInt a v) (hu : IsInt b u) (hb : b ≠ 0) (hp : Builtin.divisionGoesByPylong a b = false) : TV c O (binaryOp .FloorDiv v u) (IsInt (a.fdiv b)) := fun s E x => by
  obtain ⟨t, rfl⟩ := hv; obtain ⟨t', rfl⟩ := hu
  exact floordiv_int hb ⟨⟨_, rfl⟩, Kp.toks⟩ (.inl hp)

theorem e_add {l r : Expr} {pos : Pos} {a b : Int} (h1 : TV c O (eval l c.env) (IsInt a)) (h2 : TV c O (eval r c.env) (IsInt b)) : TV c O (eval (.BinOp l .Add r pos) c.env) (IsInt (a + b)) := e_bin h1 h2 fun _ _ => b_add
theorem e_sub {l r : Expr} {pos : Pos} {a b : Int} (h1 : TV c O (eval l c.env) (IsInt a)) (h2 : TV c O (eval r c.env) (IsInt b)) : TV c O (eval (.BinOp l .Sub r pos) c.env) (IsInt (a - b)) := e_bin h1 h2 fun _ _ => b_sub
theorem e_mod {l r : Expr} {pos : Pos} {a b : Int} (h1 : TV c O (eval l c.env) (IsInt a)) (h2 : TV c O (eval r c.env) (IsInt b)) (hb : b ≠ 0) : TV c O (eval (.BinOp l .Mod r pos) c.env) (IsInt (a.fmod b)) := e_bin h1 h2 fun _ _ p q => b_mod p q hb
theorem e_div {l r : Expr} {pos : Pos} {a b : Int} (h1 : TV c O (eval l c.env) (IsInt a)) (h2 : TV c O (eval r c.env) (IsInt b)) (hb : b ≠ 0) (hp : Builtin.divisionGoesByPylong a b = false) : TV c O (eval (.BinOp l .FloorDiv r pos) c.env) (IsInt (a.fdiv b)) := e_bin h1 h2 fun _ _ p q => b_div p q hb hp

theorem t_cmp {l r : Expr} {op : CmpOp} {pos : Pos} {w : Sem Value} {q : Bool} {P1 P2 : Value → Prop} (h1 : TV c O (eval l c.env) P1) (h2 : TV c O (eval r c.env) P2) (h3 : ∀ a b, P1 a → P2 b → TV c O (compareOp op a b) (· = .bool q))
    (hm : behindInMarks op r = false := by with_unfolding_all rfl) : TV c O (isTrue (.Compare l [op] [r] pos) c.env w) (· = q) := fun s E x =>
  wpAny_isTrue_Compare1 (h1.use x fun a s₁ p₁ k₁ x₁ => h2.use x₁ fun b s₂ p₂ k₂ x₂ => (h3 a b p₁ p₂).use x₂ fun v s₃ p₃ k₃ _ => by subst p₃; exact wpAny_truthy_bool ⟨rfl, k₁.trans (k₂.trans k₃)⟩) hm
theorem e_cmp {l r : Expr} {op : CmpOp} {pos : Pos} {q : Bool} {P1 P2 : Value → Prop} (h1 : TV c O (eval l c.env) P1) (h2 : TV c O (eval r c.env) P2) (h3 : ∀ a b, P1 a → P2 b → TV c O (compareOp op a b) (· = .bool q))
    (hm : behindInMarks op r = false := by with_unfolding_all rfl) : TV c O (eval (.Compare l [op] [r] pos) c.env) (· = .bool q) := fun s E x =>
  wpAny_Compare1 (h1.use x fun a s₁ p₁ k₁ x₁ => h2.use x₁ fun b s₂ p₂ k₂ x₂ => (h3 a b p₁ p₂).use x₂ fun v s₃ p₃ k₃ _ => ⟨p₃, k₁.trans (k₂.trans k₃)⟩) hm

theorem q_eq {a b : Int} {v u : Value} (hv : IsInt a v) (hu : IsInt b u) : TV c O (compareOp .Eq v u) (· = .bool (a == b)) := fun s E x => by
  obtain ⟨t, rfl⟩ := hv; obtain ⟨t', rfl⟩ := hu
  exact eq_int ⟨rfl, Kp.refl s⟩
theorem q_ne {a b : Int} {v u : Value} (hv : IsInt a v) (hu : IsInt b u) : TV c O (compareOp .NotEq v u) (· = .bool (a != b)) := fun s E x => by
  obtain ⟨t, rfl⟩ := hv; obtain ⟨t', rfl⟩ := hu
  exact ne_int ⟨rfl, Kp.refl s⟩
theorem q_lt {a b : Int} {v u : Value} (hv : IsInt a v) (hu : IsInt b u) : TV c O (compareOp .Lt v u) (· = .bool (decide (a < b))) := fun s E x => by
  obtain ⟨t, rfl⟩ := hv; obtain ⟨t', rfl⟩ := hu
  exact lt_int ⟨rfl, Kp.refl s⟩
theorem q_le {a b : Int} {v u : Value} (hv : IsInt a v) (hu : IsInt b u) : TV c O (compareOp .LtE v u) (· = .bool (decide (a ≤ b))) := fun s E x => by
  obtain ⟨t, rfl⟩ := hv; obtain ⟨t', rfl⟩ := hu
  exact le_int ⟨rfl, Kp.refl s⟩
theorem q_gt {a b : Int} {v u : Value} (hv : IsInt a v) (hu : IsInt b u) : TV c O (compareOp .Gt v u) (· = .bool (decide (a > b))) := fun s E x => by
  obtain ⟨t, rfl⟩ := hv; obtain ⟨t', rfl⟩ := hu
  exact gt_int ⟨rfl, Kp.refl s⟩
theorem q_isnot_same {a : Addr} : TV c O (compareOp .IsNot (.ref a) (.ref a)) (· = .bool false) := fun s E x => wpAny_isNot_ref_self ⟨rfl, Kp.refl s⟩
theorem q_is_plain {v u : Value} (hp : plainIs v u = true) : TV c O (compareOp .Is v u) (· = .bool (v == u)) := fun s E x => wpAny_is_plain hp ⟨rfl, Kp.refl s⟩
theorem q_isnot_plain {v u : Value} (hp : plainIs v u = true) : TV c O (compareOp .IsNot v u) (· = .bool (!(v == u))) := fun s E x => wpAny_isNot_plain hp ⟨rfl, Kp.refl s⟩

theorem t_all {op : BoolOp} {es : List Expr} {pos : Pos} {w : Sem Value} {P : Bool → Prop} (h : TV c O (allTrue op es c.env) P) : TV c O (isTrue (.BoolOp op es pos) c.env w) P := by
  have e : isTrue (.BoolOp op es pos) c.env w = allTrue op es c.env := by rfl
  rw [e]; exact h
theorem a_nil {op : BoolOp} : TV c O (allTrue op [] c.env) (· = (op == .And)) := fun s E x => by
  have e : allTrue op [] c.env = pure (op == .And) := by rfl
  rw [e]; exact wpAny_pure ⟨rfl, Kp.refl s⟩
theorem allTrue_cons (op : BoolOp) (e : Expr) (es : List Expr) (env : Env) : allTrue op (e :: es) env = (isTrue e env (eval e env) >>= fun b => match op, b with
    | .And, false => pure false
    | .Or, true => pure true
    | _, _ => allTrue op es env) := by rfl
theorem a_and {e : Expr} {es : List Expr} {p q : Bool} (h1 : TV c O (isTrue e c.env (eval e c.env)) (· = p)) (h2 : p = true → TV c O (allTrue .And es c.env) (· = q)) : TV c O (allTrue .And (e :: es) c.env) (· = (p && q)) := by
  rw [allTrue_cons]
  refine h1.bind fun b hb => ?_
  subst hb
  cases b with
  | false => exact TV.pure rfl
  | true => exact (h2 rfl).mono fun v hv => by rw [hv]; rfl
theorem a_or {e : Expr} {es : List Expr} {p q : Bool} (h1 : TV c O (isTrue e c.env (eval e c.env)) (· = p)) (h2 : p = false → TV c O (allTrue .Or es c.env) (· = q)) : TV c O (allTrue .Or (e :: es) c.env) (· = (p || q)) := by
  rw [allTrue_cons]
  refine h1.bind fun b hb => ?_
  subst hb
  cases b with
  | true => exact TV.pure rfl
  | false => exact (h2 rfl).mono fun v hv => by rw [hv]; rfl
theorem t_not {e : Expr} {pos : Pos} {w : Sem Value} {p : Bool} (h : TV c O (isTrue e c.env (eval e c.env)) (· = p)) : TV c O (isTrue (.UnaryOp .Not e pos) c.env w) (· = !p) := fun s E x =>
  isTrue_not (h.use x fun b s' hb k _ => ⟨by rw [hb], k⟩)
theorem t_plain {e : Expr} {b : Bool} (h : TV c O (eval e c.env) (· = .bool b))
    (he : isTrue e c.env (eval e c.env) = (do let v ← eval e c.env; standAt e.pos; holding [v] (truthy v)) := by rfl) : TV c O (isTrue e c.env (eval e c.env)) (· = b) := fun s E x =>
  isTrue_plain (h.use x fun v s' hv k _ => by subst hv; exact wpAny_truthy_bool ⟨rfl, k⟩) he
theorem e_if {t b o : Expr} {pos : Pos} {q : Bool} {P : Value → Led → Prop} (h : TV c O (isTrue t c.env (eval t c.env)) (· = q)) (h1 : q = true → Tr c O (eval b c.env) P) (h2 : q = false → Tr c O (eval o c.env) P) :
    Tr c O (eval (.IfExp t b o pos) c.env) P := fun s E x =>
  wpAny_IfExp (h.use x fun v s' hv k x' => by
    subst hv
    cases v with
    | true => exact (h1 rfl).use x' fun v s'' N p g _ => ⟨N, p, by simpa using (Grow.nil k).trans g⟩
    | false => exact (h2 rfl).use x' fun v s'' N p g _ => ⟨N, p, by simpa using (Grow.nil k).trans g⟩)
theorem e_ifV {t b o : Expr} {pos : Pos} {q : Bool} {P : Value → Prop} (h : TV c O (isTrue t c.env (eval t c.env)) (· = q)) (h1 : q = true → TV c O (eval b c.env) P) (h2 : q = false → TV c O (eval o c.env) P) :
    TV c O (eval (.IfExp t b o pos) c.env) P := fun s E x =>
  wpAny_IfExp (h.use x fun v s' hv k x' => by
    subst hv
    cases v with
    | true => exact (h1 rfl).use x' fun v s'' p g _ => ⟨p, k.trans g⟩
    | false => exact (h2 rfl).use x' fun v s'' p g _ => ⟨p, k.trans g⟩)

theorem e_item {value slice : Expr} {pos : Pos} {l : Addr} {xs : List Value} {k : Int} {v : Value} (h1 : TV c O (eval value c.env) (· = .ref l)) (h2 : TV c O (eval slice c.env) (IsInt k)) (hl : InL c O (l, LP xs))
    (h0 : 0 ≤ k) (hk : k < 2 ^ 63) (hx : xs[k.toNat]? = some v)
    (hs : ∀ a i, subscripted slice false a i = operate [a, i] (getItem a i) := by intro _ _; with_unfolding_all rfl) (ht : ∀ a r, letTemporaryGo value a r = pure () := by intro _ _; with_unfolding_all rfl) :
    TV c O (eval (.Subscript value slice pos) c.env) (· = v) := fun s E x =>
  Subscript_ (h1.use x fun a s₁ e₁ k₁ x₁ => h2.use x₁ fun b s₂ ⟨t, e₂⟩ k₂ x₂ => by
    subst e₁; subst e₂
    exact subscriptTail_ops (x₂.has hl).isList.typeIs slot_list_getitem.lookup (wpAny_getItem_list (x₂.has hl).isList h0 hk (by simpa using hx) ⟨rfl, k₁.trans k₂⟩) (hs _ _) (ht _))
theorem e_item_neg {value slice : Expr} {pos : Pos} {l : Addr} {xs : List Value} {k : Int} {v : Value} (h1 : TV c O (eval value c.env) (· = .ref l)) (h2 : TV c O (eval slice c.env) (IsInt k)) (hl : InL c O (l, LP xs))
    (h0 : k < 0) (h1' : -(xs.length : Int) ≤ k) (hk : -(2 ^ 63) ≤ k) (hx : xs[(k + xs.length).toNat]? = some v)
    (hs : ∀ a i, subscripted slice false a i = operate [a, i] (getItem a i) := by intro _ _; with_unfolding_all rfl) (ht : ∀ a r, letTemporaryGo value a r = pure () := by intro _ _; with_unfolding_all rfl) :
    TV c O (eval (.Subscript value slice pos) c.env) (· = v) := fun s E x =>
  Subscript_ (h1.use x fun a s₁ e₁ k₁ x₁ => h2.use x₁ fun b s₂ ⟨t, e₂⟩ k₂ x₂ => by
    subst e₁; subst e₂
    exact subscriptTail_ops (x₂.has hl).isList.typeIs slot_list_getitem.lookup (wpAny_getItem_list_neg (x₂.has hl).isList h0 (by simpa using h1') hk (by simpa using hx) ⟨rfl, k₁.trans k₂⟩) (hs _ _) (ht _))
theorem e_titem {value slice : Expr} {pos : Pos} {l : Addr} {xs : List Value} {k : Int} {v : Value} (h1 : TV c O (eval value c.env) (· = .ref l)) (h2 : TV c O (eval slice c.env) (IsInt k)) (hl : InL c O (l, TP xs))
    (h0 : 0 ≤ k) (hk : k < 2 ^ 63) (hx : xs[k.toNat]? = some v)
    (hs : ∀ a i, subscripted slice false a i = operate [a, i] (getItem a i) := by intro _ _; with_unfolding_all rfl) (ht : ∀ a r, letTemporaryGo value a r = pure () := by intro _ _; with_unfolding_all rfl) :
    TV c O (eval (.Subscript value slice pos) c.env) (· = v) := fun s E x =>
  Subscript_ (h1.use x fun a s₁ e₁ k₁ x₁ => h2.use x₁ fun b s₂ ⟨t, e₂⟩ k₂ x₂ => by
    subst e₁; subst e₂
    have hlt : k < (xs.length : Int) := by
      have := (List.getElem?_eq_some_iff.mp hx).1; omega
    exact subscriptTail_ops (x₂.has hl).isTuple.typeIs F.slot_tuple_getitem.lookup (getItem_tuple (x₂.has hl).isTup (by omega) hk (j := k.toNat) (by rw [List.size_toArray]; exact seqIndex_of h0 hlt) (by simpa using hx) ⟨rfl, k₁.trans k₂⟩) (hs _ _) (ht _))
theorem e_neg {e : Expr} {pos : Pos} {i : Int} (h : TV c O (eval e c.env) (IsInt i)) : TV c O (eval (.UnaryOp .USub e pos) c.env) (IsInt (-i)) := fun s E x =>
  wpAny_UnaryOp (h.use x fun v s₁ ⟨t, e₁⟩ k₁ x₁ => by subst e₁; exact neg_int ⟨⟨_, rfl⟩, k₁.trans Kp.toks⟩)
end
end Mine

namespace Mine

/-- small enough for every line of the model -/
theorem small_line {n : Nat} (h : n ≤ 100000) : n ≤ sizeLine := by rw [sizeLine_eq]; omega

section
variable {c : Cx} {O : Led}

theorem s_nil {pos : Pos} : TV c O (spliced (backTo pos (starEach [] c.env))) (· = []) := fun s E x => args_nil ⟨rfl, Kp.refl s⟩
theorem s_cons {e : Expr} {es : List Expr} {pos : Pos} {P : Value → Prop} {Q : List Value → Prop} (h1 : TV c O (eval e c.env) P) (h2 : TV c O (spliced (backTo pos (starEach es c.env))) Q)
    (he : starEach (e :: es) c.env = (false, eval e c.env) :: starEach es c.env := by rfl) :
    TV c O (spliced (backTo pos (starEach (e :: es) c.env))) (fun vs => ∃ v r, vs = v :: r ∧ P v ∧ Q r) := fun s E x =>
  args_cons (h1.use x fun v s₁ p k x₁ => h2.use x₁ fun r s₂ q k' _ => ⟨⟨v, r, rfl, p, q⟩, k.trans k'⟩) he
theorem sL_nil {pos : Pos} : Tr c O (spliced (backTo pos (starEach [] c.env))) (fun vs N => N = [] ∧ vs = []) := s_nil.tr
theorem sL_cons {e : Expr} {es : List Expr} {pos : Pos} {P : Value → Led → Prop} {Q : List Value → Led → Prop} (h1 : Tr c O (eval e c.env) P) (h2 : ∀ v N, P v N → Tr c (N ++ O) (spliced (backTo pos (starEach es c.env))) Q)
    (he : starEach (e :: es) c.env = (false, eval e c.env) :: starEach es c.env := by rfl) :
    Tr c O (spliced (backTo pos (starEach (e :: es) c.env))) (fun vs N => ∃ v N1 r N2, vs = v :: r ∧ N = N2 ++ N1 ∧ P v N1 ∧ Q r N2) := fun s E x =>
  args_cons (h1.use x fun v s₁ N1 p g x₁ => (h2 v N1 p).use x₁ fun r s₂ N2 q g' _ => ⟨_, ⟨v, N1, r, N2, rfl, rfl, p, q⟩, g.trans g'⟩) he

theorem e_list {es : List Expr} {pos : Pos} {Q : List Value → Led → Prop} (h : Tr c O (spliced (backTo pos (starEach es c.env))) Q) (hn : ∀ vs N, Q vs N → vs.length ≤ 100000) :
    Tr c O (eval (.List es pos) c.env) (fun v N => ∃ a vs N1, v = .ref a ∧ N = (a, LP vs) :: N1 ∧ Q vs N1) := fun s E x =>
  wpAny_List_spliced (h.use x fun vs s₁ N q g x₁ => ⟨small_line (hn _ _ q), _, ⟨_, vs, N, rfl, rfl, q⟩, by
    simpa using g.trans (Grow.one (Kp.push (s := s₁)) (fresh_size _) Has.newList)⟩)
theorem e_tuple {es : List Expr} {k : Nat} {pos : Pos} {Q : List Value → Led → Prop} (h : Tr c O (spliced (backTo pos (starEach es c.env))) Q) (hn : ∀ vs N, Q vs N → vs.length ≤ 100000) :
    Tr c O (eval (.Tuple es k pos) c.env) (fun v N => ∃ a vs N1, v = .ref a ∧ N = (a, TP vs) :: N1 ∧ Q vs N1) := fun s E x =>
  wpAny_Tuple_spliced (h.use x fun vs s₁ N q g x₁ => ⟨small_line (hn _ _ q), _, ⟨_, vs, N, rfl, rfl, q⟩, by
    simpa using g.trans (Grow.one (Kp.push (s := s₁)) (fresh_size _) Has.newTuple)⟩)
theorem e_listV {es : List Expr} {pos : Pos} {Q : List Value → Prop} (h : TV c O (spliced (backTo pos (starEach es c.env))) Q) (hn : ∀ vs, Q vs → vs.length ≤ 100000) :
    Tr c O (eval (.List es pos) c.env) (fun v N => ∃ a vs, v = .ref a ∧ N = [(a, LP vs)] ∧ Q vs) :=
  (e_list h.tr fun vs N q => hn vs q.2).mono fun v N ⟨a, vs, N1, h1, h2, h3, h4⟩ => ⟨a, vs, h1, by rw [h2, h3], h4⟩
theorem e_tupleV {es : List Expr} {k : Nat} {pos : Pos} {Q : List Value → Prop} (h : TV c O (spliced (backTo pos (starEach es c.env))) Q) (hn : ∀ vs, Q vs → vs.length ≤ 100000) :
    Tr c O (eval (.Tuple es k pos) c.env) (fun v N => ∃ a vs, v = .ref a ∧ N = [(a, TP vs)] ∧ Q vs) :=
  (e_tuple h.tr fun vs N q => hn vs q.2).mono fun v N ⟨a, vs, N1, h1, h2, h3, h4⟩ => ⟨a, vs, h1, by rw [h2, h3], h4⟩

/-- one part of a slice -/
def Part (c : Cx) (O : Led) (e : Option Expr) (k : Option Int) : Prop := TV c O (evalPart e c.env) (fun v => IsPart v k)
theorem p_none : Part c O none none := fun s E x => by rw [evalPart_none]; exact wpAny_pure ⟨.none, Kp.refl s⟩
theorem p_some {e : Expr} {k : Int} (h : TV c O (eval e c.env) (IsInt k)) : Part c O (some e) (some k) := fun s E x => by
  rw [evalPart_some]
  exact h.use x fun v s₁ ⟨t, e₁⟩ k₁ _ => by subst e₁; exact ⟨.int _ _, k₁⟩

def cut (xs : List Value) (lo hi : Option Int) : List Value := (xs.drop (lo.elim 0 (clipAt xs.length))).take (hi.elim xs.length (clipAt xs.length) - lo.elim 0 (clipAt xs.length))
theorem cut_length_le (xs : List Value) (lo hi : Option Int) : (cut xs lo hi).length ≤ xs.length := by
  unfold cut; rw [List.length_take, List.length_drop]; omega
theorem cut_upto (xs : List Value) (k : Nat) : cut xs none (some (k : Int)) = xs.take k := by
  unfold cut
  simp only [Option.elim, clipAt_nat, List.drop_zero, Nat.sub_zero]
  by_cases h : k ≤ xs.length
  · rw [Nat.min_eq_left h]
  · rw [Nat.min_eq_right (by omega), List.take_of_length_le (Nat.le_refl _), List.take_of_length_le (by omega)]
theorem cut_from (xs : List Value) (k : Nat) : cut xs (some (k : Int)) none = xs.drop k := by
  unfold cut
  simp only [Option.elim, clipAt_nat]
  by_cases h : k ≤ xs.length
  · rw [Nat.min_eq_left h, List.take_of_length_le (by simp)]
  · rw [Nat.min_eq_right (by omega), List.drop_of_length_le (by omega : xs.length ≤ k)]; simp
theorem cut_run (xs : List Value) (a b : Nat) (h : a ≤ b) : cut xs (some (a : Int)) (some (b : Int)) = (xs.drop a).take (b - a) := by
  unfold cut
  simp only [Option.elim, clipAt_nat]
  by_cases h1 : b ≤ xs.length
  · rw [Nat.min_eq_left h1, Nat.min_eq_left (by omega)]
  · by_cases h2 : a ≤ xs.length
    · rw [Nat.min_eq_left h2, Nat.min_eq_right (by omega), List.take_of_length_le (by simp), List.take_of_length_le (by simp; omega)]
    · rw [Nat.min_eq_right (by omega), Nat.min_eq_right (by omega), List.drop_of_length_le (by omega : xs.length ≤ a)]; simp

/-- a list argument: only its class and items are known -/
def LI (xs : List Value) (o : Obj) : Prop := o.cls = .type "list" ∧ ∃ n, o.data = .seq xs.toArray n
theorem LP.li {xs : List Value} {o : Obj} (h : LP xs o) : LI xs o := by obtain ⟨n, rfl⟩ := h; exact ⟨rfl, n, rfl⟩

theorem e_slice {value : Expr} {lo hi : Option Expr} {p pos : Pos} {l : Addr} {xs : List Value} {kl kh : Option Int} (h1 : TV c O (eval value c.env) (· = .ref l))
    (hl : ∀ s, At c O s → s.heap.IsList l xs.toArray) (hlo : Part c O lo kl) (hhi : Part c O hi kh) (hn : xs.length ≤ 100000)
    (ht : ∀ a r, letTemporaryGo value a r = pure () := by intro _ _; with_unfolding_all rfl) :
    Tr c O (eval (.Subscript value (.Slice lo hi none p) pos) c.env) (fun v N => ∃ a, v = .ref a ∧ N = [(a, LP (cut xs kl kh))]) := fun s E x =>
  Subscript_ (h1.use x fun a s₁ e₁ k₁ x₁ => by
    subst e₁
    refine wpAny_Slice (hlo.use x₁ fun vl s₂ p₂ k₂ x₂ => hhi.use x₂ fun vu s₃ p₃ k₃ x₃ => ?_)
    rw [evalPart_none]
    refine wpAny_pure ?_
    refine slice_listK (hl _ x₃) p₂ p₃ ?_ (by with_unfolding_all rfl) (ht _) (by rw [List.size_toArray]; exact small_line hn)
    refine ⟨_, ⟨_, rfl, rfl⟩, Grow.one ?_ ?_ ?_⟩
    · refine k₁.trans (k₂.trans (k₃.trans ?_))
      exact ⟨_, s₃.toks, rfl, fun _ _ e => Heap.get?_push_of_some _ (Heap.get?_push_of_some _ e)⟩
    · exact (k₁.trans (k₂.trans k₃)).none (fresh_le (Nat.le_succ _))
    · refine ⟨_, ?_, 0, rfl⟩
      have e : slicePick xs.toArray kl kh none = (cut xs kl kh).toArray := by rw [slicePick_plain]; simp [cut]
      rw [e]
      have := Heap.get?_push_size (s₃.heap.push { cls := .type "slice", data := .fields #[vl, vu, .none] }) (o := { cls := .type "list", data := .seq (cut xs kl kh).toArray }) rfl
      rw [Heap.size_push] at this
      exact this)
theorem e_sliceL {value : Expr} {lo hi : Option Expr} {p pos : Pos} {l : Addr} {xs : List Value} {kl kh : Option Int} (h1 : TV c O (eval value c.env) (· = .ref l)) (hl : InL c O (l, LP xs))
    (hlo : Part c O lo kl) (hhi : Part c O hi kh) (hn : xs.length ≤ 100000) (ht : ∀ a r, letTemporaryGo value a r = pure () := by intro _ _; with_unfolding_all rfl) :
    Tr c O (eval (.Subscript value (.Slice lo hi none p) pos) c.env) (fun v N => ∃ a, v = .ref a ∧ N = [(a, LP (cut xs kl kh))]) :=
  e_slice h1 (fun s x => (x.has hl).isList) hlo hhi hn ht

/-- the built-in names that the laws use -/
structure Std (c : Cx) : Prop where
  hh : c.A.handled = none
  gl : c.env.globals = mainGlobals
  bu : c.env.builtins = builtinsNs
  len : c.mg "len" = none ∧ c.mb "len" = some (.builtin "len")
  range : c.mg "range" = none ∧ c.mb "range" = some (.type "range")
  list : c.mg "list" = none ∧ c.mb "list" = some (.type "list")
  iter : c.mg "iter" = none ∧ c.mb "iter" = some (.builtin "iter")
  next : c.mg "next" = none ∧ c.mb "next" = some (.builtin "next")

theorem e_len {e : Expr} {p pos : Pos} {l : Addr} {xs : List Value} (S : Std c) (h : TV c O (eval e c.env) (· = .ref l)) (hl : InL c O (l, LP xs)) (hn : xs.length ≤ 100000)
    (hk : c.env.kindOf "len" = some .globalImplicit := by rfl) (hf : c.env.scope.kind = .function := by rfl) (hs : starEach [e] c.env = [(false, eval e c.env)] := by rfl) :
    TV c O (eval (.Call (.Name "len" p) [e] [] pos) c.env) (IsInt xs.length) := fun s E x =>
  Call_Name1 ((e_bi S.len.1 S.len.2 hk S.gl S.bu hf).use x fun f s₁ e₁ k₁ x₁ => by
    subst e₁
    exact callWith_builtin (args := [(false, eval e c.env)]) rfl (evalArgs_plain (spliced_cons (h.use x₁ fun v s₂ e₂ k₂ x₂ => by
      subst e₂
      exact spliced_nil (len_list (x₂.has hl).isList (by rw [List.size_toArray]; omega) ⟨⟨_, by rw [List.size_toArray]⟩, k₁.trans (k₂.trans Kp.toks)⟩)))) ) hs
end
end Mine

namespace Mine

def upd (sg : Str → Option Value) (x : Str) (v : Value) : Str → Option Value := fun y => if y = x then some v else sg y
theorem upd_same {sg : Str → Option Value} {x : Str} {v : Value} : upd sg x v x = some v := if_pos rfl
theorem upd_ne {sg : Str → Option Value} {x y : Str} {v : Value} (h : y ≠ x) : upd sg x v y = sg y := if_neg h

abbrev Cx.up (c : Cx) (Mu : Led) (sg : Str → Option Value) (gs : Array GenState) : Cx := { c with Mu := Mu, sg := sg, gs := gs }
abbrev Cx.set (c : Cx) (x : Str) (v : Value) : Cx := { c with sg := upd c.sg x v }

/-- all but some places as they were -/
def Alt (X : List Addr) (s s' : Shared) : Prop := ∃ h' tk, s' = { s with heap := h', toks := tk } ∧ ∀ b o, b ∉ X → s.heap.get? b = some o → h'.get? b = some o
theorem Alt.of_same {s : Shared} {h' : Heap} {tk : Nat} {a : Addr} (h : Heap.SameBut a s.heap h') : Alt [a] s { s with heap := h', toks := tk } :=
  ⟨h', tk, rfl, fun b o hb e => (h.2 b (by simpa using hb)).trans e⟩
theorem Alt.of_ext {s : Shared} {h' : Heap} {tk : Nat} {a : Addr} (h : Heap.ExtBut a s.heap h') : Alt [a] s { s with heap := h', toks := tk } :=
  ⟨h', tk, rfl, fun b o hb e => h b o (by simpa using hb) e⟩
theorem Alt.get {X : List Addr} {s s' : Shared} (a : Alt X s s') {b : Addr} {o : Obj} (hb : b ∉ X) (e : s.heap.get? b = some o) : s'.heap.get? b = some o := by
  obtain ⟨h, t, rfl, k⟩ := a; exact k b o hb e
theorem Alt.gens {X : List Addr} {s s' : Shared} (a : Alt X s s') : s'.gens = s.gens := by obtain ⟨h, t, rfl, k⟩ := a; rfl
theorem Alt.os {X : List Addr} {s s' : Shared} (a : Alt X s s') : s'.os = s.os := by obtain ⟨h, t, rfl, k⟩ := a; rfl

theorem lookup_ne {cs : List (Str × Addr)} {x y : Str} {a b : Addr} (hn : (cs.map (·.2)).Nodup) (hx : cs.lookup x = some a) (hy : cs.lookup y = some b) (h : y ≠ x) : b ≠ a := by
  rintro rfl
  have h1 := mem_of_lookup hx
  have h2 := mem_of_lookup hy
  have hp : cs.Pairwise fun x y => x.2 ≠ y.2 := by
    have := hn; rw [List.Nodup, List.pairwise_map] at this; exact this
  exact h (name_of_addr hp h2 h1)

section
variable {c : Cx} {O : Led} {s : Shared}

/-- the map of names may be changed at the frame -/
theorem At.store_local {x : Str} {v : Value} {s' : Shared} {m : Str → Option Value} (y : At c O s) (a : Alt [c.env.locals] s s') (hl : c.env.kindOf x = some .local) (hc : c.env.cells.lookup x = none)
    (hm : ∀ z u, c.env.kindOf z = some .local → c.sg z = some u → m z = some u) (hn : s'.heap.Ns c.env.locals (fun z => if z = x then some v else m z))
    (hcl : c.wc = false → ∀ p ∈ c.env.cells, p.2 ≠ c.env.locals) : At (c.set x v) O s' := by
  have nd := y.nodup
  unfold Cx.places at nd
  rw [List.nodup_cons] at nd
  have off : ∀ b, b ∈ c.places → b ≠ c.env.locals ∨ b = c.env.locals := fun b _ => by by_cases h : b = c.env.locals <;> simp [h]
  have kp : ∀ b o, b ≠ c.env.locals → s.heap.get? b = some o → s'.heap.get? b = some o := fun b o hb e => a.get (by simpa using hb) e
  have lp : c.env.locals ∈ c.places := by unfold Cx.places; exact .head _
  have pne : ∀ p ∈ c.env.cells, p.2 ≠ c.env.locals := fun p hp => by
    cases hw : c.wc with
    | false => exact hcl hw p hp
    | true =>
      intro h
      apply nd.1
      rw [hw, if_pos rfl, ← h]
      exact List.mem_append_left _ (List.mem_map.mpr ⟨_, hp, rfl⟩)
  have cne : ∀ z b, c.env.cells.lookup z = some b → b ≠ c.env.locals := fun z b hz => pne (z, b) (mem_of_lookup hz)
  refine ⟨fun b o e => kp b o (fun h => y.offB b o e (h ▸ lp)) (y.base b o e), fun p hp => (y.own p hp).keep fun o e => kp _ o (fun h => y.offO p hp (h ▸ lp)) e, fun p hp => (y.mu p hp).keep fun o e => kp _ o ?_ e,
    ⟨_, hn, fun z u hz hu => ?_⟩, fun z b u hz hu => ?_, fun p hp => ?_, y.nodup, y.offO, y.offB, a.gens.trans y.gens, a.os.trans y.os, y.kin, y.tg, y.tb, y.nl⟩
  · intro h
    apply nd.1
    rw [← h]
    exact List.mem_append_right _ (List.mem_map.mpr ⟨p, hp, rfl⟩)
  · have hu' : upd c.sg x v z = some u := hu
    unfold upd at hu'
    by_cases h : z = x
    · rw [if_pos h] at hu' ⊢; exact hu'
    · rw [if_neg h] at hu' ⊢; exact hm z u hz hu'
  · have hzx : z ≠ x := fun h => by rw [h] at hz; exact nomatch hc.symm.trans hz
    have hu' : upd c.sg x v z = some u := hu
    rw [upd_ne hzx] at hu'
    obtain ⟨o, ho, hd⟩ := y.cell z b u hz hu'
    exact ⟨o, kp b o (cne z b hz) ho, hd⟩
  · obtain ⟨w, o, ho, hd⟩ := y.cellAlive p hp
    exact ⟨w, o, kp _ o (pne p hp) ho, hd⟩

theorem At.store_cell {x : Str} {v : Value} {a : Addr} {s' : Shared} (y : At c O s) (al : Alt [a] s s') (hw : c.wc = true) (hl : c.env.kindOf x ≠ some .local) (ha : c.env.cells.lookup x = some a) (hn : s'.heap.IsCell a (some v)) : At (c.set x v) O s' := by
  have nd := y.nodup
  unfold Cx.places at nd
  rw [hw, if_pos rfl] at nd
  have ap : a ∈ c.places := Cx.mem_places.mpr (.inr (.inl ⟨hw, x, mem_of_lookup ha⟩))
  have am : a ∈ c.env.cells.map (·.2) := List.mem_map.mpr ⟨_, mem_of_lookup ha, rfl⟩
  rw [List.nodup_cons, List.nodup_append] at nd
  obtain ⟨n1, n2, n3, n4⟩ := nd
  have la : c.env.locals ≠ a := fun h => n1 (List.mem_append_left _ (h ▸ am))
  have kp : ∀ b o, b ≠ a → s.heap.get? b = some o → s'.heap.get? b = some o := fun b o hb e => al.get (by simpa using hb) e
  refine ⟨fun b o e => kp b o (fun h => y.offB b o e (h ▸ ap)) (y.base b o e), fun p hp => (y.own p hp).keep fun o e => kp _ o (fun h => y.offO p hp (h ▸ ap)) e, fun p hp => (y.mu p hp).keep fun o e => kp _ o ?_ e,
    ?_, fun z b u hz hu => ?_, fun p hp => ?_, y.nodup, y.offO, y.offB, al.gens.trans y.gens, al.os.trans y.os, y.kin, y.tg, y.tb, y.nl⟩
  · intro h
    exact n4 a am p.1 (List.mem_map.mpr ⟨p, hp, rfl⟩) h.symm
  · obtain ⟨m, hm, hz⟩ := y.ns
    refine ⟨m, hm.at' fun o e => kp _ o la e, fun z u hz' hu => ?_⟩
    have hzx : z ≠ x := fun h => hl (h ▸ hz')
    have hu' : upd c.sg x v z = some u := hu
    rw [upd_ne hzx] at hu'
    exact hz z u hz' hu'
  · have hu' : upd c.sg x v z = some u := hu
    by_cases hzx : z = x
    · subst hzx
      have hz' : c.env.cells.lookup z = some b := hz
      rw [ha] at hz'; cases hz'
      rw [upd_same] at hu'; cases hu'; exact hn
    · rw [upd_ne hzx] at hu'
      obtain ⟨o, ho, hd⟩ := y.cell z b u hz hu'
      exact ⟨o, kp b o (lookup_ne n2 ha hz hzx) ho, hd⟩
  · obtain ⟨w, o, ho, hd⟩ := y.cellAlive p hp
    by_cases hpa : p.2 = a
    · exact ⟨some v, hpa ▸ hn⟩
    · exact ⟨w, o, kp _ o hpa ho, hd⟩

/-- a name that may be stored -/
inductive Stores (c : Cx) (x : Str) : Prop
  | loc (hl : c.env.kindOf x = some .local) (hc : c.env.cells.lookup x = none) (hp : (c.env.scope.kind == .class || (c.env.scope.kind == .module && c.env.locals != c.env.globals)) = false)
      (hcl : c.wc = false → ∀ p ∈ c.env.cells, p.2 ≠ c.env.locals)
  | cell (a : Addr) (hk : c.env.scope.kind = .function) (hl : c.env.kindOf x = some .cell) (ha : c.env.cells.lookup x = some a) (hw : c.wc = true)

theorem w_store {x : Str} {v : Value} {Q : Unit → Shared → Prop} {E : Value → Shared → Prop} (hx : Stores c x) (y : At c O s) (k : ∀ s', (∃ a ∈ c.places, Alt [a] s s') → At (c.set x v) O s' → Q () s') :
    wpAny (model c.prog c.w) c.A (storeName c.env x v) Q E s := by
  cases hx with
  | loc hl hc hp hcl =>
    obtain ⟨m, hn, hm⟩ := y.ns
    exact wpAny_storeName_local hl hn (fun h' hn' hs' => k _ ⟨_, by unfold Cx.places; exact .head _, Alt.of_same hs'⟩ (y.store_local (Alt.of_same hs') hl hc hm hn' hcl)) hp
  | cell a hk hl ha hw =>
    obtain ⟨v₀, hv₀⟩ := y.cellAlive _ (mem_of_lookup ha)
    refine wpAny_storeName_cell hk hl ha hv₀ fun h' hc' hs' => k _ ⟨_, Cx.mem_places.mpr (.inr (.inl ⟨hw, x, mem_of_lookup ha⟩)), Alt.of_same (tk := s.toks) hs'⟩ (y.store_cell (Alt.of_same (tk := s.toks) hs') hw (by rw [hl]; simp) ha hc')

theorem w_store_loc {x : Str} {v : Value} {Q : Unit → Shared → Prop} {E : Value → Shared → Prop} (hl : c.env.kindOf x = some .local) (hc : c.env.cells.lookup x = none)
    (hp : (c.env.scope.kind == .class || (c.env.scope.kind == .module && c.env.locals != c.env.globals)) = false) (hcl : c.wc = false → ∀ p ∈ c.env.cells, p.2 ≠ c.env.locals) (y : At c O s)
    (k : ∀ s', Alt [c.env.locals] s s' → At (c.set x v) O s' → Q () s') : wpAny (model c.prog c.w) c.A (storeName c.env x v) Q E s := by
  obtain ⟨m, hn, hm⟩ := y.ns
  exact wpAny_storeName_local hl hn (fun h' hn' hs' => k _ (Alt.of_same hs') (y.store_local (Alt.of_same hs') hl hc hm hn' hcl)) hp

theorem x_assign {x : Str} {p' pos : Pos} {e : Expr} {P : Value → Led → Prop} {Q : Flow → Shared → Prop} {E : Value → Shared → Prop} (hx : Stores c x) (h : Tr c O (eval e c.env) P) (y : At c O s)
    (k : ∀ v N s', P v N → At (c.set x v) (N ++ O) s' → Q .next s')
    (hs : swapsWith e (some (.Name x p')) pos.line c.env = pure false := by rfl) : wpAny (model c.prog c.w) c.A (exec (.Assign [.Name x p'] e pos) c.env) Q E s :=
  wpAny_Assign_Name (h.use y fun v s₁ N p g y₁ => w_store hx y₁ fun s' _ y' => k v N s' p y') hs
theorem x_assignV {x : Str} {p' pos : Pos} {e : Expr} {P : Value → Prop} {Q : Flow → Shared → Prop} {E : Value → Shared → Prop} (hx : Stores c x) (h : TV c O (eval e c.env) P) (y : At c O s)
    (k : ∀ v s', P v → At (c.set x v) O s' → Q .next s')
    (hs : swapsWith e (some (.Name x p')) pos.line c.env = pure false := by rfl) : wpAny (model c.prog c.w) c.A (exec (.Assign [.Name x p'] e pos) c.env) Q E s :=
  wpAny_Assign_Name (h.use y fun v s₁ p g y₁ => w_store hx y₁ fun s' _ y' => k v s' p y') hs

theorem At.drop {Mu T : Led} (x : At { c with Mu := Mu ++ T } O s) : At { c with Mu := Mu } O s := by
  have sub : ∀ a, a ∈ ({ c with Mu := Mu } : Cx).places → a ∈ ({ c with Mu := Mu ++ T } : Cx).places := fun a h => by
    rcases Cx.mem_places.mp h with h | h | ⟨p, h⟩
    · exact Cx.mem_places.mpr (.inl h)
    · exact Cx.mem_places.mpr (.inr (.inl h))
    · exact Cx.mem_places.mpr (.inr (.inr ⟨p, List.mem_append_left _ h⟩))
  refine ⟨x.base, x.own, fun p hp => x.mu p (List.mem_append_left _ hp), x.ns, x.cell, x.cellAlive, ?_, fun p hp h => x.offO p hp (sub _ h), fun b o e h => x.offB b o e (sub _ h), x.gens, x.os, x.kin, x.tg, x.tb, x.nl⟩
  have nd := x.nodup
  unfold Cx.places at nd ⊢
  dsimp only at nd ⊢
  rw [List.map_append, ← List.append_assoc, ← List.cons_append] at nd
  exact (List.nodup_append.mp nd).1

theorem At.addMu {Mu : Led} {p : Ent} (x : At { c with Mu := Mu } O s) (h : Has s.heap p) (h1 : p.1 ∉ ({ c with Mu := Mu } : Cx).places) (h2 : ∀ q ∈ O, q.1 ≠ p.1) (h3 : ∀ o, c.B.get? p.1 ≠ some o) : At { c with Mu := Mu ++ [p] } O s := by
  have pl : ∀ a, a ∈ ({ c with Mu := Mu ++ [p] } : Cx).places → a ∈ ({ c with Mu := Mu } : Cx).places ∨ a = p.1 := fun a h => by
    rcases Cx.mem_places.mp h with h | h | ⟨q, h⟩
    · exact .inl (Cx.mem_places.mpr (.inl h))
    · exact .inl (Cx.mem_places.mpr (.inr (.inl h)))
    · rcases List.mem_append.mp h with h | h
      · exact .inl (Cx.mem_places.mpr (.inr (.inr ⟨q, h⟩)))
      · rw [← List.mem_singleton.mp h]; exact .inr rfl
  refine ⟨x.base, x.own, fun q hq => ?_, x.ns, x.cell, x.cellAlive, ?_, fun q hq hm => ?_, fun b o e hm => ?_, x.gens, x.os, x.kin, x.tg, x.tb, x.nl⟩
  · rcases List.mem_append.mp hq with hq | hq
    · exact x.mu q hq
    · rw [List.mem_singleton.mp hq]; exact h
  · have nd := x.nodup
    unfold Cx.places at nd h1 ⊢
    dsimp only at nd h1 ⊢
    rw [List.map_append, ← List.append_assoc, ← List.cons_append, List.nodup_append]
    refine ⟨nd, by simp, fun a ha b hb => ?_⟩
    simp only [List.map_cons, List.map_nil, List.mem_singleton] at hb
    rintro rfl
    exact h1 (hb ▸ ha)
  · rcases pl _ hm with h | h
    · exact x.offO q hq h
    · exact h2 q hq h
  · rcases pl _ hm with h | h
    · exact x.offB b o e h
    · exact h3 o (h ▸ e)
end

/-- the iterators that own a tuple which they hand out anew -/
def ownTypes : List String := ["enumerate", "zip", "dict_itemiterator", "dict_reverseitemiterator", "odict_iterator", "itertools.zip_longest", "itertools.pairwise"]
def Modest (h : Heap) (I : Addr) : Prop := ∃ o n, h.get? I = some o ∧ o.cls = .type n ∧ ownTypes.contains n = false
theorem w_letgo_of {prog : Program} {w : World} {A : Around} {E : Value → Shared → Prop} {s : Shared} {target : Expr} {I : Addr} {v : Value} {Q : Unit → Shared → Prop} (h : Modest s.heap I) (q : Q () s) : wpAny (model prog w) A (letOwnedTupleGo target (.ref I) v) Q E s := by
  obtain ⟨o, n, eo, hc, hn⟩ := h
  have key : ∀ T, wpAny (model prog w) A (do
      let o ← load I
      match o.cls, o.data with
      | .type n, .fields vs =>
        if ["enumerate", "zip", "dict_itemiterator", "dict_reverseitemiterator", "odict_iterator", "itertools.zip_longest", "itertools.pairwise"].contains n && vs[0]? == some (rawInt T) then
          rule "for.unpacks-the-owned-tuple"
          updateField I 0 .none
      | _, _ => pure ()) Q E s := by
    intro T
    refine wpAny_bind (wpAny_load eo ?_)
    rw [hc]
    cases hd : o.data with
    | fields vs =>
      dsimp only
      have hn' : (["enumerate", "zip", "dict_itemiterator", "dict_reverseitemiterator", "odict_iterator", "itertools.zip_longest", "itertools.pairwise"].contains n) = false := hn
      rw [if_neg (by rw [hn', Bool.false_and]; decide)]
      exact wpAny_pure q
    | _ => exact wpAny_pure q
  cases target <;> first | exact wpAny_pure q | (cases v <;> first | exact wpAny_pure q | exact key _)

/-- a source of items -/
def Src (c : Cx) (O : Led) {α : Type} (iter : Expr) (items : List α) (R : α → Value → Prop) : Prop :=
  ∀ (s : Shared) (E : Value → Shared → Prop) (Q : Value → Shared → Prop), At c O s →
    (∀ I fq St s₂, Kp s s₂ → Walks c.prog c.w c.A I (I :: fq) [I] items.length (fun i v => ∃ a, items[i]? = some a ∧ R a v) St → St 0 s₂.heap → (∀ i h, St i h → ∀ b ∈ I :: fq, h.get? b ≠ none) → s.heap.get? I = none →
      (∀ b ∈ fq, b ∉ c.places ∧ b ≠ I) → (∀ i h, St i h → Modest h I) → Q (.ref I) s₂) →
    wpAny (model c.prog c.w) c.A (eval iter c.env) (fun x s₁ => wpAny (model c.prog c.w) c.A (pyIter x) Q E s₁) E s

section
variable {c : Cx} {O : Led}

theorem Walks.cong {prog : Program} {w : World} {A : Around} {I : Addr} {fp wr : List Addr} {n n' : Nat} {P P' : Nat → Value → Prop} {St : Nat → Heap → Prop} (W : Walks prog w A I fp wr n P St) (hn : n = n')
    (hP : ∀ i v, i < n → P i v → P' i v) : Walks prog w A I fp wr n' P' St := by
  subst hn
  exact ⟨W.sub, W.frame, fun i s Q E hi st hQ => W.item i s Q E hi st fun v h' tk p st' k => hQ v h' tk (hP i v hi p) st' k, W.done, W.self⟩

theorem paired_get {α β : Type} {R : α → β → Prop} : ∀ {as : List α} {us : List β}, Paired R as us → ∀ (j : Nat) (a : α) (u : β), as[j]? = some a → us[j]? = some u → R a u := by
  intro as us hq
  induction hq with
  | nil => intro j a u h1; simp at h1
  | cons hab _ ih =>
    intro j a u h1 h2
    cases j with
    | zero => simp at h1 h2; subst h1; subst h2; exact hab
    | succ j => exact ih j a u (by simpa using h1) (by simpa using h2)

theorem src_list {iter : Expr} {α : Type} {items : List α} {R : α → Value → Prop} {P : Value → Led → Prop} (S : Std c) (h : Tr c O (eval iter c.env) P)
    (hp : ∀ v N, P v N → ∃ l vs, v = .ref l ∧ (l, LP vs) ∈ N ++ O ∧ Paired R items vs) : Src c O iter items R := fun s E Q x k =>
  h.use x fun v s₁ N p g x₁ => by
    obtain ⟨l, vs, rfl, hm, hr⟩ := hp v N p
    have hl := (x₁.own _ hm).isList
    refine wpAny_pyIter_list hl ?_
    have hlt : l < s₁.heap.objs.size := by obtain ⟨o, ho, _⟩ := hl; exact Heap.lt_size ho
    have W := Walks.list (prog := c.prog) (w := c.w) (A := c.A) S.hh s₁.heap.objs.size l (Nat.ne_of_lt hlt) vs.toArray
    have hlen : vs.toArray.size = items.length := by rw [List.size_toArray, hr.length]
    refine k s₁.heap.objs.size [l] _ _ (g.1.trans Kp.push) (Walks.cong W hlen fun i v hi e => ?_) ⟨⟨_, Heap.get?_push_size _ rfl, rfl, rfl⟩, hl.push _⟩ ?_ (g.1.none (fresh_size _)) ?_ ?_
    · have hi' : i < items.length := by rw [← hlen]; exact hi
      refine ⟨items[i], by simp [hi'], ?_⟩
      exact paired_get hr i _ v (by simp [hi']) (by simpa using e)
    · rintro i h ⟨⟨o, ho, _⟩, ⟨o', ho', _⟩⟩ b hb
      simp only [List.mem_cons, List.not_mem_nil, or_false] at hb
      rcases hb with rfl | rfl
      · rw [ho]; simp
      · rw [ho']; simp
    · intro b hb
      rw [List.mem_singleton.mp hb]
      exact ⟨x₁.offO _ hm, Nat.ne_of_lt hlt⟩
    · rintro i h ⟨⟨o, ho, hc, _⟩, _⟩
      exact ⟨o, "list_iterator", ho, hc, by decide⟩
end
end Mine

namespace Mine

def irange (a : Int) (n : Nat) : List Int := (List.range n).map fun (i : Nat) => a + (i : Int)
theorem irange_length {a : Int} {n : Nat} : (irange a n).length = n := by simp [irange]
theorem irange_get {a : Int} {n i : Nat} (h : i < n) : (irange a n)[i]? = some (a + (i : Int)) := by simp [irange, h]
theorem irange_get_some {a : Int} {n i : Nat} {x : Int} (h : (irange a n)[i]? = some x) : i < n ∧ x = a + (i : Int) := by
  have hi : i < n := by
    have := (List.getElem?_eq_some_iff.mp h).1
    rwa [irange_length] at this
  rw [irange_get hi] at h
  exact ⟨hi, (Option.some.inj h).symm⟩

section
variable {c : Cx} {O : Led}

theorem src_rangeAt {iter : Expr} {a b : Int} (S : Std c) (ha : -(2 ^ 62) ≤ a) (ha' : a < 2 ^ 62) (hb : -(2 ^ 62) ≤ b) (hb' : b < 2 ^ 62)
    (h : ∀ s E (Q : Value → Shared → Prop), At c O s → (∀ r t u v s₁, Kp s s₁ → IsRange s₁.heap r a b 1 t u v → At c O s₁ → Q (.ref r) s₁) → wpAny (model c.prog c.w) c.A (eval iter c.env) Q E s) :
    Src c O iter (irange a (b - a).toNat) IsInt := fun s E Q x k =>
  h s E _ x fun r t u v s₁ k₁ hr x₁ => by
    refine wpAny_pyIter_range hr (small_one ha ha' hb hb') ?_
    have W := Walks.range (prog := c.prog) (w := c.w) (A := c.A) S.hh s₁.heap.objs.size a 1 (b - a).toNat
    have hsz : Builtin.Range.rangeSize a b 1 = ((b - a).toNat : Int) := by rw [rangeSize_one]; split <;> omega
    rw [hsz]
    refine k s₁.heap.objs.size [] _ _ (k₁.trans Kp.push) (Walks.cong W irange_length.symm fun i v hi e => ?_) ?_ ?_ (k₁.none (fresh_size _)) (fun b hb => nomatch hb) (fun i h hst => ⟨_, "range_iterator", hst, rfl, by decide⟩)
    · obtain ⟨t, rfl⟩ := e
      exact ⟨_, irange_get hi, t, by rw [Int.mul_one]⟩
    · show IsRangeIter _ _ _ _ _
      have : ((a + ((0 : Nat) : Int) * 1) = a) := by simp
      rw [this]
      have : (((b - a).toNat : Int) - ((0 : Nat) : Int)) = ((b - a).toNat : Int) := by simp
      rw [this]
      exact Heap.get?_push_size _ rfl
    · intro i h hst b hb
      simp only [List.mem_singleton] at hb
      subst hb
      have : h.get? s₁.heap.objs.size = _ := hst
      rw [this]; simp

theorem src_range1 {e : Expr} {p pos : Pos} {n : Int} (S : Std c) (h : TV c O (eval e c.env) (IsInt n)) (hn : -(2 ^ 62) ≤ n) (hn' : n < 2 ^ 62)
    (hk : c.env.kindOf "range" = some .globalImplicit := by rfl) (hf : c.env.scope.kind = .function := by rfl) (hs : starEach [e] c.env = [(false, eval e c.env)] := by rfl) :
    Src c O (.Call (.Name "range" p) [e] [] pos) (irange 0 n.toNat) IsInt := by
  have := src_rangeAt (c := c) (O := O) (iter := .Call (.Name "range" p) [e] [] pos) (a := 0) (b := n) S (by decide) (by decide) hn hn' fun s E Q x k =>
    Call_Name1 ((e_bi S.range.1 S.range.2 hk S.gl S.bu hf).use x fun f s₁ e₁ k₁ x₁ => by
      subst e₁
      exact PyProof.Rows.callWith_type (args := [(false, eval e c.env)]) rfl (evalArgs_plain (spliced_cons (h.use x₁ fun v s₂ ⟨t, e₂⟩ k₂ x₂ => by
        subst e₂
        exact spliced_nil (call_range_1 (k _ _ _ _ _ (k₁.trans (k₂.trans Kp.pushToks)) (IsRange.new _ _ _ _ _ _ _) (x₂.keeps Kp.pushToks)))))) ) hs
  simpa using this
theorem src_range2 {e1 e2 : Expr} {p pos : Pos} {a b : Int} (S : Std c) (h1 : TV c O (eval e1 c.env) (IsInt a)) (h2 : TV c O (eval e2 c.env) (IsInt b)) (ha : -(2 ^ 62) ≤ a) (ha' : a < 2 ^ 62) (hb : -(2 ^ 62) ≤ b) (hb' : b < 2 ^ 62)
    (hk : c.env.kindOf "range" = some .globalImplicit := by rfl) (hf : c.env.scope.kind = .function := by rfl) (hs : starEach [e1, e2] c.env = [(false, eval e1 c.env), (false, eval e2 c.env)] := by rfl) :
    Src c O (.Call (.Name "range" p) [e1, e2] [] pos) (irange a (b - a).toNat) IsInt :=
  src_rangeAt S ha ha' hb hb' fun s E Q x k =>
    Call_Name2 ((e_bi S.range.1 S.range.2 hk S.gl S.bu hf).use x fun f s₁ e₁ k₁ x₁ => by
      subst e₁
      exact PyProof.Rows.callWith_type (args := [(false, eval e1 c.env), (false, eval e2 c.env)]) rfl (evalArgs_plain (spliced_cons (h1.use x₁ fun v s₂ ⟨t, q₂⟩ k₂ x₂ => by
        subst q₂
        exact spliced_cons (h2.use x₂ fun u s₃ ⟨t', q₃⟩ k₃ x₃ => by
          subst q₃
          exact spliced_nil (call_range_2 (k _ _ _ _ _ (k₁.trans (k₂.trans (k₃.trans Kp.pushToks))) (IsRange.new _ _ _ _ _ _ _) (x₃.keeps Kp.pushToks))))))) ) hs

/-- the objects at some places, as they are in a heap -/
def holds (h : Heap) (fp : List Addr) : Led := fp.map fun b => (b, fun o => h.get? b = some o)
theorem holds_get {h h' : Heap} {fp : List Addr} {b : Addr} {o : Obj} (hb : b ∈ fp) (k : ∀ p ∈ holds h fp, Has h' p) (e : h.get? b = some o) : h'.get? b = some o := by
  obtain ⟨o', e', q⟩ := k (b, fun o => h.get? b = some o) (List.mem_map.mpr ⟨b, hb, rfl⟩)
  dsimp only at e' q
  rw [e] at q
  cases q
  exact e'

theorem At.holds {s : Shared} {fp : List Addr} (x : At c O s) (live : ∀ b ∈ fp, s.heap.get? b ≠ none) (off : ∀ b ∈ fp, b ∉ c.places) : At c (Mine.holds s.heap fp ++ O) s := by
  refine ⟨x.base, fun p hp => ?_, x.mu, x.ns, x.cell, x.cellAlive, x.nodup, fun p hp => ?_, x.offB, x.gens, x.os, x.kin, x.tg, x.tb, x.nl⟩
  · rcases List.mem_append.mp hp with h | h
    · obtain ⟨b, hb, rfl⟩ := List.mem_map.mp h
      obtain ⟨o, e⟩ := Option.ne_none_iff_exists'.mp (live b hb)
      exact ⟨o, e, e⟩
    · exact x.own p h
  · rcases List.mem_append.mp hp with h | h
    · obtain ⟨b, hb, rfl⟩ := List.mem_map.mp h
      exact off b hb
    · exact x.offO p h

/-- what a turn's end hands on -/
def TurnEnd (c : Cx) (T H : Led) (J : Led → Led → (Str → Option Value) → Array GenState → Prop) (Q : Flow → Shared → Prop) (f : Flow) (s' : Shared) : Prop :=
  match f with
  | .next | .cont => ∃ O Mu sg gs, J O Mu sg gs ∧ At (c.up (Mu ++ T) sg gs) (H ++ O) s'
  | .brk => Q .next s'
  | .ret v => Q (.ret v) s'

theorem At.moved {s s' : Shared} {fp : List Addr} {I : Addr} (x : At c (O) s) (a : Alt [I] s s') (hI : I ∉ c.places) (hO : ∀ p ∈ O, p.1 ≠ I) (hB : ∀ o, c.B.get? I ≠ some o) (hcl : c.wc = false → ∀ p ∈ c.env.cells, p.2 ≠ I) : At c O s' := by
  have kp : ∀ b o, b ≠ I → s.heap.get? b = some o → s'.heap.get? b = some o := fun b o hb e => a.get (by simpa using hb) e
  have lp : c.env.locals ∈ c.places := by unfold Cx.places; exact .head _
  have pne : ∀ p ∈ c.env.cells, p.2 ≠ I := fun p hp => by
    cases hw : c.wc with
    | false => exact hcl hw p hp
    | true => intro h; exact hI (Cx.mem_places.mpr (.inr (.inl ⟨hw, p.1, h ▸ hp⟩)))
  refine ⟨fun b o e => kp b o (fun h => hB o (h ▸ e)) (x.base b o e), fun p hp => (x.own p hp).keep fun o e => kp _ o (hO p hp) e, fun p hp => (x.mu p hp).keep fun o e => kp _ o ?_ e, ?_, fun z b u hz hu => ?_, fun p hp => ?_,
    x.nodup, x.offO, x.offB, a.gens.trans x.gens, a.os.trans x.os, x.kin, x.tg, x.tb, x.nl⟩
  · intro h; exact hI (Cx.mem_places.mpr (.inr (.inr ⟨p.2, by rw [← h]; exact hp⟩)))
  · obtain ⟨m, hm, hz⟩ := x.ns
    exact ⟨m, hm.at' fun o e => kp _ o (fun h => hI (h ▸ lp)) e, hz⟩
  · obtain ⟨o, ho, hd⟩ := x.cell z b u hz hu
    exact ⟨o, kp b o (pne (z, b) (mem_of_lookup hz)) ho, hd⟩
  · obtain ⟨v, o, ho, hd⟩ := x.cellAlive p hp
    exact ⟨v, o, kp _ o (pne p hp) ho, hd⟩

theorem x_for {α : Type} {x : Str} {px pos : Pos} {iter : Expr} {body : List Stmt} {items : List α} {R : α → Value → Prop} {s : Shared} {Q : Flow → Shared → Prop} {E : Value → Shared → Prop}
    (hx : Stores c x) (S : Src c O iter items R) (hcl : c.wc = true) (J : Nat → Led → Led → (Str → Option Value) → Array GenState → Prop) (y : At c O s) (h0 : J 0 O c.Mu c.sg c.gs)
    (turn : ∀ i a v O' Mu sg gs T H s E', items[i]? = some a → R a v → J i O' Mu sg gs → At ((c.up (Mu ++ T) sg gs).set x v) (H ++ O') s →
      wpAny (model c.prog c.w) c.A (execs body c.env) (TurnEnd c T H (J (i + 1)) Q) E' s)
    (done : ∀ O' Mu sg gs s, J items.length O' Mu sg gs → At (c.up Mu sg gs) O' s → Q .next s)
    (hs : ∀ x, foldedSetIterable iter c.env x = pure x := by intro _; rfl) :
    wpAny (model c.prog c.w) c.A (exec (.For (.Name x px) iter body [] pos) c.env) Q E s := by
  refine wpAny_For (S s E _ y fun I fq St s₂ k₂ W st live hIn off mod => ?_) hs
  have hx' : ∀ Mu sg gs, Stores (c.up Mu sg gs) x := fun Mu sg gs => by
    cases hx with
    | loc a b d e => exact .loc a b d e
    | cell a b d e f => exact .cell a b d e f
  have hB : ∀ o, c.B.get? I ≠ some o := fun o e => by rw [y.base I o e] at hIn; cases hIn
  have live1 : ∀ i h, St i h → ∀ b ∈ fq, h.get? b ≠ none := fun i h hs b hb => live i h hs b (List.mem_cons_of_mem _ hb)
  have liveI : ∀ i h, St i h → ∃ o, h.get? I = some o := fun i h hs => Option.ne_none_iff_exists'.mp (live i h hs I (.head _))
  refine codeAny_forLoop (fun k s' => ∃ i O' Mu sg gs, i ≤ items.length ∧ k = items.length - i ∧ J i O' Mu sg gs ∧ At (c.up (Mu ++ Mine.holds s'.heap [I]) sg gs) (Mine.holds s'.heap fq ++ O') s' ∧ St i s'.heap) ?_ items.length ?_
  · rintro n s₃ ⟨i, O', Mu, sg, gs, hi, rfl, hJ, x₃, st₃⟩
    have Ipl : I ∈ (c.up (Mu ++ Mine.holds s₃.heap [I]) sg gs).places := Cx.mem_places.mpr (.inr (.inr ⟨_, List.mem_append_right _ (.head _)⟩))
    have x₄ : At (c.up Mu sg gs) (Mine.holds s₃.heap fq ++ O') s₃ := At.drop (c := c.up Mu sg gs) x₃
    have hO' : ∀ p ∈ O', p.1 ≠ I := fun p hp h => x₃.offO p (List.mem_append_right _ hp) (h ▸ Ipl)
    have offI : I ∉ (c.up Mu sg gs).places := by
      have nd := x₃.nodup
      unfold Cx.places at nd ⊢
      dsimp only at nd ⊢
      rw [List.map_append, ← List.append_assoc, ← List.cons_append, List.nodup_append] at nd
      intro h
      exact nd.2.2 I h I (by simp [Mine.holds]) rfl
    have offF : ∀ b ∈ fq, b ∉ (c.up Mu sg gs).places := fun b hb => x₄.offO (b, _) (List.mem_append_left _ (List.mem_map.mpr ⟨b, hb, rfl⟩))
    have x₄' : At (c.up Mu sg gs) O' s₃ := x₄.sub fun p hp => List.mem_append_right _ hp
    have nw : ∀ {P : Prop}, (c.up Mu sg gs).wc = false → P := fun h => absurd (hcl.symm.trans h) (by simp)
    by_cases hlt : i < items.length
    · refine W.item i s₃ _ _ hlt st₃ fun v h' tk ⟨a, ha, hR⟩ st₄ k₄ => ?_
      have x₅ : At (c.up Mu sg gs) O' { s₃ with heap := h', toks := tk } := x₄'.moved (fp := []) ⟨h', tk, rfl, k₄⟩ offI hO' hB (fun h => nw h)
      obtain ⟨oI, eI⟩ := liveI _ _ st₄
      have x₆ : At (c.up (Mu ++ Mine.holds h' [I]) sg gs) (Mine.holds h' fq ++ O') { s₃ with heap := h', toks := tk } := by
        refine At.addMu (c := c.up Mu sg gs) (p := (I, fun o => h'.get? I = some o)) (x₅.holds (live1 _ _ st₄) offF) ⟨oI, eI, eI⟩ offI ?_ hB
        intro q hq
        rcases List.mem_append.mp hq with h | h
        · obtain ⟨b, hb, rfl⟩ := List.mem_map.mp h
          exact (off b hb).2
        · exact hO' q h
      refine wpAny_assign_Name (w_store (c := c.up (Mu ++ Mine.holds h' [I]) sg gs) (hx' _ sg gs) x₆ fun s₇ _ x₇ => ?_)
      refine wpAny_mono (turn i a v O' Mu sg gs _ _ s₇ _ ha hR hJ x₇) (fun f s₈ h₈ => ?_) fun _ _ e => e
      have fin : (∃ O Mu sg gs, J (i + 1) O Mu sg gs ∧ At (c.up (Mu ++ Mine.holds h' [I]) sg gs) (Mine.holds h' fq ++ O) s₈) → ∃ m, m < items.length - i ∧ ∃ j O'' Mu sg gs, j ≤ items.length ∧ m = items.length - j ∧ J j O'' Mu sg gs ∧
          At (c.up (Mu ++ Mine.holds s₈.heap [I]) sg gs) (Mine.holds s₈.heap fq ++ O'') s₈ ∧ St j s₈.heap := by
        rintro ⟨O₉, Mu₉, sg₉, gs₉, hJ₉, x₉⟩
        have keepI : ∀ o, h'.get? I = some o → s₈.heap.get? I = some o := fun o e => holds_get (fp := [I]) (.head _) (fun p hp => x₉.mu p (List.mem_append_right _ hp)) e
        have keepF : ∀ b ∈ fq, ∀ o, h'.get? b = some o → s₈.heap.get? b = some o := fun b hb o e => holds_get hb (fun p hp => x₉.own p (List.mem_append_left _ hp)) e
        have st₉ : St (i + 1) s₈.heap := W.frame _ _ _ st₄ fun b hb o e => by
          rcases List.mem_cons.mp hb with rfl | hb
          · exact keepI o e
          · exact keepF b hb o e
        have eH : Mine.holds s₈.heap fq = Mine.holds h' fq := by
          refine List.map_congr_left fun b hb => ?_
          obtain ⟨o, e⟩ := Option.ne_none_iff_exists'.mp (live1 _ _ st₄ b hb)
          rw [e, keepF b hb o e]
        have eI' : Mine.holds s₈.heap [I] = Mine.holds h' [I] := by
          refine List.map_congr_left fun b hb => ?_
          rw [List.mem_singleton.mp hb, eI, keepI oI eI]
        exact ⟨items.length - (i + 1), by omega, i + 1, O₉, Mu₉, sg₉, gs₉, hlt, rfl, hJ₉, by rw [eH, eI']; exact x₉, st₉⟩
      cases f with
      | next => exact fin h₈
      | cont => exact fin h₈
      | brk => exact h₈
      | ret v => exact h₈
    · have hin : i = items.length := by omega
      subst hin
      refine W.done s₃ _ _ st₃ fun h' tk k₄ => ?_
      exact wpAny_execs_nil (done O' Mu sg gs _ hJ (x₄'.moved (fp := []) ⟨h', tk, rfl, k₄⟩ offI hO' hB (fun h => nw h)))
  · obtain ⟨oI, eI⟩ := liveI _ _ st
    have x₂ := y.keeps k₂
    refine ⟨0, O, c.Mu, c.sg, c.gs, Nat.zero_le _, rfl, h0, ?_, st⟩
    refine At.addMu (c := c) (Mu := c.Mu) (p := (I, fun o => s₂.heap.get? I = some o)) (x₂.holds (live1 _ _ st) fun b hb => (off b hb).1) ⟨oI, eI, eI⟩ (fun h => y.alive h hIn) ?_ hB
    intro q hq
    rcases List.mem_append.mp hq with h | h
    · obtain ⟨b, hb, rfl⟩ := List.mem_map.mp h
      exact (off b hb).2
    · intro e
      obtain ⟨o, eo, _⟩ := y.own q h
      rw [e, hIn] at eo; cases eo
end
end Mine

namespace Mine

/-- the names within a comprehension -/
def csg (sg : Str → Option Value) (cl : List (Str × Addr)) (x : Str) (v : Value) : Str → Option Value := fun y => if y = x then some v else if (cl.lookup y).isSome then sg y else none
theorem csg_same {sg : Str → Option Value} {cl : List (Str × Addr)} {x : Str} {v : Value} : csg sg cl x v x = some v := if_pos rfl
theorem csg_cell {sg : Str → Option Value} {cl : List (Str × Addr)} {x y : Str} {v u : Value} {a : Addr} (h : y ≠ x) (ha : cl.lookup y = some a) (hu : sg y = some u) : csg sg cl x v y = some u := by
  unfold csg; rw [if_neg h, ha]; simpa using hu
abbrev Cx.comp (c : Cx) (scope : Scope) (cl : List (Str × Addr)) (C : Addr) (sg : Str → Option Value) : Cx := { c with env := compEnvC scope cl C c.env, wc := false, sg := sg }

def testsOf (ifs : List Expr) (env : Env) : Sem Bool := forIn ifs true fun c r => if r = true then do let ok ← isTrue c env (eval c env); pure (ForInStep.yield ok) else pure (ForInStep.yield r)
theorem ts_nil {c : Cx} {O : Led} : TV c O (testsOf [] c.env) (· = true) := fun s E x => wpAny_tests_nil ⟨rfl, Kp.refl s⟩
theorem ts_one {c : Cx} {O : Led} {e : Expr} {b : Bool} (h : TV c O (isTrue e c.env (eval e c.env)) (· = b)) : TV c O (testsOf [e] c.env) (· = b) := fun s E x => wpAny_tests_one (h s E x)

/-- what a comprehension's scope must be -/
structure ScopeOk (scope : Scope) : Prop where
  cell : ∀ y ∈ scope.names, y.2 ≠ .cell
  kind : scope.kind = .function
  names : ∀ y ∈ scope.names, y.2 = .local → scope.names.lookup y.1 = some .local

section
variable {c : Cx} {O : Led}

/-- a comprehension's loop, its targets assigned in whatever way: what holds of the map of names behind the targets' assignment is bind -/
theorem compLoop_any {prog : Program} {w : World} {A : Around} {R : Result → Shared → Prop} {s : Shared} {elt target iter : Expr} {ifs : List Expr} {scope : Scope} {pos : Pos} {it acc : Value} {env : Env} (I : Nat → Shared → Prop)
    (turn : ∀ n s, I n s → wpAny (model prog w) A (pyNext it) (fun r s₁ => match r with
      | none => R (.ok .next) s₁
      | some v => wpAny (model prog w) A (letOwnedTupleGo target it v) (fun _ s₁' => wpAny (model prog w) A (assign target env v) (fun _ s₂ =>
          wpAny (model prog w) A (testsOf ifs env) (fun ok s₃ =>
            if ok = true then wpAny (model prog w) A (eval elt env) (fun x s₄ =>
              wpAny (model prog w) A (call (.builtin "list.append") [acc, x]) (fun _ s₅ => ∃ m, m < n ∧ I m s₅) (notedBy (model prog w) A env fun e s' => R (.error e) s') s₄) (notedBy (model prog w) A env fun e s' => R (.error e) s') s₃
            else ∃ m, m < n ∧ I m s₃) (notedBy (model prog w) A env fun e s' => R (.error e) s') s₂) (notedBy (model prog w) A env fun e s' => R (.error e) s') s₁') (notedBy (model prog w) A env fun e s' => R (.error e) s') s₁) (notedBy (model prog w) A env fun e s' => R (.error e) s') s)
    (n : Nat) (h : I n s) : codeAny (model prog w) A (.compLoop (.ListComp elt [⟨target, iter, ifs, 0⟩] scope pos) 0 it acc env) R s := by
  refine codeAny_loop rfl I (fun n s hI => ?_) n h
  show wpAny _ A ((compTurn (.ListComp elt [⟨target, iter, ifs, 0⟩] scope pos) 0 it acc env).onRaise (fun x => do noteFrame x env; theTreesLotGoes x)) _ _ s
  refine wpAny_noted ?_
  rw [compTurn_list]
  refine wpAny_bind (wpAny_standAt (wpAny_bind (wpAny_mono (turn n s hI) (fun r s₁ h₁ => ?_) fun _ _ h' => h')))
  cases r with
  | none => exact wpAny_pure h₁
  | some v =>
    refine wpAny_bind (wpAny_mono h₁ (fun _ s₁' h₁' => ?_) fun _ _ h' => h')
    refine wpAny_bind (wpAny_mono h₁' (fun _ s₂ h₂ => wpAny_bind (wpAny_mono h₂ (fun ok s₃ h₃ => ?_) fun _ _ h' => h')) fun _ _ h' => h')
    cases ok with
    | false => exact wpAny_pure ⟨rfl, h₃⟩
    | true => exact wpAny_bind (wpAny_bind (wpAny_mono h₃ (fun x s₄ h₄ => wpAny_bind (wpAny_mono h₄ (fun _ s₅ h₅ => wpAny_pure (wpAny_pure ⟨rfl, h₅⟩)) fun _ _ h' => h')) fun _ _ h' => h'))

theorem comp_core {α : Type} {target iter elt : Expr} {ifs : List Expr} {scope : Scope} {pos : Pos} {items : List α} {R : α → Value → Prop} {cl : List (Str × Addr)} {s s₂ : Shared} {E : Value → Shared → Prop}
    {I : Addr} {fq : List Addr} {St : Nat → Heap → Prop} {RR : Value → Addr → Result → Shared → Prop}
    (p : α → Bool) (F : α → Value → Led → Prop) (hF : ∀ a y N N', F a y N → (∀ q ∈ N, q ∈ N') → F a y N') (sgv : α → Value → Str → Option Value)
    (hcl : ∀ y a, cl.lookup y = some a → c.env.cells.lookup y = some a) (hclm : ∀ p ∈ cl, p ∈ c.env.cells) (so : ScopeOk scope)
    (bind : ∀ (C : Addr) (v : Value) (a : α) (s₃ : Shared) (m : Str → Option Value) (Q : Unit → Shared → Prop) (E' : Value → Shared → Prop), R a v → At c O s₃ → s₃.heap.Ns C m →
      (∀ s₄ m', Alt [C] s₃ s₄ → s₄.heap.Ns C m' → (∀ y u, (relabel scope c.env).names.lookup y = some .local → sgv a v y = some u → m' y = some u) → Q () s₄) → wpAny (model c.prog c.w) c.A (assign target (compEnvC scope cl C c.env) v) Q E' s₃)
    (hcs : ∀ x v y a u, cl.lookup y = some a → sgv x v y = some u → c.sg y = some u)
    (tests : ∀ (i : Nat) a v C, items[i]? = some a → R a v → TV (c.comp scope cl C (sgv a v)) O (testsOf ifs (compEnvC scope cl C c.env)) (· = p a))
    (elem : ∀ (i : Nat) a v C, items[i]? = some a → R a v → p a = true → Tr (c.comp scope cl C (sgv a v)) O (eval elt (compEnvC scope cl C c.env)) (F a))
    (hn : items.length ≤ 100000) (y : At c O s) (k₂ : Kp s s₂) (W : Walks c.prog c.w c.A I (I :: fq) [I] items.length (fun i v => ∃ a, items[i]? = some a ∧ R a v) St) (st : St 0 s₂.heap)
    (hIn : s.heap.get? I = none) (live : ∀ i h, St i h → ∀ b ∈ I :: fq, h.get? b ≠ none)
    (ht : ∀ i h, St i h → Modest h I)
    (hRR : ∀ D C s' ys N m, Kp s s' → At c ((D, LP ys) :: (N ++ O)) s' → (∀ q ∈ (D, LP ys) :: N, s.heap.get? q.1 = none) → s'.heap.Ns C m → s.heap.get? C = none → C ∉ c.places → (∀ q ∈ (D, LP ys) :: (N ++ O), q.1 ≠ C) →
      Paired (fun a y => F a y N) (items.filter p) ys → RR (.ref D) C (.ok .next) s') :
    wpAny (model c.prog c.w) c.A (newList []) (fun acc s₃ => wpAny (model c.prog c.w) c.A (newFunctionEnv scope c.env.globals cl [] c.env.qual none .none (some c.env)) (fun cenv s₄ =>
      codeAny (model c.prog c.w) c.A (.compStart (.ListComp elt [⟨target, iter, ifs, 0⟩] scope pos) 0 (.ref I) acc { cenv with scope := relabel scope c.env }) (RR acc cenv.locals) s₄) E s₃) E s₂ := by
  have alive := live 0 _ st
  refine wpAny_newObj_type (wpAny_newFunctionEnv so.cell (by intro y hy; simp at hy) (fun h₁ hns₁ hsb₁ => ?_) so.kind)
  dsimp only at hns₁ hsb₁ ⊢
  generalize hH2 : s₂.heap.push { cls := .type "list", dict := none, data := .seq ([] : List Value).toArray } = H2 at hns₁ hsb₁ ⊢
  have hC : H2.objs.size = s₂.heap.objs.size + 1 := by rw [← hH2, Heap.size_push]
  generalize hDe : s₂.heap.objs.size = D at hC ⊢
  generalize hCe : H2.objs.size = C at hC hns₁ hsb₁ ⊢
  have hDC : D ≠ C := by rw [hC]; exact Nat.ne_of_lt (Nat.lt_succ_self _)
  have belowC : ∀ b : Nat, b < D → b ≠ C := fun b hb => by rw [hC]; exact Nat.ne_of_lt (Nat.lt_succ_of_lt hb)
  have below : ∀ b : Nat, s₂.heap.get? b ≠ none → b < D := fun b hb => by
    obtain ⟨o, e⟩ := Option.ne_none_iff_exists'.mp hb
    rw [← hDe]; exact Heap.lt_size e
  have old : ∀ b o, s₂.heap.get? b = some o → h₁.get? b = some o := fun b o e => by
    have hb := below b (by rw [e]; simp)
    exact hsb₁.extBut b o (belowC b hb) (Heap.get?_push_of_some _ (hH2 ▸ Heap.get?_push_of_some _ e))
  have hacc : h₁.PlainList D #[] := ⟨_, hsb₁.extBut _ _ hDC (Heap.get?_push_of_some _ (hH2 ▸ hDe ▸ Heap.get?_push_size _ rfl))⟩
  have hst₁ : St 0 h₁ := W.frame _ _ _ st fun b _ o e => old b o e
  have IneD : I ≠ D := Nat.ne_of_lt (below I (alive I (.head _)))
  have IneC : I ≠ C := belowC I (below I (alive I (.head _)))
  have fneD : ∀ b ∈ fq, b ≠ D := fun b hb => Nat.ne_of_lt (below b (alive b (.tail _ hb)))
  have fneC : ∀ b ∈ fq, b ≠ C := fun b hb => belowC b (below b (alive b (.tail _ hb)))
  have aliveS : ∀ b o, s.heap.get? b = some o → b ≠ I ∧ b ≠ D ∧ b ≠ C := fun b o e => by
    have h2 := below b (by rw [k₂.get e]; simp)
    refine ⟨fun h => ?_, Nat.ne_of_lt h2, belowC b h2⟩
    rw [h, hIn] at e; cases e
  have noneD : s.heap.get? D = none := by
    cases q : s.heap.get? D with
    | none => rfl
    | some o => exact absurd rfl (aliveS D o q).2.1
  have noneC : s.heap.get? C = none := by
    cases q : s.heap.get? C with
    | none => rfl
    | some o => exact absurd rfl (aliveS C o q).2.2
  have plNe : ∀ a, a ∈ c.places → a ≠ I ∧ a ≠ D ∧ a ≠ C := fun a ha => by
    obtain ⟨o, e⟩ := Option.ne_none_iff_exists'.mp (y.alive ha)
    exact aliveS a o e
  obtain ⟨h₂, t₂, rfl, kk₂⟩ := k₂
  dsimp only at old hst₁ hDe
  -- the invariant
  have loop : ∀ s₃ : Shared, s₃ = { s with heap := h₁, toks := t₂ } →
      codeAny (model c.prog c.w) c.A (.compLoop (.ListComp elt [⟨target, iter, ifs, 0⟩] scope pos) 0 (.ref I) (.ref D) (compEnvC scope cl C c.env)) (RR (.ref D) C) s₃ := by
    rintro s₃ rfl
    refine compLoop_any (fun k s' => ∃ i ys N m, i ≤ items.length ∧ k = items.length + 1 - i ∧ Kp s s' ∧ St i s'.heap ∧ s'.heap.PlainList D ys ∧ s'.heap.Ns C m ∧
      (∀ q ∈ N, s.heap.get? q.1 = none ∧ Has s'.heap q ∧ q.1 ≠ I ∧ q.1 ≠ D ∧ q.1 ≠ C) ∧ Paired (fun a y => F a y N) ((items.take i).filter p) ys.toList) ?_ (items.length + 1)
      ⟨0, #[], [], _, Nat.zero_le _, rfl, ⟨h₁, t₂, rfl, fun b o e => old b o (kk₂ b o e)⟩, hst₁, hacc, hns₁, (fun q hq => (nomatch hq)), by simpa using Paired.nil⟩
    rintro k s' ⟨i, ys, N, m, hi, rfl, kp, sti, hys, hns, hN, hP⟩
    have kp' : ∀ {b : Addr} {o : Obj}, s.heap.get? b = some o → s'.heap.get? b = some o := fun e => kp.get e
    by_cases hlt : i < items.length
    · refine W.item i s' _ _ hlt sti fun v h' tk ⟨a, ha, hR⟩ st' k' => ?_
      have kI : ∀ b o, b ≠ I → s'.heap.get? b = some o → h'.get? b = some o := fun b o hb e => k' b o (by simpa using hb) e
      have kp1 : Kp s { s' with heap := h', toks := tk } := by
        obtain ⟨h4, t4, rfl, k4⟩ := kp
        exact ⟨h', tk, rfl, fun b o e => kI b o (aliveS b o e).1 (k4 b o e)⟩
      have y1 : At c O { s' with heap := h', toks := tk } := y.keeps kp1
      refine w_letgo_of (ht _ _ st') ?_
      refine bind C v a _ m _ _ hR y1 (hns.at' fun o e => kI C o (Ne.symm IneC) e) fun s₄ m' al hns₄ hm' => ?_
      have kC : ∀ {b : Addr} {o : Obj}, b ≠ C → h'.get? b = some o → s₄.heap.get? b = some o := fun hb e => al.get (by simpa using hb) e
      have kp2 : Kp s s₄ := by
        obtain ⟨h4, t4, rfl, k4⟩ := al
        obtain ⟨h5, t5, rfl, k5⟩ := kp
        exact ⟨h4, t4, rfl, fun b o e => k4 b o (by simpa using (aliveS b o e).2.2) (kp1.get e)⟩
      have hN4 : ∀ q ∈ N, Has s₄.heap q := fun q hq => (hN q hq).2.1.keep fun o e => kC (hN q hq).2.2.2.2 (kI _ o (hN q hq).2.2.1 e)
      have x₄ : At (c.comp scope cl C (sgv a v)) (N ++ O) s₄ := by
        have z := y.keeps kp2
        refine ⟨z.base, fun q hq => ?_, z.mu, ⟨m', hns₄, fun w u hw hu => hm' w u hw hu⟩, fun w b u hw hu => ?_, fun w hw => z.cellAlive w (hclm w hw), ?_, fun q hq h => ?_, fun b o e h => ?_, z.gens, z.os, z.kin, z.tg, z.tb, z.nl⟩
        · rcases List.mem_append.mp hq with hq | hq
          · exact hN4 q hq
          · exact z.own q hq
        · exact z.cell w b u (hcl w b hw) (hcs a v w b u hw hu)
        · have nd := y.nodup
          unfold Cx.places at nd ⊢
          rw [List.nodup_cons, List.nodup_append] at nd
          show (C :: ([] ++ c.Mu.map (·.1))).Nodup
          rw [List.nil_append, List.nodup_cons]
          refine ⟨fun h => ?_, nd.2.2.1⟩
          obtain ⟨q, hq, e⟩ := List.mem_map.mp h
          exact (plNe C (Cx.mem_places.mpr (.inr (.inr ⟨q.2, by rw [← e]; exact hq⟩)))).2.2 rfl
        · rcases Cx.mem_places.mp h with h | ⟨h, _⟩ | ⟨r, h⟩
          · have h : q.1 = C := h
            rcases List.mem_append.mp hq with hq | hq
            · exact (hN q hq).2.2.2.2 h
            · obtain ⟨o, eo, _⟩ := y.own q hq
              exact (aliveS _ o eo).2.2 h
          · cases h
          · have hpl : q.1 ∈ c.places := Cx.mem_places.mpr (.inr (.inr ⟨r, h⟩))
            rcases List.mem_append.mp hq with hq | hq
            · exact y.alive hpl (hN q hq).1
            · exact y.offO q hq hpl
        · rcases Cx.mem_places.mp h with h | ⟨h, _⟩ | ⟨r, h⟩
          · have h : b = C := h
            exact (aliveS _ o (y.base b o e)).2.2 h
          · cases h
          · exact y.offB b o e (Cx.mem_places.mpr (.inr (.inr ⟨r, h⟩)))
      have st₄ : St (i + 1) s₄.heap := W.frame _ _ _ st' fun b hb o e => by
        rcases List.mem_cons.mp hb with rfl | hb
        · exact kC IneC e
        · exact kC (fneC b hb) e
      have hys₄ : s₄.heap.PlainList D ys := hys.at fun o e => kC hDC (kI D o (Ne.symm IneD) e)
      refine ((tests i a v C ha hR).weak (O' := N ++ O) fun q hq => List.mem_append_right _ hq).use x₄ fun ok s₅ hok k₅ x₅ => ?_
      subst hok
      have kp5 := kp2.trans k₅
      have st₅ : St (i + 1) s₅.heap := W.frame _ _ _ st₄ fun b _ o e => k₅.get e
      have hys₅ : s₅.heap.PlainList D ys := hys₄.at fun o e => k₅.get e
      cases hpa : p a with
      | false =>
        simp only [Bool.false_eq_true, if_false]
        refine ⟨items.length + 1 - (i + 1), by omega, i + 1, ys, N, m', hlt, rfl, kp5, st₅, hys₅, hns₄.keeps fun b o e => k₅.get e, fun q hq => ⟨(hN q hq).1, (hN4 q hq).keep fun o e => k₅.get e, (hN q hq).2.2⟩, ?_⟩
        rw [take_succ_filter p _ i a ha, hpa]; simpa using hP
      | true =>
        simp only [if_true]
        refine ((elem i a v C ha hR hpa).weak (O' := N ++ O) fun q hq => List.mem_append_right _ hq).use x₅ fun u s₆ N' hu g₆ x₆ => ?_
        have hsz : ys.size ≤ sizeLine := by
          have e1 := hP.length
          have e2 : ((items.take i).filter p).length ≤ (items.take i).length := List.length_filter_le _ _
          have e3 : (items.take i).length ≤ items.length := by rw [List.length_take]; omega
          have e4 : ys.toList.length = ys.size := by simp
          exact small_line (by omega)
        refine wpAny_list_append_plain (hsz := hsz) (hys₅.at fun o e => g₆.1.get e) fun h₇ hl₇ hs₇ => ?_
        have kD : ∀ {b : Addr} {o : Obj}, b ≠ D → s₆.heap.get? b = some o → h₇.get? b = some o := fun hb e => hs₇.extBut _ _ hb e
        have new : ∀ q ∈ N', q.1 ≠ I ∧ q.1 ≠ D ∧ q.1 ≠ C := fun q hq => by
          have hq' := (g₆.2 q hq).1
          refine ⟨fun h => ?_, fun h => ?_, fun h => ?_⟩
          · rw [h] at hq'
            exact live _ _ st₅ I (.head _) hq'
          · rw [h] at hq'
            obtain ⟨n, e⟩ := hys₅
            rw [e] at hq'; cases hq'
          · rw [h] at hq'
            obtain ⟨o, _, _, e, _⟩ := hns₄
            rw [k₅.get e] at hq'; cases hq'
        have kp7 : Kp s { s₆ with heap := h₇ } := by
          obtain ⟨h8, t8, rfl, k8⟩ := kp5.trans g₆.1
          exact ⟨h₇, t8, rfl, fun b o e => kD (aliveS b o e).2.1 (k8 b o e)⟩
        refine ⟨items.length + 1 - (i + 1), by omega, i + 1, ys.push u, N' ++ N, m', hlt, rfl, kp7, ?_, hl₇, ?_, fun q hq => ?_, ?_⟩
        · refine W.frame _ _ _ st₅ fun b hb o e => kD ?_ (g₆.1.get e)
          rcases List.mem_cons.mp hb with rfl | hb
          · exact IneD
          · exact fneD b hb
        · exact (hns₄.keeps fun b o e => g₆.1.get (k₅.get e)).at' fun o e => kD (Ne.symm hDC) e
        · rcases List.mem_append.mp hq with hq | hq
          · exact ⟨kp5.none (g₆.2 q hq).1, (g₆.2 q hq).2.keep fun o e => kD (new q hq).2.1 e, new q hq⟩
          · exact ⟨(hN q hq).1, (hN4 q hq).keep fun o e => kD (hN q hq).2.2.2.1 (g₆.1.get (k₅.get e)), (hN q hq).2.2⟩
        · rw [take_succ_filter p _ i a ha, hpa]
          have h1 : Paired (fun a y => F a y (N' ++ N)) ((items.take i).filter p) ys.toList := hP.mono fun a y h => hF a y N _ h fun q hq => List.mem_append_right _ hq
          have h2 : F a u (N' ++ N) := hF a u N' _ hu fun q hq => List.mem_append_left _ hq
          simpa using Paired.snoc h1 h2
    · have hin : i = items.length := by omega
      subst hin
      refine W.done s' _ _ sti fun h' tk k' => ?_
      have kI : ∀ {b : Addr} {o : Obj}, b ≠ I → s'.heap.get? b = some o → h'.get? b = some o := fun hb e => k' _ _ (by simpa using hb) e
      have kp1 : Kp s { s' with heap := h', toks := tk } := by
        obtain ⟨h4, t4, rfl, k4⟩ := kp
        exact ⟨h', tk, rfl, fun b o e => kI (aliveS b o e).1 (k4 b o e)⟩
      obtain ⟨n, en⟩ := hys
      have hD' : Has h' (D, LP ys.toList) := ⟨_, kI (Ne.symm IneD) en, n, rfl⟩
      rw [List.take_length] at hP
      refine hRR D C _ ys.toList N m kp1 ?_ (fun q hq => ?_) (hns.at' fun o e => kI (Ne.symm IneC) e) noneC (fun h => (plNe C h).2.2 rfl) (fun q hq => ?_) hP
      · have := y.grow (N := (D, LP ys.toList) :: N) ⟨kp1, fun q hq => by
          rcases List.mem_cons.mp hq with rfl | hq
          · exact ⟨noneD, hD'⟩
          · exact ⟨(hN q hq).1, (hN q hq).2.1.keep fun o e => kI (hN q hq).2.2.1 e⟩⟩
        exact this
      · rcases List.mem_cons.mp hq with rfl | hq
        · exact noneD
        · exact (hN q hq).1
      · rcases List.mem_cons.mp hq with rfl | hq
        · exact hDC
        · rcases List.mem_append.mp hq with hq | hq
          · exact (hN q hq).2.2.2.2
          · obtain ⟨o, eo, _⟩ := y.own q hq
            exact (aliveS _ o eo).2.2
  exact codeAny_compStart_list (loop _ rfl) (W.self 0 _ _ _ hst₁ (loop _ rfl))
end
end Mine

namespace Mine

/-- the cells that a comprehension sees -/
def clOf (env : Env) : List (Str × NameKind) → List (Str × Addr) → List (Str × Addr)
  | [], acc => acc
  | (n, k) :: r, acc => if k == .free then (match env.cells.lookup n with | some a => clOf env r ((n, a) :: acc) | none => clOf env r acc) else clOf env r acc
def freeOk (env : Env) (names : List (Str × NameKind)) : Bool := names.all fun p => p.2 != .free || (env.cells.lookup p.1).isSome

theorem clOf_mem {env : Env} : ∀ {names : List (Str × NameKind)} {acc : List (Str × Addr)}, (∀ p ∈ acc, env.cells.lookup p.1 = some p.2) → ∀ p ∈ clOf env names acc, env.cells.lookup p.1 = some p.2
  | [], acc, h, p, hp => h p hp
  | (n, k) :: r, acc, h, p, hp => by
    unfold clOf at hp
    split at hp
    · split at hp
      · rename_i a ha
        refine clOf_mem (names := r) (acc := (n, a) :: acc) (fun q hq => ?_) p hp
        rcases List.mem_cons.mp hq with rfl | hq
        · exact ha
        · exact h q hq
      · exact clOf_mem (names := r) h p hp
    · exact clOf_mem (names := r) h p hp

theorem closureFor_eq {scope : Scope} {env : Env} (h : freeOk env scope.names = true) : closureFor scope env = pure (clOf env scope.names []) := by
  unfold closureFor
  have key : ∀ (names : List (Str × NameKind)) (acc : List (Str × Addr)), freeOk env names = true →
      (forIn names acc fun (x : Str × NameKind) (r : List (Str × Addr)) => (do if x.2 == .free then do let a ← cellOf env x.1; pure (ForInStep.yield ((x.1, a) :: r)) else pure (ForInStep.yield r) : Sem (ForInStep (List (Str × Addr))))) = pure (clOf env names acc) := by
    intro names
    induction names with
    | nil => intro acc _; rfl
    | cons x r ih =>
      intro acc hh
      obtain ⟨n, k⟩ := x
      unfold freeOk at hh
      rw [List.all_cons, Bool.and_eq_true] at hh
      rw [List.forIn_cons]
      unfold clOf
      cases hk : k == NameKind.free with
      | false =>
        simp only [hk, Bool.false_eq_true, if_false]
        rw [pure_bind]
        exact ih acc hh.2
      | true =>
        simp only [hk, if_true]
        have hk' : k = .free := by simpa using hk
        have h1 := hh.1
        rw [hk'] at h1
        cases hl : env.cells.lookup n with
        | none => rw [hl] at h1; simp at h1
        | some a =>
          have e : cellOf env n = pure a := by unfold cellOf; rw [hl]
          rw [e]
          simp only [pure_bind]
          exact ih _ hh.2
  have := key scope.names [] h
  first
    | exact (by rw [← bind_pure (pure (clOf env scope.names []) : Sem _), ← this]; rfl)
    | (simp only [bind_pure]; exact this)
    | (rw [show (pure (clOf env scope.names []) : Sem (List (Str × Addr))) = (pure (clOf env scope.names []) >>= pure) from rfl, ← this]; rfl)

abbrev Cx.cl (c : Cx) (scope : Scope) : List (Str × Addr) := clOf c.env scope.names []

/-- the looks at a comprehension's scope that the kernel makes -/
def scopeLook (c : Cx) (scope : Scope) : Bool :=
  freeOk c.env scope.names && scope.names.all (fun y => y.2 != .cell) && scope.names.all (fun y => y.2 != .local || (scope.names.lookup y.1 == some .local)) &&
  ((c.cl scope).map (·.1)).all (fun y => (relabel scope c.env).names.lookup y != some .local)

section
variable {c : Cx} {O : Led}

theorem scopeLook_ok {scope : Scope} (h : scopeLook c scope = true) (hk : scope.kind = .function) : ScopeOk scope := by
  unfold scopeLook at h
  simp only [Bool.and_eq_true] at h
  refine ⟨fun y hy => by have := List.all_eq_true.mp h.1.1.2 y hy; simpa using this, hk, fun y hy hl => ?_⟩
  have := List.all_eq_true.mp h.1.2 y hy
  rw [hl] at this
  simpa using this
theorem scopeLook_free {scope : Scope} (h : scopeLook c scope = true) : freeOk c.env scope.names = true := by
  unfold scopeLook at h
  simp only [Bool.and_eq_true] at h
  exact h.1.1.1
theorem scopeLook_apart {scope : Scope} (h : scopeLook c scope = true) {y : Str} {a : Addr} (ha : (c.cl scope).lookup y = some a) : (relabel scope c.env).names.lookup y ≠ some .local := by
  unfold scopeLook at h
  simp only [Bool.and_eq_true] at h
  have := List.all_eq_true.mp h.2 y (List.mem_map.mpr ⟨_, mem_of_lookup ha, rfl⟩)
  simpa using this
theorem cl_lookup {scope : Scope} {y : Str} {a : Addr} (h : (c.cl scope).lookup y = some a) : c.env.cells.lookup y = some a := clOf_mem (acc := []) (fun p hp => nomatch hp) _ (mem_of_lookup h)
theorem cl_mem {scope : Scope} (p : Str × Addr) (h : p ∈ c.cl scope) : p ∈ c.env.cells := mem_of_lookup (clOf_mem (acc := []) (fun p hp => nomatch hp) _ h)

/-- the name's target -/
theorem bind_name {scope : Scope} {x : Str} {px : Pos} (hl : scopeLook c scope = true) (hk : scope.kind = .function) (hx : scope.names.lookup x = some .local) {α : Type} {R : α → Value → Prop} :
    ∀ (C : Addr) (v : Value) (a : α) (s₃ : Shared) (m : Str → Option Value) (Q : Unit → Shared → Prop) (E' : Value → Shared → Prop), R a v → At c O s₃ → s₃.heap.Ns C m →
      (∀ s₄ m', Alt [C] s₃ s₄ → s₄.heap.Ns C m' → (∀ y u, (relabel scope c.env).names.lookup y = some .local → csg c.sg (c.cl scope) x v y = some u → m' y = some u) → Q () s₄) →
      wpAny (model c.prog c.w) c.A (assign (.Name x px) (compEnvC scope (c.cl scope) C c.env) v) Q E' s₃ := by
  intro C v a s₃ m Q E' _ _ hns k
  refine wpAny_assign_Name (wpAny_storeName_local (env := compEnvC scope (c.cl scope) C c.env) (lookup_relabel_local hx) hns (fun h' hn' hs' => k _ _ (Alt.of_same hs') hn' fun y u hy hu => ?_) (by simp [compEnvC, relabel, hk]))
  unfold csg at hu
  by_cases h : y = x
  · rw [if_pos h] at hu ⊢; exact hu
  · rw [if_neg h] at hu
    split at hu
    · rename_i hs
      obtain ⟨b, hb⟩ := Option.isSome_iff_exists.mp hs
      exact absurd hy (scopeLook_apart hl hb)
    · cases hu

theorem csg_sub {sg : Str → Option Value} {cl : List (Str × Addr)} {x : Str} {v : Value} (hx : cl.lookup x = none) : ∀ y a u, cl.lookup y = some a → csg sg cl x v y = some u → sg y = some u := by
  intro y a u ha hu
  unfold csg at hu
  by_cases h : y = x
  · rw [h, hx] at ha; cases ha
  · rw [if_neg h, ha] at hu; simpa using hu

theorem cl_not {scope : Scope} {x : Str} (hl : scopeLook c scope = true) (hx : scope.names.lookup x = some .local) : (c.cl scope).lookup x = none := by
  cases e : (c.cl scope).lookup x with
  | none => rfl
  | some a => exact absurd (lookup_relabel_local hx) (scopeLook_apart hl e)

theorem e_comp {α : Type} {x : Str} {px pos : Pos} {iter elt : Expr} {ifs : List Expr} {scope : Scope} {items : List α} {R : α → Value → Prop} (S : Src c O iter items R)
    (p : α → Bool) (F : α → Value → Led → Prop) (hF : ∀ a y N N', F a y N → (∀ q ∈ N, q ∈ N') → F a y N')
    (tests : ∀ (i : Nat) a v C, items[i]? = some a → R a v → TV (c.comp scope (c.cl scope) C (csg c.sg (c.cl scope) x v)) O (testsOf ifs (compEnvC scope (c.cl scope) C c.env)) (· = p a))
    (elem : ∀ (i : Nat) a v C, items[i]? = some a → R a v → p a = true → Tr (c.comp scope (c.cl scope) C (csg c.sg (c.cl scope) x v)) O (eval elt (compEnvC scope (c.cl scope) C c.env)) (F a))
    (hn : items.length ≤ 100000)
    (hl : scopeLook c scope = true := by rfl) (hk : scope.kind = .function := by rfl) (hx : scope.names.lookup x = some .local := by rfl)
    (hs : ∀ x, foldedSetIterable iter c.env x = pure x := by intro _; rfl) :
    Tr c O (eval (.ListComp elt [⟨.Name x px, iter, ifs, 0⟩] scope pos) c.env) (fun r N => ∃ D ys N1, r = .ref D ∧ N = (D, LP ys) :: N1 ∧ Paired (fun a y => F a y N1) (items.filter p) ys) := fun s E y => by
  rw [eval_ListComp]
  refine wpAny_comprehension_free (use := none) rfl hs (closureFor_eq (scopeLook_free hl)) hk (scopeLook_ok hl hk).names (S s E _ y fun I fq St s₂ k₂ W st live hIn off mod => ?_)
  refine comp_core (RR := fun acc C => compPost _ _ _ none _ acc C) p F hF (fun _ v => csg c.sg (c.cl scope) x v) (fun y a h => cl_lookup h) cl_mem (scopeLook_ok hl hk) (bind_name hl hk hx) (fun _ v => csg_sub (cl_not hl hx)) tests elem hn y k₂ W st hIn live mod ?_
  intro D C s' ys N m kp x' new hns nC pC neC hP
  refine ⟨m, hns, fun h' hs' => ⟨(D, LP ys) :: N, ⟨D, ys, N, rfl, rfl, hP⟩, ?_, fun q hq => ⟨new q hq, ?_⟩⟩⟩
  · obtain ⟨h1, t1, rfl, k1⟩ := kp
    exact ⟨h', t1, rfl, fun b o e => hs'.extBut b o (fun h => by rw [h, nC] at e; cases e) (k1 b o e)⟩
  · have hq' : q ∈ (D, LP ys) :: (N ++ O) := by
      rcases List.mem_cons.mp hq with h | h
      · exact h ▸ .head _
      · exact .tail _ (List.mem_append_left _ h)
    exact (x'.own q hq').keep fun o e => hs'.extBut _ o (neC q hq') e

theorem x_assign_comp {α : Type} {z : Str} {pz spos : Pos} {x : Str} {px pos : Pos} {iter elt : Expr} {ifs : List Expr} {scope : Scope} {items : List α} {R : α → Value → Prop} {s : Shared} {Q : Flow → Shared → Prop} {E : Value → Shared → Prop}
    (hz : Stores c z) (S : Src c O iter items R) (y : At c O s) (hwc : c.wc = true)
    (p : α → Bool) (F : α → Value → Led → Prop) (hF : ∀ a y N N', F a y N → (∀ q ∈ N, q ∈ N') → F a y N')
    (tests : ∀ (i : Nat) a v C, items[i]? = some a → R a v → TV (c.comp scope (c.cl scope) C (csg c.sg (c.cl scope) x v)) O (testsOf ifs (compEnvC scope (c.cl scope) C c.env)) (· = p a))
    (elem : ∀ (i : Nat) a v C, items[i]? = some a → R a v → p a = true → Tr (c.comp scope (c.cl scope) C (csg c.sg (c.cl scope) x v)) O (eval elt (compEnvC scope (c.cl scope) C c.env)) (F a))
    (hn : items.length ≤ 100000)
    (k : ∀ D ys N s', (∀ q ∈ (D, LP ys) :: N, s.heap.get? q.1 = none) → Paired (fun a y => F a y N) (items.filter p) ys → At (c.set z (.ref D)) ((D, LP ys) :: (N ++ O)) s' → Q .next s')
    (hsw : swapsWith (.ListComp elt [⟨.Name x px, iter, ifs, 0⟩] scope pos) (some (.Name z pz)) spos.line c.env = pure true := by rfl)
    (hl : scopeLook c scope = true := by rfl) (hk : scope.kind = .function := by rfl) (hx : scope.names.lookup x = some .local := by rfl)
    (hs : ∀ x, foldedSetIterable iter c.env x = pure x := by intro _; rfl) :
    wpAny (model c.prog c.w) c.A (exec (.Assign [.Name z pz] (.ListComp elt [⟨.Name x px, iter, ifs, 0⟩] scope pos) spos) c.env) Q E s := by
  rw [exec_Assign_Name_used _ _ _ _ hsw]
  refine wpAny_bind (wpAny_standAt (wpAny_bind ?_))
  show wpAny _ _ (do let _ ← comprehension (.ListComp elt [⟨.Name x px, iter, ifs, 0⟩] scope pos) scope c.env _ (newList []) false (eval iter c.env) (some (assign (.Name z pz) c.env))) _ _ s
  refine wpAny_bind (wpAny_mono (wpAny_comprehension_free (use := some (assign (.Name z pz) c.env)) (Q := fun _ s' => Q .next s') rfl hs (closureFor_eq (scopeLook_free hl)) hk (scopeLook_ok hl hk).names
    (S s E _ y fun I fq St s₂ k₂ W st live hIn off mod => ?_)) (fun _ s' hq => wpAny_pure (wpAny_pure hq)) fun _ _ e => e)
  refine comp_core (RR := fun acc C => compPost _ _ _ (some (assign (.Name z pz) c.env)) (fun _ s' => Q .next s') acc C) p F hF (fun _ v => csg c.sg (c.cl scope) x v) (fun y a h => cl_lookup h) cl_mem (scopeLook_ok hl hk) (bind_name hl hk hx) (fun _ v => csg_sub (cl_not hl hx)) tests elem hn y k₂ W st hIn live mod ?_
  intro D C s' ys N m kp x' new hns nC pC neC hP
  show wpAny _ _ (assign (.Name z pz) c.env (.ref D)) _ _ _
  refine wpAny_assign_Name (w_store hz x' fun s'' ⟨b, hb, al⟩ x'' => ?_)
  have hCp : C ∉ (c.set z (.ref D)).places := pC
  have hCB : ∀ o, c.B.get? C ≠ some o := fun o e => by rw [y.base C o e] at nC; cases nC
  have hCb : C ≠ b := fun h => pC (h ▸ hb)
  refine ⟨m, hns.at' fun o e => al.get (by simpa using hCb) e, fun h' hs' => k D ys N _ new hP (x''.moved (fp := []) (Alt.of_same (tk := s''.toks) hs') hCp neC hCB fun h => absurd (hwc.symm.trans h) (by simp))⟩
end
end Mine

namespace Mine

def csg2 (sg : Str → Option Value) (cl : List (Str × Addr)) (x y : Str) (u v : Value) : Str → Option Value := fun z => if z = y then some v else csg sg cl x u z

section
variable {c : Cx} {O : Led}

/-- a pair's parts, and the pair -/
def IsPair (O : Led) (a : Value × Value) (v : Value) : Prop := ∃ T, v = .ref T ∧ (T, TP [a.1, a.2]) ∈ O

theorem bind_pair {scope : Scope} {x y : Str} {px py pt : Pos} {k : Nat} (hh : c.A.handled = none) (hl : scopeLook c scope = true) (hk : scope.kind = .function) (hx : scope.names.lookup x = some .local) (hy : scope.names.lookup y = some .local) :
    ∀ (C : Addr) (v : Value) (a : Value × Value) (s₃ : Shared) (m : Str → Option Value) (Q : Unit → Shared → Prop) (E' : Value → Shared → Prop), IsPair O a v → At c O s₃ → s₃.heap.Ns C m →
      (∀ s₄ m', Alt [C] s₃ s₄ → s₄.heap.Ns C m' → (∀ z u, (relabel scope c.env).names.lookup z = some .local → csg2 c.sg (c.cl scope) x y a.1 a.2 z = some u → m' z = some u) → Q () s₄) →
      wpAny (model c.prog c.w) c.A (assign (.Tuple [.Name x px, .Name y py] k pt) (compEnvC scope (c.cl scope) C c.env) v) Q E' s₃ := by
  rintro C v ⟨u1, u2⟩ s₃ m Q E' ⟨T, rfl, hT⟩ z hns q
  refine wpAny_assign_Tuple hh (z.own _ hT).isTuple rfl rfl fun h₄ hx₄ => ?_
  have k₄ : ∀ b o, s₃.heap.get? b = some o → h₄.get? b = some o := fun b o e => hx₄ b o (Nat.ne_of_lt (Heap.lt_size e)) e
  have hns₄ : h₄.Ns C m := hns.keeps k₄
  show wpAny _ _ (do holding [u2] (assign (.Name x px) _ u1); do holding [] (assign (.Name y py) _ u2); pure ()) _ _ _
  refine wpAny_bind (wpAny_holding (wpAny_assign_Name (wpAny_storeName_local (env := compEnvC scope (c.cl scope) C c.env) (lookup_relabel_local hx) hns₄ (fun h₅ hn₅ hs₅ => ?_) (by simp [compEnvC, relabel, hk]))))
  refine wpAny_bind (wpAny_holding (wpAny_assign_Name (wpAny_storeName_local (env := compEnvC scope (c.cl scope) C c.env) (lookup_relabel_local hy) hn₅ (fun h₆ hn₆ hs₆ => wpAny_pure ?_) (by simp [compEnvC, relabel, hk]))))
  refine q _ _ ⟨h₆, _, rfl, fun b o hb e => ?_⟩ hn₆ fun w u hw hu => ?_
  · have hb' : b ≠ C := by simpa using hb
    exact (hs₆.2 b hb').trans ((hs₅.2 b hb').trans (k₄ b o e))
  · unfold csg2 csg at hu
    by_cases h1 : w = y
    · rw [if_pos h1] at hu ⊢; exact hu
    · rw [if_neg h1] at hu ⊢
      by_cases h2 : w = x
      · rw [if_pos h2] at hu ⊢; exact hu
      · rw [if_neg h2] at hu
        split at hu
        · rename_i hs
          obtain ⟨b, hb⟩ := Option.isSome_iff_exists.mp hs
          exact absurd hw (scopeLook_apart hl hb)
        · cases hu

theorem csg2_sub {sg : Str → Option Value} {cl : List (Str × Addr)} {x y : Str} {u v : Value} (hx : cl.lookup x = none) (hy : cl.lookup y = none) : ∀ z a w, cl.lookup z = some a → csg2 sg cl x y u v z = some w → sg z = some w := by
  intro z a w ha hw
  unfold csg2 at hw
  by_cases h : z = y
  · rw [h, hy] at ha; cases ha
  · rw [if_neg h] at hw
    exact csg_sub hx z a w ha hw

theorem e_comp2 {x x2 : Str} {px px2 pt pos : Pos} {kk : Nat} {iter elt : Expr} {ifs : List Expr} {scope : Scope} {items : List (Value × Value)} (hh : c.A.handled = none) (S : Src c O iter items (IsPair O))
    (p : Value × Value → Bool) (F : Value × Value → Value → Led → Prop) (hF : ∀ a y N N', F a y N → (∀ q ∈ N, q ∈ N') → F a y N')
    (tests : ∀ (i : Nat) a v C, items[i]? = some a → IsPair O a v → TV (c.comp scope (c.cl scope) C (csg2 c.sg (c.cl scope) x x2 a.1 a.2)) O (testsOf ifs (compEnvC scope (c.cl scope) C c.env)) (· = p a))
    (elem : ∀ (i : Nat) a v C, items[i]? = some a → IsPair O a v → p a = true → Tr (c.comp scope (c.cl scope) C (csg2 c.sg (c.cl scope) x x2 a.1 a.2)) O (eval elt (compEnvC scope (c.cl scope) C c.env)) (F a))
    (hn : items.length ≤ 100000)
    (hl : scopeLook c scope = true := by rfl) (hk : scope.kind = .function := by rfl) (hx : scope.names.lookup x = some .local := by rfl) (hx2 : scope.names.lookup x2 = some .local := by rfl)
    (hs : ∀ x, foldedSetIterable iter c.env x = pure x := by intro _; rfl) :
    Tr c O (eval (.ListComp elt [⟨.Tuple [.Name x px, .Name x2 px2] kk pt, iter, ifs, 0⟩] scope pos) c.env) (fun r N => ∃ D ys N1, r = .ref D ∧ N = (D, LP ys) :: N1 ∧ Paired (fun a y => F a y N1) (items.filter p) ys) := fun s E y => by
  rw [eval_ListComp]
  refine wpAny_comprehension_free (use := none) rfl hs (closureFor_eq (scopeLook_free hl)) hk (scopeLook_ok hl hk).names (S s E _ y fun I fq St s₂ k₂ W st live hIn off mod => ?_)
  refine comp_core (RR := fun acc C => compPost _ _ _ none _ acc C) p F hF (fun a _ => csg2 c.sg (c.cl scope) x x2 a.1 a.2) (fun y a h => cl_lookup h) cl_mem (scopeLook_ok hl hk) (bind_pair hh hl hk hx hx2) (fun _ _ => csg2_sub (cl_not hl hx) (cl_not hl hx2)) tests elem hn y k₂ W st hIn live mod ?_
  intro D C s' ys N m kp x' new hns nC pC neC hP
  refine ⟨m, hns, fun h' hs' => ⟨(D, LP ys) :: N, ⟨D, ys, N, rfl, rfl, hP⟩, ?_, fun q hq => ⟨new q hq, ?_⟩⟩⟩
  · obtain ⟨h1, t1, rfl, k1⟩ := kp
    exact ⟨h', t1, rfl, fun b o e => hs'.extBut b o (fun h => by rw [h, nC] at e; cases e) (k1 b o e)⟩
  · have hq' : q ∈ (D, LP ys) :: (N ++ O) := by
      rcases List.mem_cons.mp hq with h | h
      · exact h ▸ .head _
      · exact .tail _ (List.mem_append_left _ h)
    exact (x'.own q hq').keep fun o e => hs'.extBut _ o (neC q hq') e

theorem x_assign_comp2 {z : Str} {pz spos : Pos} {x x2 : Str} {px px2 pt pos : Pos} {kk : Nat} {iter elt : Expr} {ifs : List Expr} {scope : Scope} {items : List (Value × Value)} {s : Shared} {Q : Flow → Shared → Prop} {E : Value → Shared → Prop}
    (hz : Stores c z) (hh : c.A.handled = none) (S : Src c O iter items (IsPair O)) (y : At c O s) (hwc : c.wc = true)
    (p : Value × Value → Bool) (F : Value × Value → Value → Led → Prop) (hF : ∀ a y N N', F a y N → (∀ q ∈ N, q ∈ N') → F a y N')
    (tests : ∀ (i : Nat) a v C, items[i]? = some a → IsPair O a v → TV (c.comp scope (c.cl scope) C (csg2 c.sg (c.cl scope) x x2 a.1 a.2)) O (testsOf ifs (compEnvC scope (c.cl scope) C c.env)) (· = p a))
    (elem : ∀ (i : Nat) a v C, items[i]? = some a → IsPair O a v → p a = true → Tr (c.comp scope (c.cl scope) C (csg2 c.sg (c.cl scope) x x2 a.1 a.2)) O (eval elt (compEnvC scope (c.cl scope) C c.env)) (F a))
    (hn : items.length ≤ 100000)
    (k : ∀ D ys N s', (∀ q ∈ (D, LP ys) :: N, s.heap.get? q.1 = none) → Paired (fun a y => F a y N) (items.filter p) ys → At (c.set z (.ref D)) ((D, LP ys) :: (N ++ O)) s' → Q .next s')
    (hsw : swapsWith (.ListComp elt [⟨.Tuple [.Name x px, .Name x2 px2] kk pt, iter, ifs, 0⟩] scope pos) (some (.Name z pz)) spos.line c.env = pure true := by rfl)
    (hl : scopeLook c scope = true := by rfl) (hk : scope.kind = .function := by rfl) (hx : scope.names.lookup x = some .local := by rfl) (hx2 : scope.names.lookup x2 = some .local := by rfl)
    (hs : ∀ x, foldedSetIterable iter c.env x = pure x := by intro _; rfl) :
    wpAny (model c.prog c.w) c.A (exec (.Assign [.Name z pz] (.ListComp elt [⟨.Tuple [.Name x px, .Name x2 px2] kk pt, iter, ifs, 0⟩] scope pos) spos) c.env) Q E s := by
  rw [exec_Assign_Name_used _ _ _ _ hsw]
  refine wpAny_bind (wpAny_standAt (wpAny_bind ?_))
  show wpAny _ _ (do let _ ← comprehension (.ListComp elt [⟨.Tuple [.Name x px, .Name x2 px2] kk pt, iter, ifs, 0⟩] scope pos) scope c.env _ (newList []) false (eval iter c.env) (some (assign (.Name z pz) c.env))) _ _ s
  refine wpAny_bind (wpAny_mono (wpAny_comprehension_free (use := some (assign (.Name z pz) c.env)) (Q := fun _ s' => Q .next s') rfl hs (closureFor_eq (scopeLook_free hl)) hk (scopeLook_ok hl hk).names
    (S s E _ y fun I fq St s₂ k₂ W st live hIn off mod => ?_)) (fun _ s' hq => wpAny_pure (wpAny_pure hq)) fun _ _ e => e)
  refine comp_core (RR := fun acc C => compPost _ _ _ (some (assign (.Name z pz) c.env)) (fun _ s' => Q .next s') acc C) p F hF (fun a _ => csg2 c.sg (c.cl scope) x x2 a.1 a.2) (fun y a h => cl_lookup h) cl_mem (scopeLook_ok hl hk) (bind_pair hh hl hk hx hx2) (fun _ _ => csg2_sub (cl_not hl hx) (cl_not hl hx2)) tests elem hn y k₂ W st hIn live mod ?_
  intro D C s' ys N m kp x' new hns nC pC neC hP
  show wpAny _ _ (assign (.Name z pz) c.env (.ref D)) _ _ _
  refine wpAny_assign_Name (w_store hz x' fun s'' ⟨b, hb, al⟩ x'' => ?_)
  have hCp : C ∉ (c.set z (.ref D)).places := pC
  have hCB : ∀ o, c.B.get? C ≠ some o := fun o e => by rw [y.base C o e] at nC; cases nC
  have hCb : C ≠ b := fun h => pC (h ▸ hb)
  refine ⟨m, hns.at' fun o e => al.get (by simpa using hCb) e, fun h' hs' => k D ys N _ new hP (x''.moved (fp := []) (Alt.of_same (tk := s''.toks) hs') hCp neC hCB fun h => absurd (hwc.symm.trans h) (by simp))⟩
end
end Mine

namespace Mine

abbrev theP : Program := PySem.Challenge.pw_dm0182_06
def fnBody (i : Nat) : List Stmt := match theP.main.body[i]? with | some (.FunctionDef _ _ b _ _ _ _ _ _ _) => b | _ => []
def fnScope (i : Nat) : Scope := match theP.main.body[i]? with | some (.FunctionDef _ _ _ _ _ _ sc _ _ _) => sc | _ => default
def fnArgs (i : Nat) : Arguments := match theP.main.body[i]? with | some (.FunctionDef _ a _ _ _ _ _ _ _ _) => a | _ => default

/-- a def of the text, as the top leaves it -/
def fdOf (name : Str) (i : Nat) (cd : Addr) (pm : Value) : FuncData :=
  { name := name, qualname := name, params := fnArgs i, body := .stmts (fnBody i), scope := fnScope i, globals := mainGlobals, closure := [], defaults := .none, kwdefaults := .none, pyModule := pm, code := .ref cd, builtins := builtinsNs }

/-- what the written part of the heap must say -/
structure KOk (K : Frag) : Prop where
  get : plainGet K 32 "_ip" = true
  hasd : hasDictIn K 32 = true
  find : findIn K (.ref 32) "_ip" = some none
  makes : makesIn K 32 = true
  init : findIn K (.ref 32) "__init__" = some (some (.builtin "object.__init__"))
  seta : findIn K (.ref 32) "__setattr__" = some (some (.builtin "object.__setattr__"))
  over : plainOver K 32 = true
  taker : takerIn K 32 "_ip" = some none
  keep32 : keepIn K (.ref 32) = true
  keep43 : keepIn K (.ref 43) = true
  keep21 : keepIn K (.ref 21) = true
  fn43 : ∃ pm, K.lookup 43 = some ⟨.type "function", none, .func (fdOf "_law_box" 4 42 pm), #[]⟩
  code43 : codeIn K (.ref 42) "_law_box" = true
  fn21 : ∃ pm, K.lookup 21 = some ⟨.type "function", none, .func (fdOf "_find_address_range" 1 20 pm), #[]⟩
  code21 : codeIn K (.ref 20) "_find_address_range" = true

/-- the text's own names -/
structure Own (c : Cx) : Prop where
  std : Std c
  ok : KOk c.K
  room : c.A.depth + 10 < recursionLimit
  cls : c.mg "_BaseConstants" = some (.ref 32)
  box : c.mg "_law_box" = some (.ref 43)
  far : c.mg "_find_address_range" = some (.ref 21)

/-- a box with a value under _ip: the instance, its dict -/
def BP (d : Addr) (o : Obj) : Prop := o = instObj 32 d
def DP (v : Value) (o : Obj) : Prop := ∃ h t n, o = dictOf [⟨h, .str "_ip" t, v⟩] n
def Box (O : Led) (b : Addr) (v : Value) : Prop := ∃ d, (b, BP d) ∈ O ∧ (d, DP v) ∈ O
theorem Box.mono {O O' : Led} {b : Addr} {v : Value} (x : Box O b v) (h : ∀ p ∈ O, p ∈ O') : Box O' b v := let ⟨d, a, b⟩ := x; ⟨d, h _ a, h _ b⟩

section
variable {c : Cx} {O : Led}

theorem g_ip {b : Addr} {v : Value} {e : Bool} (o : Own c) (hb : Box O b v) (hv : handedIn v = true) : TV c O (getAttr (.ref b) "_ip" e) (· = v) := fun s E x => by
  obtain ⟨d, h1, h2⟩ := hb
  obtain ⟨ob, eb, rfl⟩ := x.own _ h1
  obtain ⟨od, ed, hh, t, n, rfl⟩ := x.own _ h2
  have I : W.InstAt s.heap b (instObj 32 d) 32 (some (dictOf [⟨hh, .str "_ip" t, v⟩] n)) := ⟨eb, rfl, rfl, ed⟩
  exact get_value x.In I (plainGet_of o.ok.get).1 (findObj_own o.ok.hasd o.ok.find rfl rfl) hv ⟨rfl, Kp.toks⟩
theorem e_ip {e : Expr} {pos : Pos} {b : Addr} {v : Value} (o : Own c) (h : TV c O (eval e c.env) (· = .ref b)) (hb : Box O b v) (hv : handedIn v = true)
    (he : eval (.Attribute e "_ip" pos) c.env = (do let o ← eval e c.env; standAt pos.atName; let r ← holding [o] (getAttr o "_ip" true); letTemporaryGo e o r; pure r) := by rfl) :
    TV c O (eval (.Attribute e "_ip" pos) c.env) (· = v) := fun s E x =>
  Attribute_any_ (h.use x fun u s₁ q k₁ x₁ => by subst q; exact (g_ip o hb hv).use x₁ fun u s₂ q k₂ _ => ⟨q, k₁.trans k₂⟩) he

set_option maxHeartbeats 1000000 in
theorem box_call {v : Value} (o : Own c) : Tr c O (call (.ref 43) [v]) (fun r N => ∃ b d, r = .ref b ∧ N = [(b, BP d), (d, DP v)]) := fun s E x => by
  obtain ⟨pm, hfn⟩ := o.ok.fn43
  have hroom : c.A.depth < recursionLimit := by have := o.room; omega
  refine wpAny_call (codeAny_call_def (fd := fdOf "_law_box" 4 42 pm) (body := fnBody 4) (binds := [(("number" : Str), v)]) hroom (x.In _ _ hfn) rfl x.nolimit (codeRec_of x.In o.ok.code43) rfl (BindsTo.of_eq rfl) (by show ∀ x ∈ (fnScope 4).names, x.2 ≠ .cell; decide) (locs rfl) (fun h₀ hns hk₀ => ?_))
  have F : Fr s.heap s.heap.objs.size h₀ _ := ⟨hns, hk₀, Nat.le_refl _⟩
  have N : News s.heap s.heap.objs.size h₀ [] := News.nil
  have X : c.K.In s.heap := x.In
  have G := x.gl
  refine wpAny_execs_cons (wpAny_Assign_Name (Call_Name0 (Name_function_global rfl rfl (loadGlobal_global (mg := c.mg) (G.keeps F.keep) o.cls ?_) (by decide))) rfl)
  refine callWith_of (P := c.K.In) rfl (keeps_K o.ok.keep32) (evalArgs_nil3 ⟨X.keeps F.keep, wpAny_call (make_K0 F N (X.keeps F.keep) o.ok.makes o.ok.init fun y dy h' F' N' lt1 lt2 => ?_)⟩)
  refine wpAny_storeName_local rfl F'.ns (fun h₂ hn₂ hs₂ => ?_) rfl
  have F₂ := F'.set hn₂ hs₂
  have N₂ := N'.set hs₂
  dsimp only
  refine wpAny_execs_cons (plainObj_wpAny_Assign_Attribute (wpAny_Name (wpAny_loadName_local rfl rfl F₂.ns (v := v) rfl ?_) (by decide)) rfl)
  refine wpAny_Name (wpAny_loadName_local rfl rfl F₂.ns (v := .ref y) rfl ?_) (by decide)
  have I : W.InstAt h₂ y (instObj 32 dy) 32 (some (dictOf [] 0)) := ⟨(N₂ _ (.head _)).1, rfl, rfl, (N₂ _ (.tail _ (.head _))).1⟩
  refine set_dict (es := []) (n := 0) F₂ X N₂ I rfl o.ok.seta o.ok.over o.ok.taker o.ok.hasd rfl rfl (.tail (Nat.ne_of_gt lt2) (.head (fun p hp => nomatch hp))) (by simp [putL]) fun h₃ F₃ N₃ => ?_
  dsimp only
  refine wpAny_execs_cons (wpAny_Return_some (wpAny_Name (wpAny_loadName_local rfl rfl F₃.ns (v := .ref y) rfl ?_) (by decide)))
  dsimp only
  refine ⟨_, ⟨y, dy, rfl, rfl⟩, ⟨h₃, _, rfl, F₃.keep⟩, fun p hp => ?_⟩
  rcases List.mem_cons.mp hp with rfl | hp
  · exact ⟨(N₃ _ (.head _)).2.2, _, (N₃ _ (.head _)).1, rfl⟩
  · rw [List.mem_singleton.mp hp]
    exact ⟨(N₃ _ (.tail _ (.head _))).2.2, _, (N₃ _ (.tail _ (.head _))).1, _, _, _, rfl⟩

theorem e_box {e : Expr} {p pos : Pos} {P : Value → Prop} (o : Own c) (h : TV c O (eval e c.env) P)
    (hk : c.env.kindOf "_law_box" = some .globalImplicit := by rfl) (hf : c.env.scope.kind = .function := by rfl) (hs : starEach [e] c.env = [(false, eval e c.env)] := by rfl) :
    Tr c O (eval (.Call (.Name "_law_box" p) [e] [] pos) c.env) (fun r N => ∃ v b d, P v ∧ r = .ref b ∧ N = [(b, BP d), (d, DP v)]) := fun s E x =>
  Call_Name1 ((e_glob o.box hk o.std.gl hf).use x fun f s₁ e₁ k₁ x₁ => by
    subst e₁
    refine callWith_of (P := c.K.In) (args := [(false, eval e c.env)]) rfl (keeps_K o.ok.keep43) (evalArgs_plain (spliced_cons (h.use x₁ fun v s₂ q k₂ x₂ => spliced_nil ⟨x₂.In, ?_⟩)))
    exact (box_call o).use x₂ fun r s₃ N ⟨b, d, h1, h2⟩ g _ => ⟨N, ⟨v, b, d, q, h1, h2⟩, by simpa using (Grow.nil (k₁.trans k₂)).trans g⟩) hs
end
end Mine

namespace Mine

/-- a tree over frames of a generator runs to an end of which Φ holds -/
def RT (M : Model) (A : Around) (c : Code) (t : Sem Fin) (fs : List Frame) (s : Shared) (Φ : End → Shared → Prop) : Prop :=
  ∀ Γ p, Γ.code = c → Γ.Woken A → ∃ e s', Runs M Γ p t fs s e s' ∧ Φ e s'

section
variable {M : Model} {A : Around} {c : Code} {fs : List Frame} {s : Shared} {Φ : End → Shared → Prop}

theorem rt_mono {Φ' : End → Shared → Prop} {t : Sem Fin} (h : RT M A c t fs s Φ) (k : ∀ e s', Φ e s' → Φ' e s') : RT M A c t fs s Φ' := fun Γ p hc hw =>
  let ⟨e, s', hr, hp⟩ := h Γ p hc hw; ⟨e, s', hr, k e s' hp⟩
theorem rt_wrap {α : Type} {m : Sem α} {K : α → Sem Fin} {H : Value → Sem Fin} {gd lv} (h : wpAny M (A.over c fs) m (fun a s' => RT M A c (K a) fs s' Φ) (fun x s' => RT M A c (H x) fs s' Φ) s) : RT M A c (m.wrap K H gd lv) fs s Φ := by
  rintro Γ p rfl hΓ
  exact runs_wrap_of_wp K H gd lv m (h (Γ.over fs) p (hΓ.over fs)) (fun a p' s' h' => h' Γ p' rfl hΓ) (fun x p' s' h' => h' Γ p' rfl hΓ)
theorem rt_at {p' : Pos} {k : Unit → Sem Fin} (h : RT M A c (k ()) fs s Φ) : RT M A c (.at p' k) fs s Φ := rt_wrap (m := standAt p') (K := k) (H := .raise) (gd := id) (lv := id) (wpAny_standAt h)
theorem rt_point {l : List Value} {k : Unit → Sem Fin} (h : RT M A c (k ()) fs s Φ) : RT M A c (.point l k) fs s Φ := rt_wrap (m := point) (K := k) (H := .raise) (gd := id) (lv := fun _ => l) (wpAny_point h)
theorem rt_call {c' : Code} {h g l} {k : Result → Sem Fin} (hc : ∀ p, RT M A c' (M.den c') (.ret k h g l c p [] :: fs) s Φ) : RT M A c (.call c' h g l k) fs s Φ := by
  rintro Γ p rfl hΓ
  obtain ⟨e, s', hr, he⟩ := hc p (Γ.goto c') p rfl (hΓ.goto c')
  exact ⟨e, s', runs_call_seg hr, he⟩
theorem rt_leaf {k h g l c₁ p₁ kp} (r : Result) (hk : RT M A c₁ (k r) fs s Φ) : RT M A c (leafOf r) (.ret k h g l c₁ p₁ kp :: fs) s Φ := by
  rintro Γ p rfl hΓ
  obtain ⟨e, s', hr, he⟩ := hk (Γ.goto c₁) p₁ rfl (hΓ.goto c₁)
  exact ⟨e, s', Runs.pop r hr, he⟩
theorem rt_again {c' : Code} (hq : c'.quiet = true) (hc : RT M A c' (M.den c') fs s Φ) : RT M A c (.pure (.again c')) fs s Φ := by
  rintro Γ p rfl hΓ
  obtain ⟨e, s', hr, he⟩ := hc (Γ.goto c') p rfl (hΓ.goto c')
  exact ⟨e, s', Runs.head (c₁ := c') (fun _ _ x => .again hq x) hr, he⟩
theorem rt_end (r : Result) (h : Φ (.ret r) s) : RT M A c (leafOf r) [] s Φ := by
  rintro Γ p rfl _
  exact ⟨.ret r, s, Runs.leaf r, h⟩
theorem rt_yield {v g l} {k : Resume → Sem Fin} (hfs : splitAtGen fs = none) (h : ∀ p, Φ (.susp v g l k c p fs) s) : RT M A c (.yield v g l k) fs s Φ := by
  rintro Γ p rfl _
  exact ⟨_, s, Runs.yield' fs hfs, h p⟩
end

section
variable {M : Model} {A : Around} {c : Code} {fs : List Frame} {s : Shared} {Φ : End → Shared → Prop} {env : Env} {K : Flow → Sem Fin} {H : Value → Sem Fin} {gd : Bool → Bool} {lv : List Value → List Value}

theorem rt_execs_nil (h : RT M A c (K .next) fs s Φ) : RT M A c ((execs [] env).wrap K H gd lv) fs s Φ := h
theorem rt_execs_cons {st : Stmt} {rest : List Stmt} (h : RT M A c ((exec st env).wrap (fun f => match f with | .next => (execs rest env).wrap K H gd lv | f => K f) H gd lv) fs s Φ) :
    RT M A c ((execs (st :: rest) env).wrap K H gd lv) fs s Φ := by rw [execs_cons_wrap]; exact h
/-- a statement that does not yield -/
theorem rt_stmt {st : Stmt} {rest : List Stmt} (h : wpAny M (A.over c fs) (exec st env) (fun f s' => match f with | .next => RT M A c ((execs rest env).wrap K H gd lv) fs s' Φ | f => RT M A c (K f) fs s' Φ) (fun x s' => RT M A c (H x) fs s' Φ) s) :
    RT M A c ((execs (st :: rest) env).wrap K H gd lv) fs s Φ := by
  refine rt_execs_cons (rt_wrap (wpAny_mono h (fun f s' h' => ?_) fun _ _ h' => h'))
  cases f <;> exact h'
theorem rt_If {test : Expr} {body orelse : List Stmt} {pos : Pos} (h : wpAny M (A.over c fs) (isTrue test env (eval test env)) (fun b s' => if b = true then RT M A c ((execs body env).wrap K H gd lv) fs s' Φ else RT M A c ((execs orelse env).wrap K H gd lv) fs s' Φ)
      (fun x s' => RT M A c (H x) fs s' Φ) s) : RT M A c ((exec (.If test body orelse pos) env).wrap K H gd lv) fs s Φ := by
  show RT M A c (.at pos fun _ => ((isTrue test env (eval test env) >>= fun b => if b = true then execs body env else execs orelse env)).wrap K H gd lv) fs s Φ
  refine rt_at ?_
  rw [Sem.bind_eq_wrap', Sem.wrap_wrap]
  refine rt_wrap (wpAny_mono h (fun b s' hb => ?_) fun _ _ x => x)
  cases b with
  | true => simpa using hb
  | false => simpa using hb
theorem rt_Yield {e : Expr} {ypos pos : Pos} (hfs : splitAtGen fs = none)
    (h : wpAny M (A.over c fs) (eval e env) (fun v s' => ∀ (kk : Resume → Sem Fin) (l : List Value) (p : Pos), (∀ x s'' Φ', (∀ a, x ≠ .ref a) → RT M A c (K .next) fs s'' Φ' → RT M A c (kk (.send x)) fs s'' Φ') → Φ (.susp v (gd false) l kk c p fs) s')
      (fun x s' => RT M A c (H x) fs s' Φ) s) (hco : env.scope.isCoroutine = false := by rfl) (hi : interactive env = false := by rfl) :
    RT M A c ((exec (.Expr (.Yield (some e) ypos) pos) env).wrap K H gd lv) fs s Φ := by
  rw [exec_Expr env _ pos hi rfl]
  show RT M A c (.at pos fun _ => ((eval e env >>= fun v => (standAt ypos >>= fun _ => yieldOut env v)) >>= fun x =>
    dropValue (.Yield (some e) ypos) pos x).wrap K H gd lv) fs s Φ
  have hy : ∀ v, yieldOut env v = yieldValue v := fun v => by simp only [yieldOut, hco, Bool.false_eq_true, if_false]
  simp only [hy]
  refine rt_at ?_
  rw [Sem.bind_eq_wrap', Sem.bind_eq_wrap', Sem.wrap_wrap, Sem.wrap_wrap]
  refine rt_wrap (wpAny_mono h (fun v s' h' => ?_) fun _ _ x => x)
  refine rt_at (rt_yield hfs fun p => h' _ _ p fun x s'' Φ' hx hr => ?_)
  cases x <;> first | exact hr | exact absurd rfl (hx _)
theorem rt_For {target iter : Expr} {body orelse : List Stmt} {pos : Pos} (hs : ∀ x, foldedSetIterable iter env x = pure x)
    (h : wpAny M (A.over c fs) (eval iter env) (fun x s₁ => wpAny M (A.over c fs) (pyIter x) (fun it s₂ => ∀ p, RT M A (.forLoop target it body orelse env) (M.den (.forLoop target it body orelse env))
      (.ret (fun r => ((match r with | .ok f => (.pure f : Sem Flow) | .error e => .raise e).onRaise fun (x : Value) => do
        if (← field x 1) == Value.none then unsupported "frame.own-activation:exception-without-traceback"
        setFlight x env.frame).wrap K H gd lv) none (gd false) (lv []) c p [] :: fs) s₂ Φ) (fun x s' => RT M A c (H x) fs s' Φ) s₁) (fun x s' => RT M A c (H x) fs s' Φ) s) :
    RT M A c ((exec (.For target iter body orelse pos) env).wrap K H gd lv) fs s Φ := by
  rw [exec_For]
  have e : (do standAt pos; let x ← foldedSetIterable iter env (← eval iter env); standAt iter.pos; runOwn (.forLoop target (← holding [x] (pyIter x)) body orelse env) env : Sem Flow) =
      ((do standAt pos; let x ← foldedSetIterable iter env (← eval iter env); standAt iter.pos; holding [x] (pyIter x) : Sem Value) >>= fun it => runOwn (.forLoop target it body orelse env) env) := by
    simp only [bind_assoc]
  rw [e, Sem.bind_eq_wrap', Sem.wrap_wrap]
  refine rt_wrap (wpAny_bind (wpAny_standAt (wpAny_bind (wpAny_mono h (fun x s₁ h₁ => wpAny_bind (wpAny_of_eq (hs x) (wpAny_bind (wpAny_standAt (wpAny_holding (wpAny_mono h₁ (fun it s₂ h₂ => ?_) fun _ _ x => x)))))) fun _ _ x => x))))
  exact rt_call h₂
end

section
variable {prog : Program} {w : World} {A : Around} {c : Code} {fs : List Frame} {s : Shared} {Φ : End → Shared → Prop} {env : Env}

theorem rt_func {body : List Stmt}
    (h : RT (model prog w) A (.func body env) ((execs body env).wrap (fun f => .pure (.done (.ret (match f with | .ret v => v | _ => .none)))) (fun e => (leaving env e).wrap (fun _ => .raise e) .raise id id) id id) fs s Φ) :
    RT (model prog w) A (.func body env) ((model prog w).den (.func body env)) fs s Φ := by
  show RT _ A _ (.point [] fun _ => ((execs body env).onRaise (leaving env)) >>= _) fs s Φ
  refine rt_point ?_
  rw [Sem.onRaise_eq_wrap, Sem.bind_eq_wrap', Sem.wrap_wrap]
  rw [Sem.wrap_congr (execs body env) _ _ (K' := fun f => .pure (.done (.ret (match f with | .ret v => v | _ => .none))))
    (H' := fun e => (leaving env e).wrap (fun _ => .raise e) .raise id id) (fun f => by cases f <;> rfl)
    (fun e => by rw [Sem.bind_eq_wrap, Sem.wrap_wrap]; rfl)]
  exact h

/-- a raise that leaves a turn -/
abbrev turnErr (env : Env) (er : Value) : Sem Fin := (do noteFrame er env; theTreesLotGoes er : Sem Unit).wrap (fun _ => .raise er) .raise id id

/-- one turn of a for whose body yields; the name's target -/
theorem rt_forLoop {x : Str} {px : Pos} {it : Value} {body : List Stmt}
    (h : wpAny (model prog w) (A.over (.forLoop (.Name x px) it body [] env) fs) (pyNext it) (fun r s₁ => match r with
      | none => RT (model prog w) A (.block [] env) (.pure (.done .next)) fs s₁ Φ
      | some v => wpAny (model prog w) (A.over (.forLoop (.Name x px) it body [] env) fs) (storeName env x v) (fun _ s₂ =>
          RT (model prog w) A (.forLoop (.Name x px) it body [] env) ((execs body env).wrap (fun f => match f with
            | .next | .cont => .pure (.again (.forLoop (.Name x px) it body [] env))
            | .brk => .pure (.done .next)
            | .ret v => .pure (.done (.ret v))) (turnErr env) id id) fs s₂ Φ)
          (fun er s' => RT (model prog w) A (.forLoop (.Name x px) it body [] env) (turnErr env er) fs s' Φ) s₁)
      (fun er s' => RT (model prog w) A (.forLoop (.Name x px) it body [] env) (turnErr env er) fs s' Φ) s) :
    RT (model prog w) A (.forLoop (.Name x px) it body [] env) ((model prog w).den (.forLoop (.Name x px) it body [] env)) fs s Φ := by
  show RT _ A _ ((forTurn (.Name x px) it body [] env).onRaise (fun x => do noteFrame x env; theTreesLotGoes x)) fs s Φ
  have e : forTurn (.Name x px) it body [] env = ((do standAt px; (pyNext it).onRaise (fun _ => standAt { px with line := 0 }) : Sem (Option Value)) >>= fun r => match r with
      | none => again (.block [] env)
      | some v => (do standAt px; bindName env x v : Sem Unit) >>= fun _ => execs body env >>= fun f => match f with
        | .next | .cont => again (.forLoop (.Name x px) it body [] env)
        | .brk => pure (.done .next)
        | .ret v => pure (.done (.ret v))) := by
    unfold forTurn
    simp only [bind_assoc]
    rfl
  rw [e, Sem.onRaise_eq_wrap, Sem.bind_eq_wrap', Sem.wrap_wrap]
  have hH : ∀ er : Value, (((do noteFrame er env; theTreesLotGoes er : Sem Unit).bind fun _ => (.raise er : Sem Fin))) = turnErr env er := fun er => Sem.bind_eq_wrap _ _
  refine rt_wrap (wpAny_bind (wpAny_standAt (wpAny_onRaise (wpAny_mono h (fun r s₁ h₁ => ?_) fun y s₁ h₁ => wpAny_standAt ?_))))
  · cases r with
    | none =>
      show RT _ A _ (.pure (.again (.block [] env))) fs s₁ Φ
      exact rt_again rfl h₁
    | some v =>
      dsimp only
      rw [Sem.bind_eq_wrap', Sem.wrap_wrap]
      refine rt_wrap (wpAny_bind (wpAny_standAt (wpAny_bindName (wpAny_mono h₁ (fun _ s₂ h₂ => ?_) fun er s₂ h₂ => ?_))))
      · rw [Sem.bind_eq_wrap', Sem.wrap_wrap]
        rw [Sem.wrap_congr (execs body env) _ _ (K' := fun f => match f with
            | .next | .cont => .pure (.again (.forLoop (.Name x px) it body [] env))
            | .brk => .pure (.done .next)
            | .ret v => .pure (.done (.ret v))) (H' := turnErr env) (fun f => by cases f <;> rfl) (fun er => by show ((do noteFrame er env; theTreesLotGoes er : Sem Unit).bind fun _ => (.raise er : Sem Fin)) = _; exact hH er)]
        exact h₂
      · show RT _ A _ ((do noteFrame er env; theTreesLotGoes er : Sem Unit).bind fun _ => (.raise er : Sem Fin)) fs s₂ Φ
        rw [hH er]; exact h₂
  · show RT _ A _ ((do noteFrame y env; theTreesLotGoes y : Sem Unit).bind fun _ => (.raise y : Sem Fin)) fs s₁ Φ
    rw [hH y]; exact h₁
end
end Mine

namespace Mine

def IterP (l : Addr) (i : Nat) (o : Obj) : Prop := o.cls = .type "list_iterator" ∧ o.data = .fields #[.ref l, .int i 0]
def EndP (o : Obj) : Prop := o.cls = .type "list_iterator" ∧ ∃ k, o.data = .fields #[.none, k]
theorem Has.isIter {h : Heap} {it l : Addr} {i : Nat} (x : Has h (it, IterP l i)) : h.IsListIter it l i := let ⟨o, e, q⟩ := x; ⟨o, e, q⟩

section
variable {prog : Program} {w : World} {A : Around} {E : Value → Shared → Prop} {s : Shared}

theorem stop_raise {α : Type} {Q : α → Shared → Prop} {E' : Value → Shared → Prop} (hh : A.handled = none)
    (k : ∀ h' e, (∀ b o, s.heap.get? b = some o → h'.get? b = some o) → ({ s with heap := h' } : Shared).TypeIs e "StopIteration" → E' e { s with heap := h' }) :
    wpAny (model prog w) A.in1 (Builtin.SmallTypes.stopIteration : Sem α) Q E' s := by
  show wpAny _ _ (newExc (.type "StopIteration") [] >>= _) _ _ _
  refine wpAny_bind ?_
  simp only [newExc, newTuple]
  refine wpAny_bind (wpAny_newObj_type ?_ (by size_fits))
  refine wpAny_bind (m := firstArgMember _ _) (wpAny_of_eq (a := Value.none) (by first | rfl | (simp only [firstArgMember]; rfl)) ?_)
  refine wpAny_newObj_type ?_ (by size_fits)
  simp only [raiseNew]
  refine wpAny_bind (wpAny_handled ?_)
  rw [show A.in1.handled = none from hh]
  refine wpAny_bind (wpAny_pure (wpAny_throw ?_))
  exact k _ _ (fun b o e => Heap.get?_push_of_some _ (Heap.get?_push_of_some _ e)) ⟨_, Heap.get?_push_size _ rfl, rfl⟩

theorem stop_is {e : Value} {Q : Option Value → Shared → Prop} (hT : s.TypeIs e "StopIteration") (h : Q none s) :
    wpAny (model prog w) A (isInstance e (.type "StopIteration") >>= fun b => if b = true then pure none else throw e) Q E s :=
  wpAny_bind (wpAny_isInstance (T := "StopIteration") (b := true) hT isSubtype_stop (wpAny_pure h))

theorem next_end {it l : Addr} {i : Nat} {items : Array Value} {Q : Option Value → Shared → Prop} (hh : A.handled = none) (hit : s.heap.IsListIter it l i) (hl : s.heap.IsList l items) (hx : items[i]? = none)
    (k : ∀ h', Has h' (it, EndP) → Heap.ExtBut it s.heap h' → Q none { s with heap := h' }) : wpAny (model prog w) A (pyNext (.ref it)) Q E s := by
  obtain ⟨o, ho, hc, hd⟩ := id hit
  obtain ⟨ol, hol, _, nl, hdl⟩ := hl
  unfold pyNext
  refine wpAny_bind (wpAny_attempt (wpAny_callSpecial?_slot (name := Str.ofString "__next__") hit.typeIs slot_listiter_next
    (wpAny_call_entry slot_listiter_next hit.typeIs entry_listiter_next ?_ (args_listiter_next _))))
  show wpAny _ _ (field (.ref it) 0 >>= _) _ _ s
  refine wpAny_bind (wpAny_field ho hd (x := .ref l) rfl ?_)
  show wpAny _ _ (if (Value.ref l == Value.none) = true then _ else _) _ _ s
  rw [if_neg (show ¬ ((Value.ref l == Value.none) = true) from Bool.false_ne_true)]
  show wpAny _ _ (field (.ref it) 1 >>= _) _ _ s
  refine wpAny_bind (wpAny_field ho hd (x := .int i 0) rfl ?_)
  show wpAny _ _ (seqItems? (.ref l) >>= _) _ _ s
  refine wpAny_bind (wpAny_seqItems hol hdl ?_)
  simp only [Int.toNat_natCast, hx]
  refine wpAny_bind (wpAny_rule (wpAny_bind (wpAny_setField ho hd (by simp) ?_)))
  have hD := Obj.data_mapFields hd (·.setIfInBounds 0 .none)
  have g := Heap.get?_update_self (fun o => Obj.mapFields (·.setIfInBounds 0 .none) o) ho (Obj.isFreed_of_fields hD)
  refine stop_raise hh fun h' e kk hT => stop_is hT (k h' ⟨_, kk _ _ g, (Obj.cls_mapFields ..).trans hc, _, by rw [hD]; simp; rfl⟩ fun b o' hb e => kk b o' ?_)
  exact (Heap.SameBut.update ..).extBut b o' hb e

theorem next_ended {it : Addr} {Q : Option Value → Shared → Prop} (hh : A.handled = none) (hit : Has s.heap (it, EndP)) (k : ∀ h', (∀ b o, s.heap.get? b = some o → h'.get? b = some o) → Q none { s with heap := h' }) :
    wpAny (model prog w) A (pyNext (.ref it)) Q E s := by
  obtain ⟨o, ho, hc, kk, hd⟩ := id hit
  have hT : s.TypeIs (.ref it) "list_iterator" := ⟨o, ho, hc⟩
  unfold pyNext
  refine wpAny_bind (wpAny_attempt (wpAny_callSpecial?_slot (name := Str.ofString "__next__") hT slot_listiter_next
    (wpAny_call_entry slot_listiter_next hT entry_listiter_next ?_ (args_listiter_next _))))
  show wpAny _ _ (field (.ref it) 0 >>= _) _ _ s
  refine wpAny_bind (wpAny_field ho hd (x := .none) rfl ?_)
  show wpAny _ _ (if (Value.none == Value.none) = true then _ else _) _ _ s
  rw [if_pos (show (Value.none == Value.none) = true from rfl)]
  exact wpAny_bind (wpAny_rule (wpAny_bind (stop_raise hh fun h' e kk hT => stop_is hT (k h' kk))))
end
end Mine

namespace Mine

section
variable {c : Cx} {O : Led} {s s' : Shared}

theorem At.withA (x : At c O s) (A : Around) : At { c with A := A } O s :=
  ⟨x.base, x.own, x.mu, x.ns, x.cell, x.cellAlive, x.nodup, x.offO, x.offB, x.gens, x.os, x.kin, x.tg, x.tb, x.nl⟩

theorem At.setMu {Mu : Led} {a : Addr} {p p' : Obj → Prop} (x : At { c with Mu := (a, p) :: Mu } O s) (hwc : c.wc = true) (al : Alt [a] s s') (h : Has s'.heap (a, p')) : At { c with Mu := (a, p') :: Mu } O s' := by
  have kp : ∀ b o, b ≠ a → s.heap.get? b = some o → s'.heap.get? b = some o := fun b o hb e => al.get (by simpa using hb) e
  have ap : a ∈ ({ c with Mu := (a, p) :: Mu } : Cx).places := Cx.mem_places.mpr (.inr (.inr ⟨p, .head _⟩))
  have nd := x.nodup
  have nd' := x.nodup
  unfold Cx.places at nd
  dsimp only at nd
  rw [hwc, if_pos rfl, List.nodup_cons, List.nodup_append] at nd
  obtain ⟨n1, n2, n3, n4⟩ := nd
  rw [List.map_cons, List.nodup_cons] at n3
  have la : c.env.locals ≠ a := fun h => n1 (List.mem_append_right _ (by rw [h]; exact .head _))
  have ca : ∀ q ∈ c.env.cells, q.2 ≠ a := fun q hq h => n4 q.2 (List.mem_map.mpr ⟨q, hq, rfl⟩) a (.head _) h
  refine ⟨fun b o e => kp b o (fun h => x.offB b o e (h ▸ ap)) (x.base b o e), fun q hq => (x.own q hq).keep fun o e => kp _ o (fun h => x.offO q hq (h ▸ ap)) e, fun q hq => ?_, ?_, fun z b u hz hu => ?_, fun q hq => ?_, nd', x.offO, x.offB, al.gens.trans x.gens, al.os.trans x.os, x.kin, x.tg, x.tb, x.nl⟩
  · rcases List.mem_cons.mp hq with rfl | hq
    · exact h
    · exact (x.mu q (.tail _ hq)).keep fun o e => kp _ o (fun h => n3.1 (h ▸ List.mem_map.mpr ⟨q, hq, rfl⟩)) e
  · obtain ⟨m, hm, hz⟩ := x.ns
    exact ⟨m, hm.at' fun o e => kp _ o la e, hz⟩
  · obtain ⟨o, ho, hd⟩ := x.cell z b u hz hu
    exact ⟨o, kp b o (ca (z, b) (mem_of_lookup hz)) ho, hd⟩
  · obtain ⟨v, o, ho, hd⟩ := x.cellAlive q hq
    exact ⟨v, o, kp _ o (ca q hq) ho, hd⟩

theorem At.mu_perm {Mu Mu' : Led} (x : At { c with Mu := Mu } O s) (hp : Mu.Perm Mu') : At { c with Mu := Mu' } O s := by
  have pl : ∀ a, a ∈ ({ c with Mu := Mu' } : Cx).places → a ∈ ({ c with Mu := Mu } : Cx).places := fun a h => by
    rcases Cx.mem_places.mp h with h | h | ⟨p, h⟩
    · exact Cx.mem_places.mpr (.inl h)
    · exact Cx.mem_places.mpr (.inr (.inl h))
    · exact Cx.mem_places.mpr (.inr (.inr ⟨p, hp.mem_iff.mpr h⟩))
  refine ⟨x.base, x.own, fun p hq => x.mu p (hp.mem_iff.mpr hq), x.ns, x.cell, x.cellAlive, ?_, fun p hq h => x.offO p hq (pl _ h), fun b o e h => x.offB b o e (pl _ h), x.gens, x.os, x.kin, x.tg, x.tb, x.nl⟩
  have nd := x.nodup
  unfold Cx.places at nd ⊢
  exact ((List.Perm.cons _ (List.Perm.append_left _ (hp.map _))).nodup_iff).mp nd

theorem Alt.trans {X : List Addr} {s s₁ s₂ : Shared} (a : Alt X s s₁) (b : Alt X s₁ s₂) : Alt X s s₂ := by
  obtain ⟨h, t, rfl, k⟩ := a
  obtain ⟨h', t', rfl, k'⟩ := b
  exact ⟨h', t', rfl, fun b o hb e => k' b o hb (k b o hb e)⟩
theorem Alt.sub {X Y : List Addr} {s s₁ : Shared} (a : Alt X s s₁) (h : ∀ x ∈ X, x ∈ Y) : Alt Y s s₁ := by
  obtain ⟨h', t, rfl, k⟩ := a
  exact ⟨h', t, rfl, fun b o hb e => k b o (fun hx => hb (h b hx)) e⟩
theorem Kp.alt {X : List Addr} {s s₁ : Shared} (a : Kp s s₁) : Alt X s s₁ := by
  obtain ⟨h', t, rfl, k⟩ := a
  exact ⟨h', t, rfl, fun b o _ e => k b o e⟩
theorem Alt.refl (X : List Addr) (s : Shared) : Alt X s s := ⟨s.heap, s.toks, rfl, fun _ _ _ e => e⟩

theorem n_item {A : Around} {E : Value → Shared → Prop} {Q : Option Value → Shared → Prop} {Mu : Led} {it l : Addr} {i : Nat} {vs : List Value} {v : Value} (x : At { c with Mu := (it, IterP l i) :: Mu } O s) (hwc : c.wc = true)
    (hl : s.heap.IsList l vs.toArray) (hv : vs[i]? = some v) (k : ∀ s', Alt [it] s s' → At { c with Mu := (it, IterP l (i + 1)) :: Mu } O s' → Q (some v) s') : wpAny (model c.prog c.w) A (pyNext (.ref it)) Q E s :=
  wpAny_pyNext_list_item (x.mu _ (.head _)).isIter hl (by simpa using hv) fun h' hit hs => k _ (Alt.of_same (tk := s.toks) hs) (x.setMu hwc (Alt.of_same (tk := s.toks) hs) hit)
theorem n_end {A : Around} {E : Value → Shared → Prop} {Q : Option Value → Shared → Prop} {Mu : Led} {it l : Addr} {i : Nat} {vs : List Value} (x : At { c with Mu := (it, IterP l i) :: Mu } O s) (hwc : c.wc = true) (hh : A.handled = none)
    (hl : s.heap.IsList l vs.toArray) (hv : vs[i]? = none) (k : ∀ s', Alt [it] s s' → At { c with Mu := (it, EndP) :: Mu } O s' → Q none s') : wpAny (model c.prog c.w) A (pyNext (.ref it)) Q E s :=
  next_end hh (x.mu _ (.head _)).isIter hl (by simpa using hv) fun h' hit hs => k _ (Alt.of_ext (tk := s.toks) hs) (x.setMu hwc (Alt.of_ext (tk := s.toks) hs) hit)
theorem n_ended {A : Around} {E : Value → Shared → Prop} {Q : Option Value → Shared → Prop} {Mu : Led} {it : Addr} (x : At { c with Mu := (it, EndP) :: Mu } O s) (hh : A.handled = none)
    (k : ∀ s', Kp s s' → At { c with Mu := (it, EndP) :: Mu } O s' → Q none s') : wpAny (model c.prog c.w) A (pyNext (.ref it)) Q E s :=
  next_ended hh (x.mu _ (.head _)) fun h' kk => k _ ⟨h', s.toks, rfl, kk⟩ (x.keeps ⟨h', s.toks, rfl, kk⟩)
end

theorem x_assign_loc {c : Cx} {O : Led} {s : Shared} {x : Str} {p' pos : Pos} {e : Expr} {P : Value → Prop} {Q : Flow → Shared → Prop} {E : Value → Shared → Prop} (hl : c.env.kindOf x = some .local) (hc : c.env.cells.lookup x = none)
    (hp : (c.env.scope.kind == .class || (c.env.scope.kind == .module && c.env.locals != c.env.globals)) = false) (hcl : c.wc = false → ∀ p ∈ c.env.cells, p.2 ≠ c.env.locals) (h : TV c O (eval e c.env) P) (y : At c O s)
    (k : ∀ v s', P v → Alt [c.env.locals] s s' → At (c.set x v) O s' → Q .next s')
    (hs : swapsWith e (some (.Name x p')) pos.line c.env = pure false := by rfl) : wpAny (model c.prog c.w) c.A (exec (.Assign [.Name x p'] e pos) c.env) Q E s :=
  wpAny_Assign_Name (h.use y fun v s₁ p g y₁ => w_store_loc hl hc hp hcl y₁ fun s' al y' => k v s' p (g.alt.trans al) y') hs

/-- a value is a box with an int -/
def Bx (O : Led) (n : Int) (v : Value) : Prop := ∃ b u, v = .ref b ∧ Box O b u ∧ IsInt n u
theorem Bx.mono {O O' : Led} {n : Int} {v : Value} (x : Bx O n v) (h : ∀ p ∈ O, p ∈ O') : Bx O' n v := let ⟨b, u, a, d, e⟩ := x; ⟨b, u, a, d.mono h, e⟩

inductive ItSt where
  | at (i : Nat)
  | ended
def ItSt.P (l : Addr) : ItSt → Obj → Prop
  | .at i => IterP l i
  | .ended => EndP
def ItSt.rest {α : Type} (st : ItSt) (xs : List α) : List α := match st with
  | .at i => xs.drop i
  | .ended => []
/-- how many items go on, behind a number -/
def run (n : Int) : List Int → Nat
  | [] => 0
  | m :: r => if m = n + 1 then run m r + 1 else 0
theorem run_le : ∀ (n : Int) (l : List Int), run n l ≤ l.length
  | _, [] => Nat.le_refl _
  | n, m :: r => by unfold run; split; · have := run_le m r; simp; omega
                    · simp

/-- a generator's stretch ends by telling a pair -/
def GOut (c : Cx) (it l : Addr) (st : ItSt) (vs : List Value) (ns : List Int) (fv lv : Value) (nl : Int) (O : Led) (gs : Array GenState) (s₀ : Shared) (S L : (Resume → Sem Fin) → Code → List Frame → Prop) (e : End) (s' : Shared) : Prop :=
  ∃ v lvs k cd p fs T sg' lastv, e = .susp v false lvs k cd p fs ∧ fs.any Frame.guarded = false ∧ v = .ref T ∧ s₀.heap.get? T = none ∧ Alt [c.env.locals, it] s₀ s' ∧ sg' "it" = some (.ref it) ∧
    (lv :: st.rest vs)[run nl (st.rest ns)]? = some lastv ∧
    ((∃ i nv, st = .at i ∧ (st.rest vs)[run nl (st.rest ns)]? = some nv ∧ sg' "ip" = some nv ∧ At (c.up [(it, IterP l (i + run nl (st.rest ns) + 1)), (l, LP vs)] sg' gs) ((T, TP [fv, lastv]) :: O) s' ∧ S k cd fs) ∨
     (run nl (st.rest ns) = (st.rest ns).length ∧ At (c.up [(it, EndP), (l, LP vs)] sg' gs) ((T, TP [fv, lastv]) :: O) s' ∧ L k cd fs))

/-- asleep at the last yield -/
def LastK (c : Cx) (A : Around) (k : Resume → Sem Fin) (cd : Code) (fs : List Frame) : Prop :=
  ∀ s, RT (model c.prog c.w) A cd (k (.send .none)) fs s fun e s' => e = .ret (.ok (.ret .none)) ∧ s' = s
/-- asleep within the loop, for so many turns at most -/
def Susp (c : Cx) (A : Around) (it l : Addr) : Nat → (Resume → Sem Fin) → Code → List Frame → Prop
  | 0 => fun _ _ _ => True
  | n + 1 => fun k cd fs => ∀ s O sg gs st vs ns pv np, At (c.up [(it, st.P l), (l, LP vs)] sg gs) O s → sg "it" = some (.ref it) → sg "ip" = some pv → Bx O np pv → Paired (Bx O) ns vs →
      RT (model c.prog c.w) A cd (k (.send .none)) fs s (GOut c it l st vs ns pv pv np O gs s (Susp c A it l n) (LastK c A))
end Mine

namespace Mine

def forBodyG : List Stmt := match ((fnBody 1)[2]? : Option Stmt) with | some (.For _ _ b _ _) => b | _ => []
/-- the walk's own frame -/
abbrev genC (b : Cx) (pm : Value) (G : Addr) : Cx := { b with env := callEnv (fdOf "_find_address_range" 1 20 pm) G 21, wc := true }

theorem over_for {A : Around} {x : Expr} {it : Value} {b o : List Stmt} {env env' : Env} {kr : Result → Sem Fin} {g : Bool} {l : List Value} {body : List Stmt} {p : Pos} {kp : List Value} (hA : A.handled = none) :
    (A.over (.forLoop x it b o env) [.ret kr none g l (.func body env') p kp]).handled = none ∧ (A.over (.forLoop x it b o env) [.ret kr none g l (.func body env') p kp]).depth = A.depth + 1 := by
  constructor
  · show (marksOver _ _).1 = none
    simp only [marksOver, List.foldr, Frame.marks, markOver, hA]
  · rfl
theorem over_func {A : Around} {env : Env} {body : List Stmt} (hA : A.handled = none) :
    (A.over (.func body env) []).handled = none ∧ (A.over (.func body env) []).depth = A.depth + 1 := ⟨hA, rfl⟩

section
variable {b : Cx} {pm : Value} {G : Addr}

/-- the names as the walk sees them, whatever the depth -/
def GenOk (b : Cx) (pm : Value) (G : Addr) : Prop := ∀ A Mu sg gs, A.handled = none → A.depth + 10 < recursionLimit → Own { genC b pm G with A := A, Mu := Mu, sg := sg, gs := gs }

theorem stores_gen {x : Str} {A : Around} {Mu : Led} {sg : Str → Option Value} {gs : Array GenState} (h : (genC b pm G).env.kindOf x = some .local) : Stores { genC b pm G with A := A, Mu := Mu, sg := sg, gs := gs } x :=
  .loc h rfl rfl fun h => nomatch h

theorem Alt.fresh_back {X : List Addr} {s₀ s : Shared} {T : Addr} (a : Alt X s₀ s) (h : ∀ x ∈ X, s.heap.get? x ≠ none) (n : s.heap.get? T = none) : s₀.heap.get? T = none := by
  cases e : s₀.heap.get? T with
  | none => rfl
  | some o =>
    by_cases hT : T ∈ X
    · exact absurd n (h T hT)
    · rw [a.get hT e] at n; cases n

/-- the last yield -/
def LastOut (c : Cx) (A : Around) (O : Led) (s₁ : Shared) (fv lv : Value) (e : End) (s' : Shared) : Prop :=
  ∃ v lvs k cd p fs T, e = .susp v false lvs k cd p fs ∧ fs.any Frame.guarded = false ∧ v = .ref T ∧ s₁.heap.get? T = none ∧ Kp s₁ s' ∧ At c ((T, TP [fv, lv]) :: O) s' ∧ LastK c A k cd fs

theorem tuple2 {c : Cx} {O : Led} {x y : Str} {px py pos : Pos} {k : Nat} {u v : Value} (hx : TV c O (eval (.Name x px) c.env) (· = u)) (hy : TV c O (eval (.Name y py) c.env) (· = v)) :
    Tr c O (eval (.Tuple [.Name x px, .Name y py] k pos) c.env) (fun r N => ∃ T, r = .ref T ∧ N = [(T, TP [u, v])]) :=
  (e_tupleV (s_cons hx (s_cons hy s_nil)) (by rintro vs ⟨a, r, rfl, _, b, r', rfl, _, rfl⟩; simp)).mono (by
    rintro r N ⟨T, vs, rfl, rfl, a, r, rfl, rfl, b, r', rfl, rfl, rfl⟩
    exact ⟨T, rfl, rfl⟩)

set_option maxHeartbeats 4000000 in
theorem gen_last (o : GenOk b pm G) {A : Around} (hA : A.handled = none) (hd : A.depth + 20 < recursionLimit) {body : List Stmt} {s₁ : Shared} {O Mu : Led} {sg : Str → Option Value} {gs : Array GenState} {fv lv : Value}
    (x : At ((genC b pm G).up Mu sg gs) O s₁) (h1 : sg "first" = some fv) (h2 : sg "last" = some lv) :
    RT (model b.prog b.w) A (.func body (genC b pm G).env) ((execs ((fnBody 1).drop 3) (genC b pm G).env).wrap (fun f => .pure (.done (.ret (match f with | .ret v => v | _ => .none)))) (fun e => (leaving (genC b pm G).env e).wrap (fun _ => .raise e) .raise id id) id id) [] s₁
      (LastOut ((genC b pm G).up Mu sg gs) A O s₁ fv lv) := by
  have y := x.withA (A.over (.func body (genC b pm G).env) [])
  refine rt_execs_cons (rt_Yield rfl ?_ rfl rfl)
  refine (tuple2 (c := { (genC b pm G).up Mu sg gs with A := A.over (.func body (genC b pm G).env) [] }) (e_local h1) (e_local h2)).use y fun v s' N ⟨T, h3, h4⟩ g y' => ?_
  subst h3; subst h4
  intro kk lvs p hres
  refine ⟨_, lvs, kk, _, p, _, T, rfl, rfl, rfl, (g.2 _ (.head _)).1, g.1, y'.withA b.A, fun s => hres .none s _ (fun a h => nomatch h) ?_⟩
  exact rt_end (.ok (.ret .none)) ⟨rfl, rfl⟩

set_option maxHeartbeats 8000000 in
theorem gen_loop (o : GenOk b pm G) {A : Around} (hA : A.handled = none) (hd : A.depth + 20 < recursionLimit) {it l : Addr} {px : Pos} {body : List Stmt} {kr : Result → Sem Fin} {p : Pos}
    (after : ∀ s₁ O sg gs vs fv lv, At ((genC b pm G).up [(it, EndP), (l, LP vs)] sg gs) O s₁ → sg "it" = some (.ref it) → sg "first" = some fv → sg "last" = some lv →
      RT (model b.prog b.w) A (.func body (genC b pm G).env) (kr (.ok .next)) [] s₁ (LastOut ((genC b pm G).up [(it, EndP), (l, LP vs)] sg gs) A O s₁ fv lv)) :
    ∀ (n m : Nat) s₀ s O sg gs st vs ns fv lv nl, (st.rest ns).length = m → At ((genC b pm G).up [(it, st.P l), (l, LP vs)] sg gs) O s → Alt [G, it] s₀ s → sg "it" = some (.ref it) → sg "first" = some fv → sg "last" = some lv →
      Bx O nl lv → Paired (Bx O) ns vs →
      RT (model b.prog b.w) A (.forLoop (.Name "ip" px) (.ref it) forBodyG [] (genC b pm G).env) ((model b.prog b.w).den (.forLoop (.Name "ip" px) (.ref it) forBodyG [] (genC b pm G).env))
        [.ret kr none false [] (.func body (genC b pm G).env) p []] s (GOut (genC b pm G) it l st vs ns fv lv nl O gs s₀ (Susp (genC b pm G) A it l n) (LastK (genC b pm G) A)) := by
  intro n
  refine Nat.strongRecOn n fun n ihn => ?_
  intro m
  induction m with
  | zero => 
    intro s₀ s O sg gs st vs ns fv lv nl hm x al hi hf hl hb hp
    have hr : st.rest ns = [] := List.eq_nil_of_length_eq_zero hm
    have hov := over_for (x := .Name "ip" px) (it := .ref it) (b := forBodyG) (o := []) (env := (genC b pm G).env) (env' := (genC b pm G).env) (kr := kr) (g := false) (l := []) (body := body) (p := p) (kp := []) hA
    have alive : ∀ {st' : ItSt} {sg' : Str → Option Value} {gs' : Array GenState} {O' : Led} {s' : Shared}, At ((genC b pm G).up [(it, st'.P l), (l, LP vs)] sg' gs') O' s' → ∀ a ∈ [G, it], s'.heap.get? a ≠ none := by
      intro st' sg' gs' O' s' y a ha
      refine y.alive (Cx.mem_places.mpr ?_)
      simp only [List.mem_cons, List.not_mem_nil, or_false] at ha
      rcases ha with rfl | rfl
      · exact .inl rfl
      · exact .inr (.inr ⟨_, .head _⟩)
    have fin : ∀ s₁, Alt [G, it] s₀ s₁ → At ((genC b pm G).up [(it, EndP), (l, LP vs)] sg gs) O s₁ →
        RT (model b.prog b.w) A (.block [] (genC b pm G).env) (.pure (.done .next)) [.ret kr none false [] (.func body (genC b pm G).env) p []] s₁ (GOut (genC b pm G) it l st vs ns fv lv nl O gs s₀ (Susp (genC b pm G) A it l n) (LastK (genC b pm G) A)) := by
      intro s₁ al₁ x₁
      refine rt_leaf (.ok .next) (rt_mono (after s₁ O sg gs vs fv lv x₁ hi hf hl) ?_)
      rintro e s' ⟨v, lvs, k, cd, p', fs, T, rfl, hg, rfl, hT, kp, y, hk⟩
      refine ⟨_, lvs, k, cd, p', fs, T, sg, lv, rfl, hg, rfl, al₁.fresh_back (alive (st' := .ended) x₁) hT, al₁.trans kp.alt, hi, ?_, .inr ⟨?_, y, hk⟩⟩
      · rw [hr]; rfl
      · rw [hr]; rfl
    refine rt_forLoop ?_
    cases st with
    | ended =>
      exact n_ended (c := (genC b pm G).up [] sg gs) (Mu := [(l, LP vs)]) x hov.1 fun s₁ k₁ x₁ => fin s₁ (al.trans k₁.alt) x₁
    | «at» i =>
      have hv : vs[i]? = none := by
        have h1 : (ns.drop i).length = 0 := hm
        rw [List.length_drop, hp.length] at h1
        exact List.getElem?_eq_none (by omega)
      refine n_end (c := (genC b pm G).up [] sg gs) (Mu := [(l, LP vs)]) x rfl hov.1 (x.mu _ (.tail _ (.head _))).isList hv fun s₁ al₁ x₁ => fin s₁ (al.trans (al₁.sub (by simp))) x₁
  | succ m ihm =>
    intro s₀ s O sg gs st vs ns fv lv nl hm x al hi hf hl hb hp
    have hov := over_for (x := .Name "ip" px) (it := .ref it) (b := forBodyG) (o := []) (env := (genC b pm G).env) (env' := (genC b pm G).env) (kr := kr) (g := false) (l := []) (body := body) (p := p) (kp := []) hA
    cases st with
    | ended => cases hm
    | «at» i =>
      have hm' : (ns.drop i).length = m + 1 := hm
      have hlt : i < ns.length := by rw [List.length_drop] at hm'; omega
      have hltv : i < vs.length := by rw [← hp.length]; exact hlt
      obtain ⟨nm, hnm⟩ : ∃ nm, ns[i]? = some nm := ⟨ns[i], by simp [hlt]⟩
      obtain ⟨nv, hnv⟩ : ∃ nv, vs[i]? = some nv := ⟨vs[i], by simp [hltv]⟩
      have hbx : Bx O nm nv := paired_get hp i nm nv hnm hnv
      have dn : ns.drop i = nm :: ns.drop (i + 1) := by rw [List.drop_eq_getElem_cons hlt]; congr 1; rw [List.getElem?_eq_getElem hlt] at hnm; exact Option.some.inj hnm
      have dv : vs.drop i = nv :: vs.drop (i + 1) := by rw [List.drop_eq_getElem_cons hltv]; congr 1; rw [List.getElem?_eq_getElem hltv] at hnv; exact Option.some.inj hnv
      generalize hAf : A.over (.forLoop (.Name "ip" px) (.ref it) forBodyG [] (genC b pm G).env) [.ret kr none false [] (.func body (genC b pm G).env) p []] = Af at hov
      refine rt_forLoop ?_
      rw [hAf]
      refine n_item (c := (genC b pm G).up [] sg gs) (Mu := [(l, LP vs)]) x rfl (x.mu _ (.tail _ (.head _))).isList hnv fun s₁ al₁ x₁ => ?_
      have x₁' : At ({ genC b pm G with A := Af, Mu := [(it, IterP l (i + 1)), (l, LP vs)], sg := sg, gs := gs } : Cx) O s₁ := x₁.withA Af
      refine w_store_loc (c := { genC b pm G with A := Af, Mu := [(it, IterP l (i + 1)), (l, LP vs)], sg := sg, gs := gs }) rfl rfl rfl (fun h => nomatch h) x₁' fun s₂ al₂ x₂ => ?_
      have ow := o Af [(it, IterP l (i + 1)), (l, LP vs)] (upd sg "ip" nv) gs hov.1 (by rw [hov.2]; omega)
      obtain ⟨bn, un, rfl, hbn, hun⟩ := hbx
      obtain ⟨bl, ul, rfl, hbl, hul⟩ := hb
      have alive : ∀ {st' : ItSt} {sg' : Str → Option Value} {gs' : Array GenState} {O' : Led} {s' : Shared}, At ((genC b pm G).up [(it, st'.P l), (l, LP vs)] sg' gs') O' s' → ∀ a ∈ [G, it], s'.heap.get? a ≠ none := by
        intro st' sg' gs' O' s' y a ha
        refine y.alive (Cx.mem_places.mpr ?_)
        simp only [List.mem_cons, List.not_mem_nil, or_false] at ha
        rcases ha with rfl | rfl
        · exact .inl rfl
        · exact .inr (.inr ⟨_, .head _⟩)
      have al₂' : Alt [G, it] s₀ s₂ := (al.trans (al₁.sub (by simp))).trans (al₂.sub (by intro y hy; rw [List.mem_singleton.mp hy]; exact .head _))
      refine rt_execs_cons (rt_If ?_)
      rw [hAf]
      refine (t_cmp (c := { genC b pm G with A := Af, Mu := [(it, IterP l (i + 1)), (l, LP vs)], sg := upd sg "ip" (.ref bn), gs := gs }) (e_ip ow (e_local upd_same) hbn (by obtain ⟨t, rfl⟩ := hun; rfl)) (e_add ((e_ip ow (e_local ((upd_ne (by decide)).trans hl)) hbl (by obtain ⟨t, rfl⟩ := hul; rfl)).mono fun v hv => hv ▸ hul) e_int)
        (fun a b ha hb => q_ne (ha ▸ hun) hb)).use x₂ fun q s₃ hq k₃ x₃ => ?_
      subst hq
      have al₃ := al₂'.trans k₃.alt
      cases hne : (nm != nl + 1) with
      | true => 
        simp only [if_true]
        have hr0 : run nl ((ItSt.at i).rest ns) = 0 := by
          show run nl (ns.drop i) = 0
          rw [dn]; unfold run; rw [if_neg (by simpa using hne)]
        refine rt_execs_cons (rt_Yield rfl ?_ rfl rfl)
        rw [hAf]
        refine (tuple2 (c := { genC b pm G with A := Af, Mu := [(it, IterP l (i + 1)), (l, LP vs)], sg := upd sg "ip" (.ref bn), gs := gs }) (u := fv) (v := .ref bl) (e_local ((upd_ne (by decide)).trans hf)) (e_local ((upd_ne (by decide)).trans hl))).use x₃ fun v s₄ N ⟨T, h3, h4⟩ g₄ x₄ => ?_
        subst h3; subst h4
        intro kk lvs p' hres
        have x₄' : At ((genC b pm G).up [(it, IterP l (i + 1)), (l, LP vs)] (upd sg "ip" (.ref bn)) gs) ((T, TP [fv, .ref bl]) :: O) s₄ := x₄.withA b.A
        refine ⟨_, lvs, kk, _, p', _, T, upd sg "ip" (.ref bn), .ref bl, rfl, rfl, rfl, al₃.fresh_back (alive (st' := .at (i + 1)) (x₃.withA b.A)) (g₄.2 _ (.head _)).1, al₃.trans g₄.1.alt, (upd_ne (by decide)).trans hi, ?_, .inl ⟨i, .ref bn, rfl, ?_, upd_same, ?_, ?_⟩⟩
        · rw [hr0]; rfl
        · rw [hr0]
          show (vs.drop i)[0]? = _
          rw [dv]; rfl
        · rw [hr0]; exact x₄'
        · cases n with
          | zero => trivial
          | succ n =>
            intro s₅ O₅ sg₅ gs₅ st₅ vs₅ ns₅ pv np x₅ hit hip hbp hpp
            refine hres .none s₅ _ (fun a h => nomatch h) ?_
            have y₅ := x₅.withA Af
            refine rt_stmt ?_
            rw [hAf]
            refine x_assign_loc (c := { genC b pm G with A := Af, Mu := [(it, st₅.P l), (l, LP vs₅)], sg := sg₅, gs := gs₅ }) rfl rfl rfl (fun h => nomatch h) (e_local hip) y₅ fun v s₆ hv al₆ x₆ => ?_
            subst hv
            refine rt_execs_nil ?_
            refine rt_stmt ?_
            rw [hAf]
            refine x_assign_loc (c := { genC b pm G with A := Af, Mu := [(it, st₅.P l), (l, LP vs₅)], sg := upd sg₅ "first" v, gs := gs₅ }) rfl rfl rfl (fun h => nomatch h) (e_local (v := v) ((upd_ne (sg := sg₅) (x := "first") (v := v) (by decide)).trans hip)) x₆ fun v' s₇ hv al₇ x₇ => ?_
            subst hv
            refine rt_execs_nil (rt_again rfl ?_)
            refine ihn n (Nat.lt_succ_self n) _ s₅ s₇ O₅ (upd (upd sg₅ "first" v') "last" v') gs₅ st₅ vs₅ ns₅ v' v' np rfl (x₇.withA b.A) ?_ ((upd_ne (by decide)).trans ((upd_ne (by decide)).trans hit)) ((upd_ne (by decide)).trans upd_same) upd_same hbp hpp
            exact (al₆.trans al₇).sub (by intro y hy; rw [List.mem_singleton.mp hy]; exact .head _)
      | false =>
        simp only [Bool.false_eq_true, if_false]
        have e1 : nm = nl + 1 := by simpa using hne
        have hr1 : run nl ((ItSt.at i).rest ns) = run nm ((ItSt.at (i + 1)).rest ns) + 1 := by
          show run nl (ns.drop i) = run nm (ns.drop (i + 1)) + 1
          rw [dn]
          show (if nm = nl + 1 then run nm (ns.drop (i + 1)) + 1 else 0) = _
          rw [if_pos e1]
        refine rt_execs_nil ?_
        refine rt_stmt ?_
        rw [hAf]
        refine x_assign_loc (c := { genC b pm G with A := Af, Mu := [(it, IterP l (i + 1)), (l, LP vs)], sg := upd sg "ip" (.ref bn), gs := gs }) rfl rfl rfl (fun h => nomatch h) (e_local (v := .ref bn) (upd_same (sg := sg) (x := "ip"))) x₃ fun v s₄ hv al₄ x₄ => ?_
        subst hv
        refine rt_execs_nil (rt_again rfl ?_)
        have hlen : ((ItSt.at (i + 1)).rest ns).length = m := by
          show (ns.drop (i + 1)).length = m
          rw [List.length_drop] at hm' ⊢; omega
        refine rt_mono (ihm s₀ s₄ O (upd (upd sg "ip" (.ref bn)) "last" (.ref bn)) gs (.at (i + 1)) vs ns fv (.ref bn) nm hlen (x₄.withA b.A) ?_ ((upd_ne (by decide)).trans ((upd_ne (by decide)).trans hi)) ((upd_ne (by decide)).trans ((upd_ne (by decide)).trans hf)) upd_same ⟨bn, un, rfl, hbn, hun⟩ hp) ?_
        · exact al₃.trans (al₄.sub (by intro y hy; rw [List.mem_singleton.mp hy]; exact .head _))
        · rintro e s' ⟨v, lvs, k, cd, p', fs, T, sg', lastv, rfl, hg, rfl, hT, al', hi', hlast, hor⟩
          refine ⟨_, lvs, k, cd, p', fs, T, sg', lastv, rfl, hg, rfl, hT, al', hi', ?_, ?_⟩
          · rw [hr1]
            show (Value.ref bl :: vs.drop i)[run nm ((ItSt.at (i + 1)).rest ns) + 1]? = some lastv
            rw [dv, List.getElem?_cons_succ]
            exact hlast
          · rcases hor with ⟨i', nv', hst, hnv', hip, hat, hS⟩ | ⟨hr, hat, hL⟩
            · cases hst
              refine .inl ⟨i, nv', rfl, ?_, hip, ?_, hS⟩
              · rw [hr1]
                show (vs.drop i)[run nm ((ItSt.at (i + 1)).rest ns) + 1]? = some nv'
                rw [dv, List.getElem?_cons_succ]
                exact hnv'
              · have e2 : i + run nl ((ItSt.at i).rest ns) + 1 = i + 1 + run nm ((ItSt.at (i + 1)).rest ns) + 1 := by rw [hr1]; omega
                rw [e2]; exact hat
            · refine .inr ⟨?_, hat, hL⟩
              rw [hr1, hr]
              show (ns.drop (i + 1)).length + 1 = (ns.drop i).length
              rw [dn]; rfl
end
end Mine

namespace Mine

theorem entry_next : entryFor table "next" = some Builtin.«next» := entryFor_of_tree (by kernel_rfl)
theorem kind_next : builtinKind "next" = none := by decide +kernel
theorem plain_next : plainId "next" = true := by decide +kernel
theorem args_next1 (a : Value) : argsOk "next" ⟨[a], []⟩ := by unfold argsOk; kernel_rfl
theorem args_next2 (a b : Value) : argsOk "next" ⟨[a, b], []⟩ := by unfold argsOk; kernel_rfl
theorem entry_iter : entryFor table "iter" = some Builtin.«iter» := entryFor_of_tree (by kernel_rfl)
theorem kind_iter : builtinKind "iter" = none := by decide +kernel
theorem plain_iter : plainId "iter" = true := by decide +kernel
theorem args_iter1 (a : Value) : argsOk "iter" ⟨[a], []⟩ := by unfold argsOk; kernel_rfl

section
variable {prog : Program} {w : World} {A : Around} {E : Value → Shared → Prop} {s : Shared}

theorem call_iter {v : Value} {Q : Value → Shared → Prop} (h : wpAny (model prog w) A.in1 (pyIter v) Q E s) : wpAny (model prog w) A (call (.builtin "iter") [v]) Q E s := by
  refine call_function_entry kind_iter plain_iter entry_iter (args_iter1 v) ?_
  show wpAny _ _ (pyIter v >>= fun r => ret r) _ _ s
  exact wpAny_bind (wpAny_mono h (fun r s' hr => wpAny_pure ⟨r, rfl, hr⟩) fun _ _ e => e)
theorem call_next2 {v d : Value} {T id : String} {Q : Value → Shared → Prop} (hT : s.TypeIs v T) (S : Slot T "__next__" id) (h : wpAny (model prog w) A.in1 (pyNext v) (fun r s' => Q (r.getD d) s') E s) :
    wpAny (model prog w) A (call (.builtin "next") [v, d]) Q E s := by
  refine call_function_entry kind_next plain_next entry_next (args_next2 v d) ?_
  show wpAny _ _ (specialOf v "__next__" >>= _) _ _ s
  refine wpAny_bind (wpAny_specialOf hT S.lookup ?_)
  show wpAny _ _ (pyNext v >>= fun r => ret (r.getD d)) _ _ s
  exact wpAny_bind (wpAny_mono h (fun r s' hr => wpAny_pure ⟨_, rfl, hr⟩) fun _ _ e => e)
theorem call_next1_item {it l : Addr} {i : Nat} {items : Array Value} {x : Value} {Q : Value → Shared → Prop} (hit : s.heap.IsListIter it l i) (hl : s.heap.IsList l items) (hx : items[i]? = some x)
    (hQ : ∀ h', h'.IsListIter it l (i + 1) → Heap.SameBut it s.heap h' → Q x { s with heap := h' }) : wpAny (model prog w) A (call (.builtin "next") [.ref it]) Q E s := by
  obtain ⟨o, ho, hc, hd⟩ := id hit
  obtain ⟨ol, hol, _, nl, hdl⟩ := hl
  refine call_function_entry kind_next plain_next entry_next (args_next1 _) ?_
  show wpAny _ _ (specialOf (.ref it) "__next__" >>= _) _ _ s
  refine wpAny_bind (wpAny_specialOf hit.typeIs slot_listiter_next.lookup ?_)
  show wpAny _ _ (callSpecial? (.ref it) "__next__" >>= _) _ _ s
  refine wpAny_bind (wpAny_callSpecial?_slot (name := Str.ofString "__next__") hit.typeIs slot_listiter_next (wpAny_call_entry slot_listiter_next hit.typeIs entry_listiter_next ?_ (args_listiter_next _)))
  show wpAny _ _ (field (.ref it) 0 >>= _) _ _ s
  refine wpAny_bind (wpAny_field ho hd (x := .ref l) rfl ?_)
  show wpAny _ _ (if (Value.ref l == Value.none) = true then _ else _) _ _ s
  rw [if_neg (show ¬ ((Value.ref l == Value.none) = true) from Bool.false_ne_true)]
  show wpAny _ _ (field (.ref it) 1 >>= _) _ _ s
  refine wpAny_bind (wpAny_field ho hd (x := .int i 0) rfl ?_)
  show wpAny _ _ (seqItems? (.ref l) >>= _) _ _ s
  refine wpAny_bind (wpAny_seqItems hol hdl ?_)
  simp only [Int.toNat_natCast, hx]
  refine wpAny_bind (wpAny_setField ho hd (by simp) (wpAny_pure ⟨x, rfl, wpAny_pure ⟨x, rfl, hQ _ ?_ (Heap.SameBut.update ..)⟩⟩))
  exact ⟨_, Heap.get?_update_self _ ho (Obj.isFreed_of_fields (Obj.data_mapFields hd _)), (Obj.cls_mapFields ..).trans hc, by rw [Obj.data_mapFields hd]; simp [rawInt]⟩
end

section
variable {b : Cx} {pm : Value} {G : Addr}

set_option maxHeartbeats 8000000 in
/-- the walk's start, behind the line that makes its iterator -/
theorem gen_start (o : GenOk b pm G) {A : Around} (hA : A.handled = none) (hd : A.depth + 20 < recursionLimit) {it l : Addr} (n : Nat) {s₀ s : Shared} {O : Led} {sg : Str → Option Value} {gs : Array GenState} {i : Nat} {vs : List Value} {ns : List Int} {v₀ : Value} {n₀ : Int}
    (x : At ((genC b pm G).up [(it, IterP l i), (l, LP vs)] sg gs) O s) (al : Alt [G, it] s₀ s) (hi : sg "it" = some (.ref it)) (hv : vs[i]? = some v₀) (hb : Bx O n₀ v₀) (hp : Paired (Bx O) ns vs) :
    RT (model b.prog b.w) A (.func (fnBody 1) (genC b pm G).env) ((execs ((fnBody 1).drop 1) (genC b pm G).env).wrap (fun f => .pure (.done (.ret (match f with | .ret v => v | _ => .none)))) (fun e => (leaving (genC b pm G).env e).wrap (fun _ => .raise e) .raise id id) id id) [] s
      (GOut (genC b pm G) it l (.at (i + 1)) vs ns v₀ v₀ n₀ O gs s₀ (Susp (genC b pm G) A it l n) (LastK (genC b pm G) A)) := by
  have hof := over_func (env := (genC b pm G).env) (body := fnBody 1) hA
  generalize hAf : A.over (.func (fnBody 1) (genC b pm G).env) [] = Af at hof
  have ow := fun Mu sg gs => o Af Mu sg gs hof.1 (by rw [hof.2]; omega)
  refine rt_stmt ?_
  rw [hAf]
  refine wpAny_Assign_two ?_ rfl rfl
  have y := x.withA Af
  refine Call_Name1 ((e_bi (c := { genC b pm G with A := Af, Mu := [(it, IterP l i), (l, LP vs)], sg := sg, gs := gs }) (ow _ sg gs).std.next.1 (ow _ sg gs).std.next.2).use y fun f s₁ e₁ k₁ x₁ => ?_) rfl
  subst e₁
  refine callWith_builtin (args := [(false, eval _ _)]) rfl (evalArgs_plain (spliced_cons ((e_local (c := { genC b pm G with A := Af, Mu := [(it, IterP l i), (l, LP vs)], sg := sg, gs := gs }) hi).use x₁ fun v s₂ e₂ k₂ x₂ => ?_)))
  subst e₂
  refine spliced_nil ?_
  refine call_next1_item (x₂.mu _ (.head _)).isIter (x₂.mu _ (.tail _ (.head _))).isList (by simpa using hv) fun h' hit hs => ?_
  have al₃ : Alt [it] s₂ { s₂ with heap := h' } := Alt.of_same (tk := s₂.toks) hs
  have x₃ : At ({ genC b pm G with A := Af, Mu := [(it, IterP l (i + 1)), (l, LP vs)], sg := sg, gs := gs } : Cx) O { s₂ with heap := h' } :=
    At.setMu (c := { genC b pm G with A := Af, Mu := [], sg := sg, gs := gs }) x₂ rfl al₃ hit
  refine wpAny_assign_Name (w_store_loc (c := { genC b pm G with A := Af, Mu := [(it, IterP l (i + 1)), (l, LP vs)], sg := sg, gs := gs }) rfl rfl rfl (fun h => nomatch h) x₃ fun s₄ al₄ x₄ => ?_)
  refine wpAny_assign_Name (w_store_loc (c := { genC b pm G with A := Af, Mu := [(it, IterP l (i + 1)), (l, LP vs)], sg := upd sg "first" v₀, gs := gs }) rfl rfl rfl (fun h => nomatch h) x₄ fun s₅ al₅ x₅ => ?_)
  have al₅' : Alt [G, it] s₀ s₅ := by
    refine (((al.trans (k₁.trans k₂).alt).trans (al₃.sub ?_)).trans (al₄.sub ?_)).trans (al₅.sub ?_)
    · simp
    · intro y hy; rw [List.mem_singleton.mp hy]; exact .head _
    · intro y hy; rw [List.mem_singleton.mp hy]; exact .head _
  refine rt_execs_cons (rt_For (by intro _; rfl) ?_)
  rw [hAf]
  refine (e_local (c := { genC b pm G with A := Af, Mu := [(it, IterP l (i + 1)), (l, LP vs)], sg := upd (upd sg "first" v₀) "last" v₀, gs := gs }) (v := .ref it) ((upd_ne (by decide)).trans ((upd_ne (by decide)).trans hi))).use x₅ fun u s₆ e₆ k₆ x₆ => ?_
  subst e₆
  refine wpAny_pyIter_listiter (x₆.mu _ (.head _)).isIter fun p => ?_
  refine gen_loop o hA hd ?_ n _ s₀ s₆ O (upd (upd sg "first" v₀) "last" v₀) gs (.at (i + 1)) vs ns v₀ v₀ n₀ rfl (x₆.withA b.A) (al₅'.trans k₆.alt) ((upd_ne (by decide)).trans ((upd_ne (by decide)).trans hi)) ((upd_ne (by decide)).trans upd_same) upd_same hb hp
  intro s₇ O₇ sg₇ gs₇ vs₇ fv lv x₇ _ h1 h2
  exact gen_last o hA hd x₇ h1 h2

set_option maxHeartbeats 8000000 in
/-- a fresh walk over an iterator -/
theorem gen_fresh_iter (o : GenOk b pm G) {A : Around} (hA : A.handled = none) (hd : A.depth + 20 < recursionLimit) {it l : Addr} (n : Nat) {s : Shared} {O : Led} {sg : Str → Option Value} {gs : Array GenState} {i : Nat} {vs : List Value} {ns : List Int} {v₀ : Value} {n₀ : Int}
    (x : At ((genC b pm G).up [(it, IterP l i), (l, LP vs)] sg gs) O s) (hi : sg "addresses" = some (.ref it)) (hv : vs[i]? = some v₀) (hb : Bx O n₀ v₀) (hp : Paired (Bx O) ns vs) :
    RT (model b.prog b.w) A (.func (fnBody 1) (genC b pm G).env) ((model b.prog b.w).den (.func (fnBody 1) (genC b pm G).env)) [] s
      (GOut (genC b pm G) it l (.at (i + 1)) vs ns v₀ v₀ n₀ O gs s (Susp (genC b pm G) A it l n) (LastK (genC b pm G) A)) := by
  have hof := over_func (env := (genC b pm G).env) (body := fnBody 1) hA
  refine rt_func ?_
  generalize hAf : A.over (.func (fnBody 1) (genC b pm G).env) [] = Af at hof
  have ow := fun Mu sg gs => o Af Mu sg gs hof.1 (by rw [hof.2]; omega)
  refine rt_stmt ?_
  rw [hAf]
  have y := x.withA Af
  refine wpAny_Assign_Name (Call_Name1 ((e_bi (c := { genC b pm G with A := Af, Mu := [(it, IterP l i), (l, LP vs)], sg := sg, gs := gs }) (ow _ sg gs).std.iter.1 (ow _ sg gs).std.iter.2).use y fun f s₁ e₁ k₁ x₁ => ?_) rfl) rfl
  subst e₁
  refine callWith_builtin (args := [(false, eval _ _)]) rfl (evalArgs_plain (spliced_cons ((e_local (c := { genC b pm G with A := Af, Mu := [(it, IterP l i), (l, LP vs)], sg := sg, gs := gs }) hi).use x₁ fun v s₂ e₂ k₂ x₂ => ?_)))
  subst e₂
  refine spliced_nil (call_iter (wpAny_pyIter_listiter (x₂.mu _ (.head _)).isIter ?_))
  refine w_store_loc (c := { genC b pm G with A := Af, Mu := [(it, IterP l i), (l, LP vs)], sg := sg, gs := gs }) rfl rfl rfl (fun h => nomatch h) x₂ fun s₃ al₃ x₃ => ?_
  refine gen_start o hA hd n (x₃.withA b.A) ((k₁.trans k₂).alt.trans (al₃.sub ?_)) (upd_same (sg := sg) (x := "it")) hv hb hp
  intro y hy; rw [List.mem_singleton.mp hy]; exact .head _

theorem At.growMu {c : Cx} {O Mu : Led} {s s' : Shared} {p : Ent} (x : At { c with Mu := Mu } O s) (g : Grow [p] s s') : At { c with Mu := p :: Mu } O s' := by
  have x' : At { c with Mu := Mu } O s' := x.keeps g.1
  have hp := g.2 p (.head _)
  have y : At { c with Mu := Mu ++ [p] } O s' := At.addMu x' hp.2 (fun h => x.alive h hp.1) (fun q hq e => by
    obtain ⟨o, eo, _⟩ := x.own q hq
    rw [e, hp.1] at eo; cases eo) (fun o e => by rw [x.base _ o e] at hp; cases hp.1)
  exact y.mu_perm (by simpa using (List.perm_append_comm (l₁ := Mu) (l₂ := [p])))

set_option maxHeartbeats 8000000 in
/-- a fresh walk over a list -/
theorem gen_fresh_list (o : GenOk b pm G) {A : Around} (hA : A.handled = none) (hd : A.depth + 20 < recursionLimit) {l : Addr} (n : Nat) {s : Shared} {O : Led} {sg : Str → Option Value} {gs : Array GenState} {vs : List Value} {ns : List Int} {v₀ : Value} {n₀ : Int}
    (x : At ((genC b pm G).up [(l, LP vs)] sg gs) O s) (hi : sg "addresses" = some (.ref l)) (hv : vs[0]? = some v₀) (hb : Bx O n₀ v₀) (hp : Paired (Bx O) ns vs) :
    RT (model b.prog b.w) A (.func (fnBody 1) (genC b pm G).env) ((model b.prog b.w).den (.func (fnBody 1) (genC b pm G).env)) [] s
      (fun e s' => ∃ it s₁, s.heap.get? it = none ∧ Kp s s₁ ∧ At ((genC b pm G).up [(it, IterP l 0), (l, LP vs)] sg gs) O s₁ ∧ GOut (genC b pm G) it l (.at 1) vs ns v₀ v₀ n₀ O gs s₁ (Susp (genC b pm G) A it l n) (LastK (genC b pm G) A) e s') := by
  have hof := over_func (env := (genC b pm G).env) (body := fnBody 1) hA
  refine rt_func ?_
  generalize hAf : A.over (.func (fnBody 1) (genC b pm G).env) [] = Af at hof
  have ow := fun Mu sg gs => o Af Mu sg gs hof.1 (by rw [hof.2]; omega)
  refine rt_stmt ?_
  rw [hAf]
  have y := x.withA Af
  refine wpAny_Assign_Name (Call_Name1 ((e_bi (c := { genC b pm G with A := Af, Mu := [(l, LP vs)], sg := sg, gs := gs }) (ow _ sg gs).std.iter.1 (ow _ sg gs).std.iter.2).use y fun f s₁ e₁ k₁ x₁ => ?_) rfl) rfl
  subst e₁
  refine callWith_builtin (args := [(false, eval _ _)]) rfl (evalArgs_plain (spliced_cons ((e_local (c := { genC b pm G with A := Af, Mu := [(l, LP vs)], sg := sg, gs := gs }) hi).use x₁ fun v s₂ e₂ k₂ x₂ => ?_)))
  subst e₂
  refine spliced_nil (call_iter (wpAny_pyIter_list (x₂.mu _ (.head _)).isList ?_))
  generalize hit : s₂.heap.objs.size = it
  have g₃ : Grow [(it, IterP l 0)] s₂ { s₂ with heap := s₂.heap.push { cls := .type "list_iterator", data := .fields #[.ref l, .int 0 0] } } := by
    subst hit
    exact Grow.one Kp.push (fresh_size _) ⟨_, Heap.get?_push_size _ rfl, rfl, rfl⟩
  have x₃ := At.growMu (c := { genC b pm G with A := Af, Mu := [(l, LP vs)], sg := sg, gs := gs }) x₂ g₃
  refine w_store_loc (c := { genC b pm G with A := Af, Mu := [(it, IterP l 0), (l, LP vs)], sg := sg, gs := gs }) rfl rfl rfl (fun h => nomatch h) x₃ fun s₄ al₄ x₄ => ?_
  refine rt_mono (gen_start o hA hd n (x₄.withA b.A) (al₄.sub ?_) (upd_same (sg := sg) (x := "it")) hv hb hp) fun e s' h => ?_
  · intro y hy; rw [List.mem_singleton.mp hy]; exact .head _
  · exact ⟨it, _, (k₁.trans k₂).none (g₃.2 _ (.head _)).1, (k₁.trans k₂).trans g₃.1, x₃.withA b.A, h⟩
end
end Mine

namespace Mine

/-- a frame's map, as far as it is known -/
def NsP (f : Str → Option Value) (o : Obj) : Prop := ∃ es ep, o.data = .dict es ep ∧ StrKeys es ∧ ∀ x v, f x = some v → nsFind es x = some v
theorem Has.ns {h : Heap} {a : Addr} {f : Str → Option Value} (x : Has h (a, NsP f)) : ∃ m, h.Ns a m ∧ ∀ y v, f y = some v → m y = some v := by
  obtain ⟨o, e, es, ep, hd, hk, hf⟩ := x
  exact ⟨fun y => nsFind es y, ⟨o, es, ep, e, hd, hk, fun _ => rfl⟩, hf⟩
theorem Has.of_ns {h : Heap} {a : Addr} {m f : Str → Option Value} (x : h.Ns a m) (hf : ∀ y v, f y = some v → m y = some v) : Has h (a, NsP f) := by
  obtain ⟨o, es, ep, e, hd, hk, hm⟩ := x
  exact ⟨o, e, es, ep, hd, hk, fun y v hv => (hm y).trans (hf y v hv)⟩
def GenP (g : Nat) (o : Obj) : Prop := ∃ nm qn, o.cls = .type "generator" ∧ o.data = .fields #[.int g 0, nm, qn] ∧ o.slots = #[]
theorem Has.isGen {h : Heap} {a : Addr} {g : Nat} (x : Has h (a, GenP g)) : h.IsGen a g := let ⟨o, e, nm, qn, q⟩ := x; ⟨o, nm, qn, e, q⟩

/-- a state of a generator that runs to ends of which Φ holds -/
def Wakens (M : Model) (A : Around) (gst : GenState) (s : Shared) (Φ : End → Shared → Prop) : Prop := match gst with
  | .fresh c => RT M A c (M.den c) [] s Φ
  | .suspended k _ c _ fs _ => RT M A c (k (.send .none)) fs s Φ
  | _ => False

section
variable {prog : Program} {w : World} {A : Around} {E : Value → Shared → Prop} {s : Shared}

theorem w_resume {M : Model} {α : Type} {g : Nat} {gst : GenState} {l : List Value} {k : GenResult → Sem α} {Q : α → Shared → Prop} {Φ : End → Shared → Prop} (hg : s.gens[g]? = some gst) (hgo : Wakens M A gst (s.setGen g .running) Φ)
    (hq : ∀ e s₁, Φ e s₁ → e.quiet = true) (hk : ∀ e s₁, Φ e s₁ → wpAny M A (k e.result) Q E (s₁.setGen g e.genState)) : wpAny M A (.resume g (.send .none) l k) Q E s := by
  intro Γ p hΓ
  rw [Sem.wp_resume]
  have hB : ∀ c, (Γ.wake c p).Woken A := fun c => hΓ.wake c p
  cases gst with
  | fresh c =>
    obtain ⟨e₁, s₁, hr, he⟩ := hgo (Γ.wake c p) p rfl (hB c)
    exact ⟨_, _, by unfold Wakes; rw [hg]; exact ⟨e₁, s₁, hr, hq e₁ s₁ he, rfl, rfl⟩, hk e₁ s₁ he Γ p hΓ⟩
  | suspended k₀ l₀ c₀ p₀ fs₀ cl =>
    obtain ⟨e₁, s₁, hr, he⟩ := hgo (Γ.wake c₀ p) p₀ rfl (hB c₀)
    exact ⟨_, _, by unfold Wakes; rw [hg]; exact ⟨e₁, s₁, hr, hq e₁ s₁ he, rfl, rfl⟩, hk e₁ s₁ he Γ p hΓ⟩
  | running => exact hgo.elim
  | finished => exact hgo.elim

/-- the ends of a walk's stretch -/
def Ends (g : Nat) (Q : Option Value → Shared → Prop) (e : End) (s₁ : Shared) : Prop :=
  (∃ v lvs k cd p fs, e = .susp v false lvs k cd p fs ∧ fs.any Frame.guarded = false ∧ Q (some v) (s₁.setGen g (.suspended k lvs cd p fs false))) ∨
  (e = .ret (.ok (.ret .none)) ∧ ∀ h', (∀ b o, s₁.heap.get? b = some o → h'.get? b = some o) → Q none { s₁.setGen g .finished with heap := h' })

theorem w_pyNext {a : Addr} {g : Nat} {gst : GenState} {Q : Option Value → Shared → Prop} (hh : A.handled = none) (hl : s.heap.NoLimit) (hroom : A.depth < recursionLimit) (hg : s.heap.IsGen a g) (hgs : s.gens[g]? = some gst)
    (hgo : Wakens (model prog w) A.in1 gst (s.setGen g .running) (Ends g Q)) : wpAny (model prog w) A (pyNext (.ref a)) Q E s := by
  unfold pyNext
  refine wpAny_bind (wpAny_attempt (wpAny_callSpecial?_slot (name := Str.ofString "__next__") hg.typeIs slot_gen_next
    (wpAny_call_entry slot_gen_next hg.typeIs entry_gen_next ?_ (args_gen_next _))))
  show wpAny _ _ (Builtin.Generator.genWake (.ref a) (.send .none)) _ _ s
  unfold Builtin.Generator.genWake
  refine wpAny_bind (wpAny_holding (wpAny_genNumber hg (wpAny_bind (wpAny_genState hgs ?_))))
  have quiet : ∀ e s₁, Ends g Q e s₁ → e.quiet = true := by
    rintro e s₁ (⟨v, lvs, k, cd, p, fs, rfl, hf, _⟩ | ⟨rfl, _⟩)
    · simp [End.quiet, hf]
    · rfl
  have main : ∀ K : GenResult → Sem Fin, (∀ v, K (.yielded v) = ret v) → (∃ f : PUnit → Sem Fin, K (.returned .none) = (newExc (.type "StopIteration") [] >>= fun e => (raiseNew e : Sem PUnit) >>= f)) →
      wpAny (model prog w) A.in1 (.resume g (.send .none) [] K) (fun fin s' => ∃ v, fin = .done (.ret v) ∧ wpAny (model prog w) A (pure (some v) : Sem (Option Value)) Q E s')
        (fun e s' => wpAny (model prog w) A (isInstance e (.type "StopIteration") >>= fun b => if b = true then pure none else throw e) Q E s') s := by
    intro K hK1 ⟨f2, hK2⟩
    refine w_resume hgs hgo quiet ?_
    rintro e s₁ (⟨v, lvs, k, cd, p, fs, rfl, hf, hQ⟩ | ⟨rfl, hQ⟩)
    · show wpAny _ _ (K (.yielded v)) _ _ _
      rw [hK1]
      refine wpAny_pure ⟨v, rfl, wpAny_pure ?_⟩
      have : (End.susp v false lvs k cd p fs).genState = .suspended k lvs cd p fs false := by simp [End.genState, hf]
      rw [this]; exact hQ
    · show wpAny _ _ (K (.returned .none)) _ _ _
      rw [hK2]
      refine wpAny_bind ?_
      simp only [newExc, newTuple]
      refine wpAny_bind (wpAny_newObj_type ?_ (by size_fits))
      refine wpAny_bind (m := firstArgMember _ _) (wpAny_of_eq (a := Value.none) (by first | rfl | (simp only [firstArgMember]; rfl)) ?_)
      refine wpAny_newObj_type ?_ (by size_fits)
      simp only [raiseNew]
      refine wpAny_bind (wpAny_bind (wpAny_handled ?_))
      rw [show A.in1.handled = none from hh]
      refine wpAny_bind (wpAny_pure (wpAny_throw ?_))
      exact stop_is ⟨_, Heap.get?_push_size _ rfl, rfl⟩ (hQ _ fun b o hb => Heap.get?_push_of_some _ (Heap.get?_push_of_some _ hb))
  cases gst with
  | running => exact hgo.elim
  | finished => exact hgo.elim
  | fresh c =>
    refine wpAny_bind (wpAny_roomToWake hl hroom ?_)
    exact main _ (fun _ => rfl) ⟨_, rfl⟩
  | suspended k₀ l₀ c₀ p₀ fs₀ cl =>
    refine wpAny_bind (wpAny_roomToWake hl hroom ?_)
    exact main _ (fun _ => rfl) ⟨_, rfl⟩

theorem w_pyNext_done {a : Addr} {g : Nat} {Q : Option Value → Shared → Prop} (hh : A.handled = none) (hg : s.heap.IsGen a g) (hgs : s.gens[g]? = some .finished)
    (hQ : ∀ h', (∀ b o, s.heap.get? b = some o → h'.get? b = some o) → Q none { s with heap := h' }) : wpAny (model prog w) A (pyNext (.ref a)) Q E s := by
  unfold pyNext
  refine wpAny_bind (wpAny_attempt (wpAny_callSpecial?_slot (name := Str.ofString "__next__") hg.typeIs slot_gen_next
    (wpAny_call_entry slot_gen_next hg.typeIs entry_gen_next ?_ (args_gen_next _))))
  show wpAny _ _ (Builtin.Generator.genWake (.ref a) (.send .none)) _ _ s
  unfold Builtin.Generator.genWake
  refine wpAny_bind (wpAny_holding (wpAny_genNumber hg (wpAny_bind (wpAny_genState hgs ?_))))
  have hw : ∀ K : GenResult → Sem Fin, (K .finished = (newExc (.type "StopIteration") [] >>= fun e => raiseNew e)) →
      wpAny (model prog w) A.in1 (.resume g (.send .none) [] K) (fun fin s' => ∃ v, fin = .done (.ret v) ∧ wpAny (model prog w) A (pure (some v) : Sem (Option Value)) Q E s')
        (fun e s' => wpAny (model prog w) A (isInstance e (.type "StopIteration") >>= fun b => if b = true then pure none else throw e) Q E s') s := by
    intro K hK Γ p hΓ
    rw [Sem.wp_resume]
    refine ⟨.finished, s, by unfold Wakes; rw [hgs]; exact ⟨rfl, rfl⟩, ?_⟩
    rw [hK]
    have : wpAny (model prog w) A.in1 (newExc (.type "StopIteration") [] >>= fun e => raiseNew e : Sem Fin) (fun fin s' => ∃ v, fin = .done (.ret v) ∧ wpAny (model prog w) A (pure (some v) : Sem (Option Value)) Q E s')
        (fun e s' => wpAny (model prog w) A (isInstance e (.type "StopIteration") >>= fun b => if b = true then pure none else throw e) Q E s') s := by
      refine wpAny_bind ?_
      simp only [newExc, newTuple]
      refine wpAny_bind (wpAny_newObj_type ?_ (by size_fits))
      refine wpAny_bind (m := firstArgMember _ _) (wpAny_of_eq (a := Value.none) (by first | rfl | (simp only [firstArgMember]; rfl)) ?_)
      refine wpAny_newObj_type ?_ (by size_fits)
      simp only [raiseNew]
      refine wpAny_bind (wpAny_handled ?_)
      rw [show A.in1.handled = none from hh]
      refine wpAny_bind (wpAny_pure (wpAny_throw ?_))
      exact stop_is ⟨_, Heap.get?_push_size _ rfl, rfl⟩ (hQ _ fun b o hb => Heap.get?_push_of_some _ (Heap.get?_push_of_some _ hb))
    exact this Γ p hΓ
  exact hw _ rfl
end
end Mine

namespace Mine

section
variable {c : Cx} {O : Led} {s s' : Shared}

theorem At.mu_sub {Mu Mu' : Led} (x : At { c with Mu := Mu } O s) (hp : List.Sublist Mu' Mu) : At { c with Mu := Mu' } O s := by
  have pl : ∀ a, a ∈ ({ c with Mu := Mu' } : Cx).places → a ∈ ({ c with Mu := Mu } : Cx).places := fun a h => by
    rcases Cx.mem_places.mp h with h | h | ⟨p, h⟩
    · exact Cx.mem_places.mpr (.inl h)
    · exact Cx.mem_places.mpr (.inr (.inl h))
    · exact Cx.mem_places.mpr (.inr (.inr ⟨p, hp.subset h⟩))
  refine ⟨x.base, x.own, fun p hq => x.mu p (hp.subset hq), x.ns, x.cell, x.cellAlive, ?_, fun p hq h => x.offO p hq (pl _ h), fun b o e h => x.offB b o e (pl _ h), x.gens, x.os, x.kin, x.tg, x.tb, x.nl⟩
  have nd := x.nodup
  unfold Cx.places at nd ⊢
  exact List.Nodup.sublist (List.Sublist.cons_cons _ (List.Sublist.append (List.Sublist.refl _) (hp.map _))) nd

theorem At.alts {Mu L L' : Led} (x : At { c with Mu := L ++ Mu } O s) (hwc : c.wc = true) (al : Alt (L.map (·.1)) s s') (hL : L'.map (·.1) = L.map (·.1)) (h : ∀ p ∈ L', Has s'.heap p) : At { c with Mu := L' ++ Mu } O s' := by
  have kp : ∀ b o, b ∉ L.map (·.1) → s.heap.get? b = some o → s'.heap.get? b = some o := fun b o hb e => al.get hb e
  have ap : ∀ a ∈ L.map (·.1), a ∈ ({ c with Mu := L ++ Mu } : Cx).places := fun a h => by
    obtain ⟨p, hp, rfl⟩ := List.mem_map.mp h
    exact Cx.mem_places.mpr (.inr (.inr ⟨p.2, List.mem_append_left _ hp⟩))
  have pe : ({ c with Mu := L' ++ Mu } : Cx).places = ({ c with Mu := L ++ Mu } : Cx).places := by
    unfold Cx.places; simp only [List.map_append, hL]
  have nd := x.nodup
  unfold Cx.places at nd
  dsimp only at nd
  rw [hwc, if_pos rfl, List.map_append, List.nodup_cons, List.nodup_append, List.nodup_append] at nd
  obtain ⟨n1, n2, ⟨n5, n6, n7⟩, n4⟩ := nd
  have la : c.env.locals ∉ L.map (·.1) := fun h => n1 (List.mem_append_right _ (List.mem_append_left _ h))
  have ca : ∀ q ∈ c.env.cells, q.2 ∉ L.map (·.1) := fun q hq h => n4 q.2 (List.mem_map.mpr ⟨q, hq, rfl⟩) _ (List.mem_append_left _ h) rfl
  refine ⟨fun b o e => kp b o (fun h => x.offB b o e (ap _ h)) (x.base b o e), fun q hq => (x.own q hq).keep fun o e => kp _ o (fun h => x.offO q hq (ap _ h)) e, fun q hq => ?_, ?_, fun z b u hz hu => ?_, fun q hq => ?_, pe ▸ x.nodup,
    fun q hq => by rw [pe]; exact x.offO q hq, fun b o e => by rw [pe]; exact x.offB b o e, al.gens.trans x.gens, al.os.trans x.os, x.kin, x.tg, x.tb, x.nl⟩
  · rcases List.mem_append.mp hq with hq | hq
    · exact h q hq
    · exact (x.mu q (List.mem_append_right _ hq)).keep fun o e => kp _ o (fun h => n7 _ h _ (List.mem_map.mpr ⟨q, hq, rfl⟩) rfl) e
  · obtain ⟨m, hm, hz⟩ := x.ns
    exact ⟨m, hm.at' fun o e => kp _ o la e, hz⟩
  · obtain ⟨o, ho, hd⟩ := x.cell z b u hz hu
    exact ⟨o, kp b o (ca (z, b) (mem_of_lookup hz)) ho, hd⟩
  · obtain ⟨v, o, ho, hd⟩ := x.cellAlive q hq
    exact ⟨v, o, kp _ o (ca q hq) ho, hd⟩

theorem At.addO {p : Ent} (x : At c O s) (h : Has s.heap p) (hp : p.1 ∉ c.places) : At c (p :: O) s :=
  ⟨x.base, fun q hq => (List.mem_cons.mp hq).elim (fun e => e ▸ h) (x.own q), x.mu, x.ns, x.cell, x.cellAlive, x.nodup, fun q hq => (List.mem_cons.mp hq).elim (fun e => e ▸ hp) (x.offO q),
    x.offB, x.gens, x.os, x.kin, x.tg, x.tb, x.nl⟩
theorem At.withGs {gs : Array GenState} (x : At c O s) : At { c with gs := gs } O { s with gens := gs } :=
  ⟨x.base, x.own, x.mu, x.ns, x.cell, x.cellAlive, x.nodup, x.offO, x.offB, rfl, x.os, x.kin, x.tg, x.tb, x.nl⟩
theorem At.setGen {g : Nat} {z : GenState} (x : At c O s) : At { c with gs := c.gs.setIfInBounds g z } O (s.setGen g z) := by
  have := x.withGs (gs := c.gs.setIfInBounds g z)
  unfold Shared.setGen
  rw [x.gens]; exact this

/-- a law's state, as a walk sees it -/
theorem At.toGen {pm : Value} {G it l : Addr} {f : Str → Option Value} {P : Obj → Prop} {vs : List Value} {X : Led} (x : At { c with Mu := (G, NsP f) :: (it, P) :: (l, LP vs) :: X } O s) (hwc : c.wc = true) :
    At ((genC c pm G).up [(it, P), (l, LP vs)] f c.gs) O s := by
  have nd := x.nodup
  have sub : ∀ a, a ∈ ((genC c pm G).up [(it, P), (l, LP vs)] f c.gs).places → a ∈ ({ c with Mu := (G, NsP f) :: (it, P) :: (l, LP vs) :: X } : Cx).places := fun a h => by
    rcases Cx.mem_places.mp h with h | ⟨_, y, h⟩ | ⟨p, h⟩
    · have h' : a = G := h
      subst h'
      exact Cx.mem_places.mpr (.inr (.inr ⟨_, .head _⟩))
    · exact nomatch (show (y, a) ∈ ([] : List (Str × Addr)) from h)
    · refine Cx.mem_places.mpr (.inr (.inr ⟨p, ?_⟩))
      have h' : (a, p) ∈ [(it, P), (l, LP vs)] := h
      rcases List.mem_cons.mp h' with h' | h'
      · rw [h']; exact .tail _ (.head _)
      · rw [List.mem_singleton.mp h']; exact .tail _ (.tail _ (.head _))
  obtain ⟨m, hm, hf⟩ := (x.mu _ (.head _)).ns
  refine ⟨x.base, x.own, fun p hp => ?_, ⟨m, hm, fun y v _ hv => hf y v hv⟩, fun y a v h _ => ?_, fun p h => ?_, ?_, fun p hp h => x.offO p hp (sub _ h), fun b o e h => x.offB b o e (sub _ h), x.gens, x.os, x.kin, x.tg, x.tb, x.nl⟩
  · have h' : p ∈ [(it, P), (l, LP vs)] := hp
    rcases List.mem_cons.mp h' with h' | h'
    · rw [h']; exact x.mu _ (.tail _ (.head _))
    · rw [List.mem_singleton.mp h']; exact x.mu _ (.tail _ (.tail _ (.head _)))
  · exact nomatch (show ([] : List (Str × Addr)).lookup y = some a from h)
  · exact nomatch (show p ∈ ([] : List (Str × Addr)) from h)
  · unfold Cx.places at nd
    dsimp only at nd
    rw [hwc, if_pos rfl, List.nodup_cons, List.nodup_append] at nd
    obtain ⟨_, _, n3, _⟩ := nd
    show ([G, it, l] : List Addr).Nodup
    refine List.Nodup.sublist ?_ n3
    simp

def onLocals (env : Env) (f : Str → Option Value) : Str → Option Value := fun y => if env.kindOf y = some .local then f y else none

/-- .. and back -/
theorem At.ofGen {pm : Value} {G it l : Addr} {f f' : Str → Option Value} {P P' : Obj → Prop} {vs : List Value} {X : Led} {T : Ent} {gs : Array GenState} (x : At { c with Mu := (G, NsP f) :: (it, P) :: (l, LP vs) :: X } O s) (hwc : c.wc = true)
    (al : Alt [G, it] s s') (hT : s.heap.get? T.1 = none) (y : At ((genC c pm G).up [(it, P'), (l, LP vs)] f' gs) (T :: O) s') :
    At { c with Mu := (G, NsP (onLocals (genC c pm G).env f')) :: (it, P') :: (l, LP vs) :: X } (T :: O) s' := by
  refine At.addO ?_ (y.own _ (.head _)) ?_
  · refine At.alts (L := [(G, NsP f), (it, P)]) (L' := [(G, NsP (onLocals (genC c pm G).env f')), (it, P')]) (Mu := (l, LP vs) :: X) x hwc al rfl ?_
    intro p hp
    rcases List.mem_cons.mp hp with rfl | hp
    · obtain ⟨m, hm, hf⟩ := y.ns
      refine Has.of_ns hm fun z v hv => ?_
      unfold onLocals at hv
      split at hv
      · rename_i hk; exact hf z v hk hv
      · cases hv
    · rw [List.mem_singleton.mp hp]; exact y.mu _ (.head _)
  · intro h
    refine x.alive ?_ hT
    rcases Cx.mem_places.mp h with h | h | ⟨p, h⟩
    · exact Cx.mem_places.mpr (.inl h)
    · exact Cx.mem_places.mpr (.inr (.inl h))
    · refine Cx.mem_places.mpr (.inr (.inr ?_))
      rcases List.mem_cons.mp h with h | h
      · cases h; exact ⟨_, .head _⟩
      · rcases List.mem_cons.mp h with h | h
        · cases h; exact ⟨_, .tail _ (.head _)⟩
        · exact ⟨p, .tail _ (.tail _ h)⟩

theorem wakens_mono {M : Model} {A : Around} {gst : GenState} {Φ Φ' : End → Shared → Prop} (h : Wakens M A gst s Φ) (k : ∀ e s', Φ e s' → Φ' e s') : Wakens M A gst s Φ' := by
  cases gst with
  | fresh c => exact rt_mono h k
  | suspended k₀ l₀ c₀ p₀ fs₀ cl => exact rt_mono h k
  | running => exact h
  | finished => exact h

/-- a walk is asked and tells a pair -/
theorem w_told {A : Around} {E : Value → Shared → Prop} {Q : Option Value → Shared → Prop} {pm : Value} {G it l ga : Addr} {g : Nat} {gst : GenState} {f sg : Str → Option Value} {gs : Array GenState} {P : Obj → Prop} {st : ItSt} {vs : List Value} {ns : List Int} {X : Led}
    {fv lv : Value} {nl : Int} {S L : (Resume → Sem Fin) → Code → List Frame → Prop}
    (x : At (c.up ((G, NsP f) :: (it, P) :: (l, LP vs) :: X) sg gs) O s) (hwc : c.wc = true) (hh : A.handled = none) (hroom : A.depth < recursionLimit) (hga : (ga, GenP g) ∈ O) (hgs : gs[g]? = some gst)
    (hgo : Wakens (model c.prog c.w) A.in1 gst (s.setGen g .running) (GOut (genC c pm G) it l st vs ns fv lv nl O (gs.setIfInBounds g .running) (s.setGen g .running) S L))
    (k1 : ∀ T k lvs cd p fs f' lastv i nv s', st = .at i → (lv :: st.rest vs)[run nl (st.rest ns)]? = some lastv → (st.rest vs)[run nl (st.rest ns)]? = some nv → f' "it" = some (.ref it) → f' "ip" = some nv → S k cd fs →
      At (c.up ((G, NsP f') :: (it, IterP l (i + run nl (st.rest ns) + 1)) :: (l, LP vs) :: X) sg (gs.setIfInBounds g (.suspended k lvs cd p fs false))) ((T, TP [fv, lastv]) :: O) s' → Q (some (.ref T)) s')
    (k2 : ∀ T k lvs cd p fs f' lastv s', (lv :: st.rest vs)[run nl (st.rest ns)]? = some lastv → run nl (st.rest ns) = (st.rest ns).length → L k cd fs →
      At (c.up ((G, NsP f') :: (it, EndP) :: (l, LP vs) :: X) sg (gs.setIfInBounds g (.suspended k lvs cd p fs false))) ((T, TP [fv, lastv]) :: O) s' → Q (some (.ref T)) s') :
    wpAny (model c.prog c.w) A (pyNext (.ref ga)) Q E s := by
  refine w_pyNext hh x.nolimit hroom (x.own _ hga).isGen (by rw [x.gens]; exact hgs) (wakens_mono hgo ?_)
  rintro e s₁ ⟨v, lvs, k, cd, p, fs, T, sg', lastv, rfl, hfs, rfl, hT, al, hit, hlast, hc⟩
  refine .inl ⟨_, lvs, k, cd, p, fs, rfl, hfs, ?_⟩
  have x₁ := At.setGen (g := g) (z := .running) x
  rcases hc with ⟨i, nv, rfl, hnv, hip, y, hS⟩ | ⟨hr, y, hL⟩
  · have y₁ := At.ofGen (c := c.up ((G, NsP f) :: (it, P) :: (l, LP vs) :: X) sg (gs.setIfInBounds g .running)) (T := (T, TP [fv, lastv])) x₁ hwc al hT y
    have y₂ := At.setGen (g := g) (z := .suspended k lvs cd p fs false) y₁
    have e2 : (gs.setIfInBounds g GenState.running).setIfInBounds g (.suspended k lvs cd p fs false) = gs.setIfInBounds g (.suspended k lvs cd p fs false) := by simp
    dsimp only at y₂
    rw [e2] at y₂
    exact k1 T k lvs cd p fs _ lastv i nv _ rfl hlast hnv ((if_pos rfl).trans hit) ((if_pos rfl).trans hip) hS y₂
  · have y₁ := At.ofGen (c := c.up ((G, NsP f) :: (it, P) :: (l, LP vs) :: X) sg (gs.setIfInBounds g .running)) (T := (T, TP [fv, lastv])) x₁ hwc al hT y
    have y₂ := At.setGen (g := g) (z := .suspended k lvs cd p fs false) y₁
    have e2 : (gs.setIfInBounds g GenState.running).setIfInBounds g (.suspended k lvs cd p fs false) = gs.setIfInBounds g (.suspended k lvs cd p fs false) := by simp
    dsimp only at y₂
    rw [e2] at y₂
    exact k2 T k lvs cd p fs _ lastv _ hlast hr hL y₂

/-- a walk that has told its last pair is at its end -/
theorem w_last {A : Around} {E : Value → Shared → Prop} {Q : Option Value → Shared → Prop} {pm : Value} {G ga : Addr} {g : Nat} {k : Resume → Sem Fin} {lvs : List Value} {cd : Code} {p : Pos} {fs : List Frame} {cl : Bool}
    (x : At c O s) (hh : A.handled = none) (hroom : A.depth < recursionLimit) (hga : (ga, GenP g) ∈ O) (hgs : c.gs[g]? = some (.suspended k lvs cd p fs cl)) (hL : LastK (genC c pm G) A.in1 k cd fs)
    (q : ∀ s', At { c with gs := c.gs.setIfInBounds g .finished } O s' → Q none s') : wpAny (model c.prog c.w) A (pyNext (.ref ga)) Q E s := by
  refine w_pyNext hh x.nolimit hroom (x.own _ hga).isGen (by rw [x.gens]; exact hgs) ?_
  refine rt_mono (hL (s.setGen g .running)) ?_
  rintro e s₁ ⟨rfl, rfl⟩
  refine .inr ⟨rfl, fun h' hk => q _ ?_⟩
  have y₂ := At.setGen (g := g) (z := .finished) (At.setGen (g := g) (z := .running) x)
  have e2 : (c.gs.setIfInBounds g GenState.running).setIfInBounds g .finished = c.gs.setIfInBounds g .finished := by simp
  dsimp only at y₂
  rw [e2] at y₂
  exact y₂.keeps ⟨h', _, rfl, hk⟩
theorem w_done {A : Around} {E : Value → Shared → Prop} {Q : Option Value → Shared → Prop} {ga : Addr} {g : Nat} (x : At c O s) (hh : A.handled = none) (hga : (ga, GenP g) ∈ O) (hgs : c.gs[g]? = some .finished)
    (q : ∀ s', At c O s' → Q none s') : wpAny (model c.prog c.w) A (pyNext (.ref ga)) Q E s :=
  w_pyNext_done hh (x.own _ hga).isGen (by rw [x.gens]; exact hgs) fun h' hk => q _ (x.keeps ⟨h', s.toks, rfl, hk⟩)
end
end Mine

namespace Mine

section
variable {c : Cx} {O : Led} {s : Shared} {E : Value → Shared → Prop}

theorem genOk_of {pm : Value} {G : Addr} (o : Own c) : GenOk c pm G := fun A Mu sg gs hA hd =>
  ⟨⟨hA, rfl, rfl, o.std.len, o.std.range, o.std.list, o.std.iter, o.std.next⟩, o.ok, hd, o.cls, o.box, o.far⟩

abbrev argMap (v : Value) : Str → Option Value := upd (fun _ => none) "addresses" v

/-- a walk is made -/
theorem far_call {pm v : Value} {Q : Value → Shared → Prop} (o : Own c) (hfn : c.K.lookup 21 = some ⟨.type "function", none, .func (fdOf "_find_address_range" 1 20 pm), #[]⟩) (x : At c O s)
    (k : ∀ G ga s', At { c with Mu := (G, NsP (argMap v)) :: c.Mu, gs := c.gs.push (.fresh (.func (fnBody 1) (genC c pm G).env)) } ((ga, GenP c.gs.size) :: O) s' → Q (.ref ga) s') :
    wpAny (model c.prog c.w) c.A (call (.ref 21) [v]) Q E s := by
  have hroom : c.A.depth < recursionLimit := by have := o.room; omega
  refine wpAny_call (codeAny_call_generator (fd := fdOf "_find_address_range" 1 20 pm) (body := fnBody 1) hroom (x.In _ _ hfn) rfl rfl rfl rfl (codeRec_of x.In o.ok.code21) ?_)
  have hb : BindsTo s (fdOf "_find_address_range" 1 20 pm) ⟨[v], []⟩ [(("addresses" : Str), v)] := BindsTo.of_eq rfl
  refine hb _ _ _ _ ?_
  refine wpAny_newFunctionEnv (by show ∀ x ∈ (fnScope 1).names, x.2 ≠ .cell; decide) (locs rfl) (fun h₀ hns₀ hsb₀ => ⟨x.nolimit.fresh _ hsb₀, ?_⟩) rfl
  have kp : ∀ b o, s.heap.get? b = some o → h₀.get? b = some o := fun b o e => hsb₀.extBut b o (Nat.ne_of_lt (Heap.lt_size e)) (Heap.get?_push_of_some _ e)
  have g₁ : Grow [(s.heap.objs.size, NsP (argMap v))] s { s with heap := h₀, toks := s.toks + 1 } := by
    refine Grow.one ⟨h₀, s.toks + 1, rfl, kp⟩ (fresh_size _) (Has.of_ns hns₀ fun y u hu => ?_)
    by_cases h : y = "addresses"
    · subst h
      rw [show argMap v "addresses" = some v from upd_same] at hu
      simpa using hu
    · rw [show argMap v y = none from upd_ne h] at hu; cases hu
  have x₁ := At.growMu (c := c) x g₁
  generalize hG : s.heap.objs.size = G at *
  dsimp only
  have hgs : s.gens = c.gs := x.gens
  have g₂ : Grow [(h₀.objs.size, GenP c.gs.size)] { s with heap := h₀, toks := s.toks + 1 } { s with heap := h₀.push { cls := .type "generator", data := .fields #[.int s.gens.size 0, .str (fdOf "_find_address_range" 1 20 pm).name (s.toks + 1), .str (fdOf "_find_address_range" 1 20 pm).qualname (s.toks + 1 + 1)] }, toks := s.toks + 1 + 1 + 1 } := by
    refine Grow.one ⟨_, _, rfl, fun b o e => Heap.get?_push_of_some _ e⟩ (fresh_size _) ⟨_, Heap.get?_push_size _ rfl, _, _, rfl, by rw [hgs], rfl⟩
  have x₂ := (At.grow x₁ g₂).withGs (gs := c.gs.push (.fresh (.func (fnBody 1) (genC c pm G).env)))
  refine k G h₀.objs.size _ ?_
  have e3 : (s.gens.push (.fresh (.func (fnBody 1) (newEnv (fdOf "_find_address_range" 1 20 pm).scope G (fdOf "_find_address_range" 1 20 pm).globals (fdOf "_find_address_range" 1 20 pm).closure
    ((fdOf "_find_address_range" 1 20 pm).qualname ++ ".<locals>.") (some 21) (fdOf "_find_address_range" 1 20 pm).code none (fdOf "_find_address_range" 1 20 pm).builtins)))) = c.gs.push (.fresh (.func (fnBody 1) (genC c pm G).env)) := by rw [hgs]; rfl
  rw [← e3] at x₂ ⊢
  exact x₂

theorem e_far {e : Expr} {p pos : Pos} {pm v : Value} {Q : Value → Shared → Prop} (o : Own c) (hfn : c.K.lookup 21 = some ⟨.type "function", none, .func (fdOf "_find_address_range" 1 20 pm), #[]⟩) (x : At c O s) (h : TV c O (eval e c.env) (· = v))
    (k : ∀ G ga s', At { c with Mu := (G, NsP (argMap v)) :: c.Mu, gs := c.gs.push (.fresh (.func (fnBody 1) (genC c pm G).env)) } ((ga, GenP c.gs.size) :: O) s' → Q (.ref ga) s')
    (hk : c.env.kindOf "_find_address_range" = some .globalImplicit := by rfl) (hf : c.env.scope.kind = .function := by rfl) (hs : starEach [e] c.env = [(false, eval e c.env)] := by rfl) :
    wpAny (model c.prog c.w) c.A (eval (.Call (.Name "_find_address_range" p) [e] [] pos) c.env) Q E s :=
  Call_Name1 ((e_glob o.far hk o.std.gl hf).use x fun f s₁ e₁ k₁ x₁ => by
    subst e₁
    refine callWith_of (P := c.K.In) (args := [(false, eval e c.env)]) rfl (keeps_K o.ok.keep21) (evalArgs_plain (spliced_cons (h.use x₁ fun u s₂ q k₂ x₂ => spliced_nil ⟨x₂.In, ?_⟩)))
    subst q
    exact far_call o hfn x₂ k) hs

/-- next(walk, None) -/
theorem e_next {x d : Str} {p p1 p2 pos : Pos} {k : Nat} {ga : Addr} {g : Nat} {Q : Value → Shared → Prop} (S : Std c) (y : At c O s) (h : TV c O (eval (.Name x p1) c.env) (· = .ref ga)) (hga : (ga, GenP g) ∈ O)
    (hn : ∀ s', At c O s' → wpAny (model c.prog c.w) c.A.in1 (pyNext (.ref ga)) (fun r s' => Q (r.getD .none) s') E s')
    (hk : c.env.kindOf "next" = some .globalImplicit := by rfl) (hf : c.env.scope.kind = .function := by rfl) (hs : starEach [.Name x p1, .Constant .none k p2] c.env = [(false, eval (.Name x p1) c.env), (false, eval (.Constant .none k p2) c.env)] := by rfl) :
    wpAny (model c.prog c.w) c.A (eval (.Call (.Name "next" p) [.Name x p1, .Constant .none k p2] [] pos) c.env) Q E s :=
  Call_Name2 ((e_bi S.next.1 S.next.2 hk S.gl S.bu hf).use y fun f s₁ e₁ k₁ x₁ => by
    subst e₁
    refine callWith_builtin (args := [(false, eval (.Name x p1) c.env), (false, eval (.Constant .none k p2) c.env)]) rfl (evalArgs_plain (spliced_cons (h.use x₁ fun v s₂ e₂ k₂ x₂ => spliced_cons (e_none.use x₂ fun u s₃ e₃ k₃ x₃ => spliced_nil ?_))))
    subst e₂; subst e₃
    exact call_next2 (x₃.own _ hga).isGen.typeIs slot_gen_next (hn s₃ x₃)) hs

/-- iter(list): a new iterator -/
theorem e_iter {e : Expr} {p pos : Pos} {l : Addr} {vs : List Value} {Q : Value → Shared → Prop} (S : Std c) (y : At c O s) (h : TV c O (eval e c.env) (· = .ref l)) (hl : InL c O (l, LP vs))
    (k : ∀ it s', At { c with Mu := (it, IterP l 0) :: c.Mu } O s' → Q (.ref it) s')
    (hk : c.env.kindOf "iter" = some .globalImplicit := by rfl) (hf : c.env.scope.kind = .function := by rfl) (hs : starEach [e] c.env = [(false, eval e c.env)] := by rfl) :
    wpAny (model c.prog c.w) c.A (eval (.Call (.Name "iter" p) [e] [] pos) c.env) Q E s :=
  Call_Name1 ((e_bi S.iter.1 S.iter.2 hk S.gl S.bu hf).use y fun f s₁ e₁ k₁ x₁ => by
    subst e₁
    refine callWith_builtin (args := [(false, eval e c.env)]) rfl (evalArgs_plain (spliced_cons (h.use x₁ fun v s₂ e₂ k₂ x₂ => ?_)))
    subst e₂
    refine spliced_nil (call_iter (wpAny_pyIter_list (x₂.has hl).isList ?_))
    refine k _ _ (At.growMu (c := c) x₂ (Grow.one Kp.push (fresh_size _) ⟨_, Heap.get?_push_size _ rfl, rfl, rfl⟩))) hs

/-- an assignment whose right side changes the state -/
theorem x_assign_raw {x : Str} {p' pos : Pos} {e : Expr} {Q : Flow → Shared → Prop}
    (h : wpAny (model c.prog c.w) c.A (eval e c.env) (fun v s' => ∃ c' O', At c' O' s' ∧ (c'.prog = c.prog ∧ c'.w = c.w ∧ c'.A = c.A ∧ c'.env = c.env) ∧ Stores c' x ∧ ∀ s'', At (c'.set x v) O' s'' → Q .next s'') E s)
    (hs : swapsWith e (some (.Name x p')) pos.line c.env = pure false := by rfl) : wpAny (model c.prog c.w) c.A (exec (.Assign [.Name x p'] e pos) c.env) Q E s :=
  wpAny_Assign_Name (wpAny_mono h (fun v s' ⟨c', O', y, ⟨h1, h2, h3, h4⟩, hx, k⟩ => by
    rw [← h1, ← h2, ← h3, ← h4]
    exact w_store hx y fun s'' _ y' => k s'' y') fun _ _ e => e) hs
end
end Mine

namespace Mine

section
variable {prog : Program} {w : World} {A : Around} {R : Result → Shared → Prop}

theorem Alt.eq_with {X : List Addr} {s s' : Shared} (a : Alt X s s') : s' = { s with heap := s'.heap, toks := s'.toks } := by
  obtain ⟨h, t, rfl, _⟩ := a; rfl

/-- the loop of list(..) over a list iterator, to its very end -/
theorem ext_loop {S it l : Addr} {vs : List Value} {res : Value} (hh : A.handled = none) (h1 : S ≠ it) (h2 : S ≠ l) (h3 : it ≠ l) (hn : vs.length ≤ 100000) :
    ∀ (m i : Nat) (s : Shared) (acc : List Value) (c : Nat), vs.length - i = m → i ≤ vs.length → acc.length ≤ i → s.heap.IsListIter it l i → s.heap.IsList l vs.toArray → s.heap.get? S = some { cls := .type "list", dict := none, data := .seq acc.toArray c, slots := #[] } →
    (∀ s' c', Alt [S, it] s s' → Has s'.heap (it, EndP) → s'.heap.get? S = some { cls := .type "list", dict := none, data := .seq (acc ++ vs.drop i).toArray c', slots := #[] } → R (.ok (.ret res)) s') →
    codeAny (model prog w) A (.builtin "list.extend.loop" ⟨[.ref S, .ref it, res], []⟩) R s := by
  intro m
  induction m with
  | zero =>
    intro i s acc c hm hi ha hit hl hS hR
    refine codeAny_builtin F.entry_extend_loop ?_
    rw [Around.under_plainId F.plain_extend_loop _]
    show wpAny _ A.in1 (pyNext (.ref it) >>= _) _ _ s
    refine wpAny_bind (next_end (A := A.in1) hh hit hl (by simp; omega) fun h' he hx => ?_)
    refine wpAny_pure (hR _ c ((Alt.of_ext (tk := s.toks) hx).sub (by simp)) he ?_)
    rw [List.drop_of_length_le (by omega), List.append_nil]
    exact hx S _ h1 hS
  | succ m ih =>
    intro i s acc c hm hi ha hit hl hS hR
    have hlt : i < vs.length := by omega
    refine codeAny_builtin F.entry_extend_loop ?_
    rw [Around.under_plainId F.plain_extend_loop _]
    show wpAny _ A.in1 (pyNext (.ref it) >>= _) _ _ s
    refine wpAny_bind (wpAny_pyNext_list_item hit hl (x := vs[i]) (by simp [hlt]) fun h' hit' hs => ?_)
    have hS' : h'.get? S = some { cls := .type "list", dict := none, data := .seq acc.toArray c, slots := #[] } := (hs.2 S h1).trans hS
    have hl' : h'.IsList l vs.toArray := by
      obtain ⟨o, e, q⟩ := hl
      exact ⟨o, (hs.2 l (Ne.symm h3)).trans e, q⟩
    show wpAny _ A.in1 (updateSeq S (·.push vs[i]) >>= _) _ _ _
    refine wpAny_bind ?_
    have hU := Heap.get?_update_self (Obj.mapSeq (·.push vs[i])) hS' rfl
    have hO : ∀ b, b ≠ S → (h'.update S (Obj.mapSeq (·.push vs[i]))).get? b = h'.get? b := fun b hb => Heap.get?_update_other _ _ (Ne.symm hb)
    have e0 : (Obj.mapSeq (·.push vs[i]) ({ cls := .type "list", dict := none, data := .seq acc.toArray c, slots := #[] } : Obj)) = { cls := .type "list", dict := none, data := .seq (acc ++ [vs[i]]).toArray (c + 1), slots := #[] } := by
      simp [Obj.mapSeq_push_plain]
    rw [e0] at hU
    refine wpAny_updateSeq hS' rfl (wpAny_pure ⟨plainId_quiet F.plain_extend_loop _, ih (i + 1) _ (acc ++ [vs[i]]) (c + 1) (by omega) hlt (by simp; omega) ?_ ?_ hU fun s'' c'' al'' he'' hS'' => ?_⟩) ?_ ?_
    · obtain ⟨o, e, q⟩ := hit'
      exact ⟨o, (hO it (Ne.symm h1)).trans e, q⟩
    · obtain ⟨o, e, q⟩ := hl'
      exact ⟨o, (hO l (Ne.symm h2)).trans e, q⟩
    · refine hR s'' c'' (Alt.trans ?_ al'') he'' ?_
      · refine ⟨_, s.toks, rfl, fun b o hb e => ?_⟩
        simp only [List.mem_cons, List.not_mem_nil, or_false, not_or] at hb
        exact (hO b hb.1).trans ((hs.2 b hb.2).trans e)
      · rw [List.append_assoc, List.singleton_append, ← List.drop_eq_getElem_cons hlt] at hS''
        exact hS''
    · rw [List.size_toArray]; exact small_line (by omega)
    · show (acc.toArray.push vs[i]).size ≤ sizeLine + 1
      rw [Array.size_push, List.size_toArray]
      have := small_line (n := acc.length) (by omega)
      omega

theorem call_list_iter {E : Value → Shared → Prop} {Q : Value → Shared → Prop} {s : Shared} {it l : Addr} {i : Nat} {vs : List Value} (hh : A.handled = none) (hit : s.heap.IsListIter it l i) (hl : s.heap.IsList l vs.toArray) (h3 : it ≠ l) (hi : i ≤ vs.length) (hn : vs.length ≤ 100000)
    (hQ : ∀ h' tk, (∀ b o, b ≠ it → s.heap.get? b = some o → h'.get? b = some o) → Has h' (it, EndP) → Has h' (s.heap.objs.size, LP (vs.drop i)) → Q (.ref s.heap.objs.size) { s with heap := h', toks := tk }) :
    wpAny (model prog w) A (call (.type "list") [.ref it]) Q E s := by
  have litt : it < s.heap.objs.size := by obtain ⟨o, e, _⟩ := hit; exact Heap.lt_size e
  have ltl : l < s.heap.objs.size := by obtain ⟨o, e, _⟩ := hl; exact Heap.lt_size e
  have h1 : s.heap.objs.size ≠ it := Nat.ne_of_gt litt
  have h2 : s.heap.objs.size ≠ l := Nat.ne_of_gt ltl
  refine callType_codes (Q₁ := fun obj s₁ => obj = .ref s.heap.objs.size ∧ s₁ = { s with heap := s.heap.push { cls := .type "list", data := .seq #[] } }) F.called_list (F.typeCall_list_1 _) F.entry_list_init
    (code_list_new _ ⟨rfl, rfl⟩) fun obj s₁ h₁ => ?_
  obtain ⟨rfl, rfl⟩ := h₁
  have hS : (s.heap.push { cls := .type "list", data := .seq #[] }).get? s.heap.objs.size = some { cls := .type "list", data := .seq #[] } := Heap.get?_push_size _ rfl
  refine ⟨⟨_, hS, rfl⟩, F.args_list_init_2 _ _, ?_⟩
  generalize hSe : s.heap.objs.size = S at *
  show wpAny _ A.in1.in1 (do let old ← Builtin.List.listItems (.ref S); Builtin.List.listUpdate (.ref S) (fun _ => #[]); letGo old.toList.reverse; Builtin.List.listExtendWith (.ref S) (.ref it) .none) _ _ _
  refine wpAny_bind ?_
  unfold Builtin.List.listItems
  refine wpAny_bind (wpAny_seqItems hS rfl (wpAny_pure ?_))
  show wpAny _ A.in1.in1 (updateSeq S (fun _ => #[]) >>= fun _ => letGo (#[] : Array Value).toList.reverse >>= fun _ => Builtin.List.listExtendWith (.ref S) (.ref it) .none) _ _ _
  refine wpAny_bind (wpAny_updateSeq hS rfl ?_)
  have hS₂ := Heap.get?_update_self (Obj.mapSeq (fun _ => (#[] : Array Value))) hS rfl
  have oth : ∀ b o, b ≠ S → s.heap.get? b = some o → ((s.heap.push { cls := .type "list", data := .seq #[] }).update S (Obj.mapSeq (fun _ => (#[] : Array Value)))).get? b = some o :=
    fun b o hb e => (Heap.get?_update_other _ _ (Ne.symm hb)).trans (Heap.get?_push_of_some _ e)
  refine wpAny_bind (wpAny_letGo ?_)
  generalize hh' : (s.heap.push { cls := .type "list", data := .seq #[] }).update S (Obj.mapSeq (fun _ => (#[] : Array Value))) = h' at hS₂ oth
  have hit₂ : h'.IsListIter it l i := by obtain ⟨o, e, q⟩ := hit; exact ⟨o, oth it o (Ne.symm h1) e, q⟩
  have hl₂ : h'.IsList l vs.toArray := by obtain ⟨o, e, q⟩ := hl; exact ⟨o, oth l o (Ne.symm h2) e, q⟩
  unfold Builtin.List.listExtendWith
  have hT : ({ s with heap := h' } : Shared).TypeIs (.ref it) "list_iterator" := Heap.IsListIter.typeIs (s := { s with heap := h' }) hit₂
  refine wpAny_bind (wpAny_typeOf hT ?_)
  have g1 : Builtin.List.listSameRef (.ref S) (.ref it) = false := by simp [Builtin.List.listSameRef, h1]
  rw [if_neg (by rw [g1]; decide)]
  refine wpAny_bind (wpAny_pyIter_listiter hit₂ ?_)
  refine wpAny_bind (wpAny_holding ?_)
  unfold Builtin.List.listLengthHint
  refine wpAny_bind (wpAny_specialOf hT F.nolen_li ?_)
  show wpAny _ A.in1.in1 (specialOf (Value.ref it) (Str.ofString "__length_hint__") >>= _) _ _ _
  refine wpAny_bind (wpAny_specialOf hT F.hint_li ?_)
  (generalize hid : ("list_iterator.__length_hint__" : String) = id0; (fail_if_success (clear hid id0)); wp_delta; rw [show splitId id0 = some ("list_iterator", "__length_hint__") from by subst hid; decide +kernel]; subst hid)
  refine wpAny_bind (wpAny_isInstance (b := true) hT (by rw [isSubtype_type]; kernel_rfl) ?_)
  refine wpAny_pure ?_
  rw [if_neg (by decide)]
  obtain ⟨c0, hS₃⟩ : ∃ c0, h'.get? S = some { cls := .type "list", dict := none, data := .seq ([] : List Value).toArray c0, slots := #[] } := ⟨_, hS₂⟩
  refine wpAny_pure ⟨plainId_quiet F.plain_extend_loop _, ext_loop (A := A.in1) hh h1 h2 h3 hn (vs.length - i) i _ [] _ rfl hi (Nat.zero_le _) hit₂ hl₂ hS₃ fun s' c' al he hS' => ?_⟩
  refine ⟨rfl, ?_⟩
  rw [al.eq_with]
  refine hQ _ _ (fun b o hb e => ?_) he ⟨_, hS', c', rfl⟩
  have hbS : b ≠ S := fun h => by
    rw [h, ← hSe, fresh_size] at e; cases e
  exact al.get (by simp [hb, hbS]) (oth b o hbS e)
end
end Mine

namespace Mine

section
variable {c : Cx} {O : Led} {s : Shared} {E : Value → Shared → Prop}

/-- list(it): the rest of the list, and the iterator is at its end -/
theorem e_listiter {e : Expr} {p pos : Pos} {G it l : Addr} {pg : Obj → Prop} {i : Nat} {vs : List Value} {X : Led} {sg : Str → Option Value} {gs : Array GenState} {Q : Value → Shared → Prop} (S : Std (c.up ((G, pg) :: (it, IterP l i) :: (l, LP vs) :: X) sg gs)) (hwc : c.wc = true)
    (y : At (c.up ((G, pg) :: (it, IterP l i) :: (l, LP vs) :: X) sg gs) O s) (h : TV (c.up ((G, pg) :: (it, IterP l i) :: (l, LP vs) :: X) sg gs) O (eval e c.env) (· = .ref it)) (hi : i ≤ vs.length) (hn : vs.length ≤ 100000)
    (k : ∀ D s', At (c.up ((G, pg) :: (it, EndP) :: (l, LP vs) :: X) sg gs) ((D, LP (vs.drop i)) :: O) s' → Q (.ref D) s')
    (hk : c.env.kindOf "list" = some .globalImplicit := by rfl) (hf : c.env.scope.kind = .function := by rfl) (hs : starEach [e] c.env = [(false, eval e c.env)] := by rfl) :
    wpAny (model c.prog c.w) c.A (eval (.Call (.Name "list" p) [e] [] pos) c.env) Q E s :=
  Call_Name1 ((e_bi (c := c.up ((G, pg) :: (it, IterP l i) :: (l, LP vs) :: X) sg gs) S.list.1 S.list.2 hk S.gl S.bu hf).use y fun f s₁ e₁ k₁ x₁ => by
    subst e₁
    refine PyProof.Rows.callWith_type (args := [(false, eval e c.env)]) rfl (evalArgs_plain (spliced_cons (h.use x₁ fun v s₂ e₂ k₂ x₂ => ?_)))
    subst e₂
    have nd := x₂.nodup
    unfold Cx.places at nd
    dsimp only at nd
    rw [hwc, if_pos rfl, List.nodup_cons, List.nodup_append] at nd
    obtain ⟨_, _, n3, _⟩ := nd
    simp only [List.map_cons, List.nodup_cons, List.mem_cons, not_or] at n3
    refine spliced_nil (call_list_iter S.hh (x₂.mu _ (.tail _ (.head _))).isIter (x₂.mu _ (.tail _ (.tail _ (.head _)))).isList n3.2.1.1 hi hn fun h' tk kp he hD => ?_)
    refine k _ _ (At.addO ?_ hD ?_)
    · refine At.alts (c := c.up [] sg gs) (L := [(G, pg), (it, IterP l i)]) (L' := [(G, pg), (it, EndP)]) (Mu := (l, LP vs) :: X) x₂ hwc ⟨h', tk, rfl, fun b o hb e => kp b o (fun h => hb (h ▸ .tail _ (.head _))) e⟩ rfl ?_
      intro q hq
      rcases List.mem_cons.mp hq with rfl | hq
      · exact (x₂.mu _ (.head _)).keep fun o e => kp _ o n3.1.1 e
      · rw [List.mem_singleton.mp hq]; exact he
    · intro h
      refine x₂.alive (a := s₂.heap.objs.size) ?_ (fresh_size _)
      rcases Cx.mem_places.mp h with h | h | ⟨p, h⟩
      · exact Cx.mem_places.mpr (.inl h)
      · exact Cx.mem_places.mpr (.inr (.inl h))
      · refine Cx.mem_places.mpr (.inr (.inr ?_))
        rcases List.mem_cons.mp h with h | h
        · have := congrArg Prod.fst h
          exact ⟨_, by rw [show s₂.heap.objs.size = G from this]; exact .head _⟩
        · rcases List.mem_cons.mp h with h | h
          · have := congrArg Prod.fst h
            exact ⟨_, .tail _ (by rw [show s₂.heap.objs.size = it from this]; exact .head _)⟩
          · exact ⟨p, .tail _ (.tail _ h)⟩) hs

/-- x.append(e), for a list that is written -/
theorem x_append {x : Str} {p apos pos spos : Pos} {e : Expr} {D : Addr} {xs : List Value} {X : Led} {P : Value → Led → Prop} {Q : Flow → Shared → Prop} (hwc : c.wc = true) (hMu : c.Mu = (D, LP xs) :: X) (y : At c O s)
    (h1 : TV c O (eval (.Name x p) c.env) (· = .ref D)) (h2 : Tr c O (eval e c.env) P) (hn : xs.length ≤ 100000)
    (k : ∀ v N s', P v N → At { c with Mu := (D, LP (xs ++ [v])) :: X } (N ++ O) s' → Q .next s')
    (hbase : attributeBase (.Name x p) "append" c.env (eval (.Name x p) c.env) = eval (.Name x p) c.env := by rfl)
    (hfew : ((backTo pos (starEach [e] c.env)).all (fun x => !x.1) && (backToKw pos (keywordEach [] c.env)).all (fun x => x.1.isSome)
      && decide (([e] : List Expr).length + ([] : List Keyword).length + (if ([] : List Keyword).isEmpty then 0 else 1) < 30)) = true := by rfl)
    (hline : (apos.endLine == pos.line) = true := by rfl) (htrees : backTo pos (starEach [e] c.env) = [(false, eval e c.env)] := by rfl)
    (hi : interactive c.env = false := by rfl) (hs : swapsWith (.Call (.Attribute (.Name x p) "append" apos) [e] [] pos) none spos.line c.env = pure false := by rfl) :
    wpAny (model c.prog c.w) c.A (exec (.Expr (.Call (.Attribute (.Name x p) "append" apos) [e] [] pos) spos) c.env) Q E s := by
  refine wpAny_Expr_any (wpAny_Call_append hbase hfew hline htrees (h1.use y fun v s₁ q k₁ y₁ => ?_)) hi hs
  subst q
  have hD : (D, LP xs) ∈ c.Mu := by rw [hMu]; exact .head _
  obtain ⟨o, eo, n, rfl⟩ := y₁.mu _ hD
  refine ⟨D, xs.toArray, rfl, ⟨_, n, eo, rfl, rfl, rfl⟩, h2.use y₁ fun v s₂ N p g y₂ => ?_⟩
  obtain ⟨o, eo, n, rfl⟩ := y₂.mu _ hD
  refine wpAny_list_append_plain ⟨n, eo⟩ (fun h' hl hsb => k v N _ p ?_) (by rw [List.size_toArray]; exact small_line hn)
  have y₃ : At { c with Mu := (D, LP xs) :: X } (N ++ O) s₂ := by rw [← hMu]; exact y₂
  refine At.setMu (c := c) y₃ hwc (Alt.of_same (tk := s₂.toks) hsb) ?_
  obtain ⟨n', e'⟩ := hl
  exact ⟨_, e', n', by simp⟩

theorem x_if {t : Expr} {b o : List Stmt} {pos : Pos} {q : Bool} {Q : Flow → Shared → Prop} (y : At c O s) (h : TV c O (isTrue t c.env (eval t c.env)) (· = q))
    (h1 : q = true → ∀ s', At c O s' → wpAny (model c.prog c.w) c.A (execs b c.env) Q E s') (h2 : q = false → ∀ s', At c O s' → wpAny (model c.prog c.w) c.A (execs o c.env) Q E s') :
    wpAny (model c.prog c.w) c.A (exec (.If t b o pos) c.env) Q E s :=
  wpAny_If (h.use y fun v s' hv k y' => by
    subst hv
    cases v with
    | true => exact h1 rfl s' y'
    | false => exact h2 rfl s' y')

theorem e_concat {l r : Expr} {pos : Pos} {P1 P2 R : Value → Led → Prop} (h1 : Tr c O (eval l c.env) P1) (h2 : ∀ a N1, P1 a N1 → Tr c (N1 ++ O) (eval r c.env) P2)
    (h3 : ∀ a N1 b N2, P1 a N1 → P2 b N2 → ∃ A xs B ys, a = .ref A ∧ b = .ref B ∧ InL c (N2 ++ (N1 ++ O)) (A, LP xs) ∧ InL c (N2 ++ (N1 ++ O)) (B, LP ys) ∧ xs.length + ys.length ≤ 100000 ∧ ∀ D, R (.ref D) ((D, LP (xs ++ ys)) :: (N2 ++ N1))) :
    Tr c O (eval (.BinOp l .Add r pos) c.env) R :=
  e_binL h1 h2 fun a N1 b N2 p1 p2 s E x => by
    obtain ⟨A, xs, B, ys, rfl, rfl, hA, hB, hn, hR⟩ := h3 a N1 b N2 p1 p2
    obtain ⟨n, eA⟩ := (x.has hA).isL
    obtain ⟨n', eB⟩ := (x.has hB).isL
    refine P.add_list eA eB ⟨[(s.heap.objs.size, LP (xs ++ ys))], hR _, Grow.one Kp.push (fresh_size _) ?_⟩ (by rw [List.size_toArray, List.size_toArray]; exact small_line hn)
    exact ⟨_, Heap.get?_push_size _ rfl, 0, by simp⟩

theorem t_cmpL {l r : Expr} {op : CmpOp} {pos : Pos} {w : Sem Value} {q : Bool} {P1 P2 : Value → Led → Prop} (h1 : Tr c O (eval l c.env) P1) (h2 : ∀ a N1, P1 a N1 → Tr c (N1 ++ O) (eval r c.env) P2)
    (h3 : ∀ a N1 b N2, P1 a N1 → P2 b N2 → TV c (N2 ++ (N1 ++ O)) (compareOp op a b) (· = .bool q))
    (hm : behindInMarks op r = false := by with_unfolding_all rfl) : TV c O (isTrue (.Compare l [op] [r] pos) c.env w) (· = q) := fun s E x =>
  wpAny_isTrue_Compare1 (h1.use x fun a s₁ N1 p₁ k₁ x₁ => (h2 a N1 p₁).use x₁ fun b s₂ N2 p₂ k₂ x₂ => (h3 a N1 b N2 p₁ p₂).use x₂ fun v s₃ p₃ k₃ _ => by subst p₃; exact wpAny_truthy_bool ⟨rfl, k₁.1.trans (k₂.1.trans k₃)⟩) hm

/-- two lists that are alike, item by item -/
theorem q_ne_alike {l b : Addr} {xs ys : List Value} (hu : c.A.units < cLine) (hl : InL c O (l, LP xs)) (hb : InL c O (b, LP ys)) (hn : xs.length = ys.length)
    (he : ∀ s, At c O s → ∀ j (h1 : j < xs.toArray.size) (h2 : j < ys.toArray.size), SeqAt.EqAt c.A.in1 s xs.toArray[j] ys.toArray[j] true) : TV c O (compareOp .NotEq (.ref l) (.ref b)) (· = .bool false) := fun s E x => by
  refine SeqAt.RcNeAt.lists (e := fun _ => true) (x.has hl).isList (x.has hb).isList (by simpa using hn) hu (he s x) _ _ _ _ ?_
  exact ⟨by simp, Kp.refl s⟩
theorem q_eq_alike {l b : Addr} {xs ys : List Value} (hu : c.A.units < cLine) (hl : InL c O (l, LP xs)) (hb : InL c O (b, LP ys)) (hn : xs.length = ys.length)
    (he : ∀ s, At c O s → ∀ j (h1 : j < xs.toArray.size) (h2 : j < ys.toArray.size), SeqAt.EqAt c.A.in1 s xs.toArray[j] ys.toArray[j] true) : TV c O (compareOp .Eq (.ref l) (.ref b)) (· = .bool true) := fun s E x => by
  refine SeqAt.RcAt.lists (e := fun _ => true) (x.has hl).isList (x.has hb).isList (by simpa using hn) hu (he s x) _ _ _ _ ?_
  exact ⟨by simp, Kp.refl s⟩
theorem q_ne_nil {l b : Addr} (hu : c.A.units < cLine) (hl : InL c O (l, LP [])) (hb : InL c O (b, LP [])) : TV c O (compareOp .NotEq (.ref l) (.ref b)) (· = .bool false) :=
  q_ne_alike hu hl hb rfl fun s _ j h1 _ => absurd h1 (by simp)

theorem t_chain {l r₁ r₂ : Expr} {op₁ op₂ : CmpOp} {pos : Pos} {w : Sem Value} {q₁ q₂ : Bool} {P P1 P2 : Value → Prop} (h : TV c O (eval l c.env) P) (h1 : TV c O (eval r₁ c.env) P1) (h2 : TV c O (eval r₂ c.env) P2)
    (h3 : ∀ a b, P a → P1 b → TV c O (compareOp op₁ a b) (· = .bool q₁)) (h4 : ∀ a b, P1 a → P2 b → TV c O (compareOp op₂ a b) (· = .bool q₂))
    (hm : lastMarks [op₁, op₂] [r₁, r₂] = false := by with_unfolding_all rfl) : TV c O (isTrue (.Compare l [op₁, op₂] [r₁, r₂] pos) c.env w) (· = (q₁ && q₂)) := fun s E x =>
  isTrue_chain (ops := []) (rs := []) (h.use x fun a s₁ p k x₁ => test_link (h1.use x₁ fun b s₂ p1 k₁ x₂ => (h3 a b p p1).use x₂ fun v s₃ hv k₂ x₃ => by
    subst hv
    refine wpAny_truthy_bool ?_
    cases q₁ with
    | false => simp only [Bool.false_eq_true, if_false]; exact ⟨rfl, k.trans (k₁.trans k₂)⟩
    | true =>
      simp only [if_true]
      exact test_last (h2.use x₃ fun d s₄ p2 k₃ x₄ => (h4 b d p1 p2).use x₄ fun v s₅ hv k₄ _ => by
        subst hv
        exact wpAny_truthy_bool ⟨by simp, k.trans (k₁.trans (k₂.trans (k₃.trans k₄)))⟩))) hm

/-- an 'and' of two whose second part changes the state -/
theorem t_and_raw {e1 e2 : Expr} {pos : Pos} {w : Sem Value} {q : Bool} {Q : Bool → Shared → Prop} (y : At c O s) (h1 : TV c O (isTrue e1 c.env (eval e1 c.env)) (· = q)) (h0 : q = false → ∀ s', At c O s' → Q false s')
    (h2 : q = true → ∀ s', At c O s' → wpAny (model c.prog c.w) c.A (isTrue e2 c.env (eval e2 c.env)) Q E s') : wpAny (model c.prog c.w) c.A (isTrue (.BoolOp .And [e1, e2] pos) c.env w) Q E s := by
  have e : isTrue (.BoolOp .And [e1, e2] pos) c.env w = allTrue .And [e1, e2] c.env := by rfl
  rw [e, allTrue_cons]
  refine wpAny_bind (h1.use y fun b s₁ hb _ y₁ => ?_)
  subst hb
  cases b with
  | false => exact wpAny_pure (h0 rfl s₁ y₁)
  | true =>
    show wpAny _ _ (allTrue .And [e2] c.env) Q E s₁
    rw [allTrue_cons]
    refine wpAny_bind (wpAny_mono (h2 rfl s₁ y₁) (fun b s₂ hq => ?_) fun _ _ e => e)
    cases b with
    | false => exact wpAny_pure hq
    | true => exact wpAny_pure hq
end
end Mine

namespace Mine

section
variable {c : Cx} {O : Led} {s s' : Shared} {E : Value → Shared → Prop}

/-- a list that is written no more -/
theorem At.toO {Mu : Led} {p : Ent} (x : At { c with Mu := p :: Mu } O s) (hwc : c.wc = true) : At { c with Mu := Mu } (p :: O) s := by
  have y : At { c with Mu := Mu } O s := x.mu_sub (List.sublist_cons_self _ _)
  refine y.addO (x.mu _ (.head _)) ?_
  have nd := x.nodup
  unfold Cx.places at nd ⊢
  dsimp only at nd ⊢
  rw [hwc, if_pos rfl, List.nodup_cons, List.nodup_append, List.map_cons, List.nodup_cons] at nd
  rw [hwc, if_pos rfl]
  obtain ⟨n1, n2, n3, n4⟩ := nd
  intro h
  rcases List.mem_cons.mp h with h | h
  · exact n1 (by rw [← h]; exact List.mem_append_right _ (.head _))
  · rcases List.mem_append.mp h with h | h
    · exact n4 _ h _ (.head _) rfl
    · exact n3.1 h

/-- a list that is written from now on -/
theorem At.toMu {p : Ent} (x : At c O s) (hp : p ∈ O) (hB : c.B.get? p.1 = none) : At { c with Mu := p :: c.Mu } (O.filter fun q => decide (q.1 ≠ p.1)) s := by
  have y : At { c with Mu := c.Mu ++ [p] } (O.filter fun q => decide (q.1 ≠ p.1)) s := by
    refine At.addMu (c := c) (Mu := c.Mu) (x.sub fun q hq => (List.mem_filter.mp hq).1) (x.own p hp) (x.offO p hp) (fun q hq => ?_) (fun o e => by rw [hB] at e; cases e)
    simpa using (List.mem_filter.mp hq).2
  exact y.mu_perm (by simpa using (List.perm_append_comm (l₁ := c.Mu) (l₂ := [p])))

theorem LP.not_inst {xs : List Value} {d : Addr} {o : Obj} (h : LP xs o) (h' : BP d o) : False := by
  obtain ⟨n, rfl⟩ := h
  have : (Data.seq xs.toArray n) = Data.plain := congrArg Obj.data h'
  cases this
theorem LP.not_dict {xs : List Value} {v : Value} {o : Obj} (h : LP xs o) (h' : DP v o) : False := by
  obtain ⟨n, rfl⟩ := h
  obtain ⟨hh, t, m, e⟩ := h'
  have : (Data.seq xs.toArray n) = Data.dict _ _ := congrArg Obj.data e
  cases this
theorem Bx.off {l : Addr} {vs : List Value} {n : Int} {v : Value} (x : At c O s) (hl : (l, LP vs) ∈ O) (h : Bx O n v) : Bx (O.filter fun q => decide (q.1 ≠ l)) n v := by
  obtain ⟨b, u, rfl, ⟨d, h1, h2⟩, hu⟩ := h
  obtain ⟨ol, el, hol⟩ := x.own _ hl
  refine ⟨b, u, rfl, ⟨d, List.mem_filter.mpr ⟨h1, ?_⟩, List.mem_filter.mpr ⟨h2, ?_⟩⟩, hu⟩
  · simp only [decide_eq_true_eq]
    rintro rfl
    obtain ⟨o, e, ho⟩ := x.own _ h1
    dsimp only at e el
    rw [el] at e; cases e
    exact hol.not_inst ho
  · simp only [decide_eq_true_eq]
    rintro rfl
    obtain ⟨o, e, ho⟩ := x.own _ h2
    dsimp only at e el
    rw [el] at e; cases e
    exact hol.not_dict ho

theorem Paired.get_some {α β : Type} {R : α → β → Prop} {as : List α} {us : List β} (hp : Paired R as us) {j : Nat} {a : α} (h : as[j]? = some a) : ∃ u, us[j]? = some u ∧ R a u := by
  have hj : j < as.length := (List.getElem?_eq_some_iff.mp h).1
  have hj' : j < us.length := by rw [← hp.length]; exact hj
  exact ⟨us[j], by simp [hj'], paired_get hp j a us[j] h (by simp [hj'])⟩

/-- a walk that holds a box is asked -/
theorem next_mid {A : Around} {Q : Option Value → Shared → Prop} {pm : Value} {G it l ga : Addr} {g n : Nat} {k₀ : Resume → Sem Fin} {lvs₀ : List Value} {cd₀ : Code} {p₀ : Pos} {fs₀ : List Frame} {f sg : Str → Option Value} {gs : Array GenState} {st : ItSt} {vs : List Value} {ns : List Int} {X : Led}
    {pv : Value} {np : Int} (x : At (c.up ((G, NsP f) :: (it, st.P l) :: (l, LP vs) :: X) sg gs) O s) (hwc : c.wc = true) (hh : A.handled = none) (hroom : A.depth < recursionLimit) (hga : (ga, GenP g) ∈ O) (hgs : gs[g]? = some (.suspended k₀ lvs₀ cd₀ p₀ fs₀ false))
    (hS : Susp (genC c pm G) A.in1 it l (n + 1) k₀ cd₀ fs₀) (hit : f "it" = some (.ref it)) (hip : f "ip" = some pv) (hb : Bx O np pv) (hp : Paired (Bx O) ns vs)
    (k1 : ∀ T k lvs cd p fs f' lastv i nv s', st = .at i → (pv :: st.rest vs)[run np (st.rest ns)]? = some lastv → (st.rest vs)[run np (st.rest ns)]? = some nv → f' "it" = some (.ref it) → f' "ip" = some nv → Susp (genC c pm G) A.in1 it l n k cd fs →
      At (c.up ((G, NsP f') :: (it, IterP l (i + run np (st.rest ns) + 1)) :: (l, LP vs) :: X) sg (gs.setIfInBounds g (.suspended k lvs cd p fs false))) ((T, TP [pv, lastv]) :: O) s' → Q (some (.ref T)) s')
    (k2 : ∀ T k lvs cd p fs f' lastv s', (pv :: st.rest vs)[run np (st.rest ns)]? = some lastv → run np (st.rest ns) = (st.rest ns).length → LastK (genC c pm G) A.in1 k cd fs →
      At (c.up ((G, NsP f') :: (it, EndP) :: (l, LP vs) :: X) sg (gs.setIfInBounds g (.suspended k lvs cd p fs false))) ((T, TP [pv, lastv]) :: O) s' → Q (some (.ref T)) s') :
    wpAny (model c.prog c.w) A (pyNext (.ref ga)) Q E s := by
  refine w_told (pm := pm) (st := st) (ns := ns) (fv := pv) (lv := pv) (nl := np) (S := Susp (genC c pm G) A.in1 it l n) (L := LastK (genC c pm G) A.in1) x hwc hh hroom hga hgs ?_ k1 k2
  have y := At.toGen (c := c.up ((G, NsP f) :: (it, st.P l) :: (l, LP vs) :: X) sg (gs.setIfInBounds g .running)) (pm := pm) (At.setGen (g := g) (z := .running) x) hwc
  exact hS (s.setGen g .running) O f (gs.setIfInBounds g .running) st vs ns pv np y hit hip hb hp

/-- a walk that has not begun is asked -/
theorem next_fresh {A : Around} {Q : Option Value → Shared → Prop} {pm : Value} {G it l ga : Addr} {g : Nat} (n : Nat) {f sg : Str → Option Value} {gs : Array GenState} {i : Nat} {vs : List Value} {ns : List Int} {X : Led}
    {pv : Value} {np : Int} (x : At (c.up ((G, NsP f) :: (it, IterP l i) :: (l, LP vs) :: X) sg gs) O s) (hwc : c.wc = true) (hh : A.handled = none) (hroom : A.depth + 30 < recursionLimit) (hga : (ga, GenP g) ∈ O) (hgs : gs[g]? = some (.fresh (.func (fnBody 1) (genC c pm G).env)))
    (o : GenOk c pm G) (hit : f "addresses" = some (.ref it)) (hv : vs[i]? = some pv) (hb : Bx O np pv) (hp : Paired (Bx O) ns vs)
    (k1 : ∀ T k lvs cd p fs f' lastv nv s', (pv :: vs.drop (i + 1))[run np (ns.drop (i + 1))]? = some lastv → (vs.drop (i + 1))[run np (ns.drop (i + 1))]? = some nv → f' "it" = some (.ref it) → f' "ip" = some nv → Susp (genC c pm G) A.in1 it l n k cd fs →
      At (c.up ((G, NsP f') :: (it, IterP l (i + 1 + run np (ns.drop (i + 1)) + 1)) :: (l, LP vs) :: X) sg (gs.setIfInBounds g (.suspended k lvs cd p fs false))) ((T, TP [pv, lastv]) :: O) s' → Q (some (.ref T)) s')
    (k2 : ∀ T k lvs cd p fs f' lastv s', (pv :: vs.drop (i + 1))[run np (ns.drop (i + 1))]? = some lastv → run np (ns.drop (i + 1)) = (ns.drop (i + 1)).length → LastK (genC c pm G) A.in1 k cd fs →
      At (c.up ((G, NsP f') :: (it, EndP) :: (l, LP vs) :: X) sg (gs.setIfInBounds g (.suspended k lvs cd p fs false))) ((T, TP [pv, lastv]) :: O) s' → Q (some (.ref T)) s') :
    wpAny (model c.prog c.w) A (pyNext (.ref ga)) Q E s := by
  refine w_told (pm := pm) (st := .at (i + 1)) (ns := ns) (fv := pv) (lv := pv) (nl := np) (S := Susp (genC c pm G) A.in1 it l n) (L := LastK (genC c pm G) A.in1) x hwc hh (by omega) hga hgs ?_ ?_ k2
  · have y := At.toGen (c := c.up ((G, NsP f) :: (it, IterP l i) :: (l, LP vs) :: X) sg (gs.setIfInBounds g .running)) (pm := pm) (At.setGen (g := g) (z := .running) x) hwc
    exact gen_fresh_iter o (A := A.in1) hh (by show A.depth + 20 < recursionLimit; omega) n y hit hv hb hp
  · intro T k lvs cd p fs f' lastv j nv s' hj
    cases hj
    exact k1 T k lvs cd p fs f' lastv nv s'
end

theorem Std.comp {c : Cx} {scope : Scope} {cl : List (Str × Addr)} {C : Addr} {sg : Str → Option Value} (S : Std c) : Std (c.comp scope cl C sg) := ⟨S.hh, S.gl, S.bu, S.len, S.range, S.list, S.iter, S.next⟩
theorem Own.comp {c : Cx} {scope : Scope} {cl : List (Str × Addr)} {C : Addr} {sg : Str → Option Value} (o : Own c) : Own (c.comp scope cl C sg) := ⟨o.std.comp, o.ok, o.room, o.cls, o.box, o.far⟩

theorem run_spec : ∀ (x : Int) (l : List Int) (r : Nat), (∀ i y, i < r → l[i]? = some y → y = x + i + 1) → r ≤ l.length → (r = l.length ∨ ∃ y, l[r]? = some y ∧ y ≠ x + r + 1) → run x l = r
  | x, [], r, h1, h2, h3 => by simp at h2; subst h2; rfl
  | x, m :: t, r, h1, h2, h3 => by
    unfold run
    cases r with
    | zero =>
      rcases h3 with h3 | ⟨y, h3, h4⟩
      · simp at h3
      · simp only [List.getElem?_cons_zero, Option.some.injEq] at h3
        subst h3
        rw [if_neg (by simpa using h4)]
    | succ r =>
      have h0 := h1 0 m (by omega) (by simp)
      have hm : m = x + 1 := by simpa using h0
      rw [if_pos hm]
      congr 1
      refine run_spec m t r (fun i y hi hy => ?_) (by simpa using h2) ?_
      · have := h1 (i + 1) y (by omega) (by simpa using hy)
        rw [this, hm]; push_cast; omega
      · rcases h3 with h3 | ⟨y, h3, h4⟩
        · left; simpa using h3
        · refine .inr ⟨y, by simpa using h3, fun h => h4 ?_⟩
          rw [h, hm]; push_cast; omega
end Mine

namespace Mine

section
variable {c : Cx} {O : Led} {s s' : Shared} {E : Value → Shared → Prop}

theorem Stores.set {x y : Str} {v : Value} (h : Stores c y) : Stores (c.set x v) y := by
  cases h with
  | loc a b d e => exact .loc a b d e
  | cell a b d e f => exact .cell a b d e f

/-- a pair is taken apart -/
theorem w_assign2 {x y : Str} {px py pt : Pos} {k : Nat} {T : Addr} {u v : Value} {Q : Unit → Shared → Prop} (hh : c.A.handled = none) (z : At c O s) (hT : InL c O (T, TP [u, v])) (hx : Stores c x) (hy : Stores c y)
    (q : ∀ s', At ((c.set x u).set y v) O s' → Q () s') : wpAny (model c.prog c.w) c.A (assign (.Tuple [.Name x px, .Name y py] k pt) c.env (.ref T)) Q E s := by
  refine wpAny_assign_Tuple hh (z.has hT).isTuple rfl rfl fun h₃ hx₃ => ?_
  have z₁ : At c O { s with heap := h₃ } := z.keeps ⟨h₃, s.toks, rfl, fun b o e => hx₃ b o (Nat.ne_of_lt (Heap.lt_size e)) e⟩
  show wpAny _ _ (do holding [v] (assign (.Name x px) c.env u); do holding [] (assign (.Name y py) c.env v); pure ()) _ _ _
  refine wpAny_bind (wpAny_holding (wpAny_assign_Name (w_store hx z₁ fun s₄ _ z₄ => ?_)))
  refine wpAny_bind (wpAny_holding (wpAny_assign_Name (w_store (c := c.set x u) hy.set z₄ fun s₅ _ z₅ => wpAny_pure ?_)))
  exact q s₅ z₅

/-- a walk owns no tuple -/
theorem w_letgo {target : Expr} {ga : Addr} {g : Nat} {v : Value} {Q : Unit → Shared → Prop} (hga : Has s.heap (ga, GenP g)) (q : Q () s) : wpAny (model c.prog c.w) c.A (letOwnedTupleGo target (.ref ga) v) Q E s := by
  obtain ⟨o, eo, nm, qn, hc, hd, _⟩ := hga
  have key : ∀ T, wpAny (model c.prog c.w) c.A (do
      let o ← load ga
      match o.cls, o.data with
      | .type n, .fields vs =>
        if ["enumerate", "zip", "dict_itemiterator", "dict_reverseitemiterator", "odict_iterator", "itertools.zip_longest", "itertools.pairwise"].contains n && vs[0]? == some (rawInt T) then
          rule "for.unpacks-the-owned-tuple"
          updateField ga 0 .none
      | _, _ => pure ()) Q E s := by
    intro T
    refine wpAny_bind (wpAny_load eo ?_)
    rw [hc, hd]
    dsimp only
    rw [if_neg (by
      rw [show (["enumerate", "zip", "dict_itemiterator", "dict_reverseitemiterator", "odict_iterator", "itertools.zip_longest", "itertools.pairwise"].contains "generator") = false from by decide, Bool.false_and]
      decide)]
    exact wpAny_pure q
  cases target <;> first | exact wpAny_pure q | (cases v <;> first | exact wpAny_pure q | exact key _)

/-- append, wherever the list stands -/
theorem x_append_at {x : Str} {p apos pos spos : Pos} {e : Expr} {D : Addr} {xs : List Value} {X Y : Led} {P : Value → Led → Prop} {Q : Flow → Shared → Prop} (hwc : c.wc = true) (hMu : c.Mu = X ++ (D, LP xs) :: Y) (y : At c O s)
    (h1 : TV c O (eval (.Name x p) c.env) (· = .ref D)) (h2 : Tr c O (eval e c.env) P) (hn : xs.length ≤ 100000)
    (k : ∀ v N s', P v N → At { c with Mu := X ++ (D, LP (xs ++ [v])) :: Y } (N ++ O) s' → Q .next s')
    (hbase : attributeBase (.Name x p) "append" c.env (eval (.Name x p) c.env) = eval (.Name x p) c.env := by rfl)
    (hfew : ((backTo pos (starEach [e] c.env)).all (fun x => !x.1) && (backToKw pos (keywordEach [] c.env)).all (fun x => x.1.isSome)
      && decide (([e] : List Expr).length + ([] : List Keyword).length + (if ([] : List Keyword).isEmpty then 0 else 1) < 30)) = true := by rfl)
    (hline : (apos.endLine == pos.line) = true := by rfl) (htrees : backTo pos (starEach [e] c.env) = [(false, eval e c.env)] := by rfl)
    (hi : interactive c.env = false := by rfl) (hs : swapsWith (.Call (.Attribute (.Name x p) "append" apos) [e] [] pos) none spos.line c.env = pure false := by rfl) :
    wpAny (model c.prog c.w) c.A (exec (.Expr (.Call (.Attribute (.Name x p) "append" apos) [e] [] pos) spos) c.env) Q E s := by
  have pm : (X ++ (D, LP xs) :: Y).Perm ((D, LP xs) :: (X ++ Y)) := List.perm_middle
  have pm' : ∀ v, ((D, LP (xs ++ [v])) :: (X ++ Y)).Perm (X ++ (D, LP (xs ++ [v])) :: Y) := fun v => List.perm_middle.symm
  have y' : At { c with Mu := (D, LP xs) :: (X ++ Y) } O s := At.mu_perm (c := c) (by rw [← hMu]; exact y) pm
  have tv : ∀ {α : Type} {t : Sem α} {P' : α → Prop}, TV c O t P' → TV { c with Mu := (D, LP xs) :: (X ++ Y) } O t P' := fun h s E z => h s E (by have := At.mu_perm (c := c) z pm.symm; rw [← hMu] at this; exact this)
  have tr : ∀ {α : Type} {t : Sem α} {P' : α → Led → Prop}, Tr c O t P' → Tr { c with Mu := (D, LP xs) :: (X ++ Y) } O t P' := fun h s E z => h s E (by have := At.mu_perm (c := c) z pm.symm; rw [← hMu] at this; exact this)
  exact x_append (c := { c with Mu := (D, LP xs) :: (X ++ Y) }) hwc rfl y' (tv h1) (tr h2) hn (fun v N s' hp z => k v N s' hp (At.mu_perm (c := c) z (pm' v))) hbase hfew hline htrees hi hs

/-- subscripts of what is no name -/
theorem sub_tail {value slice : Expr} {v i : Value} {T id : String} {ops : List Value} {Q : Value → Shared → Prop} (hT : s.TypeIs v T) (hl : typeLookup (.type T) "__getitem__" = pure (some (.builtin id))) (h : wpAny (model c.prog c.w) c.A (getItem v i) Q E s)
    (hs : subscripted slice false v i = operate ops (getItem v i)) : wpAny (model c.prog c.w) c.A (subscriptTail value slice v i) Q E s := by
  have fin : wpAny (model c.prog c.w) c.A (subscripted slice false v i) (fun r s₃ => wpAny (model c.prog c.w) c.A (letTemporaryGo value v r >>= fun _ => pure r) Q E s₃) E s := by
    rw [hs]
    exact wpAny_operating (wpAny_mono h (fun r s₃ h₃ => wpAny_bind (wpAny_letTemporaryGo (wpAny_pure h₃))) fun _ _ x => x)
  unfold subscriptTail
  refine wpAny_bind ?_
  rw [getitemInPython_of_ne hT.not_modules]
  refine wpAny_bind (wpAny_specialOf hT hl ?_)
  first
    | exact wpAny_pure (wpAny_bind fin)
    | exact wpAny_bind (wpAny_pure (wpAny_bind fin))
    | exact wpAny_bind fin
theorem e_titemT {value slice : Expr} {pos : Pos} {l : Addr} {xs : List Value} {k : Int} {v : Value} (h1 : TV c O (eval value c.env) (· = .ref l)) (h2 : TV c O (eval slice c.env) (IsInt k)) (hl : InL c O (l, TP xs))
    (h0 : 0 ≤ k) (hk : k < 2 ^ 63) (hx : xs[k.toNat]? = some v)
    (hs : ∀ a i, subscripted slice false a i = operate [a, i] (getItem a i) := by intro _ _; with_unfolding_all rfl) :
    TV c O (eval (.Subscript value slice pos) c.env) (· = v) := fun s E x =>
  Subscript_ (h1.use x fun a s₁ e₁ k₁ x₁ => h2.use x₁ fun b s₂ ⟨t, e₂⟩ k₂ x₂ => by
    subst e₁; subst e₂
    have hlt : k < (xs.length : Int) := by
      have := (List.getElem?_eq_some_iff.mp hx).1; omega
    exact sub_tail (x₂.has hl).isTuple.typeIs F.slot_tuple_getitem.lookup (getItem_tuple (x₂.has hl).isTup (by omega) hk (j := k.toNat) (by rw [List.size_toArray]; exact seqIndex_of h0 hlt) (by simpa using hx) ⟨rfl, k₁.trans k₂⟩) (hs _ _))

theorem paired_ints {vs : List Value} {ns : List Int} (h : Paired IsInt ns vs) : IntsAre vs ns := by
  induction h with
  | nil => exact .nil
  | cons a _ ih => obtain ⟨t, rfl⟩ := a; exact .cons _ t ih
theorem q_notin {v : Value} {a : Int} {l : Addr} {vs : List Value} {ns : List Int} (hv : IsInt a v) (hl : InL c O (l, LP vs)) (hp : Paired IsInt ns vs) : TV c O (compareOp .NotIn v (.ref l)) (· = .bool (!(ns.any (· == a)))) := fun s E x => by
  obtain ⟨t, rfl⟩ := hv
  exact notin_list_ints (x.has hl).isList (paired_ints hp) ⟨rfl, Kp.refl s⟩

/-- a walk over a list itself, before it begins -/
theorem At.toGenL {pm : Value} {G l : Addr} {f : Str → Option Value} {vs : List Value} {X : Led} (x : At { c with Mu := (G, NsP f) :: (l, LP vs) :: X } O s) (hwc : c.wc = true) : At ((genC c pm G).up [(l, LP vs)] f c.gs) O s := by
  have nd := x.nodup
  have sub : ∀ a, a ∈ ((genC c pm G).up [(l, LP vs)] f c.gs).places → a ∈ ({ c with Mu := (G, NsP f) :: (l, LP vs) :: X } : Cx).places := fun a h => by
    rcases Cx.mem_places.mp h with h | ⟨_, y, h⟩ | ⟨p, h⟩
    · have h' : a = G := h
      subst h'
      exact Cx.mem_places.mpr (.inr (.inr ⟨_, .head _⟩))
    · exact nomatch (show (y, a) ∈ ([] : List (Str × Addr)) from h)
    · refine Cx.mem_places.mpr (.inr (.inr ⟨p, ?_⟩))
      have h' : (a, p) ∈ [(l, LP vs)] := h
      rw [List.mem_singleton.mp h']; exact .tail _ (.head _)
  obtain ⟨m, hm, hf⟩ := (x.mu _ (.head _)).ns
  refine ⟨x.base, x.own, fun p hp => ?_, ⟨m, hm, fun y v _ hv => hf y v hv⟩, fun y a v h _ => ?_, fun p h => ?_, ?_, fun p hp h => x.offO p hp (sub _ h), fun b o e h => x.offB b o e (sub _ h), x.gens, x.os, x.kin, x.tg, x.tb, x.nl⟩
  · have h' : p ∈ [(l, LP vs)] := hp
    rw [List.mem_singleton.mp h']; exact x.mu _ (.tail _ (.head _))
  · exact nomatch (show ([] : List (Str × Addr)).lookup y = some a from h)
  · exact nomatch (show p ∈ ([] : List (Str × Addr)) from h)
  · unfold Cx.places at nd
    dsimp only at nd
    rw [hwc, if_pos rfl, List.nodup_cons, List.nodup_append] at nd
    obtain ⟨_, _, n3, _⟩ := nd
    show ([G, l] : List Addr).Nodup
    refine List.Nodup.sublist ?_ n3
    simp

theorem next_fresh_list {A : Around} {Q : Option Value → Shared → Prop} {pm : Value} {G l ga : Addr} {g : Nat} (n : Nat) {f sg : Str → Option Value} {gs : Array GenState} {vs : List Value} {ns : List Int} {X : Led}
    {pv : Value} {np : Int} (x : At (c.up ((G, NsP f) :: (l, LP vs) :: X) sg gs) O s) (hwc : c.wc = true) (hh : A.handled = none) (hroom : A.depth + 30 < recursionLimit) (hga : (ga, GenP g) ∈ O) (hgs : gs[g]? = some (.fresh (.func (fnBody 1) (genC c pm G).env)))
    (o : GenOk c pm G) (hit : f "addresses" = some (.ref l)) (hv : vs[0]? = some pv) (hb : Bx O np pv) (hp : Paired (Bx O) ns vs)
    (k1 : ∀ it T k lvs cd p fs f' lastv nv s', (pv :: vs.drop 1)[run np (ns.drop 1)]? = some lastv → (vs.drop 1)[run np (ns.drop 1)]? = some nv → f' "it" = some (.ref it) → f' "ip" = some nv → Susp (genC c pm G) A.in1 it l n k cd fs →
      At (c.up ((G, NsP f') :: (it, IterP l (1 + run np (ns.drop 1) + 1)) :: (l, LP vs) :: X) sg (gs.setIfInBounds g (.suspended k lvs cd p fs false))) ((T, TP [pv, lastv]) :: O) s' → Q (some (.ref T)) s')
    (k2 : ∀ it T k lvs cd p fs f' lastv s', (pv :: vs.drop 1)[run np (ns.drop 1)]? = some lastv → run np (ns.drop 1) = (ns.drop 1).length → LastK (genC c pm G) A.in1 k cd fs →
      At (c.up ((G, NsP f') :: (it, EndP) :: (l, LP vs) :: X) sg (gs.setIfInBounds g (.suspended k lvs cd p fs false))) ((T, TP [pv, lastv]) :: O) s' → Q (some (.ref T)) s') :
    wpAny (model c.prog c.w) A (pyNext (.ref ga)) Q E s := by
  have x₁ := At.setGen (g := g) (z := .running) x
  have y := At.toGenL (c := c.up ((G, NsP f) :: (l, LP vs) :: X) sg (gs.setIfInBounds g .running)) (pm := pm) x₁ hwc
  refine w_pyNext hh x.nolimit (by omega) (x.own _ hga).isGen (by rw [x.gens]; exact hgs) (gst := .fresh (.func (fnBody 1) (genC c pm G).env)) (rt_mono (gen_fresh_list o (A := A.in1) hh (by show A.depth + 20 < recursionLimit; omega) n y hit hv hb hp) ?_)
  rintro e s₁ ⟨it, s₂, hnew, kp, y₂, v, lvs, k, cd, p, fs, T, sg', lastv, rfl, hfs, rfl, hT, al, hits, hlast, hc⟩
  refine .inl ⟨_, lvs, k, cd, p, fs, rfl, hfs, ?_⟩
  have x₂ : At (c.up ((G, NsP f) :: (it, IterP l 0) :: (l, LP vs) :: X) sg (gs.setIfInBounds g .running)) O s₂ := by
    have := At.growMu (c := c.up [] sg (gs.setIfInBounds g .running)) x₁ (Grow.one (p := (it, IterP l 0)) kp hnew (y₂.mu _ (.head _)))
    exact At.mu_perm (c := c.up [] sg (gs.setIfInBounds g .running)) this (List.Perm.swap _ _ _)
  have e2 : ∀ z : GenState, (gs.setIfInBounds g GenState.running).setIfInBounds g z = gs.setIfInBounds g z := fun z => by simp
  rcases hc with ⟨i, nv, hi, hnv, hip, y₃, hS⟩ | ⟨hr, y₃, hL⟩
  · cases hi
    have y₄ := At.ofGen (c := c.up ((G, NsP f) :: (it, IterP l 0) :: (l, LP vs) :: X) sg (gs.setIfInBounds g .running)) (T := (T, TP [pv, lastv])) x₂ hwc al hT y₃
    have y₅ := At.setGen (g := g) (z := .suspended k lvs cd p fs false) y₄
    dsimp only at y₅
    rw [e2] at y₅
    exact k1 it T k lvs cd p fs _ lastv nv _ hlast hnv ((if_pos rfl).trans hits) ((if_pos rfl).trans hip) hS y₅
  · have y₄ := At.ofGen (c := c.up ((G, NsP f) :: (it, IterP l 0) :: (l, LP vs) :: X) sg (gs.setIfInBounds g .running)) (T := (T, TP [pv, lastv])) x₂ hwc al hT y₃
    have y₅ := At.setGen (g := g) (z := .suspended k lvs cd p fs false) y₄
    dsimp only at y₅
    rw [e2] at y₅
    exact k2 it T k lvs cd p fs _ lastv _ hlast hr hL y₅
end
end Mine

namespace Mine
section
variable {c : Cx} {O : Led}
theorem x_for2 {x x2 : Str} {px px2 pt pos : Pos} {kk : Nat} {iter : Expr} {body : List Stmt} {items : List (Value × Value)} {s : Shared} {Q : Flow → Shared → Prop} {E : Value → Shared → Prop}
    (hh : c.A.handled = none) (hx : Stores c x) (hy : Stores c x2) (S : Src c O iter items (IsPair O)) (hcl : c.wc = true) (J : Nat → Led → Led → (Str → Option Value) → Array GenState → Prop) (y : At c O s) (h0 : J 0 O c.Mu c.sg c.gs)
    (sub : ∀ i O' Mu sg gs, J i O' Mu sg gs → ∀ p ∈ O, p ∈ O')
    (turn : ∀ i a O' Mu sg gs T H s E', items[i]? = some a → J i O' Mu sg gs → At (((c.up (Mu ++ T) sg gs).set x a.1).set x2 a.2) (H ++ O') s →
      wpAny (model c.prog c.w) c.A (execs body c.env) (TurnEnd c T H (J (i + 1)) Q) E' s)
    (done : ∀ O' Mu sg gs s, J items.length O' Mu sg gs → At (c.up Mu sg gs) O' s → Q .next s)
    (hs : ∀ x, foldedSetIterable iter c.env x = pure x := by intro _; rfl) :
    wpAny (model c.prog c.w) c.A (exec (.For (.Tuple [.Name x px, .Name x2 px2] kk pt) iter body [] pos) c.env) Q E s := by
  refine wpAny_For (S s E _ y fun I fq St s₂ k₂ W st live hIn off mod => ?_) hs
  have hx' : ∀ Mu sg gs, Stores (c.up Mu sg gs) x := fun Mu sg gs => by
    cases hx with
    | loc a b d e => exact .loc a b d e
    | cell a b d e f => exact .cell a b d e f
  have hy' : ∀ Mu sg gs, Stores (c.up Mu sg gs) x2 := fun Mu sg gs => by
    cases hy with
    | loc a b d e => exact .loc a b d e
    | cell a b d e f => exact .cell a b d e f
  have hB : ∀ o, c.B.get? I ≠ some o := fun o e => by rw [y.base I o e] at hIn; cases hIn
  have live1 : ∀ i h, St i h → ∀ b ∈ fq, h.get? b ≠ none := fun i h hs b hb => live i h hs b (List.mem_cons_of_mem _ hb)
  have liveI : ∀ i h, St i h → ∃ o, h.get? I = some o := fun i h hs => Option.ne_none_iff_exists'.mp (live i h hs I (.head _))
  refine codeAny_forLoop_any (fun k s' => ∃ i O' Mu sg gs, i ≤ items.length ∧ k = items.length - i ∧ J i O' Mu sg gs ∧ At (c.up (Mu ++ Mine.holds s'.heap [I]) sg gs) (Mine.holds s'.heap fq ++ O') s' ∧ St i s'.heap) ?_ items.length ?_
  · rintro n s₃ ⟨i, O', Mu, sg, gs, hi, rfl, hJ, x₃, st₃⟩
    have Ipl : I ∈ (c.up (Mu ++ Mine.holds s₃.heap [I]) sg gs).places := Cx.mem_places.mpr (.inr (.inr ⟨_, List.mem_append_right _ (.head _)⟩))
    have x₄ : At (c.up Mu sg gs) (Mine.holds s₃.heap fq ++ O') s₃ := At.drop (c := c.up Mu sg gs) x₃
    have hO' : ∀ p ∈ O', p.1 ≠ I := fun p hp h => x₃.offO p (List.mem_append_right _ hp) (h ▸ Ipl)
    have offI : I ∉ (c.up Mu sg gs).places := by
      have nd := x₃.nodup
      unfold Cx.places at nd ⊢
      dsimp only at nd ⊢
      rw [List.map_append, ← List.append_assoc, ← List.cons_append, List.nodup_append] at nd
      intro h
      exact nd.2.2 I h I (by simp [Mine.holds]) rfl
    have offF : ∀ b ∈ fq, b ∉ (c.up Mu sg gs).places := fun b hb => x₄.offO (b, _) (List.mem_append_left _ (List.mem_map.mpr ⟨b, hb, rfl⟩))
    have x₄' : At (c.up Mu sg gs) O' s₃ := x₄.sub fun p hp => List.mem_append_right _ hp
    have nw : ∀ {P : Prop}, (c.up Mu sg gs).wc = false → P := fun h => absurd (hcl.symm.trans h) (by simp)
    by_cases hlt : i < items.length
    · refine W.item i s₃ _ _ hlt st₃ fun v h' tk ⟨a, ha, hR⟩ st₄ k₄ => ?_
      have x₅ : At (c.up Mu sg gs) O' { s₃ with heap := h', toks := tk } := x₄'.moved (fp := []) ⟨h', tk, rfl, k₄⟩ offI hO' hB (fun h => nw h)
      obtain ⟨oI, eI⟩ := liveI _ _ st₄
      have x₆ : At (c.up (Mu ++ Mine.holds h' [I]) sg gs) (Mine.holds h' fq ++ O') { s₃ with heap := h', toks := tk } := by
        refine At.addMu (c := c.up Mu sg gs) (p := (I, fun o => h'.get? I = some o)) (x₅.holds (live1 _ _ st₄) offF) ⟨oI, eI, eI⟩ offI ?_ hB
        intro q hq
        rcases List.mem_append.mp hq with h | h
        · obtain ⟨b, hb, rfl⟩ := List.mem_map.mp h
          exact (off b hb).2
        · exact hO' q h
      refine w_letgo_of (mod _ _ st₄) ?_
      obtain ⟨Tp, rfl, hTp⟩ := hR
      refine w_assign2 (c := c.up (Mu ++ Mine.holds h' [I]) sg gs) hh x₆ (.inl (List.mem_append_right _ (sub i O' Mu sg gs hJ _ hTp))) (hx' _ sg gs) (hy' _ sg gs) fun s₇ x₇ => ?_
      refine wpAny_mono (turn i a O' Mu sg gs _ _ s₇ _ ha hJ x₇) (fun f s₈ h₈ => ?_) fun _ _ e => e
      have fin : (∃ O Mu sg gs, J (i + 1) O Mu sg gs ∧ At (c.up (Mu ++ Mine.holds h' [I]) sg gs) (Mine.holds h' fq ++ O) s₈) → ∃ m, m < items.length - i ∧ ∃ j O'' Mu sg gs, j ≤ items.length ∧ m = items.length - j ∧ J j O'' Mu sg gs ∧
          At (c.up (Mu ++ Mine.holds s₈.heap [I]) sg gs) (Mine.holds s₈.heap fq ++ O'') s₈ ∧ St j s₈.heap := by
        rintro ⟨O₉, Mu₉, sg₉, gs₉, hJ₉, x₉⟩
        have keepI : ∀ o, h'.get? I = some o → s₈.heap.get? I = some o := fun o e => holds_get (fp := [I]) (.head _) (fun p hp => x₉.mu p (List.mem_append_right _ hp)) e
        have keepF : ∀ b ∈ fq, ∀ o, h'.get? b = some o → s₈.heap.get? b = some o := fun b hb o e => holds_get hb (fun p hp => x₉.own p (List.mem_append_left _ hp)) e
        have st₉ : St (i + 1) s₈.heap := W.frame _ _ _ st₄ fun b hb o e => by
          rcases List.mem_cons.mp hb with rfl | hb
          · exact keepI o e
          · exact keepF b hb o e
        have eH : Mine.holds s₈.heap fq = Mine.holds h' fq := by
          refine List.map_congr_left fun b hb => ?_
          obtain ⟨o, e⟩ := Option.ne_none_iff_exists'.mp (live1 _ _ st₄ b hb)
          rw [e, keepF b hb o e]
        have eI' : Mine.holds s₈.heap [I] = Mine.holds h' [I] := by
          refine List.map_congr_left fun b hb => ?_
          rw [List.mem_singleton.mp hb, eI, keepI oI eI]
        exact ⟨items.length - (i + 1), by omega, i + 1, O₉, Mu₉, sg₉, gs₉, hlt, rfl, hJ₉, by rw [eH, eI']; exact x₉, st₉⟩
      cases f with
      | next => exact fin h₈
      | cont => exact fin h₈
      | brk => exact h₈
      | ret v => exact h₈
    · have hin : i = items.length := by omega
      subst hin
      refine W.done s₃ _ _ st₃ fun h' tk k₄ => ?_
      exact wpAny_execs_nil (done O' Mu sg gs _ hJ (x₄'.moved (fp := []) ⟨h', tk, rfl, k₄⟩ offI hO' hB (fun h => nw h)))
  · obtain ⟨oI, eI⟩ := liveI _ _ st
    have x₂ := y.keeps k₂
    refine ⟨0, O, c.Mu, c.sg, c.gs, Nat.zero_le _, rfl, h0, ?_, st⟩
    refine At.addMu (c := c) (Mu := c.Mu) (p := (I, fun o => s₂.heap.get? I = some o)) (x₂.holds (live1 _ _ st) fun b hb => (off b hb).1) ⟨oI, eI, eI⟩ (fun h => y.alive h hIn) ?_ hB
    intro q hq
    rcases List.mem_append.mp hq with h | h
    · obtain ⟨b, hb, rfl⟩ := List.mem_map.mp h
      exact (off b hb).2
    · intro e
      obtain ⟨o, eo, _⟩ := y.own q h
      rw [e, hIn] at eo; cases eo
end
end Mine

namespace Mine
open_top hd5 for PySem.Challenge.rw_dm0182_06

set_option maxHeartbeats 4000000

noncomputable abbrev theK (P : Params) : Frag := hd5.heap_39 P
theorem theK_ok (P : Params) : KOk (theK P) := by
  refine ⟨?_, ?_, ?_, ?_, ?_, ?_, ?_, ?_, ?_, ?_, ?_, ?_, ?_, ?_, ?_⟩
  · kernel_rfl
  · kernel_rfl
  · kernel_rfl
  · kernel_rfl
  · kernel_rfl
  · kernel_rfl
  · kernel_rfl
  · kernel_rfl
  · kernel_rfl
  · kernel_rfl
  · kernel_rfl
  · exact ⟨_, rfl⟩
  · kernel_rfl
  · exact ⟨_, rfl⟩
  · kernel_rfl
theorem theK_law (P : Params) : ∃ pm, (theK P).lookup 48 = some ⟨.type "function", none, .func (fdOf "law" 5 47 pm), #[]⟩ := ⟨_, rfl⟩
theorem theK_code (P : Params) : codeIn (theK P) (.ref 47) "law" = true := by kernel_rfl
def stdNames : List Str := ["len", "range", "list", "iter", "next", "isinstance", "str", "int", "sum", "sorted", "type", "tuple", "AttributeError", "TypeError"]
/-- the text's names, as the written part of the heap has them -/
theorem theK_names (P : Params) : ∃ es ep, (theK P).lookup mainGlobals = some ⟨.type "dict", none, .dict es ep, #[]⟩ ∧ nsFind es "_BaseConstants" = some (.ref 32) ∧ nsFind es "_law_box" = some (.ref 43) ∧ nsFind es "_find_address_range" = some (.ref 21) ∧ nsFind es "law" = some (.ref 48) ∧
    (stdNames.all fun x => (nsFind es x).isNone) = true :=
  ⟨_, _, rfl, by kernel_rfl, by kernel_rfl, by kernel_rfl, by kernel_rfl, by kernel_rfl⟩

theorem ns_names {h : Heap} {mg : Str → Option Value} {P : Params} (KX : (theK P).In h) (hg : h.Ns mainGlobals mg) : mg "_BaseConstants" = some (.ref 32) ∧ mg "_law_box" = some (.ref 43) ∧ mg "_find_address_range" = some (.ref 21) ∧ mg "law" = some (.ref 48) ∧ ∀ x ∈ stdNames, mg x = none := by
  obtain ⟨es, ep, hK, h1, h2, h3, h4, h5⟩ := theK_names P
  obtain ⟨o, es', ep', ho, hd, hk, hm⟩ := hg
  have := KX _ _ hK
  rw [ho] at this
  cases this
  cases hd
  refine ⟨(hm _).symm.trans h1, (hm _).symm.trans h2, (hm _).symm.trans h3, (hm _).symm.trans h4, fun x hx => (hm _).symm.trans ?_⟩
  have := List.all_eq_true.mp h5 x hx
  simpa using this

abbrev lawEnv (pm : Value) (L : Addr) : Env := callEnvC (fdOf "law" 5 47 pm) L 48
noncomputable abbrev lawC (w : World) (s : Shared) (mg mb : Str → Option Value) (pm : Value) (l : Addr) : Cx :=
  { prog := theP, w := w, A := callerA.deeper (lawEnv pm s.heap.objs.size), B := s.heap, env := lawEnv pm s.heap.objs.size, os := s.os, wc := true, Mu := [], sg := upd (fun _ => none) "script" (.ref l), gs := #[], K := theK w.params, mg := mg, mb := mb }

theorem law_own {w : World} {s : Shared} {mg mb : Str → Option Value} {pm : Value} {l : Addr} (KX : (theK w.params).In s.heap) (hg : s.heap.Ns mainGlobals mg) (hb : ∀ x : Str, x ≠ "__name__" → mb x = bootBuiltins x) : Own (lawC w s mg mb pm l) := by
  obtain ⟨h1, h2, h3, h4, h5⟩ := ns_names KX hg
  refine ⟨⟨rfl, rfl, rfl, ?_, ?_, ?_, ?_, ?_⟩, theK_ok _, of_decide_eq_true (by kernel_rfl), h1, h2, h3⟩
  · exact ⟨h5 _ (by decide), (hb _ (by decide)).trans rfl⟩
  · exact ⟨h5 _ (by decide), (hb _ (by decide)).trans rfl⟩
  · exact ⟨h5 _ (by decide), (hb _ (by decide)).trans rfl⟩
  · exact ⟨h5 _ (by decide), (hb _ (by decide)).trans rfl⟩
  · exact ⟨h5 _ (by decide), (hb _ (by decide)).trans rfl⟩

theorem lookup_of_mem : ∀ {cs : List (Str × Addr)}, (cs.map (·.1)).Nodup → ∀ p ∈ cs, cs.lookup p.1 = some p.2
  | [], _, _, h => nomatch h
  | q :: r, nd, p, h => by
    rw [List.map_cons, List.nodup_cons] at nd
    rcases List.mem_cons.mp h with rfl | h
    · simp [List.lookup]
    · have hne : p.1 ≠ q.1 := fun e => nd.1 (List.mem_map.mpr ⟨p, h, e⟩)
      have : (p.1 == q.1) = false := by simpa using hne
      unfold List.lookup
      rw [this]
      exact lookup_of_mem nd.2 p h

/-- what a law's body must do -/
def LawEnds (s : Shared) (f : Flow) (s' : Shared) : Prop := f = .ret (.bool true) ∧ ∃ c O, c.B = s.heap ∧ c.os = s.os ∧ AllBare c.gs ∧ At c O s'



theorem env_nd (pm : Value) (L : Addr) : ((lawEnv pm L).cells.map (·.1)).Nodup := by
  have e : (lawEnv pm L).cells.map (·.1) = (cellsFrom 1 (fnScope 5).names []).map (·.1) := by kernel_rfl
  rw [e]; decide +kernel
theorem env_script (pm : Value) (L : Addr) : (lawEnv pm L).kindOf "script" = some .local := by kernel_rfl
theorem env_noscript (pm : Value) (L : Addr) : (lawEnv pm L).cells.lookup ("script" : Str) = none := by kernel_rfl
theorem env_loc (pm : Value) (L : Addr) : (lawEnv pm L).locals = L := rfl
theorem law_at {w : World} {s s' : Shared} {mg mb : Str → Option Value} {pm : Value} {l : Addr} (KX : (theK w.params).In s.heap) (hg : s.heap.Ns mainGlobals mg) (hb : s.heap.Ns builtinsNs mb) (hn : s.heap.NoLimit) (hgens : s.gens = #[])
    (x : InCallC s (lawEnv pm s.heap.objs.size).locals (bindL (lawEnv pm s.heap.objs.size).kindOf [(("script" : Str), .ref l)] fun _ => none) (lawEnv pm s.heap.objs.size).cells (bindC (lawEnv pm s.heap.objs.size).kindOf [(("script" : Str), .ref l)] fun _ => none) s') :
    At (lawC w s mg mb pm l) [] s' := by
  obtain ⟨⟨⟨h', tk, rfl⟩, hns, hkeep, hfresh⟩, hcell, hap, hab⟩ := x
  have nd := env_nd pm s.heap.objs.size
  have hloc := env_script pm s.heap.objs.size
  have hcs := env_noscript pm s.heap.objs.size
  have hL := env_loc pm s.heap.objs.size
  have sgs : ∀ y v, (lawC w s mg mb pm l).sg y = some v → y = "script" ∧ v = .ref l := fun y v hv => by
    have hv' : upd (fun _ => none) "script" (.ref l) y = some v := hv
    by_cases h : y = "script"
    · subst h; rw [upd_same] at hv'; exact ⟨rfl, (Option.some.inj hv').symm⟩
    · rw [upd_ne h] at hv'; cases hv'
  have pl : ∀ a, a ∈ (lawC w s mg mb pm l).places → s.heap.objs.size ≤ a := fun a ha => by
    rcases Cx.mem_places.mp ha with h | ⟨_, y, h⟩ | ⟨p, h⟩
    · rw [h]; exact Nat.le_refl _
    · exact Nat.le_of_lt (hab y a h)
    · cases h
  refine ⟨fun b o e => hkeep b o e, (fun p hp => nomatch hp), (fun p hp => nomatch hp), ⟨_, hns, fun y v hy hv => ?_⟩, fun y a v hy hv => ?_, fun p hp => ⟨_, hcell p.1 p.2 (lookup_of_mem nd p hp)⟩, ?_, (fun p hp => nomatch hp), fun b o e h => ?_, hgens, rfl, KX, hg, hb, hn⟩
  · obtain ⟨rfl, rfl⟩ := sgs y v hv
    simp only [bindL, hloc, if_true]
  · obtain ⟨rfl, rfl⟩ := sgs y v hv
    have : (lawEnv pm s.heap.objs.size).cells.lookup ("script" : Str) = some a := hy
    rw [hcs] at this; cases this
  · show (s.heap.objs.size :: ((lawEnv pm s.heap.objs.size).cells.map (·.2) ++ [])).Nodup
    rw [List.append_nil, List.nodup_cons]
    refine ⟨fun h => ?_, ?_⟩
    · obtain ⟨p, hp, e⟩ := List.mem_map.mp h
      have := hab p.1 p.2 hp
      rw [e, hL] at this
      exact Nat.lt_irrefl _ this
    · unfold List.Nodup; rw [List.pairwise_map]; exact hap
  · exact absurd (Heap.lt_size e) (Nat.not_lt.mpr (pl b h))

set_option maxHeartbeats 4000000
abbrev theRow : RowW := PySem.Challenge.rw_dm0182_06.row.toRowW
theorem args_of {w : World} {s₀ s₁ : Shared} {args : List WData} {vals : List Value} {as : List Addr} (hpre : PySem.Challenge.rw_dm0182_06.row.toRowW.claim.pre args = true) (hlay : WData.layableAll args = true)
    (hrd : ReadsAllW PySem.Challenge.rw_dm0182_06.row.toRowW.records (classAt s₀.heap) s₁.heap vals args as) (hwl : WellAll w.params s₁.heap vals args) (hlo : ∀ a ∈ as, (a == sysModules) = false) :
    ∃ l vs ns, vals = [.ref l] ∧ s₁.heap.IsList l vs.toArray ∧ IntsAre vs ns ∧ ns.length ≤ 63 := by
  w_on
  wrow_args hpre hlay hrd hwl hlo
  all_goals (
    rename_i hc _
    rename IntsAre _ _ => hI
    rename Heap.IsList _ _ _ => hL
    exact ⟨_, _, _, rfl, hL, hI, by omega⟩)

theorem post_ok (args : List WData) : PySem.Challenge.rw_dm0182_06.row.toRowW.claim.post args (.bool true) args = true := by
  wrow_post

theorem enter (main : ∀ (w : World) (s s' : Shared) (mg mb : Str → Option Value) (pm : Value) (l : Addr) (vs : List Value) (ns : List Int) (E : Value → Shared → Prop), Own (lawC w s mg mb pm l) → (lawC w s mg mb pm l).A.units < cLine → (∀ x ∈ stdNames, mg x = none) → (∀ x : Str, x ≠ "__name__" → mb x = bootBuiltins x) → s.heap.IsList l vs.toArray → IntsAre vs ns → ns.length ≤ 63 →
    At (lawC w s mg mb pm l) [] s' → wpAny (model theP w) (lawC w s mg mb pm l).A (execs (fnBody 5) (lawC w s mg mb pm l).env) (LawEnds s) E s') : PySem.Challenge.rw_dm0182_06.Holds := by
  refine hd5 ?_
  intro w s₀ s₁ mg mb G Y fa o pm cd doc dV kV ho hd hcd hD hmg hg args vals as hpre hlay hrd hwl hlo
  have KX : (theK w.params).In s₁.heap := kIn_of Y
  have T := G.T
  have hlaw : mg "law" = some (.ref 48) := (ns_names KX T.g).2.2.2.1
  have hfa : fa = 48 := by
    have h1 : mg "law" = some (.ref fa) := hmg
    rw [hlaw] at h1; cases h1; rfl
  subst hfa
  obtain ⟨pm', hfn⟩ := theK_law w.params
  obtain ⟨l, vs, ns, rfl, hL, hI, hn⟩ := args_of hpre hlay hrd hwl hlo
  have hroom : callerA.depth < recursionLimit := of_decide_eq_true (by kernel_rfl)
  refine enter_call (codeAny_call_cells (fd := fdOf "law" 5 47 pm') (body := fnBody 5) (binds := [(("script" : Str), .ref l)]) hroom (KX _ _ hfn) rfl T.nolimit (codeRec_of KX (theK_code _)) rfl rfl rfl ?_ ?_ rfl rfl rfl)
  · intro x hx
    rw [List.mem_singleton.mp hx]
    exact .inl (env_script pm' 0)
  · intro s' x
    have A₀ : At (lawC w s₁ mg mb pm' l) [] s' := law_at KX T.g T.b T.nolimit hg x
    refine wpAny_mono (main w s₁ s' mg mb pm' l vs ns _ (law_own KX T.g T.builtins) (of_decide_eq_true (by kernel_rfl)) (ns_names KX T.g).2.2.2.2 T.builtins hL hI hn A₀) ?_ fun _ _ e => e
    rintro f s'' ⟨rfl, c, O, hB, hos, hgs, z⟩
    refine ⟨.inl ⟨.bool true, .bool true, [], rfl, fun cls => rfl, .bool true, ?_, fun _ => ⟨List.nodup_nil, fun a ha => nomatch ha⟩⟩, .of_keep ?_, ?_, ?_⟩
    · exact post_ok args
    · intro b o e; exact z.base b o (hB ▸ e)
    · exact z.os.trans hos
    · rw [z.gens]; exact hgs
end Mine

namespace Mine

abbrev LC (b : Cx) (pm : Value) (L : Addr) : Cx := { b with env := lawEnv pm L, wc := true }
theorem env_cell {pm : Value} {L : Addr} {x : Str} (h : ((lawEnv pm L).cells.lookup x).isSome = true) : ∃ a, (lawEnv pm L).cells.lookup x = some a := Option.isSome_iff_exists.mp h

theorem ints_paired {vs : List Value} {ns : List Int} (h : IntsAre vs ns) : Paired IsInt ns vs := by
  induction h with
  | nil => exact .nil
  | cons _ _ _ ih => exact .cons ⟨_, rfl⟩ ih
theorem paired_take {α β : Type} {R : α → β → Prop} {as : List α} {us : List β} (h : Paired R as us) (k : Nat) : Paired R (as.take k) (us.take k) := by
  induction h generalizing k with
  | nil => simpa using .nil
  | cons a _ ih => cases k with
    | zero => exact .nil
    | succ k => exact .cons a (ih k)
theorem paired_drop {α β : Type} {R : α → β → Prop} {as : List α} {us : List β} (h : Paired R as us) (k : Nat) : Paired R (as.drop k) (us.drop k) := by
  induction h generalizing k with
  | nil => simpa using .nil
  | cons a h ih => cases k with
    | zero => exact .cons a h
    | succ k => exact ih k

def isStart (ns : List Int) (k : Nat) : Bool := k == 0 || (ns.getD k 0 - ns.getD (k - 1) 0 != 1)
def startsOf (ns : List Int) : List Nat := (List.range ns.length).filter (isStart ns)
/-- where the next stretch begins -/
def nxt (ns : List Int) (j : Nat) : Nat := (startsOf ns).getD (j + 1) ns.length

theorem paired_map_right {α β : Type} {R : α → β → Prop} {γ : Type} {f : γ → α} {as : List γ} {us : List β} (h : Paired (fun a u => R (f a) u) as us) : Paired R (as.map f) us := by
  induction h with
  | nil => exact .nil
  | cons a _ ih => exact .cons a ih
theorem paired_append {α β : Type} {R : α → β → Prop} {as as' : List α} {us us' : List β} (h : Paired R as us) (h' : Paired R as' us') : Paired R (as ++ as') (us ++ us') := by
  induction h with
  | nil => exact h'
  | cons a _ ih => exact .cons a ih

theorem csg_free {sg : Str → Option Value} {cl : List (Str × Addr)} {x y : Str} {v : Value} (h : y ≠ x) (hs : (cl.lookup y).isSome = true) : csg sg cl x v y = sg y := by
  unfold csg; rw [if_neg h, if_pos hs]
/-- a name of the frame around, read in a comprehension -/
theorem e_free {c : Cx} {O : Led} {scope : Scope} {C : Addr} {x y : Str} {u v : Value} {pos : Pos} (hv : c.sg y = some v) (hne : y ≠ x := by decide) (hs : ((c.cl scope).lookup y).isSome = true := by kernel_rfl)
    (hl : (compEnvC scope (c.cl scope) C c.env).kindOf y = some .cell := by rfl) (hk : (compEnvC scope (c.cl scope) C c.env).scope.kind = .function := by rfl) (hd : (y == ("__debug__" : Str)) = false := by decide) :
    TV (c.comp scope (c.cl scope) C (csg c.sg (c.cl scope) x u)) O (eval (.Name y pos) (compEnvC scope (c.cl scope) C c.env)) (· = v) := by
  obtain ⟨a, ha⟩ := Option.isSome_iff_exists.mp hs
  exact e_cell (c := c.comp scope (c.cl scope) C (csg c.sg (c.cl scope) x u)) ((csg_free hne hs).trans hv) ha hl hk hd

/-- a comprehension's own name -/
theorem e_tgt {c : Cx} {O : Led} {scope : Scope} {cl : List (Str × Addr)} {C : Addr} {x : Str} {v : Value} {pos : Pos}
    (hl : (compEnvC scope cl C c.env).kindOf x = some .local := by rfl) (hk : (compEnvC scope cl C c.env).scope.kind = .function := by rfl) (hd : (x == ("__debug__" : Str)) = false := by decide) :
    TV (c.comp scope cl C (csg c.sg cl x v)) O (eval (.Name x pos) (compEnvC scope cl C c.env)) (· = v) :=
  e_local (c := c.comp scope cl C (csg c.sg cl x v)) csg_same hl hk hd
theorem e_tgtI {c : Cx} {O : Led} {scope : Scope} {cl : List (Str × Addr)} {C : Addr} {x : Str} {v : Value} {pos : Pos} {i : Int} (h : IsInt i v)
    (hl : (compEnvC scope cl C c.env).kindOf x = some .local := by rfl) (hk : (compEnvC scope cl C c.env).scope.kind = .function := by rfl) (hd : (x == ("__debug__" : Str)) = false := by decide) :
    TV (c.comp scope cl C (csg c.sg cl x v)) O (eval (.Name x pos) (compEnvC scope cl C c.env)) (IsInt i) :=
  (e_tgt hl hk hd).mono fun u hu => hu ▸ h

theorem Src.eq {c : Cx} {O : Led} {α : Type} {iter : Expr} {items items' : List α} {R : α → Value → Prop} (h : items = items') (S : Src c O iter items R) : Src c O iter items' R := h ▸ S

def endsOf (ns : List Int) : List Int := ((startsOf ns).drop 1).map (fun (i : Nat) => (i : Int) - 1) ++ [(ns.length : Int) - 1]

theorem starts_sorted (ns : List Int) : (startsOf ns).Pairwise (· < ·) := List.Pairwise.filter _ List.pairwise_lt_range
theorem mem_starts {ns : List Int} {k : Nat} : k ∈ startsOf ns ↔ k < ns.length ∧ isStart ns k = true := by
  unfold startsOf; rw [List.mem_filter, List.mem_range]
theorem starts_mono {ns : List Int} {i j a b : Nat} (h1 : (startsOf ns)[i]? = some a) (h2 : (startsOf ns)[j]? = some b) (h : i < j) : a < b := by
  obtain ⟨hi, rfl⟩ := List.getElem?_eq_some_iff.mp h1
  obtain ⟨hj, rfl⟩ := List.getElem?_eq_some_iff.mp h2
  exact List.pairwise_iff_getElem.mp (starts_sorted ns) i j hi hj h
theorem starts_first {ns : List Int} (h : 0 < ns.length) : (startsOf ns)[0]? = some 0 := by
  unfold startsOf
  obtain ⟨n, hn⟩ : ∃ n, ns.length = n + 1 := ⟨ns.length - 1, by omega⟩
  rw [hn, List.range_succ_eq_map, List.filter_cons]
  simp [isStart]
theorem nxt_some {ns : List Int} {j e : Nat} (h : (startsOf ns)[j + 1]? = some e) : nxt ns j = e := by unfold nxt; rw [List.getD_eq_getElem?_getD, h]; rfl
theorem nxt_none {ns : List Int} {j : Nat} (h : (startsOf ns)[j + 1]? = none) : nxt ns j = ns.length := by unfold nxt; rw [List.getD_eq_getElem?_getD, h]; rfl
theorem nxt_cases (ns : List Int) (j : Nat) : ((startsOf ns)[j + 1]? = some (nxt ns j)) ∨ ((startsOf ns)[j + 1]? = none ∧ nxt ns j = ns.length) := by
  cases h : (startsOf ns)[j + 1]? with
  | none => exact .inr ⟨rfl, nxt_none h⟩
  | some e => rw [nxt_some h]; exact .inl rfl

theorem seg_bounds {ns : List Int} {j a : Nat} (h : (startsOf ns)[j]? = some a) : a < nxt ns j ∧ nxt ns j ≤ ns.length := by
  have ha := (mem_starts.mp (List.mem_of_getElem? h)).1
  rcases nxt_cases ns j with h1 | ⟨h1, h2⟩
  · exact ⟨starts_mono h h1 (by omega), Nat.le_of_lt (mem_starts.mp (List.mem_of_getElem? h1)).1⟩
  · omega

theorem seg_mid {ns : List Int} {j a k : Nat} (h : (startsOf ns)[j]? = some a) (h1 : a < k) (h2 : k < nxt ns j) : ns.getD k 0 = ns.getD (k - 1) 0 + 1 := by
  have hb := seg_bounds h
  have hk : k < ns.length := by omega
  cases hs : isStart ns k with
  | true =>
    exfalso
    obtain ⟨i, hi⟩ := List.getElem?_of_mem (mem_starts.mpr ⟨hk, hs⟩)
    have hji : j < i := by
      rcases Nat.lt_trichotomy j i with h' | h' | h'
      · exact h'
      · subst h'; rw [h] at hi; cases hi; omega
      · have := starts_mono hi h h'; omega
    rcases nxt_cases ns j with h3 | ⟨h3, h4⟩
    · by_cases h5 : i = j + 1
      · subst h5; rw [h3] at hi; cases hi; omega
      · have := starts_mono h3 hi (by omega); omega
    · have := List.getElem?_eq_none_iff.mp h3
      have := (List.getElem?_eq_some_iff.mp hi).1
      omega
  | false =>
    unfold isStart at hs
    simp only [Bool.or_eq_false_iff, bne_eq_false_iff_eq] at hs
    omega

theorem seg_line {ns : List Int} {j a : Nat} (h : (startsOf ns)[j]? = some a) : ∀ t, a + t < nxt ns j → ns.getD (a + t) 0 = ns.getD a 0 + t
  | 0, _ => by simp
  | t + 1, ht => by
    rw [seg_mid h (k := a + (t + 1)) (by omega) ht, show a + (t + 1) - 1 = a + t from by omega, seg_line h t (by omega)]
    push_cast; omega

theorem seg_run {ns : List Int} {j a : Nat} (h : (startsOf ns)[j]? = some a) : run (ns.getD a 0) (ns.drop (a + 1)) = nxt ns j - a - 1 := by
  have hb := seg_bounds h
  refine run_spec _ _ _ (fun i y hi hy => ?_) (by rw [List.length_drop]; omega) ?_
  · rw [List.getElem?_drop] at hy
    have e1 : ns.getD (a + 1 + i) 0 = y := by rw [List.getD_eq_getElem?_getD, hy]; rfl
    rw [← e1, show a + 1 + i = a + (i + 1) from by omega, seg_line h (i + 1) (by omega)]
    push_cast; omega
  · rcases nxt_cases ns j with h1 | ⟨h1, h2⟩
    · right
      obtain ⟨he, hs⟩ := mem_starts.mp (List.mem_of_getElem? h1)
      refine ⟨ns.getD (nxt ns j) 0, ?_, fun hc => ?_⟩
      · rw [List.getElem?_drop, show a + 1 + (nxt ns j - a - 1) = nxt ns j from by omega]
        simp [he]
      · have e2 := seg_line h (nxt ns j - 1 - a) (by omega)
        rw [show a + (nxt ns j - 1 - a) = nxt ns j - 1 from by omega] at e2
        unfold isStart at hs
        rw [Bool.or_eq_true] at hs
        rcases hs with hs | hs
        · have : nxt ns j = 0 := by simpa using hs
          omega
        · rw [bne_iff_ne] at hs
          apply hs
          rw [hc, e2]
          omega
    · left; rw [List.length_drop, h2]; omega

theorem ends_get {ns : List Int} {j a : Nat} (h : (startsOf ns)[j]? = some a) : (endsOf ns)[j]? = some ((nxt ns j : Int) - 1) := by
  have hj := (List.getElem?_eq_some_iff.mp h).1
  unfold endsOf
  rcases nxt_cases ns j with h1 | ⟨h1, h2⟩
  · have hj1 := (List.getElem?_eq_some_iff.mp h1).1
    rw [List.getElem?_append_left (by rw [List.length_map, List.length_drop]; omega), List.getElem?_map, List.getElem?_drop, Nat.add_comm, h1]
    rfl
  · have := List.getElem?_eq_none_iff.mp h1
    rw [List.getElem?_append_right (by rw [List.length_map, List.length_drop]; omega), List.length_map, List.length_drop, show j - ((startsOf ns).length - 1) = 0 from by omega, h2]
    rfl
/-- a walk over a row that has told j of its stretches -/
def WS (c : Cx) (A : Around) (pm : Value) (G it l : Addr) (ns : List Int) (rvs : List Value) (j : Nat) (f : Str → Option Value) (st : ItSt) (gst : GenState) : Prop :=
  (j = 0 ∧ st = .at 0 ∧ f = argMap (.ref it) ∧ gst = .fresh (.func (fnBody 1) (genC c pm G).env)) ∨
  (∃ a pv k lvs cd p fs, (startsOf ns)[j]? = some a ∧ 0 < j ∧ st = .at (a + 1) ∧ rvs[a]? = some pv ∧ f "it" = some (.ref it) ∧ f "ip" = some pv ∧ gst = .suspended k lvs cd p fs false ∧ Susp (genC c pm G) A it l (2000 - j) k cd fs) ∨
  (∃ k lvs cd p fs, j = (startsOf ns).length ∧ 0 < j ∧ st = .ended ∧ gst = .suspended k lvs cd p fs false ∧ LastK (genC c pm G) A k cd fs)

section
variable {c : Cx} {O : Led} {s s' : Shared} {E : Value → Shared → Prop}

theorem getD_paired {R : Int → Value → Prop} {ns : List Int} {us : List Value} (hp : Paired R ns us) {j : Nat} {u : Value} (h : us[j]? = some u) : R (ns.getD j 0) u := by
  have hj : j < us.length := (List.getElem?_eq_some_iff.mp h).1
  have hj' : j < ns.length := by rw [hp.length]; exact hj
  exact paired_get hp j _ u (by simp [hj']) h

theorem tell {A : Around} {Q : Option Value → Shared → Prop} {pm : Value} {G it l ga : Addr} {g j a : Nat} {gst : GenState} {f sg : Str → Option Value} {gs : Array GenState} {st : ItSt} {rvs : List Value} {ns : List Int} {X : Led}
    (x : At (c.up ((G, NsP f) :: (it, st.P l) :: (l, LP rvs) :: X) sg gs) O s) (hwc : c.wc = true) (hh : A.handled = none) (hroom : A.depth + 30 < recursionLimit) (hga : (ga, GenP g) ∈ O) (hgs : gs[g]? = some gst)
    (o : GenOk c pm G) (hp : Paired (Bx O) ns rvs) (hn : ns.length ≤ 1000) (hw : WS c A.in1 pm G it l ns rvs j f st gst) (ha : (startsOf ns)[j]? = some a)
    (k : ∀ T pv lastv f' st' gst' s', rvs[a]? = some pv → rvs[nxt ns j - 1]? = some lastv → WS c A.in1 pm G it l ns rvs (j + 1) f' st' gst' → gst'.bare = true →
      At (c.up ((G, NsP f') :: (it, st'.P l) :: (l, LP rvs) :: X) sg (gs.setIfInBounds g gst')) ((T, TP [pv, lastv]) :: O) s' → Q (some (.ref T)) s') :
    wpAny (model c.prog c.w) A (pyNext (.ref ga)) Q E s := by
  have hb := seg_bounds ha
  have hrun := seg_run ha
  have hlen : ns.length = rvs.length := hp.length
  have hjm : j < (startsOf ns).length := (List.getElem?_eq_some_iff.mp ha).1
  have hsl : (startsOf ns).length ≤ ns.length := by unfold startsOf; exact Nat.le_trans (List.length_filter_le _ _) (by simp)
  have idx : ∀ (pv lastv : Value), rvs[a]? = some pv → (pv :: rvs.drop (a + 1))[nxt ns j - a - 1]? = some lastv → rvs[nxt ns j - 1]? = some lastv := by
    intro pv lastv h1 h2
    have : pv :: rvs.drop (a + 1) = rvs.drop a := by
      have h3 : a < rvs.length := by omega
      rw [List.drop_eq_getElem_cons h3]
      congr 1
      rw [List.getElem?_eq_getElem h3] at h1
      exact (Option.some.inj h1).symm
    rw [this, List.getElem?_drop, show a + (nxt ns j - a - 1) = nxt ns j - 1 from by omega] at h2
    exact h2
  have more : ∀ nv, (rvs.drop (a + 1))[nxt ns j - a - 1]? = some nv → (startsOf ns)[j + 1]? = some (nxt ns j) ∧ rvs[nxt ns j]? = some nv := by
    intro nv h1
    rw [List.getElem?_drop, show a + 1 + (nxt ns j - a - 1) = nxt ns j from by omega] at h1
    have h2 : nxt ns j < rvs.length := (List.getElem?_eq_some_iff.mp h1).1
    rcases nxt_cases ns j with h3 | ⟨h3, h4⟩
    · exact ⟨h3, h1⟩
    · omega
  have fin : nxt ns j - a - 1 = (ns.drop (a + 1)).length → j + 1 = (startsOf ns).length := by
    intro h1
    rw [List.length_drop] at h1
    rcases nxt_cases ns j with h3 | ⟨h3, h4⟩
    · have := (mem_starts.mp (List.mem_of_getElem? h3)).1; omega
    · have := List.getElem?_eq_none_iff.mp h3; omega
  rcases hw with ⟨rfl, rfl, rfl, rfl⟩ | ⟨a', pv, k₀, lvs₀, cd₀, p₀, fs₀, ha', hj, rfl, hpv, hit, hip, rfl, hS⟩ | ⟨k₀, lvs₀, cd₀, p₀, fs₀, hj, _⟩
  · have h0 : a = 0 := by
      have := starts_first (ns := ns) (by omega)
      rw [this] at ha; cases ha; rfl
    subst h0
    obtain ⟨pv, hpv⟩ : ∃ pv, rvs[0]? = some pv := ⟨rvs[0], by simp [show 0 < rvs.length from by omega]⟩
    refine next_fresh (pm := pm) (n := 2000 - 1) (i := 0) (ns := ns) (pv := pv) (np := ns.getD 0 0) x hwc hh hroom hga hgs o upd_same hpv (getD_paired hp hpv) hp ?_ ?_
    · intro T k' lvs cd p fs f' lastv nv s' h1 h2 h3 h4 h5 x'
      rw [hrun] at h1 h2 x'
      obtain ⟨h6, h7⟩ := more nv h2
      refine k T pv lastv f' (.at (nxt ns 0 + 1)) (.suspended k' lvs cd p fs false) s' hpv (idx pv lastv hpv h1) (.inr (.inl ⟨nxt ns 0, nv, k', lvs, cd, p, fs, h6, by omega, rfl, h7, h3, h4, rfl, h5⟩)) rfl ?_
      rw [show 0 + 1 + (nxt ns 0 - 0 - 1) + 1 = nxt ns 0 + 1 from by omega] at x'
      exact x'
    · intro T k' lvs cd p fs f' lastv s' h1 h2 h3 x'
      rw [hrun] at h1 h2
      exact k T pv lastv f' .ended (.suspended k' lvs cd p fs false) s' hpv (idx pv lastv hpv h1) (.inr (.inr ⟨k', lvs, cd, p, fs, fin h2, by omega, rfl, rfl, h3⟩)) rfl x'
  · rw [ha] at ha'; cases ha'
    have hS' : Susp (genC c pm G) A.in1 it l (2000 - (j + 1) + 1) k₀ cd₀ fs₀ := by rw [show 2000 - (j + 1) + 1 = 2000 - j from by omega]; exact hS
    refine next_mid (pm := pm) (n := 2000 - (j + 1)) (ns := ns) (pv := pv) (np := ns.getD a 0) x hwc hh (by omega) hga hgs hS' hit hip (getD_paired hp hpv) hp ?_ ?_
    · intro T k' lvs cd p fs f' lastv i nv s' h0 h1 h2 h3 h4 h5 x'
      cases h0
      have h1' : (pv :: rvs.drop (a + 1))[run (ns.getD a 0) (ns.drop (a + 1))]? = some lastv := h1
      have h2' : (rvs.drop (a + 1))[run (ns.getD a 0) (ns.drop (a + 1))]? = some nv := h2
      have x'' : At (c.up ((G, NsP f') :: (it, IterP l (a + 1 + run (ns.getD a 0) (ns.drop (a + 1)) + 1)) :: (l, LP rvs) :: X) sg (gs.setIfInBounds g (.suspended k' lvs cd p fs false))) ((T, TP [pv, lastv]) :: O) s' := x'
      rw [hrun] at h1' h2' x''
      obtain ⟨h6, h7⟩ := more nv h2'
      refine k T pv lastv f' (.at (nxt ns j + 1)) (.suspended k' lvs cd p fs false) s' hpv (idx pv lastv hpv h1') (.inr (.inl ⟨nxt ns j, nv, k', lvs, cd, p, fs, h6, by omega, rfl, h7, h3, h4, rfl, h5⟩)) rfl ?_
      rw [show a + 1 + (nxt ns j - a - 1) + 1 = nxt ns j + 1 from by omega] at x''
      exact x''
    · intro T k' lvs cd p fs f' lastv s' h1 h2 h3 x'
      have h1' : (pv :: rvs.drop (a + 1))[run (ns.getD a 0) (ns.drop (a + 1))]? = some lastv := h1
      have h2' : run (ns.getD a 0) (ns.drop (a + 1)) = (ns.drop (a + 1)).length := h2
      rw [hrun] at h1' h2'
      exact k T pv lastv f' .ended (.suspended k' lvs cd p fs false) s' hpv (idx pv lastv hpv h1') (.inr (.inr ⟨k', lvs, cd, p, fs, fin h2', by omega, rfl, rfl, h3⟩)) rfl x'
  · omega
end
theorem AllBare.set {gs : Array GenState} {g : Nat} {z : GenState} (h : AllBare gs) (hz : z.bare = true) : AllBare (gs.setIfInBounds g z) := by
  intro y hy
  rcases Array.mem_or_eq_of_mem_setIfInBounds hy with h' | h'
  · exact h y h'
  · rw [h']; exact hz
theorem AllBare.push {gs : Array GenState} {z : GenState} (h : AllBare gs) (hz : z.bare = true) : AllBare (gs.push z) := by
  intro y hy
  rcases Array.mem_push.mp hy with h' | h'
  · exact h y h'
  · rw [h']; exact hz

/-- row[starts[k]], told[0] and the like -/
theorem get_int {us : List Value} {is : List Int} {j : Nat} {a : Int} (hp : Paired IsInt is us) (h : is[j]? = some a) : ∃ u, us[j]? = some u ∧ IsInt a u := Paired.get_some hp h

end Mine

namespace Mine

section
variable {c : Cx} {O : Led} {s s' : Shared} {E : Value → Shared → Prop}

theorem Has.isLI {h : Heap} {l : Addr} {xs : List Value} (x : Has h (l, LI xs)) : h.IsList l xs.toArray := by
  obtain ⟨o, e, hc, n, hd⟩ := x; exact ⟨o, e, hc, n, hd⟩
theorem Has.toLI {h : Heap} {l : Addr} {xs : List Value} (x : Has h (l, LP xs)) : Has h (l, LI xs) := by
  obtain ⟨o, e, q⟩ := x; exact ⟨o, e, q.li⟩
theorem Has.ofIsList {h : Heap} {l : Addr} {xs : List Value} (x : h.IsList l xs.toArray) : Has h (l, LI xs) := by
  obtain ⟨o, e, hc, n, hd⟩ := x; exact ⟨o, e, hc, n, hd⟩

/-- next(e, None), whatever names the walk -/
theorem e_nextE {e : Expr} {p p2 pos : Pos} {k : Nat} {ga : Addr} {g : Nat} {Q : Value → Shared → Prop} (S : Std c) (y : At c O s) (h : TV c O (eval e c.env) (· = .ref ga)) (hga : (ga, GenP g) ∈ O)
    (hn : ∀ s', At c O s' → wpAny (model c.prog c.w) c.A.in1 (pyNext (.ref ga)) (fun r s' => Q (r.getD .none) s') E s')
    (hk : c.env.kindOf "next" = some .globalImplicit := by rfl) (hf : c.env.scope.kind = .function := by rfl) (hs : starEach [e, .Constant .none k p2] c.env = [(false, eval e c.env), (false, eval (.Constant .none k p2) c.env)] := by rfl) :
    wpAny (model c.prog c.w) c.A (eval (.Call (.Name "next" p) [e, .Constant .none k p2] [] pos) c.env) Q E s :=
  Call_Name2 ((e_bi S.next.1 S.next.2 hk S.gl S.bu hf).use y fun f s₁ e₁ k₁ x₁ => by
    subst e₁
    refine callWith_builtin (args := [(false, eval e c.env), (false, eval (.Constant .none k p2) c.env)]) rfl (evalArgs_plain (spliced_cons (h.use x₁ fun v s₂ e₂ k₂ x₂ => spliced_cons (e_none.use x₂ fun u s₃ e₃ k₃ x₃ => spliced_nil ?_))))
    subst e₂; subst e₃
    exact call_next2 (x₃.own _ hga).isGen.typeIs slot_gen_next (hn s₃ x₃)) hs

theorem e_itemI {value slice : Expr} {pos : Pos} {l : Addr} {xs : List Value} {k : Int} {v : Value} (h1 : TV c O (eval value c.env) (· = .ref l)) (h2 : TV c O (eval slice c.env) (IsInt k)) (hl : InL c O (l, LI xs))
    (h0 : 0 ≤ k) (hk : k < 2 ^ 63) (hx : xs[k.toNat]? = some v)
    (hs : ∀ a i, subscripted slice false a i = operate [a, i] (getItem a i) := by intro _ _; with_unfolding_all rfl) (ht : ∀ a r, letTemporaryGo value a r = pure () := by intro _ _; with_unfolding_all rfl) :
    TV c O (eval (.Subscript value slice pos) c.env) (· = v) := fun s E x =>
  Subscript_ (h1.use x fun a s₁ e₁ k₁ x₁ => h2.use x₁ fun b s₂ ⟨t, e₂⟩ k₂ x₂ => by
    subst e₁; subst e₂
    exact subscriptTail_ops (x₂.has hl).isLI.typeIs slot_list_getitem.lookup (wpAny_getItem_list (x₂.has hl).isLI h0 hk (by simpa using hx) ⟨rfl, k₁.trans k₂⟩) (hs _ _) (ht _))

/-- a list's item is written -/
theorem x_setitem {o i val : Expr} {pos' pos : Pos} {D : Addr} {xs : List Value} {X Y : Led} {k : Int} {P : Value → Prop} {Q : Flow → Shared → Prop} (hwc : c.wc = true) (hMu : c.Mu = X ++ (D, LI xs) :: Y) (y : At c O s)
    (h1 : TV c O (eval val c.env) P) (h2 : TV c O (eval o c.env) (· = .ref D)) (h3 : TV c O (eval i c.env) (IsInt k)) (h0 : 0 ≤ k) (hf : k < 2 ^ 63) (hn : k < xs.length)
    (q : ∀ v s', P v → At { c with Mu := X ++ (D, LI (xs.set k.toNat v)) :: Y } O s' → Q .next s')
    (hs : swapsWith val (some (.Subscript o i pos')) pos.line c.env = pure false := by rfl) :
    wpAny (model c.prog c.w) c.A (exec (.Assign [.Subscript o i pos'] val pos) c.env) Q E s := by
  refine wpAny_Assign_Subscript (h1.use y fun v s₁ hv k₁ y₁ => h2.use y₁ fun u s₂ hu k₂ y₂ => h3.use y₂ fun z s₃ ⟨t, hz⟩ k₃ y₃ => ?_) hs
  subst hu; subst hz
  have hD : (D, LI xs) ∈ c.Mu := by rw [hMu]; exact List.mem_append_right _ (.head _)
  refine wpAny_setItem_list (y₃.mu _ hD).isLI h0 hf (by simpa using hn) fun h' hl hsb => q v _ hv ?_
  have y₄ : At { c with Mu := (D, LI xs) :: (X ++ Y) } O s₃ := At.mu_perm (c := c) (by rw [← hMu]; exact y₃) List.perm_middle
  have y₅ : At { c with Mu := (D, LI (xs.set k.toNat v)) :: (X ++ Y) } O { s₃ with heap := h' } := by
    refine At.setMu (c := c) y₄ hwc (Alt.of_same (tk := s₃.toks) hsb) (Has.ofIsList ?_)
    have e : xs.toArray.setIfInBounds k.toNat v = (xs.set k.toNat v).toArray := by simp
    rw [← e]; exact hl
  exact At.mu_perm (c := c) y₅ List.perm_middle.symm

/-- x += e, for whole numbers -/
theorem x_aug {x : Str} {p' pos : Pos} {e : Expr} {a d : Int} {v : Value} {Q : Flow → Shared → Prop} (hx : Stores c x) (hv : c.sg x = some v) (ha : IsInt a v) (h : TV c O (eval e c.env) (IsInt d)) (y : At c O s)
    (q : ∀ u s', IsInt (a + d) u → At (c.set x u) O s' → Q .next s') (hk : c.env.scope.kind = .function := by rfl) (hl : c.env.kindOf x = some .local := by rfl) :
    wpAny (model c.prog c.w) c.A (exec (.AugAssign (.Name x p') .Add e pos) c.env) Q E s := by
  obtain ⟨m, hn, hm⟩ := y.ns
  refine wpAny_AugAssign_Name (wpAny_loadName_local hk hl hn (hm x v hl hv) (h.use y fun u s₁ ⟨t, hu⟩ k₁ y₁ => ?_))
  obtain ⟨t', rfl⟩ := ha
  subst hu
  refine iadd_int ?_
  exact w_store hx (y₁.keeps Kp.toks) fun s₂ _ y₂ => q _ s₂ ⟨_, rfl⟩ y₂

/-- a while loop that writes names alone -/
theorem x_while {test : Expr} {body : List Stmt} {pos : Pos} {Mu : Led} {sg : Str → Option Value} {gs : Array GenState} {Q : Flow → Shared → Prop} (J : Nat → (Str → Option Value) → Prop) (n : Nat) (y : At (c.up Mu sg gs) O s) (h0 : J n sg)
    (turn : ∀ n sg s E', J n sg → At (c.up Mu sg gs) O s → wpAny (model c.prog c.w) c.A (isTrue test c.env (eval test c.env)) (fun b s₂ =>
      if b then wpAny (model c.prog c.w) c.A (execs body c.env) (fun f s₃ => f = .next ∧ ∃ m sg', m < n ∧ J m sg' ∧ At (c.up Mu sg' gs) O s₃) E' s₂ else Q .next s₂) E' s) :
    wpAny (model c.prog c.w) c.A (exec (.While test body [] pos) c.env) Q E s := by
  refine wpAny_While (codeAny_whileLoop (fun n s => ∃ sg, J n sg ∧ At (c.up Mu sg gs) O s) ?_ n ⟨sg, h0, y⟩)
  rintro n s ⟨sg, hJ, z⟩
  refine wpAny_mono (turn n sg s _ hJ z) (fun b s₂ h => ?_) fun _ _ e => e
  cases b with
  | true =>
    simp only [if_true] at h ⊢
    refine wpAny_mono h (fun f s₃ h₃ => ?_) fun _ _ e => e
    obtain ⟨rfl, m, sg', hm, hJ', z'⟩ := h₃
    exact ⟨m, hm, sg', hJ', z'⟩
  | false =>
    simp only [Bool.false_eq_true, if_false] at h ⊢
    exact wpAny_execs_nil h

theorem At.toLI {X Y : Led} {D : Addr} {xs : List Value} (x : At { c with Mu := X ++ (D, LP xs) :: Y } O s) (hwc : c.wc = true) : At { c with Mu := X ++ (D, LI xs) :: Y } O s := by
  have y : At { c with Mu := (D, LP xs) :: (X ++ Y) } O s := At.mu_perm (c := c) x List.perm_middle
  have z : At { c with Mu := (D, LI xs) :: (X ++ Y) } O s := At.alts (L := [(D, LP xs)]) (L' := [(D, LI xs)]) y hwc (Alt.refl _ s) rfl fun p hp => by rw [List.mem_singleton.mp hp]; exact (y.mu _ (.head _)).toLI
  exact At.mu_perm (c := c) z List.perm_middle.symm
end
end Mine

namespace Mine

/-- a def's frame: what stands at the call is the base -/
abbrev fnC (c : Cx) (h : Heap) (f : Addr) (name : Str) (i : Nat) (cd : Addr) (pm : Value) (sg : Str → Option Value) : Cx :=
  { c with A := c.A.deeper (callEnvC (fdOf name i cd pm) h.objs.size f), B := h, env := callEnvC (fdOf name i cd pm) h.objs.size f, wc := true, Mu := [], sg := sg }

abbrev two (x1 x2 : Str) (v1 v2 : Value) : Str → Option Value := upd (upd (fun _ => none) x1 v1) x2 v2

/-- the looks at a def's scope that the kernel makes -/
def fnLook (i : Nat) : Bool :=
  decide (((cellsFrom 1 (fnScope i).names []).map (·.1)).Nodup) && ((cellsFrom 1 (fnScope i).names []).map (·.1)).all fun y => (fnScope i).names.lookup y != some .local

theorem cells_names (k : Nat) : ∀ (names : List (Str × NameKind)) (acc acc' : List (Str × Addr)) (m : Nat), acc.map (·.1) = acc'.map (·.1) → (cellsFrom k names acc).map (·.1) = (cellsFrom m names acc').map (·.1) := by
  intro names
  induction names generalizing k with
  | nil => intro acc acc' m h; exact h
  | cons p r ih =>
    intro acc acc' m h
    obtain ⟨n, kd⟩ := p
    unfold cellsFrom
    split
    · exact ih _ _ _ _ (by simp [h])
    · exact ih _ _ _ _ h

section
variable {c : Cx} {O : Led} {s s' : Shared}
theorem fn_at {f cd : Addr} {name x1 x2 : Str} {i : Nat} {pm v1 v2 : Value} (x : At c O s) (hl : fnLook i = true) (hne : x1 ≠ x2)
    (z : InCallC s (callEnvC (fdOf name i cd pm) s.heap.objs.size f).locals (bindL (callEnvC (fdOf name i cd pm) s.heap.objs.size f).kindOf [(x1, v1), (x2, v2)] fun _ => none) (callEnvC (fdOf name i cd pm) s.heap.objs.size f).cells
      (bindC (callEnvC (fdOf name i cd pm) s.heap.objs.size f).kindOf [(x1, v1), (x2, v2)] fun _ => none) s') : At (fnC c s.heap f name i cd pm (two x1 x2 v1 v2)) O s' := by
  obtain ⟨⟨⟨h', tk, rfl⟩, hns, hkeep, hfresh⟩, hcell, hap, hab⟩ := z
  unfold fnLook at hl
  rw [Bool.and_eq_true, decide_eq_true_iff, List.all_eq_true] at hl
  have en : (callEnvC (fdOf name i cd pm) s.heap.objs.size f).cells.map (·.1) = (cellsFrom 1 (fnScope i).names []).map (·.1) := cells_names _ (fnScope i).names [] [] _ rfl
  have nd : ((callEnvC (fdOf name i cd pm) s.heap.objs.size f).cells.map (·.1)).Nodup := by rw [en]; exact hl.1
  have nl : ∀ y a, (callEnvC (fdOf name i cd pm) s.heap.objs.size f).cells.lookup y = some a → (callEnvC (fdOf name i cd pm) s.heap.objs.size f).kindOf y ≠ some .local := fun y a h => by
    have := hl.2 y (by rw [← en]; exact List.mem_map.mpr ⟨(y, a), mem_of_lookup h, rfl⟩)
    have h' : ¬ (List.lookup y (fnScope i).names = some NameKind.local) := by simpa using this
    exact h'
  have sgs : ∀ y v, two x1 x2 v1 v2 y = some v → (y = x2 ∧ v = v2) ∨ (y = x1 ∧ v = v1) := fun y v hv => by
    have hv' : upd (upd (fun _ => none) x1 v1) x2 v2 y = some v := hv
    by_cases h : y = x2
    · subst h; rw [upd_same] at hv'; exact .inl ⟨rfl, (Option.some.inj hv').symm⟩
    · rw [upd_ne h] at hv'
      by_cases h' : y = x1
      · subst h'; rw [upd_same] at hv'; exact .inr ⟨rfl, (Option.some.inj hv').symm⟩
      · rw [upd_ne h'] at hv'; cases hv'
  have pl : ∀ a, a ∈ (fnC c s.heap f name i cd pm (two x1 x2 v1 v2)).places → s.heap.objs.size ≤ a := fun a ha => by
    rcases Cx.mem_places.mp ha with h | ⟨_, y, h⟩ | ⟨p, h⟩
    · rw [h]; exact Nat.le_refl _
    · exact Nat.le_of_lt (hab y a h)
    · cases h
  refine ⟨fun b o e => hkeep b o e, fun p hp => (x.own p hp).keep fun o e => hkeep _ o e, (fun p hp => nomatch hp), ⟨_, hns, fun y v hy hv => ?_⟩, fun y a v hy hv => ?_, fun p hp => ⟨_, hcell p.1 p.2 (lookup_of_mem nd p hp)⟩, ?_, fun p hp h => ?_, fun b o e h => ?_, x.gens, x.os, x.In, x.gl, x.bi, x.nolimit⟩
  · rcases sgs y v hv with ⟨rfl, rfl⟩ | ⟨rfl, rfl⟩
    · have hy' : (callEnvC (fdOf name i cd pm) s.heap.objs.size f).kindOf y = some .local := hy
      simp only [bindL, hy', if_true]
    · have hy' : (callEnvC (fdOf name i cd pm) s.heap.objs.size f).kindOf y = some .local := hy
      simp only [bindL, hy', if_true]
      split
      · simp [hne]
      · simp
  · have hy' := nl y a hy
    have := hcell y a hy
    have e : bindC (callEnvC (fdOf name i cd pm) s.heap.objs.size f).kindOf [(x1, v1), (x2, v2)] (fun _ => none) y = some v := by
      rcases sgs y v hv with ⟨rfl, rfl⟩ | ⟨rfl, rfl⟩
      · simp only [bindC, if_neg hy', if_true]
      · simp only [bindC, if_neg hy', if_true]
        split
        · simp
        · simp [hne]
    rw [e] at this
    exact this
  · show (s.heap.objs.size :: ((callEnvC (fdOf name i cd pm) s.heap.objs.size f).cells.map (·.2) ++ [])).Nodup
    rw [List.append_nil, List.nodup_cons]
    refine ⟨fun h => ?_, ?_⟩
    · obtain ⟨p, hp, e⟩ := List.mem_map.mp h
      have := hab p.1 p.2 hp
      rw [e] at this
      exact Nat.lt_irrefl _ this
    · unfold List.Nodup; rw [List.pairwise_map]; exact hap
  · obtain ⟨o, e, _⟩ := x.own p hp
    exact absurd (Heap.lt_size e) (Nat.not_lt.mpr (pl _ h))
  · exact absurd (Heap.lt_size e) (Nat.not_lt.mpr (pl b h))

theorem Own.fn {h : Heap} {f cd : Addr} {name : Str} {i : Nat} {pm : Value} {sg : Str → Option Value} (o : Own c) (hd : c.A.depth + 11 < recursionLimit) : Own (fnC c h f name i cd pm sg) :=
  ⟨⟨o.std.hh, rfl, rfl, o.std.len, o.std.range, o.std.list, o.std.iter, o.std.next⟩, o.ok, by show c.A.depth + 1 + 10 < recursionLimit; omega, o.cls, o.box, o.far⟩

/-- all that stood stands, whatever else of the state has moved -/
theorem At.grown {N : Led} (x : At c O s) (k : ∀ b o, s.heap.get? b = some o → s'.heap.get? b = some o) (hg : s'.gens = s.gens) (ho : s'.os = s.os) (n : ∀ p ∈ N, s.heap.get? p.1 = none ∧ Has s'.heap p) : At c (N ++ O) s' := by
  refine ⟨fun b o e => k _ _ (x.base b o e), fun p hp => ?_, fun p hp => (x.mu p hp).keep fun o e => k _ _ e, ?_, fun y a v hy hv => ?_, fun p hp => ?_, x.nodup, fun p hp => ?_, x.offB, hg.trans x.gens, ho.trans x.os, x.kin, x.tg, x.tb, x.nl⟩
  · rcases List.mem_append.mp hp with h | h
    · exact (n p h).2
    · exact (x.own p h).keep fun o e => k _ _ e
  · obtain ⟨m, hn, hm⟩ := x.ns
    exact ⟨m, hn.keeps fun b o e => k b o e, hm⟩
  · exact (x.cell y a v hy hv).keeps fun b o e => k b o e
  · obtain ⟨v, hv⟩ := x.cellAlive p hp
    exact ⟨v, hv.keeps fun b o e => k b o e⟩
  · rcases List.mem_append.mp hp with h | h
    · exact fun hq => x.alive hq (n p h).1
    · exact x.offO p h

theorem fn_call {f cd : Addr} {name x1 x2 : Str} {i : Nat} {pm v1 v2 : Value} {P : Value → Led → Prop} {E : Value → Shared → Prop} {Q : Value → Shared → Prop} (o : Own c) (hfn : c.K.lookup f = some ⟨.type "function", none, .func (fdOf name i cd pm), #[]⟩) (hcode : codeIn c.K (.ref cd) name = true)
    (hl : fnLook i = true) (hne : x1 ≠ x2) (hbind : bindArgs (fdOf name i cd pm) ⟨[v1, v2], []⟩ = pure [(x1, v1), (x2, v2)])
    (hkind : ∀ L : Addr, ∀ x ∈ [(x1, v1), (x2, v2)], (fdOf name i cd pm).scope.names.lookup x.1 = some .local ∨ ((fdOf name i cd pm).scope.names.lookup x.1 = some .cell ∧ ((cellsFrom (L + 1) (fdOf name i cd pm).scope.names []).lookup x.1).isSome = true))
    (body : ∀ s s' E, At c O s → At (fnC c s.heap f name i cd pm (two x1 x2 v1 v2)) O s' → wpAny (model c.prog c.w) (fnC c s.heap f name i cd pm (two x1 x2 v1 v2)).A (execs (fnBody i) (fnC c s.heap f name i cd pm (two x1 x2 v1 v2)).env)
      (fun fl s'' => ∃ v c'' O'' N, fl = .ret v ∧ P v N ∧ c''.B = s.heap ∧ c''.gs = c.gs ∧ c''.os = c.os ∧ At c'' O'' s'' ∧ ∀ p ∈ N, p ∈ O'' ∧ s.heap.get? p.1 = none) E s')
    (x : At c O s) (k : ∀ v N s', P v N → At c (N ++ O) s' → Q v s')
    (hco : (fdOf name i cd pm).scope.isCoroutine = false := by rfl) (hgen : (fdOf name i cd pm).scope.isGenerator = false := by rfl) (hk : (fdOf name i cd pm).scope.kind = .function := by rfl) :
    wpAny (model c.prog c.w) c.A (call (.ref f) [v1, v2]) Q E s := by
  have hroom : c.A.depth < recursionLimit := by have := o.room; omega
  refine wpAny_call (codeAny_call_cells (fd := fdOf name i cd pm) (body := fnBody i) (binds := [(x1, v1), (x2, v2)]) hroom (x.In _ _ hfn) rfl x.nolimit (codeRec_of x.In hcode) rfl hbind rfl (hkind _) (fun s₁ z => ?_) hco hgen hk)
  refine wpAny_mono (body s s₁ _ x (fn_at x hl hne z)) ?_ fun _ _ e => e
  rintro fl s'' ⟨v, c'', O'', N, rfl, hP, hB, hgs, hos, y, hN⟩
  exact k v N s'' hP (x.grown (fun b o e => y.base b o (hB ▸ e)) (y.gens.trans (hgs.trans x.gens.symm)) (y.os.trans (hos.trans x.os.symm)) fun p hp => ⟨(hN p hp).2, y.own p (hN p hp).1⟩)

/-- a call of a def by its name, two arguments -/
theorem e_fn2 {f : Addr} {name : Str} {e1 e2 : Expr} {p pos : Pos} {v1 : Value} {P2 : Value → Prop} {E : Value → Shared → Prop} {Q : Value → Shared → Prop} (S : Std c) (hg : c.mg name = some (.ref f)) (hkp : keepIn c.K (.ref f) = true) (x : At c O s)
    (h1 : TV c O (eval e1 c.env) (· = v1)) (h2 : TV c O (eval e2 c.env) P2) (k : ∀ v2 s', P2 v2 → At c O s' → wpAny (model c.prog c.w) c.A (call (.ref f) [v1, v2]) Q E s')
    (hk : c.env.kindOf name = some .globalImplicit := by rfl) (hf : c.env.scope.kind = .function := by rfl) (hs : starEach [e1, e2] c.env = [(false, eval e1 c.env), (false, eval e2 c.env)] := by rfl) (hd : (name == ("__debug__" : Str)) = false := by decide) :
    wpAny (model c.prog c.w) c.A (eval (.Call (.Name name p) [e1, e2] [] pos) c.env) Q E s :=
  Call_Name2 ((e_glob hg hk S.gl hf hd).use x fun f s₁ e₁ k₁ x₁ => by
    subst e₁
    refine callWith_of (P := c.K.In) (args := [(false, eval e1 c.env), (false, eval e2 c.env)]) rfl (keeps_K hkp) (evalArgs_plain (spliced_cons (h1.use x₁ fun v s₂ q k₂ x₂ => spliced_cons (h2.use x₂ fun u s₃ q' k₃ x₃ => spliced_nil ⟨x₃.In, ?_⟩))))
    subst q
    exact k u s₃ q' x₃) hs
end
end Mine

namespace Mine

section
variable {c : Cx} {O : Led} {s s' : Shared} {E : Value → Shared → Prop}

/-- append; what is new is told so -/
theorem x_append_fr {x : Str} {p apos pos spos : Pos} {e : Expr} {D : Addr} {xs : List Value} {X Y : Led} {P : Value → Led → Prop} {Q : Flow → Shared → Prop} (hwc : c.wc = true) (hMu : c.Mu = X ++ (D, LP xs) :: Y) (y : At c O s)
    (h1 : TV c O (eval (.Name x p) c.env) (· = .ref D)) (h2 : Tr c O (eval e c.env) P) (hn : xs.length ≤ 100000)
    (k : ∀ v N s', P v N → (∀ q ∈ N, c.B.get? q.1 = none) → At { c with Mu := X ++ (D, LP (xs ++ [v])) :: Y } (N ++ O) s' → Q .next s')
    (hbase : attributeBase (.Name x p) "append" c.env (eval (.Name x p) c.env) = eval (.Name x p) c.env := by rfl)
    (hfew : ((backTo pos (starEach [e] c.env)).all (fun x => !x.1) && (backToKw pos (keywordEach [] c.env)).all (fun x => x.1.isSome)
      && decide (([e] : List Expr).length + ([] : List Keyword).length + (if ([] : List Keyword).isEmpty then 0 else 1) < 30)) = true := by rfl)
    (hline : (apos.endLine == pos.line) = true := by rfl) (htrees : backTo pos (starEach [e] c.env) = [(false, eval e c.env)] := by rfl)
    (hi : interactive c.env = false := by rfl) (hs : swapsWith (.Call (.Attribute (.Name x p) "append" apos) [e] [] pos) none spos.line c.env = pure false := by rfl) :
    wpAny (model c.prog c.w) c.A (exec (.Expr (.Call (.Attribute (.Name x p) "append" apos) [e] [] pos) spos) c.env) Q E s := by
  refine x_append_at hwc hMu y h1 (P := fun v N => P v N ∧ ∀ q ∈ N, c.B.get? q.1 = none) (fun s E z => (h2.use z fun v s₁ N p g _ => ⟨N, ⟨p, fun q hq => ?_⟩, g⟩)) hn (fun v N s' hp z => k v N s' hp.1 hp.2 z) hbase hfew hline htrees hi hs
  have h3 := (g.2 q hq).1
  cases e3 : c.B.get? q.1 with
  | none => rfl
  | some o => rw [z.base _ _ e3] at h3; cases h3

/-- extend by a list -/
theorem x_extend {x : Str} {p apos pos spos : Pos} {e : Expr} {D : Addr} {xs : List Value} {X Y : Led} {P : Value → Led → Prop} {Q : Flow → Shared → Prop} (hwc : c.wc = true) (hMu : c.Mu = X ++ (D, LP xs) :: Y) (y : At c O s)
    (h1 : TV c O (eval (.Name x p) c.env) (· = .ref D)) (h2 : Tr c O (eval e c.env) P)
    (hp : ∀ v N, P v N → ∃ b ys, v = .ref b ∧ (b, LP ys) ∈ N ++ O ∧ xs.length + ys.length ≤ 100000)
    (k : ∀ v N b ys s', P v N → v = .ref b → (b, LP ys) ∈ N ++ O → (∀ q ∈ N, c.B.get? q.1 = none) → At { c with Mu := X ++ (D, LP (xs ++ ys)) :: Y } (N ++ O) s' → Q .next s')
    (hbase : attributeBase (.Name x p) "extend" c.env (eval (.Name x p) c.env) = eval (.Name x p) c.env := by rfl)
    (hfew : ((backTo pos (starEach [e] c.env)).all (fun x => !x.1) && (backToKw pos (keywordEach [] c.env)).all (fun x => x.1.isSome)
      && decide (([e] : List Expr).length + ([] : List Keyword).length + (if ([] : List Keyword).isEmpty then 0 else 1) < 30)) = true := by rfl)
    (hline : (apos.endLine == pos.line) = true := by rfl) (htrees : backTo pos (starEach [e] c.env) = [(false, eval e c.env)] := by rfl)
    (hi : interactive c.env = false := by rfl) (hs : swapsWith (.Call (.Attribute (.Name x p) "extend" apos) [e] [] pos) none spos.line c.env = pure false := by rfl) :
    wpAny (model c.prog c.w) c.A (exec (.Expr (.Call (.Attribute (.Name x p) "extend" apos) [e] [] pos) spos) c.env) Q E s := by
  have hD : (D, LP xs) ∈ c.Mu := by rw [hMu]; exact List.mem_append_right _ (.head _)
  refine wpAny_Expr_any (wpAny_Call_method hbase hfew hline PySem.F.plainAttrs_list PySem.F.slot_list_extend PySem.F.type_list_extend (h1.use y fun v s₁ q k₁ y₁ => ?_)) hi hs
  subst q
  refine ⟨(y₁.mu _ hD).isList.typeIs, fun a ha => ?_, ?_⟩
  · cases ha
    obtain ⟨o, eo, n, rfl⟩ := y₁.mu _ hD
    exact ⟨_, eo, rfl⟩
  rw [htrees]
  refine PySem.P.extend_list (h2.use y₁ fun v s₂ N p g y₂ => ?_)
  obtain ⟨b, ys, rfl, hb, hn⟩ := hp v N p
  obtain ⟨o, eo, n, rfl⟩ := y₂.mu _ hD
  obtain ⟨o', eo', n', rfl⟩ := y₂.own _ hb
  have hsz : xs.toArray.size + ys.toArray.size ≤ sizeLine := by rw [List.size_toArray, List.size_toArray]; exact small_line hn
  refine ⟨b, xs.toArray, ys.toArray, n, n', by omega, by omega, extend_door hsz, rfl, eo, eo', k _ N b ys _ p rfl hb (fun q hq => ?_) ?_⟩
  · have h3 := (g.2 q hq).1
    cases e3 : c.B.get? q.1 with
    | none => rfl
    | some o => rw [y₁.base _ _ e3] at h3; cases h3
  · have y₃ : At { c with Mu := (D, LP xs) :: (X ++ Y) } (N ++ O) s₂ := At.mu_perm (c := c) (by rw [← hMu]; exact y₂) List.perm_middle
    have hsb := Heap.SameBut.update s₂.heap D (Obj.mapSeq fun x => x ++ ys.toArray)
    have y₄ := At.setMu (c := c) (p' := LP (xs ++ ys)) y₃ hwc (Alt.of_same (tk := s₂.toks) hsb) ⟨_, Heap.get?_update_self _ eo (by rw [mapSeq_app]; rfl), by rw [mapSeq_app]; exact ⟨_, by rw [show xs.toArray ++ ys.toArray = (xs ++ ys).toArray from by simp]⟩⟩
    exact At.mu_perm (c := c) y₄ List.perm_middle.symm

/-- a comprehension over a tuple of pairs that is made on the spot -/
theorem e_compT {x x2 : Str} {px px2 pt pos : Pos} {kk : Nat} {iter elt : Expr} {ifs : List Expr} {scope : Scope} (RI : List (Value × Value) → Prop) (hh : c.A.handled = none)
    (h : Tr c O (eval iter c.env) fun v N => ∃ t vs items, v = .ref t ∧ (t, TP vs) ∈ N ∧ Paired (IsPair N) items vs ∧ RI items ∧ items.length ≤ 100000)
    (p : Value × Value → Bool) (F : Value × Value → Value → Led → Prop) (hF : ∀ a y N N', F a y N → (∀ q ∈ N, q ∈ N') → F a y N')
    (tests : ∀ items N (i : Nat) a v C, RI items → items[i]? = some a → IsPair (N ++ O) a v → TV (c.comp scope (c.cl scope) C (csg2 c.sg (c.cl scope) x x2 a.1 a.2)) (N ++ O) (testsOf ifs (compEnvC scope (c.cl scope) C c.env)) (· = p a))
    (elem : ∀ items N (i : Nat) a v C, RI items → items[i]? = some a → IsPair (N ++ O) a v → p a = true → Tr (c.comp scope (c.cl scope) C (csg2 c.sg (c.cl scope) x x2 a.1 a.2)) (N ++ O) (eval elt (compEnvC scope (c.cl scope) C c.env)) (F a))
    (hl : scopeLook c scope = true := by rfl) (hk : scope.kind = .function := by rfl) (hx : scope.names.lookup x = some .local := by rfl) (hx2 : scope.names.lookup x2 = some .local := by rfl)
    (hs : ∀ x, foldedSetIterable iter c.env x = pure x := by intro _; rfl) :
    Tr c O (eval (.ListComp elt [⟨.Tuple [.Name x px, .Name x2 px2] kk pt, iter, ifs, 0⟩] scope pos) c.env) (fun r N => ∃ D ys N1 items, r = .ref D ∧ N = (D, LP ys) :: N1 ∧ RI items ∧ Paired (fun a y => F a y N1) (items.filter p) ys) := fun s E y => by
  rw [eval_ListComp]
  refine wpAny_comprehension_free (use := none) rfl hs (closureFor_eq (scopeLook_free hl)) hk (scopeLook_ok hl hk).names (h.use y fun v s₁ N0 pv g y₁ => ?_)
  obtain ⟨t, vs, items, rfl, hm, hP, hRI, hn⟩ := pv
  have hT := (y₁.own _ (List.mem_append_left _ hm)).isTuple
  refine wpAny_pyIter_tuple hT ?_
  have hlt : t < s₁.heap.objs.size := by obtain ⟨o, ho, _⟩ := hT; exact Heap.lt_size ho
  have W := Walks.tuple (prog := c.prog) (w := c.w) (A := c.A) hh s₁.heap.objs.size t (Nat.ne_of_lt hlt) vs.toArray
  have hlen : vs.toArray.size = items.length := by rw [List.size_toArray, hP.length]
  refine comp_core (O := N0 ++ O) (RR := fun acc C => compPost _ _ _ none _ acc C) (items := items) (R := IsPair (N0 ++ O)) (s := s₁) p F hF (fun a _ => csg2 c.sg (c.cl scope) x x2 a.1 a.2) (fun y a h => cl_lookup h) cl_mem (scopeLook_ok hl hk) (bind_pair hh hl hk hx hx2) (fun _ _ => csg2_sub (cl_not hl hx) (cl_not hl hx2))
    (fun i a v C => tests items N0 i a v C hRI) (fun i a v C => elem items N0 i a v C hRI) hn y₁ Kp.push (fq := [t]) (Walks.cong W hlen fun i v hi e => ?_) ⟨⟨_, Heap.get?_push_size _ rfl, rfl, rfl⟩, hT.push _⟩ (fresh_size _) ?_ ?_ ?_
  · have hi' : i < items.length := by rw [← hlen]; exact hi
    obtain ⟨T, h1, h2⟩ := paired_get hP i items[i] v (by simp [hi']) (by simpa using e)
    exact ⟨items[i], by simp [hi'], T, h1, List.mem_append_left _ h2⟩
  · rintro i h ⟨⟨o, ho, _⟩, ⟨o', ho', _⟩⟩ b hb
    simp only [List.mem_cons, List.not_mem_nil, or_false] at hb
    rcases hb with rfl | rfl
    · rw [ho]; simp
    · rw [ho']; simp
  · rintro i h ⟨⟨o, ho, hc, _⟩, _⟩
    exact ⟨o, "tuple_iterator", ho, hc, by decide⟩
  · intro D C s' ys N m kp x' new hns nC pC neC hP'
    refine ⟨m, hns, fun h' hs' => ⟨(D, LP ys) :: (N ++ N0), ⟨D, ys, N ++ N0, items, rfl, rfl, hRI, hP'.mono fun a y hf => hF a y N _ hf fun q hq => List.mem_append_left _ hq⟩, ?_, fun q hq => ?_⟩⟩
    · refine g.1.trans ?_
      obtain ⟨h1, t1, rfl, k1⟩ := kp
      exact ⟨h', t1, rfl, fun b o e => hs'.extBut b o (fun h => by rw [h, nC] at e; cases e) (k1 b o e)⟩
    · have hq' : q ∈ (D, LP ys) :: (N ++ (N0 ++ O)) := by
        rcases List.mem_cons.mp hq with h | h
        · exact h ▸ .head _
        · rcases List.mem_append.mp h with h | h
          · exact .tail _ (List.mem_append_left _ h)
          · exact .tail _ (List.mem_append_right _ (List.mem_append_left _ h))
      refine ⟨?_, (x'.own q hq').keep fun o e => hs'.extBut _ o (neC q hq') e⟩
      rcases List.mem_cons.mp hq with h | h
      · exact g.1.none (new q (h ▸ .head _))
      · rcases List.mem_append.mp h with h | h
        · exact g.1.none (new q (.tail _ h))
        · exact (g.2 q h).1

theorem e_lenT {e : Expr} {p pos : Pos} {l : Addr} {xs : List Value} (S : Std c) (h : TV c O (eval e c.env) (· = .ref l)) (hl : InL c O (l, TP xs)) (hn : xs.length ≤ 100000)
    (hk : c.env.kindOf "len" = some .globalImplicit := by rfl) (hf : c.env.scope.kind = .function := by rfl) (hs : starEach [e] c.env = [(false, eval e c.env)] := by rfl) :
    TV c O (eval (.Call (.Name "len" p) [e] [] pos) c.env) (IsInt xs.length) := fun s E x =>
  Call_Name1 ((e_bi S.len.1 S.len.2 hk S.gl S.bu hf).use x fun f s₁ e₁ k₁ x₁ => by
    subst e₁
    exact callWith_builtin (args := [(false, eval e c.env)]) rfl (evalArgs_plain (spliced_cons (h.use x₁ fun v s₂ e₂ k₂ x₂ => by
      subst e₂
      exact spliced_nil (PyProof.Rows.len_tuple (x₂.has hl).isTup (by rw [List.size_toArray]; omega) ⟨⟨_, by rw [List.size_toArray]⟩, k₁.trans (k₂.trans Kp.toks)⟩)))) ) hs

/-- type(e), for a tuple -/
theorem e_typeT {e : Expr} {p pos : Pos} {l : Addr} {xs : List Value} (S : Std c) (hty : c.mg "type" = none ∧ c.mb "type" = some (.type "type")) (h : TV c O (eval e c.env) (· = .ref l)) (hl : InL c O (l, TP xs))
    (hk : c.env.kindOf "type" = some .globalImplicit := by rfl) (hf : c.env.scope.kind = .function := by rfl) (hs : starEach [e] c.env = [(false, eval e c.env)] := by rfl) :
    TV c O (eval (.Call (.Name "type" p) [e] [] pos) c.env) (· = .type "tuple") := fun s E x =>
  Call_Name1 ((e_bi hty.1 hty.2 hk S.gl S.bu hf).use x fun f s₁ e₁ k₁ x₁ => by
    subst e₁
    exact PyProof.Rows.callWith_type (args := [(false, eval e c.env)]) rfl (evalArgs_plain (spliced_cons (h.use x₁ fun v s₂ e₂ k₂ x₂ => by
      subst e₂
      exact spliced_nil (call_type_of (x₂.has hl).isTuple.typeIs (by decide) ⟨rfl, k₁.trans k₂⟩)))) ) hs

/-- sum(e), for a list of ints -/
theorem e_sum {e : Expr} {p pos : Pos} {l : Addr} {vs : List Value} {ns : List Int} (S : Std c) (hsu : c.mg "sum" = none ∧ c.mb "sum" = some (.builtin "sum")) (h : TV c O (eval e c.env) (· = .ref l)) (hl : ∀ s, At c O s → s.heap.IsList l vs.toArray) (hi : IntsAre vs ns)
    (hk : c.env.kindOf "sum" = some .globalImplicit := by rfl) (hf : c.env.scope.kind = .function := by rfl) (hs : starEach [e] c.env = [(false, eval e c.env)] := by rfl) :
    TV c O (eval (.Call (.Name "sum" p) [e] [] pos) c.env) (IsInt ns.sum) := fun s E x =>
  Call_Name1 ((e_bi hsu.1 hsu.2 hk S.gl S.bu hf).use x fun f s₁ e₁ k₁ x₁ => by
    subst e₁
    refine callWith_builtin (args := [(false, eval e c.env)]) rfl (evalArgs_plain (spliced_cons (h.use x₁ fun v s₂ e₂ k₂ x₂ => ?_)))
    subst e₂
    obtain ⟨xs, hx⟩ := hi.allInts.items
    refine spliced_nil (sum_intListG S.hh (hx ▸ hl _ x₂) fun h' tk t' kp => ?_)
    have e1 : ns = xs.toList.map (·.1) := by
      rw [← nums_intItems, ← hx]
      exact (show numsOf vs.toArray.toList = ns from hi.numsOf).symm
    have e2 : preSum (numAt xs) xs.size = ns.sum := by
      rw [preSum_eq, List.take_of_length_le (by simp), e1]
    rw [e2]
    exact ⟨⟨_, rfl⟩, (k₁.trans k₂).trans ⟨h', tk, rfl, kp⟩⟩) hs

/-- the loop of list(..) over a walk -/
theorem walk_loop {A : Around} {S ga : Addr} {sg : Str → Option Value} {res : Value} {R : Result → Shared → Prop} (hwc : c.wc = true) (I : Nat → List Value → Led → Array GenState → Led → Prop) (Fin : List Value → Led → Array GenState → Led → Prop)
    (hI : ∀ j acc Mu gs O, I j acc Mu gs O → acc.length + j ≤ 100000)
    (turn : ∀ j acc Mu gs O s E, I j acc Mu gs O → At (c.up (Mu ++ [(S, LP acc)]) sg gs) O s → wpAny (model c.prog c.w) A.in1 (pyNext (.ref ga)) (fun r s' => match r with
      | none => ∃ Mu' gs' O', Fin acc Mu' gs' O' ∧ At (c.up (Mu' ++ [(S, LP acc)]) sg gs') O' s'
      | some v => ∃ m Mu' gs' O', m < j ∧ I m (acc ++ [v]) Mu' gs' O' ∧ At (c.up (Mu' ++ [(S, LP acc)]) sg gs') O' s') E s)
    (hR : ∀ acc Mu gs O s', Fin acc Mu gs O → At (c.up (Mu ++ [(S, LP acc)]) sg gs) O s' → R (.ok (.ret res)) s') :
    ∀ (n j : Nat) acc Mu gs O s, j ≤ n → I j acc Mu gs O → At (c.up (Mu ++ [(S, LP acc)]) sg gs) O s → codeAny (model c.prog c.w) A (.builtin "list.extend.loop" ⟨[.ref S, .ref ga, res], []⟩) R s := by
  intro n
  induction n with
  | zero =>
    intro j acc Mu gs O s hj hi y
    refine codeAny_builtin PySem.F.entry_extend_loop ?_
    rw [Around.under_plainId PySem.F.plain_extend_loop _]
    show wpAny _ A.in1 (pyNext (.ref ga) >>= _) _ _ s
    refine wpAny_bind (wpAny_mono (turn j acc Mu gs O s _ hi y) ?_ fun _ _ e => e)
    intro r s₁ h
    cases r with
    | none =>
      obtain ⟨Mu', gs', O', hf, y'⟩ := h
      exact wpAny_pure (hR acc Mu' gs' O' s₁ hf y')
    | some v =>
      obtain ⟨m, Mu', gs', O', hm, _⟩ := h
      omega
  | succ n ih =>
    intro j acc Mu gs O s hj hi y
    refine codeAny_builtin PySem.F.entry_extend_loop ?_
    rw [Around.under_plainId PySem.F.plain_extend_loop _]
    show wpAny _ A.in1 (pyNext (.ref ga) >>= _) _ _ s
    refine wpAny_bind (wpAny_mono (turn j acc Mu gs O s _ hi y) ?_ fun _ _ e => e)
    intro r s₁ h
    cases r with
    | none =>
      obtain ⟨Mu', gs', O', hf, y'⟩ := h
      exact wpAny_pure (hR acc Mu' gs' O' s₁ hf y')
    | some v =>
      obtain ⟨m, Mu', gs', O', hm, hi', y'⟩ := h
      have hsz := hI _ _ _ _ _ hi
      show wpAny _ A.in1 (updateSeq S (·.push v) >>= _) _ _ _
      refine wpAny_bind ?_
      have y₁ : At { c.up [] sg gs' with Mu := (S, LP acc) :: Mu' } O' s₁ := At.mu_perm (c := c.up [] sg gs') y' List.perm_append_comm
      obtain ⟨o, eo, cn, rfl⟩ := y₁.mu _ (.head _)
      have hU := Heap.get?_update_self (Obj.mapSeq (·.push v)) eo rfl
      have e0 : (Obj.mapSeq (·.push v) ({ cls := .type "list", dict := none, data := .seq acc.toArray cn, slots := #[] } : Obj)) = { cls := .type "list", dict := none, data := .seq (acc ++ [v]).toArray (cn + 1), slots := #[] } := by
        simp [Obj.mapSeq_push_plain]
      refine wpAny_updateSeq eo rfl (wpAny_pure ⟨plainId_quiet PySem.F.plain_extend_loop _, ih m (acc ++ [v]) Mu' gs' O' _ (by omega) hi' ?_⟩) ?_ ?_
      · have y₂ := At.setMu (c := c.up [] sg gs') (p' := LP (acc ++ [v])) y₁ hwc (Alt.of_same (tk := s₁.toks) (Heap.SameBut.update s₁.heap S (Obj.mapSeq (·.push v)))) ⟨_, hU, cn + 1, e0⟩
        exact At.mu_perm (c := c.up [] sg gs') y₂ (List.perm_append_singleton _ _).symm
      · rw [List.size_toArray]; exact small_line (by omega)
      · show (acc.toArray.push v).size ≤ sizeLine + 1
        rw [Array.size_push, List.size_toArray]
        have := small_line (n := acc.length) (by omega)
        omega

/-- list(walk) -/
theorem call_list_walk {A : Around} {ga : Addr} {g : Nat} {Mu : Led} {sg : Str → Option Value} {gs : Array GenState} {Q : Value → Shared → Prop} (hwc : c.wc = true) (I : Nat → List Value → Led → Array GenState → Led → Prop) (Fin : List Value → Led → Array GenState → Led → Prop)
    (hI : ∀ j acc Mu gs O, I j acc Mu gs O → acc.length + j ≤ 100000) {j : Nat} (h0 : I j [] Mu gs O) (y : At (c.up Mu sg gs) O s) (hga : (ga, GenP g) ∈ O)
    (turn : ∀ S j acc Mu gs O s E, I j acc Mu gs O → At (c.up (Mu ++ [(S, LP acc)]) sg gs) O s → wpAny (model c.prog c.w) A.in1.in1 (pyNext (.ref ga)) (fun r s' => match r with
      | none => ∃ Mu' gs' O', Fin acc Mu' gs' O' ∧ At (c.up (Mu' ++ [(S, LP acc)]) sg gs') O' s'
      | some v => ∃ m Mu' gs' O', m < j ∧ I m (acc ++ [v]) Mu' gs' O' ∧ At (c.up (Mu' ++ [(S, LP acc)]) sg gs') O' s') E s)
    (hQ : ∀ S acc Mu' gs' O' s', Fin acc Mu' gs' O' → At (c.up Mu' sg gs') ((S, LP acc) :: O') s' → Q (.ref S) s') :
    wpAny (model c.prog c.w) A (call (.type "list") [.ref ga]) Q E s := by
  refine callType_codes (Q₁ := fun obj s₁ => obj = .ref s.heap.objs.size ∧ s₁ = { s with heap := s.heap.push { cls := .type "list", data := .seq #[] } }) PySem.F.called_list (PySem.F.typeCall_list_1 _) PySem.F.entry_list_init
    (code_list_new _ ⟨rfl, rfl⟩) fun obj s₁ h₁ => ?_
  obtain ⟨rfl, rfl⟩ := h₁
  have hS : (s.heap.push { cls := .type "list", data := .seq #[] }).get? s.heap.objs.size = some { cls := .type "list", data := .seq #[] } := Heap.get?_push_size _ rfl
  have y₁ : At { c.up [] sg gs with Mu := (s.heap.objs.size, LP []) :: Mu } O { s with heap := s.heap.push { cls := .type "list", data := .seq #[] } } :=
    At.growMu (c := c.up [] sg gs) y (Grow.one (Kp.push (s := s)) (fresh_size _) Has.newList)
  refine ⟨⟨_, hS, rfl⟩, PySem.F.args_list_init_2 _ _, ?_⟩
  generalize hSe : s.heap.objs.size = S at *
  generalize (s.heap.push { cls := .type "list", data := .seq #[] } : Heap) = h1 at *
  show wpAny _ A.in1.in1 (do let old ← Builtin.List.listItems (.ref S); Builtin.List.listUpdate (.ref S) (fun _ => #[]); letGo old.toList.reverse; Builtin.List.listExtendWith (.ref S) (.ref ga) .none) _ _ _
  refine wpAny_bind ?_
  unfold Builtin.List.listItems
  refine wpAny_bind (wpAny_seqItems hS rfl (wpAny_pure ?_))
  show wpAny _ A.in1.in1 (updateSeq S (fun _ => #[]) >>= fun _ => letGo (#[] : Array Value).toList.reverse >>= fun _ => Builtin.List.listExtendWith (.ref S) (.ref ga) .none) _ _ _
  refine wpAny_bind (wpAny_updateSeq hS rfl ?_)
  have hS₂ := Heap.get?_update_self (Obj.mapSeq (fun _ => (#[] : Array Value))) hS rfl
  refine wpAny_bind (wpAny_letGo ?_)
  have y₂ := At.setMu (c := c.up [] sg gs) (p' := LP []) y₁ hwc (Alt.of_same (tk := s.toks) (Heap.SameBut.update h1 S (Obj.mapSeq (fun _ => (#[] : Array Value))))) ⟨_, hS₂, _, rfl⟩
  generalize h1.update S (Obj.mapSeq (fun _ => (#[] : Array Value))) = h2 at *
  have hG := (y₂.own _ hga).isGen
  have hT : ({ s with heap := h2 } : Shared).TypeIs (.ref ga) "generator" := hG.typeIs
  have hne : S ≠ ga := fun h => by
    have h3 := y₂.offO _ hga
    exact h3 (Cx.mem_places.mpr (.inr (.inr ⟨LP [], by rw [← h]; exact .head _⟩)))
  unfold Builtin.List.listExtendWith
  refine wpAny_bind (wpAny_typeOf hT ?_)
  have g1 : Builtin.List.listSameRef (.ref S) (.ref ga) = false := by simp [Builtin.List.listSameRef, hne]
  have g2 : (Value.type "generator" == Value.type "list") = false := by decide
  have g3 : (Value.type "generator" == Value.type "tuple") = false := by decide
  simp only [g1, g2, g3, Bool.or_false, Bool.false_eq_true, if_false]
  refine wpAny_bind (wpAny_pyIter_gen hG ?_)
  refine wpAny_bind (wpAny_holding ?_)
  unfold Builtin.List.listLengthHint
  refine wpAny_bind (wpAny_specialOf hT PySem.F.gen_no_len ?_)
  show wpAny _ A.in1.in1 (specialOf (Value.ref ga) (Str.ofString "__length_hint__") >>= _) _ _ _
  refine wpAny_bind (wpAny_specialOf hT PySem.F.gen_no_hint ?_)
  refine wpAny_pure ?_
  show wpAny _ A.in1.in1 (rule "list.extend.makes-room" >>= fun _ => Builtin.List.listTouch (.ref S) >>= fun _ =>
    again (.builtin "list.extend.loop" ⟨[.ref S, .ref ga, .none], []⟩)) _ _ _
  refine wpAny_bind (wpAny_rule ?_)
  refine wpAny_bind ?_
  show wpAny _ A.in1.in1 (updateSeq S (·.push .none) >>= fun _ => updateSeq S (·.pop)) _ _ _
  obtain ⟨o, eo, cn, rfl⟩ := y₂.mu _ (.head _)
  have eo' : h2.get? S = some { cls := .type "list", data := .seq #[] cn } := eo
  refine wpAny_bind (wpAny_updateSeq eo' rfl ?_)
  have hS₄ := Heap.get?_update_self (Obj.mapSeq (·.push Value.none)) eo' rfl
  refine wpAny_updateSeq (hz := by seq_fits) hS₄ rfl ?_
  have hS₅ := Heap.get?_update_self (Obj.mapSeq (·.pop)) hS₄ rfl
  have y₃ : At { c.up [] sg gs with Mu := (S, LP []) :: Mu } O { s with heap := (h2.update S (Obj.mapSeq (·.push Value.none))).update S (Obj.mapSeq (·.pop)) } := by
    refine At.setMu (c := c.up [] sg gs) (p' := LP []) y₂ hwc ⟨_, s.toks, rfl, fun b o hb e => ?_⟩ ⟨_, hS₅, _, rfl⟩
    have hb' : b ≠ S := by simpa using hb
    exact (Heap.get?_update_other _ _ (Ne.symm hb')).trans ((Heap.get?_update_other _ _ (Ne.symm hb')).trans e)
  refine wpAny_pure ⟨plainId_quiet PySem.F.plain_extend_loop _, walk_loop (A := A.in1) (sg := sg) hwc I Fin hI (turn S) (fun acc Mu' gs' O' s' hf z => ?_) j j [] Mu gs O _ (Nat.le_refl _) h0 (At.mu_perm (c := c.up [] sg gs) y₃ (List.perm_append_singleton _ _).symm)⟩
  refine ⟨rfl, hQ S acc Mu' gs' O' s' hf ?_⟩
  have z₁ : At { c.up [] sg gs' with Mu := (S, LP acc) :: Mu' } O' s' := At.mu_perm (c := c.up [] sg gs') z List.perm_append_comm
  exact At.toO (c := c.up [] sg gs') z₁ hwc
end
end Mine

namespace Mine

section
variable {c : Cx} {O : Led} {s s' : Shared} {E : Value → Shared → Prop}

/-- a comprehension's own frame, held among what is written -/
theorem At.toComp {scope : Scope} {cl : List (Str × Addr)} {C : Addr} {f sgv : Str → Option Value} {Mu : Led} (x : At { c with Mu := (C, NsP f) :: Mu } O s) (hcl : ∀ y a, cl.lookup y = some a → c.env.cells.lookup y = some a) (hclm : ∀ p ∈ cl, p ∈ c.env.cells)
    (hcs : ∀ y a u, cl.lookup y = some a → sgv y = some u → c.sg y = some u) (hloc : ∀ y u, (relabel scope c.env).names.lookup y = some .local → sgv y = some u → f y = some u) :
    At (({ c with Mu := Mu } : Cx).comp scope cl C sgv) O s := by
  obtain ⟨m, hns, hm⟩ := (x.mu _ (.head _)).ns
  have hC : C ∈ ({ c with Mu := (C, NsP f) :: Mu } : Cx).places := Cx.mem_places.mpr (.inr (.inr ⟨_, .head _⟩))
  have sub : ∀ a, a ∈ (({ c with Mu := Mu } : Cx).comp scope cl C sgv).places → a ∈ ({ c with Mu := (C, NsP f) :: Mu } : Cx).places := fun a ha => by
    rcases Cx.mem_places.mp ha with h | ⟨h, _⟩ | ⟨r, h⟩
    · rw [show a = C from h]; exact hC
    · cases h
    · exact Cx.mem_places.mpr (.inr (.inr ⟨r, .tail _ h⟩))
  refine ⟨x.base, x.own, fun p hp => x.mu p (.tail _ hp), ⟨m, hns, fun w u hw hu => hm w u (hloc w u hw hu)⟩, fun w b u hw hu => x.cell w b u (hcl w b hw) (hcs w b u hw hu), fun w hw => x.cellAlive w (hclm w hw), ?_, fun q hq h => x.offO q hq (sub _ h), fun b o e h => x.offB b o e (sub _ h), x.gens, x.os, x.kin, x.tg, x.tb, x.nl⟩
  have nd := x.nodup
  unfold Cx.places at nd ⊢
  rw [List.nodup_cons, List.nodup_append] at nd
  show (C :: ([] ++ Mu.map (·.1))).Nodup
  rw [List.nil_append]
  exact nd.2.2.1

/-- a comprehension's frame is let go -/
theorem At.endComp {Mu : Led} {sg : Str → Option Value} {gs : Array GenState} {D C : Addr} {acc : List Value} {f : Str → Option Value} {h' : Heap} (x : At (c.up (Mu ++ [(D, LP acc), (C, NsP f)]) sg gs) O s) (hwc : c.wc = true) (hs : Heap.SameBut C s.heap h') :
    At (c.up Mu sg gs) ((D, LP acc) :: O) { s with heap := h' } := by
  have x₁ : At { c.up [] sg gs with Mu := (C, NsP f) :: (D, LP acc) :: Mu } O s := At.mu_perm (c := c.up [] sg gs) x ((List.perm_append_comm (l₁ := Mu) (l₂ := [(D, LP acc), (C, NsP f)])).trans (List.Perm.swap _ _ _))
  have x₂ : At { c.up [] sg gs with Mu := (D, LP acc) :: Mu } O s := At.mu_sub (c := c.up [] sg gs) x₁ (List.sublist_cons_self _ _)
  have hC : C ∈ ({ c.up [] sg gs with Mu := (C, NsP f) :: (D, LP acc) :: Mu } : Cx).places := Cx.mem_places.mpr (.inr (.inr ⟨_, .head _⟩))
  have nd := x₁.nodup
  unfold Cx.places at nd
  dsimp only at nd
  rw [hwc, if_pos rfl, List.nodup_cons, List.nodup_append, List.map_cons, List.nodup_cons] at nd
  obtain ⟨n1, n2, n3, n4⟩ := nd
  have hC' : C ∉ ({ c.up [] sg gs with Mu := (D, LP acc) :: Mu } : Cx).places := by
    unfold Cx.places
    dsimp only
    rw [hwc, if_pos rfl]
    intro h
    rcases List.mem_cons.mp h with h | h
    · exact n1 (List.mem_append_right _ (by rw [← h]; exact .head _))
    · rcases List.mem_append.mp h with h | h
      · exact n4 _ h _ (.head _) rfl
      · exact n3.1 h
  have x₃ := x₂.moved (fp := []) (Alt.of_same (tk := s.toks) hs) hC' (fun p hp h => x₁.offO p hp (h ▸ hC)) (fun o e => x₁.offB C o e hC) (fun h => absurd (hwc.symm.trans h) (by simp))
  exact At.toO (c := c.up [] sg gs) x₃ hwc

theorem comp_walk {x x2 : Str} {px px2 pt pos : Pos} {kk : Nat} {iter elt : Expr} {scope : Scope} {ga : Addr} {g : Nat} {Mu : Led} {sg : Str → Option Value} {gs : Array GenState} {RR : Value → Addr → Result → Shared → Prop} (hwc : c.wc = true) (hh : c.A.handled = none)
    (hl : scopeLook c scope = true) (hk : scope.kind = .function) (hx : scope.names.lookup x = some .local) (hx2 : scope.names.lookup x2 = some .local)
    (I : Nat → List Value → Led → Array GenState → Led → Prop) (Fin : List Value → Led → Array GenState → Led → Prop) (hI : ∀ j acc Mu gs O, I j acc Mu gs O → acc.length + j ≤ 100000) {j : Nat} (h0 : I j [] Mu gs O) (y : At (c.up Mu sg gs) O s) (hga : (ga, GenP g) ∈ O)
    (turn : ∀ X j acc Mu gs O s E, I j acc Mu gs O → At (c.up (Mu ++ X) sg gs) O s → wpAny (model c.prog c.w) c.A (pyNext (.ref ga)) (fun r s' => match r with
      | none => ∃ Mu' gs' O', Fin acc Mu' gs' O' ∧ At (c.up (Mu' ++ X) sg gs') O' s'
      | some v => ∃ T p q Mu' gs' O', v = .ref T ∧ (T, TP [p, q]) ∈ O' ∧ (ga, GenP g) ∈ O' ∧ At (c.up (Mu' ++ X) sg gs') O' s' ∧
          ∀ C Y, Tr ((c.up (Mu' ++ Y) sg gs').comp scope (c.cl scope) C (csg2 sg (c.cl scope) x x2 p q)) O' (eval elt (compEnvC scope (c.cl scope) C c.env)) fun u N => ∃ m, m < j ∧ I m (acc ++ [u]) Mu' gs' (N ++ O')) E s)
    (hRR : ∀ D C acc Mu gs O s f, Fin acc Mu gs O → At (c.up (Mu ++ [(D, LP acc), (C, NsP f)]) sg gs) O s → RR (.ref D) C (.ok .next) s) :
    wpAny (model c.prog c.w) c.A (newList []) (fun acc s₃ => wpAny (model c.prog c.w) c.A (newFunctionEnv scope c.env.globals (c.cl scope) [] c.env.qual none .none (some c.env)) (fun cenv s₄ =>
      codeAny (model c.prog c.w) c.A (.compStart (.ListComp elt [⟨.Tuple [.Name x px, .Name x2 px2] kk pt, iter, [], 0⟩] scope pos) 0 (.ref ga) acc { cenv with scope := relabel scope c.env }) (RR acc cenv.locals) s₄) E s₃) E s := by
  have so := scopeLook_ok hl hk
  refine wpAny_newObj_type (wpAny_newFunctionEnv so.cell (by intro y hy; simp at hy) (fun h₁ hns₁ hsb₁ => ?_) so.kind)
  dsimp only at hns₁ hsb₁ ⊢
  have g1 : Grow [(s.heap.objs.size, LP [])] s { s with heap := s.heap.push { cls := .type "list", dict := none, data := .seq ([] : List Value).toArray } } := Grow.one Kp.push (fresh_size _) Has.newList
  have y1 := At.growMu (c := c.up [] sg gs) y g1
  generalize hH2 : s.heap.push { cls := .type "list", dict := none, data := .seq ([] : List Value).toArray } = H2 at hns₁ hsb₁ g1 y1 ⊢
  have g2 : Grow [(H2.objs.size, NsP fun _ => none)] { s with heap := H2 } { s with heap := h₁, toks := s.toks + ([] : List (Str × Value)).length } :=
    Grow.one ⟨h₁, _, rfl, fun b o e => hsb₁.extBut b o (Nat.ne_of_lt (Heap.lt_size e)) (Heap.get?_push_of_some _ e)⟩ (fresh_size _) (Has.of_ns hns₁ fun y v h => nomatch h)
  have y2 := At.growMu (c := c.up [] sg gs) y1 g2
  generalize s.heap.objs.size = D at *
  generalize H2.objs.size = C at *
  have y3 : At (c.up (Mu ++ [(D, LP []), (C, NsP fun _ => none)]) sg gs) O { s with heap := h₁, toks := s.toks + ([] : List (Str × Value)).length } :=
    At.mu_perm (c := c.up [] sg gs) y2 ((List.Perm.swap _ _ _).trans (List.perm_append_comm (l₁ := [(D, LP []), (C, NsP fun _ => none)]) (l₂ := Mu)))
  generalize ({ s with heap := h₁, toks := s.toks + ([] : List (Str × Value)).length } : Shared) = s₃ at *
  have loop : codeAny (model c.prog c.w) c.A (.compLoop (.ListComp elt [⟨.Tuple [.Name x px, .Name x2 px2] kk pt, iter, [], 0⟩] scope pos) 0 (.ref ga) (.ref D) (compEnvC scope (c.cl scope) C c.env)) (RR (.ref D) C) s₃ := by
    refine compLoop_any (fun n s' => ∃ acc Mu gs O f, I n acc Mu gs O ∧ At (c.up (Mu ++ [(D, LP acc), (C, NsP f)]) sg gs) O s') ?_ j ⟨[], Mu, gs, O, _, h0, y3⟩
    rintro n s' ⟨acc, Mu', gs', O', f, hi, z⟩
    refine wpAny_mono (turn _ n acc Mu' gs' O' s' _ hi z) (fun r s₁ h => ?_) fun _ _ e => e
    cases r with
    | none =>
      obtain ⟨Mu₁, gs₁, O₁, hF, z₁⟩ := h
      exact hRR D C acc Mu₁ gs₁ O₁ s₁ f hF z₁
    | some v =>
      obtain ⟨T, p, q, Mu₁, gs₁, O₁, rfl, hT, hg, z₁, el⟩ := h
      refine w_letgo (c := c) (z₁.own _ hg) ?_
      obtain ⟨m, hns, _⟩ := (z₁.mu (C, NsP f) (List.mem_append_right _ (.tail _ (.head _)))).ns
      refine bind_pair (c := c.up (Mu₁ ++ [(D, LP acc), (C, NsP f)]) sg gs₁) hh hl hk hx hx2 C (.ref T) (p, q) s₁ m _ _ ⟨T, rfl, hT⟩ z₁ hns fun s₄ m' al hns₄ hm' => ?_
      refine wpAny_tests_nil ?_
      rw [if_pos rfl]
      have pmC : ∀ f' : Str → Option Value, (Mu₁ ++ [(D, LP acc), (C, NsP f')]).Perm ((C, NsP f') :: (Mu₁ ++ [(D, LP acc)])) := fun f' => by
        have e : Mu₁ ++ [(D, LP acc), (C, NsP f')] = (Mu₁ ++ [(D, LP acc)]) ++ [(C, NsP f')] := by simp
        rw [e]; exact List.perm_append_comm
      have z₂ : At { c.up [] sg gs₁ with Mu := (C, NsP m') :: (Mu₁ ++ [(D, LP acc)]) } O₁ s₄ := At.setMu (c := c.up [] sg gs₁) (At.mu_perm (c := c.up [] sg gs₁) z₁ (pmC f)) hwc al (Has.of_ns hns₄ fun _ _ h => h)
      have z₃ := At.toComp (c := c.up [] sg gs₁) (scope := scope) (cl := c.cl scope) (sgv := csg2 sg (c.cl scope) x x2 p q) z₂ (fun y a h => cl_lookup h) cl_mem (csg2_sub (cl_not hl hx) (cl_not hl hx2)) hm'
      refine (el C [(D, LP acc)]).use z₃ fun u s₅ N hu g₅ _ => ?_
      obtain ⟨m₁, hm₁, hi'⟩ := hu
      have z₅ := z₂.grow g₅
      have pmD : ∀ acc' : List Value, ((C, NsP m') :: (Mu₁ ++ [(D, LP acc')])).Perm ((D, LP acc') :: (Mu₁ ++ [(C, NsP m')])) := fun acc' => by
        refine (List.Perm.cons _ List.perm_append_comm).trans ((List.Perm.swap _ _ _).trans (List.Perm.cons _ ?_))
        exact (List.perm_append_comm (l₁ := [(C, NsP m')]) (l₂ := Mu₁))
      have z₆ := At.mu_perm (c := c.up [] sg gs₁) z₅ (pmD acc)
      obtain ⟨o, eo, nn, rfl⟩ := z₆.mu _ (.head _)
      have hb := hI _ _ _ _ _ hi
      refine wpAny_list_append_plain ⟨nn, eo⟩ (fun h' hl' hsb => ⟨m₁, hm₁, acc ++ [u], Mu₁, gs₁, N ++ O₁, m', hi', ?_⟩) (by rw [List.size_toArray]; exact small_line (by omega))
      have z₇ : At { c.up [] sg gs₁ with Mu := (D, LP (acc ++ [u])) :: (Mu₁ ++ [(C, NsP m')]) } (N ++ O₁) { s₅ with heap := h' } := by
        refine At.setMu (c := c.up [] sg gs₁) z₆ hwc (Alt.of_same (tk := s₅.toks) hsb) ?_
        obtain ⟨n', e'⟩ := hl'
        exact ⟨_, e', n', by simp⟩
      refine At.mu_perm (c := c.up [] sg gs₁) z₇ ?_
      refine (pmD _).symm.trans ?_
      have e : Mu₁ ++ [(D, LP (acc ++ [u])), (C, NsP m')] = (Mu₁ ++ [(D, LP (acc ++ [u]))]) ++ [(C, NsP m')] := by simp
      rw [e]; exact (List.perm_append_singleton _ _).symm
  exact codeAny_compStart_list loop (wpAny_pyIter_gen (y3.own _ hga).isGen loop)
end
end Mine

namespace Mine

theorem fresh_B {c : Cx} {O : Led} {s : Shared} (y : At c O s) {a : Addr} (h : s.heap.get? a = none) : c.B.get? a = none := by
  cases e : c.B.get? a with
  | none => rfl
  | some o => rw [y.base a o e] at h; cases h

/-- a row's stretches, by their first and last numbers -/
def spansOf (ns : List Int) : List (Int × Int) := (List.range (startsOf ns).length).map fun j => (ns.getD ((startsOf ns).getD j 0) 0, ns.getD (nxt ns j - 1) 0)
theorem spansOf_length (ns : List Int) : (spansOf ns).length = (startsOf ns).length := by simp [spansOf]
theorem spansOf_get {ns : List Int} {j a : Nat} (h : (startsOf ns)[j]? = some a) : (spansOf ns)[j]? = some (ns.getD a 0, ns.getD (nxt ns j - 1) 0) := by
  have hj := (List.getElem?_eq_some_iff.mp h).1
  unfold spansOf
  rw [List.getElem?_map, List.getElem?_range hj]
  simp [List.getD_eq_getElem?_getD, h]

section
variable {c : Cx} {O : Led} {s s' : Shared} {E : Value → Shared → Prop}

/-- the first stretch of a walk over a list itself -/
theorem tell_list {A : Around} {Q : Option Value → Shared → Prop} {pm : Value} {G l ga : Addr} {g : Nat} {sg : Str → Option Value} {gs : Array GenState} {rvs : List Value} {ns : List Int} {X : Led}
    (x : At (c.up ((G, NsP (argMap (.ref l))) :: (l, LP rvs) :: X) sg gs) O s) (hwc : c.wc = true) (hh : A.handled = none) (hroom : A.depth + 30 < recursionLimit) (hga : (ga, GenP g) ∈ O) (hgs : gs[g]? = some (.fresh (.func (fnBody 1) (genC c pm G).env)))
    (o : GenOk c pm G) (hp : Paired (Bx O) ns rvs) (n0 : 0 < ns.length) (hn : ns.length ≤ 1000)
    (k : ∀ it T pv lastv f' st' gst' s', rvs[0]? = some pv → rvs[nxt ns 0 - 1]? = some lastv → WS c A.in1 pm G it l ns rvs 1 f' st' gst' → gst'.bare = true →
      At (c.up ((G, NsP f') :: (it, st'.P l) :: (l, LP rvs) :: X) sg (gs.setIfInBounds g gst')) ((T, TP [pv, lastv]) :: O) s' → Q (some (.ref T)) s') :
    wpAny (model c.prog c.w) A (pyNext (.ref ga)) Q E s := by
  have ha := starts_first n0
  have hb := seg_bounds ha
  have hrun := seg_run ha
  have hlen : ns.length = rvs.length := hp.length
  obtain ⟨pv, hpv⟩ : ∃ pv, rvs[0]? = some pv := ⟨rvs[0], by simp [show 0 < rvs.length from by omega]⟩
  have idx : ∀ lastv, (pv :: rvs.drop 1)[nxt ns 0 - 0 - 1]? = some lastv → rvs[nxt ns 0 - 1]? = some lastv := by
    intro lastv h2
    have : pv :: rvs.drop 1 = rvs := by
      have h3 : 0 < rvs.length := by omega
      cases rvs with
      | nil => simp at h3
      | cons r t => simp at hpv; simp [hpv]
    rw [this] at h2
    exact h2
  refine next_fresh_list (pm := pm) (n := 2000 - 1) (ns := ns) (pv := pv) (np := ns.getD 0 0) x hwc hh hroom hga hgs o upd_same hpv (getD_paired hp hpv) hp ?_ ?_
  · intro it T k' lvs cd p fs f' lastv nv s' h1 h2 h3 h4 h5 x'
    rw [hrun] at h1 h2 x'
    have h2' : rvs[nxt ns 0]? = some nv := by rw [List.getElem?_drop, show 1 + (nxt ns 0 - 0 - 1) = nxt ns 0 from by omega] at h2; exact h2
    have h6 : (startsOf ns)[0 + 1]? = some (nxt ns 0) := by
      rcases nxt_cases ns 0 with h | ⟨h, h'⟩
      · exact h
      · have := (List.getElem?_eq_some_iff.mp h2').1; omega
    refine k it T pv lastv f' (.at (nxt ns 0 + 1)) (.suspended k' lvs cd p fs false) s' hpv (idx lastv h1) (.inr (.inl ⟨nxt ns 0, nv, k', lvs, cd, p, fs, h6, by omega, rfl, h2', h3, h4, rfl, h5⟩)) rfl ?_
    rw [show 1 + (nxt ns 0 - 0 - 1) + 1 = nxt ns 0 + 1 from by omega] at x'
    exact x'
  · intro it T k' lvs cd p fs f' lastv s' h1 h2 h3 x'
    rw [hrun] at h1 h2
    have h7 : 1 = (startsOf ns).length := by
      rw [List.length_drop] at h2
      have hm := (List.getElem?_eq_some_iff.mp ha).1
      rcases nxt_cases ns 0 with h | ⟨h, h'⟩
      · have := (mem_starts.mp (List.mem_of_getElem? h)).1; omega
      · have := List.getElem?_eq_none_iff.mp h; omega
    exact k it T pv lastv f' .ended (.suspended k' lvs cd p fs false) s' hpv (idx lastv h1) (.inr (.inr ⟨k', lvs, cd, p, fs, h7, by omega, rfl, rfl, h3⟩)) rfl x'

/-- what the loop of a comprehension over a walk knows -/
def CW (c : Cx) (pw : Value) (l ga G : Addr) (g : Nat) (ns : List Int) (rvs : List Value) (R : Int × Int → Value → Led → Prop) (X O₀ : Led) (j : Nat) (acc : List Value) (Mu : Led) (gs : Array GenState) (O : Led) : Prop :=
  acc.length + j = (startsOf ns).length ∧ (∀ q ∈ O₀, q ∈ O) ∧ AllBare gs ∧ Paired (fun a u => R a u O) ((spansOf ns).take acc.length) acc ∧ ∃ gst, gs[g]? = some gst ∧
    ((acc = [] ∧ gst = .fresh (.func (fnBody 1) (genC c pw G).env) ∧ Mu = (G, NsP (argMap (.ref l))) :: (l, LP rvs) :: X) ∨
     (∃ it f st, 0 < acc.length ∧ Mu = (G, NsP f) :: (it, st.P l) :: (l, LP rvs) :: X ∧ WS c c.A.in1 pw G it l ns rvs acc.length f st gst))

theorem take_snoc {α : Type} {l : List α} {j : Nat} {a : α} (h : l[j]? = some a) : l.take (j + 1) = l.take j ++ [a] := by
  obtain ⟨hj, rfl⟩ := List.getElem?_eq_some_iff.mp h
  rw [List.take_succ_eq_append_getElem hj]

set_option maxHeartbeats 2000000 in
theorem comp_far {x x2 : Str} {px px2 pt pos : Pos} {kk : Nat} {iter elt : Expr} {scope : Scope} {ga G l : Addr} {pw : Value} {X : Led} {sg : Str → Option Value} {gs : Array GenState} {RR : Value → Addr → Result → Shared → Prop} {ns : List Int} {rvs : List Value} (hwc : c.wc = true) (hh : c.A.handled = none)
    (hroom : c.A.depth + 30 < recursionLimit) (hgo : GenOk c pw G)
    (hl : scopeLook c scope = true) (hk : scope.kind = .function) (hx : scope.names.lookup x = some .local) (hx2 : scope.names.lookup x2 = some .local)
    (R : Int × Int → Value → Led → Prop) (hR : ∀ a u N N', R a u N → (∀ q ∈ N, q ∈ N') → R a u N') (n0 : 0 < ns.length) (hn : ns.length ≤ 1000) (hp : Paired (Bx O) ns rvs) (hbare : AllBare gs)
    (y : At (c.up ((G, NsP (argMap (.ref l))) :: (l, LP rvs) :: X) sg (gs.push (.fresh (.func (fnBody 1) (genC c pw G).env)))) ((ga, GenP gs.size) :: O) s)
    (elem : ∀ C Y gs' O' p q n m, (∀ r ∈ O, r ∈ O') → Bx O' n p → Bx O' m q → Tr ((c.up Y sg gs').comp scope (c.cl scope) C (csg2 sg (c.cl scope) x x2 p q)) O' (eval elt (compEnvC scope (c.cl scope) C c.env)) fun u N => R (n, m) u (N ++ O'))
    (hRR : ∀ D C acc gs' O' s f, Paired (fun a u => R a u O') (spansOf ns) acc → (∀ q ∈ O, q ∈ O') → AllBare gs' → At (c.up ((l, LP rvs) :: X ++ [(D, LP acc), (C, NsP f)]) sg gs') O' s → RR (.ref D) C (.ok .next) s) :
    wpAny (model c.prog c.w) c.A (newList []) (fun acc s₃ => wpAny (model c.prog c.w) c.A (newFunctionEnv scope c.env.globals (c.cl scope) [] c.env.qual none .none (some c.env)) (fun cenv s₄ =>
      codeAny (model c.prog c.w) c.A (.compStart (.ListComp elt [⟨.Tuple [.Name x px, .Name x2 px2] kk pt, iter, [], 0⟩] scope pos) 0 (.ref ga) acc { cenv with scope := relabel scope c.env }) (RR acc cenv.locals) s₄) E s₃) E s := by
  have hsl : (startsOf ns).length ≤ ns.length := by unfold startsOf; exact Nat.le_trans (List.length_filter_le _ _) (by simp)
  refine comp_walk (g := gs.size) hwc hh hl hk hx hx2 (CW c pw l ga G gs.size ns rvs R X ((ga, GenP gs.size) :: O))
    (fun acc Mu gs' O' => Paired (fun a u => R a u O') (spansOf ns) acc ∧ (∀ q ∈ O, q ∈ O') ∧ AllBare gs' ∧ ∃ f it, Mu = (G, NsP f) :: (it, EndP) :: (l, LP rvs) :: X) ?bound (j := (startsOf ns).length) ?start y (.head _) ?turn ?fin
  case bound =>
    intro j acc Mu gs' O' hI
    have := hI.1
    omega
  case start =>
    refine ⟨by simp, fun q hq => hq, AllBare.push hbare rfl, by simpa using .nil, _, ?_, .inl ⟨rfl, rfl, rfl⟩⟩
    simp
  case turn =>
    rintro X' j acc Mu gs' O' s E' ⟨hj, hsub, hbr, hH, gst, hgst, hway⟩ z
    have hga : (ga, GenP gs.size) ∈ O' := hsub _ (.head _)
    have hO : ∀ q ∈ O, q ∈ O' := fun q hq => hsub q (.tail _ hq)
    have hgl : gs.size < gs'.size := (Array.getElem?_eq_some_iff.mp hgst).1
    have hP : Paired (Bx O') ns rvs := hp.mono fun a u h => h.mono hO
    have next : ∀ {T : Addr} {a : Nat} {pv lastv : Value} {m : Nat} {Mu' : Led} {gs'' : Array GenState}, (startsOf ns)[acc.length]? = some a → rvs[a]? = some pv → rvs[nxt ns acc.length - 1]? = some lastv → AllBare gs'' →
        (∃ gst', gs''[gs.size]? = some gst' ∧ ∃ it f st, Mu' = (G, NsP f) :: (it, st.P l) :: (l, LP rvs) :: X ∧ WS c c.A.in1 pw G it l ns rvs (acc.length + 1) f st gst') →
        ∀ C Y, Tr ((c.up (Mu' ++ Y) sg gs'').comp scope (c.cl scope) C (csg2 sg (c.cl scope) x x2 pv lastv)) ((T, TP [pv, lastv]) :: O') (eval elt (compEnvC scope (c.cl scope) C c.env)) fun u N => ∃ m, m < j ∧ CW c pw l ga G gs.size ns rvs R X ((ga, GenP gs.size) :: O) m (acc ++ [u]) Mu' gs'' (N ++ (T, TP [pv, lastv]) :: O') := by
      intro T a pv lastv m Mu' gs'' ha h1 h2 hb ⟨gst', hg', it, f, st, hMu, hws⟩ C Y
      have hal := (List.getElem?_eq_some_iff.mp ha).1
      refine (elem C (Mu' ++ Y) gs'' ((T, TP [pv, lastv]) :: O') pv lastv (ns.getD a 0) (ns.getD (nxt ns acc.length - 1) 0) (fun q hq => .tail _ (hO q hq)) ((getD_paired hP h1).mono fun q hq => .tail _ hq) ((getD_paired hP h2).mono fun q hq => .tail _ hq)).mono fun u N hu => ?_
      refine ⟨j - 1, by omega, by rw [List.length_append]; simp; omega, fun q hq => List.mem_append_right _ (.tail _ (hsub q hq)), hb, ?_, gst', hg', .inr ⟨it, f, st, by simp, hMu, by rw [List.length_append]; exact hws⟩⟩
      rw [List.length_append, List.length_singleton, take_snoc (spansOf_get ha)]
      exact paired_append (hH.mono fun a u h => hR a u _ _ h fun q hq => List.mem_append_right _ (.tail _ hq)) (.cons hu .nil)
    rcases hway with ⟨rfl, rfl, rfl⟩ | ⟨it, f, st, h0, rfl, hws⟩
    · refine tell_list (c := c) (pm := pw) (X := X ++ X') z hwc hh hroom hga hgst hgo hP n0 hn ?_
      intro it T pv lastv f' st' gst' s' h1 h2 h3 h4 z'
      exact ⟨T, pv, lastv, (G, NsP f') :: (it, st'.P l) :: (l, LP rvs) :: X, _, _, rfl, .head _, .tail _ hga, z', next (m := 0) (starts_first n0) h1 h2 (AllBare.set hbr h4) ⟨gst', by simp [hgl], it, f', st', rfl, h3⟩⟩
    · by_cases hjz : j = 0
      · rcases hws with ⟨h, _⟩ | ⟨a', pv', k', lvs, cd, p', fs, ha', _⟩ | ⟨k', lvs, cd, p', fs, hm, h2, hst, hg, hLK⟩
        · omega
        · have := (List.getElem?_eq_some_iff.mp ha').1; omega
        · subst hg; subst hst
          refine w_last (c := c.up (((G, NsP f) :: (it, ItSt.ended.P l) :: (l, LP rvs) :: X) ++ X') sg gs') (pm := pw) (G := G) z hh (by omega) hga hgst hLK fun s' z' => ?_
          refine ⟨_, _, _, ⟨?_, hO, AllBare.set hbr rfl, f, it, rfl⟩, z'⟩
          rw [List.take_of_length_le (by rw [spansOf_length]; omega)] at hH
          exact hH
      · obtain ⟨a, ha⟩ : ∃ a, (startsOf ns)[acc.length]? = some a := ⟨(startsOf ns)[acc.length]'(by omega), by simp [show acc.length < (startsOf ns).length from by omega]⟩
        refine tell (c := c) (pm := pw) (X := X ++ X') z hwc hh hroom hga hgst hgo hP hn hws ha ?_
        intro T pv lastv f' st' gst' s' h1 h2 h3 h4 z'
        exact ⟨T, pv, lastv, (G, NsP f') :: (it, st'.P l) :: (l, LP rvs) :: X, _, _, rfl, .head _, .tail _ hga, z', next (m := 0) ha h1 h2 (AllBare.set hbr h4) ⟨gst', by simp [hgl], it, f', st', rfl, h3⟩⟩
  case fin =>
    rintro D C acc Mu gs' O' s f ⟨hP, hO, hbr, f', it, rfl⟩ z
    refine hRR D C acc gs' O' s f hP hO hbr ?_
    exact At.mu_sub (c := c.up [] sg gs') z (List.Sublist.cons _ (List.Sublist.cons _ (List.Sublist.refl _)))

theorem Stores.up {x : Str} {Mu : Led} {sg : Str → Option Value} {gs : Array GenState} (h : Stores c x) : Stores (c.up Mu sg gs) x := by
  cases h with
  | loc a b d e => exact .loc a b d e
  | cell a b d e f => exact .cell a b d e f

/-- z = [.. for x, x2 in _find_address_range(w)] -/
theorem x_assign_far {z w : Str} {pz spos p1 p2 p3 : Pos} {x x2 : Str} {px px2 pt pos : Pos} {kk : Nat} {elt : Expr} {scope : Scope} {l : Addr} {pw : Value} {X : Led} {sg : Str → Option Value} {gs : Array GenState} {Q : Flow → Shared → Prop} {ns : List Int} {rvs : List Value} (hz : Stores c z) (hwc : c.wc = true)
    (o : Own (c.up ((l, LP rvs) :: X) sg gs)) (hroom : c.A.depth + 30 < recursionLimit) (hfn : c.K.lookup 21 = some ⟨.type "function", none, .func (fdOf "_find_address_range" 1 20 pw), #[]⟩)
    (R : Int × Int → Value → Led → Prop) (hR : ∀ a u N N', R a u N → (∀ q ∈ N, q ∈ N') → R a u N') (n0 : 0 < ns.length) (hn : ns.length ≤ 1000) (hp : Paired (Bx O) ns rvs) (hbare : AllBare gs)
    (y : At (c.up ((l, LP rvs) :: X) sg gs) O s) (hw : TV (c.up ((l, LP rvs) :: X) sg gs) O (eval (.Name w p2) c.env) (· = .ref l))
    (elem : ∀ C Y gs' O' p q n m, (∀ r ∈ O, r ∈ O') → Bx O' n p → Bx O' m q → Tr ((c.up Y sg gs').comp scope (c.cl scope) C (csg2 sg (c.cl scope) x x2 p q)) O' (eval elt (compEnvC scope (c.cl scope) C c.env)) fun u N => R (n, m) u (N ++ O'))
    (k : ∀ D acc gs' O' s', Paired (fun a u => R a u O') (spansOf ns) acc → (∀ q ∈ O, q ∈ O') → (D, LP acc) ∈ O' → AllBare gs' → At (c.up ((l, LP rvs) :: X) (upd sg z (.ref D)) gs') O' s' → Q .next s')
    (hsw : swapsWith (.ListComp elt [⟨.Tuple [.Name x px, .Name x2 px2] kk pt, .Call (.Name "_find_address_range" p1) [.Name w p2] [] p3, [], 0⟩] scope pos) (some (.Name z pz)) spos.line c.env = pure true := by rfl)
    (hl : scopeLook c scope = true := by rfl) (hk : scope.kind = .function := by rfl) (hx : scope.names.lookup x = some .local := by rfl) (hx2 : scope.names.lookup x2 = some .local := by rfl)
    (hs : ∀ x, foldedSetIterable (.Call (.Name "_find_address_range" p1) [.Name w p2] [] p3) c.env x = pure x := by intro _; rfl)
    (hk1 : c.env.kindOf "_find_address_range" = some .globalImplicit := by rfl) (hf1 : c.env.scope.kind = .function := by rfl) (hs1 : starEach [.Name w p2] c.env = [(false, eval (.Name w p2) c.env)] := by rfl) :
    wpAny (model c.prog c.w) c.A (exec (.Assign [.Name z pz] (.ListComp elt [⟨.Tuple [.Name x px, .Name x2 px2] kk pt, .Call (.Name "_find_address_range" p1) [.Name w p2] [] p3, [], 0⟩] scope pos) spos) c.env) Q E s := by
  rw [exec_Assign_Name_used _ _ _ _ hsw]
  refine wpAny_bind (wpAny_standAt (wpAny_bind ?_))
  show wpAny _ _ (do let _ ← comprehension (.ListComp elt [⟨.Tuple [.Name x px, .Name x2 px2] kk pt, .Call (.Name "_find_address_range" p1) [.Name w p2] [] p3, [], 0⟩] scope pos) scope c.env _ (newList []) false (eval (.Call (.Name "_find_address_range" p1) [.Name w p2] [] p3) c.env) (some (assign (.Name z pz) c.env))) _ _ s
  refine wpAny_bind (wpAny_mono (wpAny_comprehension_free (use := some (assign (.Name z pz) c.env)) (Q := fun _ s' => Q .next s') rfl hs (closureFor_eq (scopeLook_free hl)) hk (scopeLook_ok hl hk).names
    (e_far (c := c.up ((l, LP rvs) :: X) sg gs) o hfn y hw (fun G ga s₁ y₁ => wpAny_pyIter_gen (y₁.own _ (.head _)).isGen ?_) hk1 hf1 hs1)) (fun _ s' hq => wpAny_pure (wpAny_pure hq)) fun _ _ e => e)
  refine comp_far (RR := fun acc C => compPost _ _ _ (some (assign (.Name z pz) c.env)) (fun _ s' => Q .next s') acc C) (pw := pw) (G := G) (gs := gs) hwc o.std.hh hroom (show GenOk c pw G from genOk_of (c := c.up ((l, LP rvs) :: X) sg gs) o) hl hk hx hx2 R hR n0 hn hp hbare y₁ elem ?_
  intro D C acc gs' O' s₂ f hP hO hbr z₂
  show wpAny _ _ (assign (.Name z pz) c.env (.ref D)) _ _ _
  refine wpAny_assign_Name (w_store (c := c.up ((l, LP rvs) :: X ++ [(D, LP acc), (C, NsP f)]) sg gs') hz.up z₂ fun s₃ _ z₃ => ?_)
  obtain ⟨m, hns, _⟩ := (z₃.mu (C, NsP f) (List.mem_append_right _ (.tail _ (.head _)))).ns
  refine ⟨m, hns, fun h' hs' => k D acc gs' _ _ (hP.mono fun a u h => hR a u _ _ h fun q hq => .tail _ hq) (fun q hq => .tail _ (hO q hq)) (.head _) hbr ?_⟩
  exact At.endComp (c := c) z₃ hwc hs'

/-- [.. for x, x2 in _find_address_range(w)] -/
theorem e_far_comp {w : Str} {p1 p2 p3 : Pos} {x x2 : Str} {px px2 pt pos : Pos} {kk : Nat} {elt : Expr} {scope : Scope} {l : Addr} {pw : Value} {X : Led} {sg : Str → Option Value} {gs : Array GenState} {Q : Value → Shared → Prop} {ns : List Int} {rvs : List Value} (hwc : c.wc = true)
    (o : Own (c.up ((l, LP rvs) :: X) sg gs)) (hroom : c.A.depth + 30 < recursionLimit) (hfn : c.K.lookup 21 = some ⟨.type "function", none, .func (fdOf "_find_address_range" 1 20 pw), #[]⟩)
    (R : Int × Int → Value → Led → Prop) (hR : ∀ a u N N', R a u N → (∀ q ∈ N, q ∈ N') → R a u N') (n0 : 0 < ns.length) (hn : ns.length ≤ 1000) (hp : Paired (Bx O) ns rvs) (hbare : AllBare gs)
    (y : At (c.up ((l, LP rvs) :: X) sg gs) O s) (hw : TV (c.up ((l, LP rvs) :: X) sg gs) O (eval (.Name w p2) c.env) (· = .ref l))
    (elem : ∀ C Y gs' O' p q n m, (∀ r ∈ O, r ∈ O') → Bx O' n p → Bx O' m q → Tr ((c.up Y sg gs').comp scope (c.cl scope) C (csg2 sg (c.cl scope) x x2 p q)) O' (eval elt (compEnvC scope (c.cl scope) C c.env)) fun u N => R (n, m) u (N ++ O'))
    (k : ∀ D acc gs' O' s', Paired (fun a u => R a u O') (spansOf ns) acc → (∀ q ∈ O, q ∈ O') → (D, LP acc) ∈ O' → AllBare gs' → At (c.up ((l, LP rvs) :: X) sg gs') O' s' → Q (.ref D) s')
    (hl : scopeLook c scope = true := by rfl) (hk : scope.kind = .function := by rfl) (hx : scope.names.lookup x = some .local := by rfl) (hx2 : scope.names.lookup x2 = some .local := by rfl)
    (hs : ∀ x, foldedSetIterable (.Call (.Name "_find_address_range" p1) [.Name w p2] [] p3) c.env x = pure x := by intro _; rfl)
    (hk1 : c.env.kindOf "_find_address_range" = some .globalImplicit := by rfl) (hf1 : c.env.scope.kind = .function := by rfl) (hs1 : starEach [.Name w p2] c.env = [(false, eval (.Name w p2) c.env)] := by rfl) :
    wpAny (model c.prog c.w) c.A (eval (.ListComp elt [⟨.Tuple [.Name x px, .Name x2 px2] kk pt, .Call (.Name "_find_address_range" p1) [.Name w p2] [] p3, [], 0⟩] scope pos) c.env) Q E s := by
  rw [eval_ListComp]
  refine wpAny_comprehension_free (use := none) rfl hs (closureFor_eq (scopeLook_free hl)) hk (scopeLook_ok hl hk).names
    (e_far (c := c.up ((l, LP rvs) :: X) sg gs) o hfn y hw (fun G ga s₁ y₁ => wpAny_pyIter_gen (y₁.own _ (.head _)).isGen ?_) hk1 hf1 hs1)
  refine comp_far (RR := fun acc C => compPost _ _ _ none _ acc C) (pw := pw) (G := G) (gs := gs) hwc o.std.hh hroom (show GenOk c pw G from genOk_of (c := c.up ((l, LP rvs) :: X) sg gs) o) hl hk hx hx2 R hR n0 hn hp hbare y₁ elem ?_
  intro D C acc gs' O' s₂ f hP hO hbr z₂
  obtain ⟨m, hns, _⟩ := (z₂.mu (C, NsP f) (List.mem_append_right _ (.tail _ (.head _)))).ns
  refine ⟨m, hns, fun h' hs' => k D acc gs' _ _ (hP.mono fun a u h => hR a u _ _ h fun q hq => .tail _ hq) (fun q hq => .tail _ (hO q hq)) (.head _) hbr ?_⟩
  exact At.endComp (c := c) z₂ hwc hs'

/-- extend by a list whose making changes the state -/
theorem x_extend_raw {x : Str} {p apos pos spos : Pos} {e : Expr} {D : Addr} {xs : List Value} {Mu : Led} {sg : Str → Option Value} {gs : Array GenState} {Q : Flow → Shared → Prop} (hwc : c.wc = true) (hMu : (D, LP xs) ∈ Mu) (y : At (c.up Mu sg gs) O s)
    (h1 : TV (c.up Mu sg gs) O (eval (.Name x p) c.env) (· = .ref D))
    (h2 : ∀ s E, At (c.up Mu sg gs) O s → wpAny (model c.prog c.w) c.A (eval e c.env) (fun v s' => ∃ b ys X Y gs' O', v = .ref b ∧ (b, LP ys) ∈ O' ∧ xs.length + ys.length ≤ 100000 ∧ At (c.up (X ++ (D, LP xs) :: Y) sg gs') O' s' ∧
      ∀ s'', At (c.up (X ++ (D, LP (xs ++ ys)) :: Y) sg gs') O' s'' → Q .next s'') E s)
    (hbase : attributeBase (.Name x p) "extend" c.env (eval (.Name x p) c.env) = eval (.Name x p) c.env := by rfl)
    (hfew : ((backTo pos (starEach [e] c.env)).all (fun x => !x.1) && (backToKw pos (keywordEach [] c.env)).all (fun x => x.1.isSome)
      && decide (([e] : List Expr).length + ([] : List Keyword).length + (if ([] : List Keyword).isEmpty then 0 else 1) < 30)) = true := by rfl)
    (hline : (apos.endLine == pos.line) = true := by rfl) (htrees : backTo pos (starEach [e] c.env) = [(false, eval e c.env)] := by rfl)
    (hi : interactive c.env = false := by rfl) (hs : swapsWith (.Call (.Attribute (.Name x p) "extend" apos) [e] [] pos) none spos.line c.env = pure false := by rfl) :
    wpAny (model c.prog c.w) c.A (exec (.Expr (.Call (.Attribute (.Name x p) "extend" apos) [e] [] pos) spos) c.env) Q E s := by
  refine wpAny_Expr_any (wpAny_Call_method hbase hfew hline PySem.F.plainAttrs_list PySem.F.slot_list_extend PySem.F.type_list_extend (h1.use y fun v s₁ q k₁ y₁ => ?_)) hi hs
  subst q
  refine ⟨(y₁.mu _ hMu).isList.typeIs, fun a ha => ?_, ?_⟩
  · cases ha
    obtain ⟨o, eo, n, rfl⟩ := y₁.mu _ hMu
    exact ⟨_, eo, rfl⟩
  rw [htrees]
  refine PySem.P.extend_list (wpAny_mono (h2 s₁ _ y₁) (fun v s₂ hv => ?_) fun _ _ e => e)
  obtain ⟨b, ys, X, Y, gs', O', rfl, hb, hn, y₂, k⟩ := hv
  obtain ⟨o, eo, n, rfl⟩ := y₂.mu (D, LP xs) (List.mem_append_right _ (.head _))
  obtain ⟨o', eo', n', rfl⟩ := y₂.own _ hb
  have hsz : xs.toArray.size + ys.toArray.size ≤ sizeLine := by rw [List.size_toArray, List.size_toArray]; exact small_line hn
  refine ⟨b, xs.toArray, ys.toArray, n, n', by omega, by omega, extend_door hsz, rfl, eo, eo', k _ ?_⟩
  have y₃ : At { c.up [] sg gs' with Mu := (D, LP xs) :: (X ++ Y) } O' s₂ := At.mu_perm (c := c.up [] sg gs') y₂ List.perm_middle
  have hsb := Heap.SameBut.update s₂.heap D (Obj.mapSeq fun x => x ++ ys.toArray)
  have y₄ := At.setMu (c := c.up [] sg gs') (p' := LP (xs ++ ys)) y₃ hwc (Alt.of_same (tk := s₂.toks) hsb) ⟨_, Heap.get?_update_self _ eo (by rw [mapSeq_app]; rfl), by rw [mapSeq_app]; exact ⟨_, by rw [show xs.toArray ++ ys.toArray = (xs ++ ys).toArray from by simp]⟩⟩
  exact At.mu_perm (c := c.up [] sg gs') y₄ List.perm_middle.symm
end
end Mine

namespace Mine

def CellP (w : Option Value) (o : Obj) : Prop := o.data = .cell w
theorem Has.isCell {h : Heap} {a : Addr} {w : Option Value} (x : Has h (a, CellP w)) : h.IsCell a w := let ⟨o, e, q⟩ := x; ⟨o, e, q⟩

section
variable {M : Model} {A : Around} {E : Value → Shared → Prop} {s : Shared}
theorem newEnv_cell {scope : Scope} {globals : Addr} {qual : Str} {env : Env} {x : Str} {Q : Env → Shared → Prop}
    (hpc : ∀ h, pushCells h scope.names = h.push { cls := .type "cell", data := .cell none }) (hcf : ∀ n, cellsFrom n scope.names [] = [(x, n)])
    (hQ : Q { scope := scope, locals := s.heap.objs.size, globals := globals, cells := [(x, s.heap.objs.size + 1)], qual := qual, func := none, code := env.code, frame := env.frame, builtins := env.builtins }
      { s with heap := (s.heap.push { cls := .type "dict", data := .dict #[] }).push { cls := .type "cell", data := .cell none } }) :
    wpAny M A (newFunctionEnv scope globals [] [] qual none .none (some env)) Q E s := by
  simp only [newFunctionEnv, Option.isSome_some, if_true]
  refine wpAny_bind (wpAny_alloc ?_)
  refine wpAny_bind (wpAny_layCells _ (fun name kind cells => by cases hkc : kind == NameKind.cell <;> simp [hkc]) _ _ _ _ ?_)
  rw [hpc, hcf, show ({ s with heap := s.heap.push { cls := .type "dict", data := .dict #[] } } : Shared).heap.objs.size = s.heap.objs.size + 1 from Heap.size_push ..]
  refine wpAny_bind ?_
  rw [List.forIn_nil]
  exact wpAny_pure (wpAny_pure hQ)
end

abbrev Cx.cellc (c : Cx) (scope : Scope) (x : Str) (K C : Addr) (Mu : Led) (v : Value) : Cx := { c with env := compEnvC scope [(x, K)] C c.env, wc := true, Mu := Mu, sg := upd (fun _ => none) x v }

section
variable {c : Cx} {O : Led} {s s' : Shared} {E : Value → Shared → Prop}

theorem At.toCell {scope : Scope} {x : Str} {K C : Addr} {f : Str → Option Value} {v : Value} {Mu : Led} (y : At { c with Mu := (C, NsP f) :: (K, CellP (some v)) :: Mu } O s) (hx : (relabel scope c.env).names.lookup x ≠ some .local) : At (c.cellc scope x K C Mu v) O s := by
  obtain ⟨m, hns, hm⟩ := (y.mu _ (.head _)).ns
  have hK := (y.mu _ (.tail _ (.head _))).isCell
  have sub : ∀ a, a ∈ (c.cellc scope x K C Mu v).places → a ∈ ({ c with Mu := (C, NsP f) :: (K, CellP (some v)) :: Mu } : Cx).places := fun a ha => by
    rcases Cx.mem_places.mp ha with h | ⟨_, z, h⟩ | ⟨r, h⟩
    · exact Cx.mem_places.mpr (.inr (.inr ⟨_, by rw [show a = C from h]; exact .head _⟩))
    · have h' : (z, a) = (x, K) := List.mem_singleton.mp h
      cases h'
      exact Cx.mem_places.mpr (.inr (.inr ⟨_, .tail _ (.head _)⟩))
    · exact Cx.mem_places.mpr (.inr (.inr ⟨r, .tail _ (.tail _ h)⟩))
  have sgs : ∀ z u, upd (fun _ => none) x v z = some u → z = x ∧ u = v := fun z u h => by
    by_cases hz : z = x
    · subst hz; rw [upd_same] at h; exact ⟨rfl, (Option.some.inj h).symm⟩
    · rw [upd_ne hz] at h; cases h
  refine ⟨y.base, y.own, fun p hp => y.mu p (.tail _ (.tail _ hp)), ⟨m, hns, fun z u hz hu => ?_⟩, fun z a u hz hu => ?_, fun p hp => ?_, ?_, fun q hq h => y.offO q hq (sub _ h), fun b o e h => y.offB b o e (sub _ h), y.gens, y.os, y.kin, y.tg, y.tb, y.nl⟩
  · obtain ⟨rfl, rfl⟩ := sgs z u hu
    exact absurd hz hx
  · obtain ⟨rfl, rfl⟩ := sgs z u hu
    have hz' : ([(z, K)] : List (Str × Addr)).lookup z = some a := hz
    simp at hz'
    rw [← hz']; exact hK
  · have h' : p = (x, K) := List.mem_singleton.mp hp
    subst h'
    exact ⟨_, hK⟩
  · have nd := y.nodup
    unfold Cx.places at nd ⊢
    rw [List.nodup_cons, List.nodup_append] at nd
    exact nd.2.2.1

/-- z = [.. for x in w], the comprehension's own name in a cell -/
theorem x_assign_cellcomp {α : Type} {z x w : Str} {pz spos px p2 pos : Pos} {elt : Expr} {scope : Scope} {l : Addr} {vs : List Value} {items : List α} {R : α → Value → Prop} {Q : Flow → Shared → Prop} (hz : Stores c z) (hwc : c.wc = true) (hh : c.A.handled = none)
    (F : α → Value → Prop) (hl : (l, LP vs) ∈ O) (hP : Paired R items vs) (hn : items.length ≤ 100000) (y : At c O s) (hw : TV c O (eval (.Name w p2) c.env) (· = .ref l))
    (elem : ∀ K C Mu a v, R a v → Tr (c.cellc scope x K C Mu v) O (eval elt (compEnvC scope [(x, K)] C c.env)) fun u _ => F a u)
    (k : ∀ D ys s', Paired F items ys → At (c.set z (.ref D)) ((D, LP ys) :: O) s' → Q .next s')
    (hpc : ∀ h, pushCells h scope.names = h.push { cls := .type "cell", data := .cell none } := by intro _; rfl) (hcf : ∀ n, cellsFrom n scope.names [] = [(x, n)] := by intro _; rfl)
    (hsw : swapsWith (.ListComp elt [⟨.Name x px, .Name w p2, [], 0⟩] scope pos) (some (.Name z pz)) spos.line c.env = pure true := by rfl)
    (hfr : freeOk c.env scope.names = true := by rfl) (hcl : c.cl scope = [] := by rfl) (hk : scope.kind = .function := by rfl) (hnm : ∀ y ∈ scope.names, y.2 = .local → scope.names.lookup y.1 = some .local := by decide)
    (hx : (relabel scope c.env).names.lookup x = some .cell := by rfl)
    (hs : ∀ x, foldedSetIterable (.Name w p2) c.env x = pure x := by intro _; rfl) :
    wpAny (model c.prog c.w) c.A (exec (.Assign [.Name z pz] (.ListComp elt [⟨.Name x px, .Name w p2, [], 0⟩] scope pos) spos) c.env) Q E s := by
  have hclos : closureFor scope c.env = pure [] := by rw [closureFor_eq hfr]; exact congrArg _ hcl
  have hlen := hP.length
  rw [exec_Assign_Name_used _ _ _ _ hsw]
  refine wpAny_bind (wpAny_standAt (wpAny_bind ?_))
  show wpAny _ _ (do let _ ← comprehension (.ListComp elt [⟨.Name x px, .Name w p2, [], 0⟩] scope pos) scope c.env _ (newList []) false (eval (.Name w p2) c.env) (some (assign (.Name z pz) c.env))) _ _ s
  refine wpAny_bind (wpAny_mono (wpAny_comprehension_free (use := some (assign (.Name z pz) c.env)) (Q := fun _ s' => Q .next s') rfl hs hclos hk hnm (hw.use y fun v s₁ e₁ k₁ y₁ => ?_)) (fun _ s' hq => wpAny_pure (wpAny_pure hq)) fun _ _ e => e)
  subst e₁
  refine wpAny_pyIter_list (y₁.own _ hl).isList ?_
  have y₂ := At.growMu (c := c) y₁ (Grow.one (p := (s₁.heap.objs.size, IterP l 0)) (Kp.push (s := s₁) (o := { cls := .type "list_iterator", data := .fields #[.ref l, .int 0 0] })) (fresh_size _) ⟨_, Heap.get?_push_size _ rfl, rfl, rfl⟩)
  generalize s₁.heap.objs.size = I at *
  generalize ({ s₁ with heap := s₁.heap.push { cls := .type "list_iterator", data := .fields #[.ref l, .int 0 0] } } : Shared) = s₂ at *
  refine wpAny_newObj_type ?_
  have y₃ := At.growMu (c := c) y₂ (Grow.one (p := (s₂.heap.objs.size, LP [])) (Kp.push (s := s₂) (o := { cls := .type "list", dict := none, data := .seq ([] : List Value).toArray })) (fresh_size _) Has.newList)
  generalize s₂.heap.objs.size = D at *
  generalize ({ s₂ with heap := s₂.heap.push { cls := .type "list", dict := none, data := .seq ([] : List Value).toArray } } : Shared) = s₃ at *
  refine newEnv_cell hpc hcf ?_
  have y₄ := At.growMu (c := c) y₃ (Grow.one (p := (s₃.heap.objs.size, NsP fun _ => none)) (Kp.push (s := s₃) (o := { cls := .type "dict", data := .dict #[] })) (fresh_size _) (Has.of_ns (Heap.Ns.new s₃.heap (.type "dict")) fun _ _ h => nomatch h))
  have y₅ := At.growMu (c := c) y₄ (Grow.one (p := (s₃.heap.objs.size + 1, CellP none)) (Kp.push (s := { s₃ with heap := s₃.heap.push { cls := .type "dict", data := .dict #[] } }) (o := { cls := .type "cell", data := .cell none })) (by have := fresh_size (s₃.heap.push { cls := .type "dict", data := .dict #[] }); rw [Heap.size_push] at this; exact this)
    ⟨{ cls := .type "cell", data := .cell none }, by have := Heap.get?_push_size (s₃.heap.push { cls := .type "dict", data := .dict #[] }) (o := { cls := .type "cell", data := .cell none }) rfl; rw [Heap.size_push] at this; exact this, rfl⟩)
  generalize s₃.heap.objs.size + 1 = K at *
  generalize s₃.heap.objs.size = C at *
  generalize ({ s₃ with heap := (s₃.heap.push { cls := .type "dict", data := .dict #[] }).push { cls := .type "cell", data := .cell none } } : Shared) = s₄ at *
  have hxl : (relabel scope c.env).names.lookup x ≠ some .local := by rw [hx]; simp
  have loop : codeAny (model c.prog c.w) c.A (.compLoop (.ListComp elt [⟨.Name x px, .Name w p2, [], 0⟩] scope pos) 0 (.ref I) (.ref D) (compEnvC scope [(x, K)] C c.env)) (compPost (model c.prog c.w) c.A E (some (assign (.Name z pz) c.env)) (fun _ s' => Q .next s') (.ref D) C) s₄ := by
    refine compLoop_any (fun n s' => ∃ i acc wv, n = items.length + 1 - i ∧ i ≤ items.length ∧ Paired F (items.take i) acc ∧ At { c with Mu := (K, CellP wv) :: (C, NsP fun _ => none) :: (D, LP acc) :: (I, IterP l i) :: c.Mu } O s') ?_ (items.length + 1) ⟨0, [], none, rfl, Nat.zero_le _, by simpa using .nil, y₅⟩
    rintro n s' ⟨i, acc, wv, rfl, hi, hacc, a⟩
    have pI : ∀ (st : Obj → Prop), ((K, CellP wv) :: (C, NsP fun _ => none) :: (D, LP acc) :: (I, st) :: c.Mu).Perm ((I, st) :: (K, CellP wv) :: (C, NsP fun _ => none) :: (D, LP acc) :: c.Mu) := fun st =>
      List.perm_middle (l₁ := [(K, CellP wv), (C, NsP fun _ => none), (D, LP acc)])
    have a₁ := At.mu_perm (c := c) a (pI _)
    by_cases hlt : i < items.length
    · obtain ⟨u, hu⟩ : ∃ u, items[i]? = some u := ⟨items[i], by simp [hlt]⟩
      obtain ⟨v, hv, hR⟩ := Paired.get_some hP hu
      refine n_item (c := c) a₁ hwc (a₁.own _ hl).isList hv fun s₅ _ a₅ => ?_
      dsimp only
      refine w_letgo_of ⟨_, "list_iterator", (a₅.mu _ (.head _)).choose_spec.1, (a₅.mu _ (.head _)).choose_spec.2.1, by decide⟩ ?_
      have a₆ := At.mu_perm (c := c) a₅ (pI _).symm
      refine wpAny_assign_Name (wpAny_storeName_cell (env := compEnvC scope [(x, K)] C c.env) hk hx (by simp [compEnvC]) (a₆.mu _ (.head _)).isCell fun h' hc' hs' => ?_)
      refine wpAny_tests_nil ?_
      rw [if_pos rfl]
      have a₇ := At.setMu (c := c) (p' := CellP (some v)) a₆ hwc (Alt.of_same (tk := s₅.toks) hs') (by obtain ⟨o, e, q⟩ := hc'; exact ⟨o, e, q⟩)
      have a₈ := At.toCell (c := c) (scope := scope) (x := x) (At.mu_perm (c := c) a₇ (List.Perm.swap _ _ _)) hxl
      refine (elem K C _ u v hR).use a₈ fun r s₉ N hr g₉ _ => ?_
      have a₉ := (a₇.grow g₉).sub (O' := O) fun q hq => List.mem_append_right _ hq
      have pD : ∀ acc' : List Value, ((K, CellP (some v)) :: (C, NsP fun _ => none) :: (D, LP acc') :: (I, IterP l (i + 1)) :: c.Mu).Perm ((D, LP acc') :: (K, CellP (some v)) :: (C, NsP fun _ => none) :: (I, IterP l (i + 1)) :: c.Mu) := fun acc' =>
        List.perm_middle (l₁ := [(K, CellP (some v)), (C, NsP fun _ => none)])
      have b₁ := At.mu_perm (c := c) a₉ (pD acc)
      obtain ⟨o, eo, nn, rfl⟩ := b₁.mu _ (.head _)
      have hal : acc.length ≤ items.length := by rw [← hacc.length, List.length_take]; omega
      refine wpAny_list_append_plain ⟨nn, eo⟩ (fun h' hl' hsb => ⟨items.length + 1 - (i + 1), by omega, i + 1, acc ++ [r], some v, rfl, hlt, ?_, ?_⟩) (by rw [List.size_toArray]; exact small_line (by omega))
      · rw [take_snoc hu]; exact paired_append hacc (.cons hr .nil)
      · refine At.mu_perm (c := c) ?_ (pD _).symm
        refine At.setMu (c := c) b₁ hwc (Alt.of_same (tk := s₉.toks) hsb) ?_
        obtain ⟨n', e'⟩ := hl'
        exact ⟨_, e', n', by simp⟩
    · have hie : i = items.length := by omega
      subst hie
      refine n_end (c := c) a₁ hwc hh (a₁.own _ hl).isList (List.getElem?_eq_none (by omega)) fun s₅ _ a₅ => ?_
      rw [List.take_length] at hacc
      dsimp only
      show wpAny _ _ (assign (.Name z pz) c.env (.ref D)) _ _ _
      refine wpAny_assign_Name (w_store (c := { c with Mu := (I, EndP) :: (K, CellP wv) :: (C, NsP fun _ => none) :: (D, LP acc) :: c.Mu }) hz.up a₅ fun s₆ _ a₆ => ?_)
      obtain ⟨m, hns, _⟩ := (a₆.mu (C, NsP fun _ => none) (.tail _ (.tail _ (.head _)))).ns
      refine ⟨m, hns, fun h' hs' => k D acc _ hacc ?_⟩
      have a₇ := At.mu_sub (c := c.set z (.ref D)) (Mu' := (C, NsP fun _ => none) :: (D, LP acc) :: c.Mu) a₆ (List.Sublist.cons _ (List.Sublist.cons _ (List.Sublist.refl _)))
      have a₈ := At.mu_perm (c := c.set z (.ref D)) (Mu' := c.Mu ++ [(D, LP acc), (C, NsP fun _ => none)]) a₇ ((List.Perm.swap _ _ _).trans (List.perm_append_comm (l₁ := [(D, LP acc), (C, NsP fun _ => none)]) (l₂ := c.Mu)))
      exact At.endComp (c := c) (sg := upd c.sg z (.ref D)) (gs := c.gs) a₈ hwc hs'
  have hself : wpAny (model c.prog c.w) c.A (pyIter (.ref I)) (fun it' s' => codeAny (model c.prog c.w) c.A (.compLoop (.ListComp elt [⟨.Name x px, .Name w p2, [], 0⟩] scope pos) 0 it' (.ref D) (compEnvC scope [(x, K)] C c.env)) (compPost (model c.prog c.w) c.A E (some (assign (.Name z pz) c.env)) (fun _ s' => Q .next s') (.ref D) C) s')
      (notedBy (model c.prog c.w) c.A (compEnvC scope [(x, K)] C c.env) fun e s' => compPost (model c.prog c.w) c.A E (some (assign (.Name z pz) c.env)) (fun _ s' => Q .next s') (.ref D) C (.error e) s') s₄ :=
    wpAny_pyIter_listiter (y₅.mu (I, IterP l 0) (.tail _ (.tail _ (.tail _ (.head _))))).isIter loop
  exact codeAny_compStart_list loop hself
end
end Mine

namespace Mine

section
variable {c : Cx} {O : Led}

theorem b_pow {a n : Int} {v u : Value} (hv : IsInt a v) (hu : IsInt n u) (hn : 0 ≤ n) (hn2 : n ≤ 1000000) (ha : a.natAbs < 2 ^ 64) : TV c O (binaryOp .Pow v u) (IsInt (a ^ n.toNat)) := fun s E x => by
  obtain ⟨t, rfl⟩ := hv; obtain ⟨t', rfl⟩ := hu
  exact pow_int_small hn hn2 ha ⟨⟨_, rfl⟩, Kp.toks⟩
theorem e_pow {l r : Expr} {pos : Pos} {a n : Int} (h1 : TV c O (eval l c.env) (IsInt a)) (h2 : TV c O (eval r c.env) (IsInt n)) (hn : 0 ≤ n) (hn2 : n ≤ 1000000) (ha : a.natAbs < 2 ^ 64) : TV c O (eval (.BinOp l .Pow r pos) c.env) (IsInt (a ^ n.toNat)) := e_bin h1 h2 fun _ _ p q => b_pow p q hn hn2 ha
theorem e_mul {l r : Expr} {pos : Pos} {a b : Int} (h1 : TV c O (eval l c.env) (IsInt a)) (h2 : TV c O (eval r c.env) (IsInt b)) (hm : IntMulOk a b) : TV c O (eval (.BinOp l .Mult r pos) c.env) (IsInt (a * b)) := e_bin h1 h2 fun _ _ p q => b_mul p q hm

theorem b_cat {x y : Str} {v u : Value} (hv : IsStr x v) (hu : IsStr y u) (hn : x.length + y.length ≤ 100000) : TV c O (binaryOp .Add v u) (IsStr (x ++ y)) := fun s E z => by
  obtain ⟨t, rfl⟩ := hv; obtain ⟨t', rfl⟩ := hu
  exact PyProof.Rows.add_str (fun t' tk => ⟨⟨_, rfl⟩, Kp.toks⟩) (small_line hn)
theorem e_cat {l r : Expr} {pos : Pos} {x y : Str} (h1 : TV c O (eval l c.env) (IsStr x)) (h2 : TV c O (eval r c.env) (IsStr y)) (hn : x.length + y.length ≤ 100000) : TV c O (eval (.BinOp l .Add r pos) c.env) (IsStr (x ++ y)) := e_bin h1 h2 fun _ _ p q => b_cat p q hn
theorem e_catL {l r : Expr} {pos : Pos} {x y : Str} (h1 : Tr c O (eval l c.env) fun v N => IsStr x v) (h2 : ∀ N, TV c (N ++ O) (eval r c.env) (IsStr y)) (hn : x.length + y.length ≤ 100000) : Tr c O (eval (.BinOp l .Add r pos) c.env) fun v N => IsStr (x ++ y) v :=
  e_binL (P2 := fun v N => IsStr y v) h1 (fun a N1 _ => (h2 N1).tr.mono fun v N h => h.2) fun a N1 b N2 p q => (b_cat p q hn).tr.mono fun v N h => h.2
theorem e_catR {l r : Expr} {pos : Pos} {x y : Str} (h1 : TV c O (eval l c.env) (IsStr x)) (h2 : Tr c O (eval r c.env) fun v N => IsStr y v) (hn : x.length + y.length ≤ 100000) : Tr c O (eval (.BinOp l .Add r pos) c.env) fun v N => IsStr (x ++ y) v :=
  e_binL (P1 := fun v N => N = [] ∧ IsStr x v) (P2 := fun v N => IsStr y v) h1.tr (fun a N1 h => by rw [h.1]; exact h2) fun a N1 b N2 p q => (b_cat p.2 q hn).tr.mono fun v N h => h.2

/-- a text of n ones -/
def ones (n : Nat) : Str := ⟨(List.replicate n 49).toArray⟩
theorem fold_ones : ∀ (n : Nat) (a : Array Nat), (List.replicate n (#[49] : Array Nat)).foldl (· ++ ·) a = a ++ (List.replicate n 49).toArray
  | 0, a => by simp
  | n + 1, a => by
    rw [List.replicate_succ, List.foldl_cons, fold_ones n]
    apply Array.ext'
    simp [List.replicate_succ]
theorem b_ones {k : Int} {v u : Value} (hv : IsStr "1" v) (hu : IsInt k u) (h1 : 1 ≤ k) (h2 : k ≤ 100000) : TV c O (binaryOp .Mult v u) (IsStr (ones k.toNat)) := fun s E z => by
  obtain ⟨t, rfl⟩ := hv; obtain ⟨t', rfl⟩ := hu
  have e1 : (Str.ofString "1") = ⟨#[49]⟩ := by decide +kernel
  have el : (Str.ofString "1").length = 1 := by rw [e1]; rfl
  refine P.mul_str ?_ ?_ ?_ ?_
  · rw [decide_eq_false (by omega), decide_eq_false (by omega)]; rfl
  · intro h3 h4 h5
    rw [el] at h5
    have : (2 ^ 63 - 1 : Int) / k ≥ 1 := by
      apply (Int.le_ediv_iff_mul_le (by omega)).mpr
      omega
    omega
  · intro h3 h4
    show decide (_ > sizeLine) = false
    rw [el]
    exact decide_eq_false (by have := small_line (n := 1 * k.toNat) (by omega); omega)
  · rw [if_neg (by omega)]
    split
    · rename_i h3
      rw [el] at h3
      have hk : k = 1 := by simpa using h3
      subst hk
      exact ⟨⟨t, by rw [e1]; rfl⟩, Kp.refl s⟩
    · have e2 : (⟨(List.replicate k.toNat (Str.ofString "1").cps).foldl (· ++ ·) #[]⟩ : Str) = ones k.toNat := by
        rw [e1]
        show (⟨(List.replicate k.toNat (#[49] : Array Nat)).foldl (· ++ ·) #[]⟩ : Str) = _
        rw [fold_ones]; simp [ones]
      rw [e2]
      exact ⟨by show (ones k.toNat).cps.size ≤ _; simp only [ones, List.size_toArray, List.length_replicate]; exact small_line (by omega), ⟨_, rfl⟩, Kp.toks⟩

/-- str(n), a small number -/
theorem e_strOf {e : Expr} {p pos : Pos} {n : Int} (S : Std c) (hst : c.mg "str" = none ∧ c.mb "str" = some (.type "str")) (h : TV c O (eval e c.env) (IsInt n)) (hn : n.natAbs.log2 < 1920)
    (hk : c.env.kindOf "str" = some .globalImplicit := by rfl) (hf : c.env.scope.kind = .function := by rfl) (hs : starEach [e] c.env = [(false, eval e c.env)] := by rfl) :
    TV c O (eval (.Call (.Name "str" p) [e] [] pos) c.env) (IsStr (toString n)) := fun s E x =>
  Call_Name1 ((e_bi hst.1 hst.2 hk S.gl S.bu hf).use x fun f s₁ e₁ k₁ x₁ => by
    subst e₁
    exact PyProof.Rows.callWith_type (args := [(false, eval e c.env)]) rfl (evalArgs_plain (spliced_cons (h.use x₁ fun v s₂ ⟨t, e₂⟩ k₂ x₂ => by
      subst e₂
      exact spliced_nil (PySem.P.str_of_int hn ⟨⟨_, rfl⟩, k₁.trans (k₂.trans Kp.toks)⟩)))) ) hs

theorem paired_strs {vs : List Value} {ys : List Str} (h : Paired IsStr ys vs) : StrsAre vs ys := by
  induction h with
  | nil => exact .nil
  | cons a _ ih => obtain ⟨t, rfl⟩ := a; exact .cons _ t ih

/-- 'x'.join(e), e a list of texts that is made on the spot -/
theorem e_join {y : Str} {kk : Nat} {pc apos pos : Pos} {e : Expr} {P : Value → Led → Prop} {ys : List Str} (h : Tr c O (eval e c.env) P) (hP : ∀ v N, P v N → ∃ D us, v = .ref D ∧ (D, LP us) ∈ N ∧ Paired IsStr ys us)
    (hok : (ys.map (·.length)).sum + ys.length * y.length ≤ 16777216)
    (hbase : attributeBase (.Constant (.str y) kk pc) "join" c.env (eval (.Constant (.str y) kk pc) c.env) = eval (.Constant (.str y) kk pc) c.env := by rfl) (hs : starEach [e] c.env = [(false, eval e c.env)] := by rfl)
    (hline : (apos.endLine == pos.line) = true := by rfl) :
    Tr c O (eval (.Call (.Attribute (.Constant (.str y) kk pc) "join" apos) [e] [] pos) c.env) (fun v N => IsStr (Txt.join y ys) v) := fun s E x =>
  Call_method1 hbase hs hline (e_str.use x fun v s₁ ⟨t, e₁⟩ k₁ x₁ => by
    subst e₁
    refine SB.join (h.use x₁ fun u s₂ N p g x₂ => ?_)
    obtain ⟨D, us, rfl, hD, hu⟩ := hP u N p
    obtain ⟨l, hv, ht⟩ := strsAre_values (paired_strs hu)
    subst hv
    refine ⟨D, l, rfl, (x₂.own _ (List.mem_append_left _ hD)).isList, ys, ht, joinOk_of hok, fun t' k => ⟨[], ⟨_, rfl⟩, Grow.nil ?_⟩⟩
    exact (k₁.trans g.1).trans Kp.toks)

/-- x[i:j] of a text -/
theorem e_strslice {value : Expr} {lo hi : Expr} {p pos : Pos} {x : Str} {i j : Int} (h1 : TV c O (eval value c.env) (IsStr x)) (h2 : TV c O (eval lo c.env) (IsInt i)) (h3 : TV c O (eval hi c.env) (IsInt j)) (hn : x.length ≤ 100000)
    (ht : ∀ a r, letTemporaryGo value a r = pure () := by intro _ _; with_unfolding_all rfl) :
    TV c O (eval (.Subscript value (.Slice (some lo) (some hi) none p) pos) c.env) (IsStr (Txt.slice x (some i) (some j))) := fun s E z =>
  Subscript_ (h1.use z fun a s₁ ⟨t, e₁⟩ k₁ z₁ => by
    subst e₁
    refine wpAny_Slice ?_
    rw [evalPart_some]
    refine h2.use z₁ fun vl s₂ ⟨tl, e₂⟩ k₂ z₂ => ?_
    subst e₂
    rw [evalPart_some]
    refine h3.use z₂ fun vu s₃ ⟨tu, e₃⟩ k₃ z₃ => ?_
    subst e₃
    rw [evalPart_none]
    refine wpAny_pure ?_
    refine tail_of_ItemOn (SBH.sliceItem_ss (P := fun h => ∀ b o, s₃.heap.get? b = some o → h.get? b = some o) (fun h o hk b ob e => Heap.get?_push_of_some _ (hk b ob e)) (fun _ _ e => e) (fun h' t' k kp => ⟨⟨_, rfl⟩, k₁.trans (k₂.trans (k₃.trans ⟨h', k, rfl, kp⟩))⟩) (small_line hn)) (by with_unfolding_all rfl) (ht _))

theorem q_streq {x y : Str} {v u : Value} (hv : IsStr x v) (hu : IsStr y u) : TV c O (compareOp .Eq v u) (· = .bool (x == y)) := fun s E z => by
  obtain ⟨t, rfl⟩ := hv; obtain ⟨t', rfl⟩ := hu
  exact PyProof.Rows.eq_str ⟨rfl, Kp.refl s⟩
end
end Mine

namespace Mine

section
variable {prog : Program} {w : World} {A : Around} {E : Value → Shared → Prop} {s : Shared}
theorem str_add_raises {x : Str} {t : Tok} {n : Int} {u : Tok} (hh : A.handled = none) : Meets (Builtin.«str.__add__» ⟨[.str x t, .int n u], []⟩) (raisesNew "TypeError") :=
  Meets.of_wp fun prog w A R s hs => by
    obtain ⟨hp, g, d, tk, os⟩ := s
    unfold Builtin.«str.__add__»
    repeat (any_goals (first | assumption | wp_step))
    have e : ((Manifest.find? "int").elim "int" fun x => x.tpName) = "int" := by decide +kernel
    rw [e]
    exact wpAny_raiseErrorMade plainExc_TypeError hs.1 hs.2 (Nat.le_trans (m := 100) (by decide +kernel) (by rw [sizeLine_eq]; omega))

theorem raise_str_add {x : Str} {t : Tok} {n : Int} {u : Tok} {Q : Value → Shared → Prop} (hh : A.handled = none) (h : ∀ h' tk e, Heap.NewExcOf s.heap h' e "TypeError" → E (.ref e) { s with heap := h', toks := tk }) :
    wpAny (model prog w) A (binaryOp .Add (.str x t) (.int n u)) Q E s := by
  unfold binaryOp
  refine wpAny_holding ?_
  refine wpAny_bind (wpAny_binaryOp1_right_declines (T := "str") (U := "int") (nm := "add") (by decide) (typeIs_str s x t) (typeIs_int s n u) PySem.noFill_str_add PySem.F.fills_int_add PySem.F.slot_int_radd
    (call_gives PySem.F.slot_int_radd (typeIs_int s n u) PySem.F.entry_int_radd (PySem.F.args_int_radd_2 _ _) (AutoIntG4.int___radd___int_str_0 n u x t) ⟨rfl, ?_⟩))
  refine wpAny_bind (wpAny_typeOf (typeIs_str s x t) ?_)
  refine wpAny_bind (wpAny_of_eq PySem.seq_str_add ?_)
  refine wpAny_bind (wpAny_rule ?_)
  exact call_meets PySem.F.slot_str_add (typeIs_str s x t) PySem.F.entry_str_add (PySem.F.args_str_add_2 _ _) (str_add_raises hh) ⟨hh, fun h' tk e hx => h h' tk e hx.of⟩

theorem int_no_ip : typeLookup (.type "int") "_ip" = pure none := am_miss_of_fast (by decide +kernel)
theorem raise_int_ip {n : Int} {t : Tok} {Q : Value → Shared → Prop} (hh : A.handled = none) (h : ∀ h' tk e, Heap.NewExcOf s.heap h' e "AttributeError" → E (.ref e) { s with heap := h', toks := tk }) :
    wpAny (model prog w) A (getAttr (.int n t) "_ip" true) Q E s := getAttr_miss_int int_no_ip hh h (Nat.le_trans (m := 200) (by decide +kernel) (by rw [sizeLine_eq]; omega))
end
end Mine

namespace Mine

/-- a heap without one object -/
def hide (h : Heap) (a : Addr) : Heap := h.update a fun o => { o with data := .freed }
theorem hide_other {h : Heap} {a b : Addr} (hab : b ≠ a) : (hide h a).get? b = h.get? b := Heap.get?_update_other _ _ (Ne.symm hab)
theorem hide_self {h : Heap} {a : Addr} : (hide h a).get? a = none := by
  cases e : (hide h a).get? a with
  | none => rfl
  | some o =>
    exfalso
    obtain ⟨h1, h2⟩ := Heap.get?_some_iff.mp e
    unfold hide Heap.update at h1
    simp only [Array.getElem?_modify, if_true] at h1
    cases h3 : h.objs[a]? with
    | none => rw [h3] at h1; cases h1
    | some o' =>
      rw [h3] at h1
      simp only [Option.map_some, Option.some.injEq] at h1
      rw [← h1] at h2
      simp [Obj.isFreed] at h2
theorem hide_keeps {h : Heap} {a b : Addr} {o : Obj} (e : (hide h a).get? b = some o) : h.get? b = some o := by
  by_cases hb : b = a
  · subst hb; rw [hide_self] at e; cases e
  · rw [hide_other hb] at e; exact e

def DictP (o : Obj) : Prop := ∃ es ep, o.data = .dict es ep

section
variable {M : Model} {A : Around} {E : Value → Shared → Prop} {s : Shared}
theorem note_first {base : Heap} {env : Env} {outer : List Env} {L e : Addr} {oe : Obj} {vs : Array Value} {a0 : Value} {Q : Unit → Shared → Prop}
    (hfr : A.frames = some (env :: outer)) (hl : s.heap.FunFrames base (env :: outer)) (hf : env.frame = some L)
    (he : s.heap.get? e = some oe) (hkb : base.StaysIn s.heap) (hen : base.get? e = none) (hd : oe.data = .fields vs) (h1 : vs[1]? = some .none) (h0 : vs[0]? = some a0)
    (h : ∀ h', Heap.NotedW base (env :: outer) e oe.cls a0 (rawInt L) s.heap h' → Q () { s with heap := h' }) : wpAny M A (noteFrame (.ref e) env) Q E s := by
  unfold noteFrame
  simp only [hf]
  refine wpAny_bind (wpAny_field he hd h1 ?_)
  rw [if_neg (by decide)]
  exact wpAny_entryW hfr hl hf he hkb hen hd (Array.getElem?_eq_some_iff.mp h1).1 h0 h

/-- the mark of the frame that an exception flies through -/
theorem flight_to {base : Heap} {l : List Env} {e L : Addr} {cls a0 fl : Value} {Q : Unit → Shared → Prop} (hkb : base.StaysIn s.heap) (hl : s.heap.FunFrames base l) (ht : s.heap.TracedAtW base e cls a0 fl)
    (h : ∀ h', base.StaysIn h' → h'.FunFrames base l → h'.TracedAtW base e cls a0 (rawInt L) → s.heap.UpToSlots h' → Q () { s with heap := h' }) :
    wpAny M A (setFlight (.ref e) (some L)) Q E s := by
  obtain ⟨oe, vs, T, oT, ts, he, hcls, hd, h1, hnT, hTe, hT, hdT, h3⟩ := ht
  have hsz3 : 3 < ts.size := (Array.getElem?_eq_some_iff.mp h3).1
  have other : ∀ b, b ≠ T → (s.heap.update T (Obj.mapFields (·.setIfInBounds 3 (rawInt L)))).get? b = s.heap.get? b := fun b hb => Heap.get?_update_other _ _ (Ne.symm hb)
  have noRecord : ∀ b o, s.heap.get? b = some o → (∀ vs, o.data ≠ .fields vs) → b ≠ T := fun b o hb hnf q => by
    rw [q, hT] at hb; injection hb with hb; subst hb; exact hnf ts hdT
  unfold setFlight
  refine wpAny_bind (wpAny_field he hd h1 ?_)
  rw [if_pos (show (Value.ref T != Value.none) = true from by simp)]
  refine wpAny_setField hT hdT hsz3 (h _ (fun b o hbo => (other b fun q => by rw [q, hnT] at hbo; cases hbo).trans (hkb b o hbo))
    (hl.of_keeps fun b o hb hnf => ⟨o, (other b (noRecord b o hb hnf)).trans hb, rfl⟩) ?_ fun b o hb hnf => ⟨o.slots, (other b (noRecord b o hb hnf)).trans hb⟩)
  exact ⟨oe, vs, T, _, _, (other e (Ne.symm hTe)).trans he, hcls, hd, h1, hnT, hTe, Heap.get?_update_self _ hT (Obj.isFreed_of_fields (Obj.data_mapFields hdT _)), Obj.data_mapFields hdT _, by simp [hsz3]⟩

theorem came_back {base : Heap} {env : Env} {l : List Env} {e L : Addr} {cls a0 fl : Value} {Q : Unit → Shared → Prop} (hf : env.frame = some L) (hkb : base.StaysIn s.heap) (hl : s.heap.FunFrames base l) (ht : s.heap.TracedAtW base e cls a0 fl)
    (h : ∀ h', base.StaysIn h' → h'.FunFrames base l → h'.TracedAtW base e cls a0 (rawInt L) → s.heap.UpToSlots h' → Q () { s with heap := h' }) :
    wpAny M A (do
      if (← field (.ref e) 1) == .none then unsupported "frame.own-activation:exception-without-traceback"
      setFlight (.ref e) env.frame) Q E s := by
  obtain ⟨oe, vs, T, oT, ts, he, hcls, hd, h1, hnT, hTe, hT, hdT, h3⟩ := id ht
  refine wpAny_bind (wpAny_field he hd h1 ?_)
  rw [if_neg (show ¬ ((Value.ref T == Value.none) = true) from by simp)]
  first
    | (rw [hf]; exact flight_to hkb hl ht h)
    | (refine wpAny_bind (wpAny_pure ?_); rw [hf]; exact flight_to hkb hl ht h)
end

/-- what a row holds: a number itself, a box with a text, a box with a number -/
inductive Th where
  | bare
  | text
  | num (n : Int)
def ThR (O : Led) : Th → Value → Prop
  | .bare, v => ∃ n t, v = .int n t
  | .text, v => ∃ b x t, v = .ref b ∧ Box O b (.str x t)
  | .num n, v => Bx O n v
theorem ThR.mono {O O' : Led} {a : Th} {v : Value} (x : ThR O a v) (h : ∀ p ∈ O, p ∈ O') : ThR O' a v := by
  cases a with
  | bare => exact x
  | text => obtain ⟨b, y, t, e, hb⟩ := x; exact ⟨b, y, t, e, hb.mono h⟩
  | num n => exact Bx.mono x h
inductive Out where
  | go | told | attr | type | fin
def stepOf : Th → Th → Out
  | _, .bare => .attr
  | .bare, _ => .attr
  | .text, _ => .type
  | .num n, .num m => if m = n + 1 then .go else .told
  | .num _, .text => .told
/-- how many things go on, and how it ends -/
def scan : Th → List Th → Nat × Out
  | _, [] => (0, .fin)
  | a, t :: r => match stepOf a t with
    | .go => ((scan t r).1 + 1, (scan t r).2)
    | o => (0, o)

/-- an exception has left the walk -/
def ErrOut (lawE : Env) (G L : Addr) (s₁ : Shared) (cls : String) (en : End) (s' : Shared) : Prop :=
  ∃ e base a0, en = .ret (.error (.ref e)) ∧ (∀ b o, b ≠ G → b ≠ L → s₁.heap.get? b = some o → base.get? b = some o) ∧ Heap.FlyingW base [lawE] e (.type cls) a0 s'.heap ∧ s₁.heap.UpToSlots s'.heap ∧ s'.gens = s₁.gens ∧ s'.os = s₁.os

section
variable {b : Cx} {pm : Value} {G : Addr}

/-- what the rest of the walk's text does with an exception -/
def FailK (b : Cx) (pm : Value) (G : Addr) (A : Around) (lawE : Env) (body : List Stmt) (kr : Result → Sem Fin) : Prop :=
  ∀ s e base cls a0, Heap.HeldW base [(genC b pm G).env, lawE] e cls a0 G s.heap →
    RT (model b.prog b.w) A (.func body (genC b pm G).env) (kr (.error (.ref e))) [] s fun en s' => en = .ret (.error (.ref e)) ∧ Heap.FlyingW base [lawE] e cls a0 s'.heap ∧ s.heap.UpToSlots s'.heap ∧ s'.gens = s.gens ∧ s'.os = s.os

theorem gen_fail {A : Around} {lawE : Env} {L : Addr} (hAf : A.frames = some [lawE]) (hLf : lawE.frame = some L) (hLk : lawE.scope.kind ≠ .module) {px : Pos} {it : Value} {fb body : List Stmt} {kr : Result → Sem Fin} {p : Pos} (hk : FailK b pm G A lawE body kr)
    {Mu O : Led} {sg : Str → Option Value} {gs : Array GenState} {s₁ : Shared} (x : At ((genC b pm G).up Mu sg gs) O s₁) (hL : (L, DictP) ∈ O) {h' : Heap} {tk : Nat} {e : Addr} {cls : String} (hx : Heap.NewExcOf s₁.heap h' e cls) :
    RT (model b.prog b.w) A (.forLoop (.Name "ip" px) it fb [] (genC b pm G).env) (turnErr (genC b pm G).env (.ref e)) [.ret kr none false [] (.func body (genC b pm G).env) p []] { s₁ with heap := h', toks := tk } (ErrOut lawE G L s₁ cls) := by
  have hLG : L ≠ G := fun h => x.offO _ hL (Cx.mem_places.mpr (.inl h))
  let base := hide (hide s₁.heap G) L
  have hbG : base.get? G = none := by show (hide (hide s₁.heap G) L).get? G = none; rw [hide_other (Ne.symm hLG), hide_self]
  have hbL : base.get? L = none := hide_self
  have hbo : ∀ b o, b ≠ G → b ≠ L → s₁.heap.get? b = some o → base.get? b = some o := fun c o h1 h2 e => by
    show (hide (hide s₁.heap G) L).get? c = some o
    rw [hide_other h2, hide_other h1]; exact e
  have hbs : base.StaysIn h' := fun c o e => hx.keeps c o (hide_keeps (hide_keeps e))
  have hbe : base.get? e = none := by
    cases q : base.get? e with
    | none => rfl
    | some o => have := hide_keeps (hide_keeps q); rw [hx.new] at this; cases this
  obtain ⟨ob, vs, he, hcls, hd, h1⟩ := hx.there
  obtain ⟨m, ⟨oG, es, ep, hoG, hdG, _⟩, _⟩ := x.ns
  obtain ⟨oL, hoL, es', ep', hdL⟩ := x.own _ hL
  have hFF : h'.FunFrames base [(genC b pm G).env, lawE] :=
    ⟨(fun h => nomatch (show ScopeKind.function = ScopeKind.module from h)), ⟨G, oG, rfl, hbG, hx.keeps _ _ hoG, fun ws q => by rw [hdG] at q; cases q⟩, hLk, ⟨L, oL, hLf, hbL, hx.keeps _ _ hoL, fun ws q => by rw [hdL] at q; cases q⟩, trivial⟩
  obtain ⟨a0, ha0⟩ : ∃ a0, vs[0]? = some a0 := ⟨vs[0]'(by have := (Array.getElem?_eq_some_iff.mp h1).1; omega), by simp⟩
  unfold turnErr
  refine rt_wrap (wpAny_bind (note_first (base := base) (outer := [lawE]) (by simp only [Around.over, hAf]; rfl) hFF rfl he hbs hbe hd h1 ha0 fun h₂ hN => ?_))
  refine wpAny_theTreesLotGoes ?_
  obtain ⟨n1, n2, n3, n4⟩ := hN
  rw [hcls] at n3
  refine rt_leaf (.error (.ref e)) (rt_mono (hk _ e base (.type cls) a0 ⟨n1, hbe, n2, n3⟩) ?_)
  rintro en s' ⟨rfl, hfl, hup, hg, ho⟩
  refine ⟨e, base, a0, rfl, hbo, hfl, ?_, hg, ho⟩
  exact (Heap.UpToSlots.of_keeps hx.keeps).trans (Heap.UpToSlots.trans n4 hup)
end
end Mine

namespace Mine

def isTold : Out → Bool
  | .told => true
  | _ => false
def errOf : Out → Option String
  | .attr => some "AttributeError"
  | .type => some "TypeError"
  | _ => none

section
variable {b : Cx} {pm : Value} {G : Addr} {O : Led} {s : Shared} {E : Value → Shared → Prop}

abbrev gC6 (b : Cx) (pm : Value) (G : Addr) (Af : Around) (Mu : Led) (sg : Str → Option Value) (gs : Array GenState) : Cx := { genC b pm G with A := Af, Mu := Mu, sg := sg, gs := gs }

set_option maxHeartbeats 1000000 in
theorem t_ok6 {Af : Around} {Mu : Led} {sg : Str → Option Value} {gs : Array GenState} {ti tl : Th} {iv lv : Value} {p1 p2 p3 p4 p5 p6 p7 : Pos} {k : Nat} {w : Sem Value} (o : Own (gC6 b pm G Af Mu sg gs)) (hip : sg "ip" = some iv) (hla : sg "last" = some lv) (hi : ThR O ti iv) (hl : ThR O tl lv) (hs : errOf (stepOf tl ti) = none) :
    TV (gC6 b pm G Af Mu sg gs) O (isTrue (.Compare (.Attribute (.Name "ip" p1) "_ip" p2) [.NotEq] [.BinOp (.Attribute (.Name "last" p3) "_ip" p4) .Add (.Constant (.int 1) k p5) p6] p7) (genC b pm G).env w) (· = isTold (stepOf tl ti)) := by
  cases tl with
  | bare => cases ti <;> cases hs
  | text => cases ti <;> cases hs
  | num n =>
    obtain ⟨bl, ul, rfl, hbl, hul⟩ := hl
    have hR : TV (gC6 b pm G Af Mu sg gs) O (eval (.BinOp (.Attribute (.Name "last" p3) "_ip" p4) .Add (.Constant (.int 1) k p5) p6) (genC b pm G).env) (IsInt (n + 1)) :=
      e_add (c := gC6 b pm G Af Mu sg gs) ((e_ip o (e_local hla) hbl (by obtain ⟨t, rfl⟩ := hul; rfl)).mono fun v hv => hv ▸ hul) e_int
    cases ti with
    | bare => cases hs
    | text =>
      obtain ⟨bi, x, t, rfl, hbi⟩ := hi
      refine t_cmp (c := gC6 b pm G Af Mu sg gs) (q := true) (P1 := (· = .str x t)) (e_ip o (e_local hip) hbi rfl) hR ?_
      rintro a d rfl ⟨td, rfl⟩
      exact fun s E x => PySem.EqMixed.ne_str_int ⟨rfl, Kp.refl s⟩
    | num m =>
      obtain ⟨bi, ui, rfl, hbi, hui⟩ := hi
      have := t_cmp (c := gC6 b pm G Af Mu sg gs) (op := .NotEq) (pos := p7) (w := w) (e_ip (pos := p2) (e := .Name "ip" p1) o (e_local hip) hbi (by obtain ⟨t, rfl⟩ := hui; rfl)) hR (fun a b ha hb => q_ne (ha ▸ hui) hb)
      refine this.mono fun v hv => ?_
      rw [hv]
      show (m != n + 1) = isTold (if m = n + 1 then Out.go else Out.told)
      by_cases h : m = n + 1
      · rw [if_pos h, h]; simp [isTold]
      · rw [if_neg h]; simp [isTold, h]

set_option maxHeartbeats 1000000 in
theorem t_bad6 {Af : Around} {Mu : Led} {sg : Str → Option Value} {gs : Array GenState} {ti tl : Th} {iv lv : Value} {p1 p2 p3 p4 p5 p6 p7 : Pos} {k : Nat} {w : Sem Value} {Q : Bool → Shared → Prop} {cls : String} (o : Own (gC6 b pm G Af Mu sg gs)) (hip : sg "ip" = some iv) (hla : sg "last" = some lv) (hi : ThR O ti iv) (hl : ThR O tl lv) (hs : errOf (stepOf tl ti) = some cls)
    (y : At (gC6 b pm G Af Mu sg gs) O s) (q : ∀ s₁ h' tk e, Kp s s₁ → At (gC6 b pm G Af Mu sg gs) O s₁ → Heap.NewExcOf s₁.heap h' e cls → E (.ref e) { s₁ with heap := h', toks := tk }) :
    wpAny (model b.prog b.w) Af (isTrue (.Compare (.Attribute (.Name "ip" p1) "_ip" p2) [.NotEq] [.BinOp (.Attribute (.Name "last" p3) "_ip" p4) .Add (.Constant (.int 1) k p5) p6] p7) (genC b pm G).env w) Q E s := by
  have hh : Af.handled = none := o.std.hh
  have nb : ∀ (iv₀ : Value), ti ≠ .bare → TV (gC6 b pm G Af Mu sg gs) O (eval (.Attribute (.Name "ip" p1) "_ip" p2) (genC b pm G).env) (fun _ => True) := by
    intro iv₀ h
    cases ti with
    | bare => exact absurd rfl h
    | text => obtain ⟨bi, x, t, rfl, hbi⟩ := hi; exact (e_ip (c := gC6 b pm G Af Mu sg gs) o (e_local hip) hbi rfl).mono fun _ _ => trivial
    | num m => obtain ⟨bi, ui, rfl, hbi, hui⟩ := hi; exact (e_ip (c := gC6 b pm G Af Mu sg gs) o (e_local hip) hbi (by obtain ⟨t, rfl⟩ := hui; rfl)).mono fun _ _ => trivial
  have hne : (ti = .bare ∧ cls = "AttributeError") ∨ (ti ≠ .bare ∧ tl = .bare ∧ cls = "AttributeError") ∨ (ti ≠ .bare ∧ tl = .text ∧ cls = "TypeError") := by
    cases ti with
    | bare =>
      left
      refine ⟨rfl, ?_⟩
      cases tl <;> (simp [stepOf, errOf] at hs; exact hs.symm)
    | text =>
      cases tl with
      | bare => right; left; exact ⟨(fun h => nomatch h), rfl, by simp [stepOf, errOf] at hs; exact hs.symm⟩
      | text => right; right; exact ⟨(fun h => nomatch h), rfl, by simp [stepOf, errOf] at hs; exact hs.symm⟩
      | num n => simp [stepOf, errOf] at hs
    | num m =>
      cases tl with
      | bare => right; left; exact ⟨(fun h => nomatch h), rfl, by simp [stepOf, errOf] at hs; exact hs.symm⟩
      | text => right; right; exact ⟨(fun h => nomatch h), rfl, by simp [stepOf, errOf] at hs; exact hs.symm⟩
      | num n =>
        exfalso
        simp only [stepOf] at hs
        split at hs <;> simp [errOf] at hs
  rcases hne with ⟨rfl, rfl⟩ | ⟨h1, rfl, rfl⟩ | ⟨h1, rfl, rfl⟩
  · obtain ⟨n, t, rfl⟩ := hi
    refine wpAny_isTrue_Compare1 (Attribute_any_ ((e_local (c := gC6 b pm G Af Mu sg gs) (v := .int n t) hip).use y fun u s₁ q₁ k₁ y₁ => ?_) rfl) (by with_unfolding_all rfl)
    subst q₁
    exact raise_int_ip hh fun h' tk e hx => q s₁ h' tk e k₁ y₁ hx
  · obtain ⟨n, t, rfl⟩ := hl
    refine wpAny_isTrue_Compare1 ((nb iv h1).use y fun u s₁ _ k₁ y₁ => ?_) (by with_unfolding_all rfl)
    refine wpAny_BinOp (Attribute_any_ ((e_local (c := gC6 b pm G Af Mu sg gs) (v := .int n t) hla).use y₁ fun u s₂ q₂ k₂ y₂ => ?_) rfl)
    subst q₂
    exact raise_int_ip hh fun h' tk e hx => q s₂ h' tk e (k₁.trans k₂) y₂ hx
  · obtain ⟨bl, x, t, rfl, hbl⟩ := hl
    refine wpAny_isTrue_Compare1 ((nb iv h1).use y fun u s₁ _ k₁ y₁ => ?_) (by with_unfolding_all rfl)
    refine wpAny_BinOp ((e_ip (c := gC6 b pm G Af Mu sg gs) o (e_local hla) hbl rfl).use y₁ fun u s₂ q₂ k₂ y₂ => (e_int (c := gC6 b pm G Af Mu sg gs) (i := 1)).use y₂ fun v s₃ q₃ k₃ y₃ => ?_)
    subst q₂
    obtain ⟨t', rfl⟩ := q₃
    exact raise_str_add hh fun h' tk e hx => q s₃ h' tk e (k₁.trans (k₂.trans k₃)) y₃ hx
end
end Mine

namespace Mine

/-- a walk's stretch over a row of things ends -/
def GTold (c : Cx) (it l : Addr) (i : Nat) (vs : List Value) (k : Nat) (fv lv : Value) (O : Led) (gs : Array GenState) (s₀ : Shared) (S : (Resume → Sem Fin) → Code → List Frame → Prop) (e : End) (s' : Shared) : Prop :=
  ∃ lvs kk cd p fs T sg' lastv nv, e = .susp (.ref T) false lvs kk cd p fs ∧ fs.any Frame.guarded = false ∧ s₀.heap.get? T = none ∧ Alt [c.env.locals, it] s₀ s' ∧ sg' "it" = some (.ref it) ∧
    (lv :: vs.drop i)[k]? = some lastv ∧ (vs.drop i)[k]? = some nv ∧ sg' "ip" = some nv ∧ At (c.up [(it, IterP l (i + k + 1)), (l, LP vs)] sg' gs) ((T, TP [fv, lastv]) :: O) s' ∧ S kk cd fs
def GFin (c : Cx) (it l : Addr) (i : Nat) (vs : List Value) (k : Nat) (fv lv : Value) (O : Led) (gs : Array GenState) (s₀ : Shared) (L : (Resume → Sem Fin) → Code → List Frame → Prop) (e : End) (s' : Shared) : Prop :=
  ∃ lvs kk cd p fs T sg' lastv, e = .susp (.ref T) false lvs kk cd p fs ∧ fs.any Frame.guarded = false ∧ s₀.heap.get? T = none ∧ Alt [c.env.locals, it] s₀ s' ∧
    (lv :: vs.drop i)[k]? = some lastv ∧ At (c.up [(it, EndP), (l, LP vs)] sg' gs) ((T, TP [fv, lastv]) :: O) s' ∧ L kk cd fs
def GErr (c : Cx) (it l : Addr) (lawE : Env) (LL : Addr) (vs : List Value) (O : Led) (gs : Array GenState) (s₀ : Shared) (cls : String) (e : End) (s' : Shared) : Prop :=
  ∃ s₁ sg' j, Alt [c.env.locals, it] s₀ s₁ ∧ At (c.up [(it, IterP l j), (l, LP vs)] sg' gs) O s₁ ∧ ErrOut lawE c.env.locals LL s₁ cls e s'
def GOut6 (c : Cx) (it l : Addr) (lawE : Env) (LL : Addr) (i : Nat) (vs : List Value) (r : Nat × Out) (fv lv : Value) (O : Led) (gs : Array GenState) (s₀ : Shared) (S L : (Resume → Sem Fin) → Code → List Frame → Prop) (e : End) (s' : Shared) : Prop :=
  match r.2 with
  | .told => GTold c it l i vs r.1 fv lv O gs s₀ S e s'
  | .fin => GFin c it l i vs r.1 fv lv O gs s₀ L e s'
  | .attr => GErr c it l lawE LL vs O gs s₀ "AttributeError" e s'
  | .type => GErr c it l lawE LL vs O gs s₀ "TypeError" e s'
  | .go => True

theorem scan_no_go : ∀ (a : Th) (r : List Th), (scan a r).2 ≠ .go
  | _, [] => by unfold scan; simp
  | a, t :: r => by
    unfold scan
    cases h : stepOf a t with
    | go => exact scan_no_go t r
    | told => simp
    | attr => simp
    | type => simp
    | fin => simp

def Susp6 (c : Cx) (A : Around) (lawE : Env) (LL it l : Addr) : Nat → (Resume → Sem Fin) → Code → List Frame → Prop
  | 0 => fun _ _ _ => True
  | n + 1 => fun k cd fs => ∀ s O sg gs i vs ts pv th, At (c.up [(it, IterP l i), (l, LP vs)] sg gs) O s → (LL, DictP) ∈ O → sg "it" = some (.ref it) → sg "ip" = some pv → ThR O th pv → Paired (ThR O) ts vs →
      RT (model c.prog c.w) A cd (k (.send .none)) fs s (GOut6 c it l lawE LL i vs (scan th (ts.drop i)) pv pv O gs s (Susp6 c A lawE LL it l n) (LastK c A))

section
variable {b : Cx} {pm : Value} {G : Addr}

set_option maxHeartbeats 8000000 in
theorem gen_loop6 (o : GenOk b pm G) {A : Around} (hA : A.handled = none) (hd : A.depth + 20 < recursionLimit) {lawE : Env} {LL : Addr} (hAf : A.frames = some [lawE]) (hLf : lawE.frame = some LL) (hLk : lawE.scope.kind ≠ .module) {it l : Addr} {px : Pos} {body : List Stmt} {kr : Result → Sem Fin} {p : Pos}
    (after : ∀ s₁ O sg gs vs fv lv, At ((genC b pm G).up [(it, EndP), (l, LP vs)] sg gs) O s₁ → sg "it" = some (.ref it) → sg "first" = some fv → sg "last" = some lv →
      RT (model b.prog b.w) A (.func body (genC b pm G).env) (kr (.ok .next)) [] s₁ (LastOut ((genC b pm G).up [(it, EndP), (l, LP vs)] sg gs) A O s₁ fv lv))
    (fail : FailK b pm G A lawE body kr) :
    ∀ (n m : Nat) s₀ s O sg gs i vs ts fv lv th, ts.length - i = m → At ((genC b pm G).up [(it, IterP l i), (l, LP vs)] sg gs) O s → (LL, DictP) ∈ O → Alt [G, it] s₀ s → sg "it" = some (.ref it) → sg "first" = some fv → sg "last" = some lv →
      ThR O th lv → Paired (ThR O) ts vs →
      RT (model b.prog b.w) A (.forLoop (.Name "ip" px) (.ref it) forBodyG [] (genC b pm G).env) ((model b.prog b.w).den (.forLoop (.Name "ip" px) (.ref it) forBodyG [] (genC b pm G).env))
        [.ret kr none false [] (.func body (genC b pm G).env) p []] s (GOut6 (genC b pm G) it l lawE LL i vs (scan th (ts.drop i)) fv lv O gs s₀ (Susp6 (genC b pm G) A lawE LL it l n) (LastK (genC b pm G) A)) := by
  intro n
  refine Nat.strongRecOn n fun n ihn => ?_
  intro m
  induction m with
  | zero =>
    intro s₀ s O sg gs i vs ts fv lv th hm x hLL al hi hf hl hb hp
    have hr : ts.drop i = [] := List.drop_of_length_le (by omega)
    have hrv : vs.drop i = [] := List.drop_of_length_le (by rw [← hp.length]; omega)
    have hov := over_for (x := .Name "ip" px) (it := .ref it) (b := forBodyG) (o := []) (env := (genC b pm G).env) (env' := (genC b pm G).env) (kr := kr) (g := false) (l := []) (body := body) (p := p) (kp := []) hA
    refine rt_forLoop ?_
    have hv : vs[i]? = none := List.getElem?_eq_none (by rw [← hp.length]; omega)
    refine n_end (c := (genC b pm G).up [] sg gs) (Mu := [(l, LP vs)]) x rfl hov.1 (x.mu _ (.tail _ (.head _))).isList hv fun s₁ al₁ x₁ => ?_
    have alive : ∀ a ∈ [G, it], s₁.heap.get? a ≠ none := by
      intro a ha
      refine x₁.alive (Cx.mem_places.mpr ?_)
      simp only [List.mem_cons, List.not_mem_nil, or_false] at ha
      rcases ha with rfl | rfl
      · exact .inl rfl
      · exact .inr (.inr ⟨_, .head _⟩)
    have al' : Alt [G, it] s₀ s₁ := al.trans (al₁.sub (by simp))
    refine rt_leaf (.ok .next) (rt_mono (after s₁ O sg gs vs fv lv x₁ hi hf hl) ?_)
    rintro e s' ⟨v, lvs, k, cd, p', fs, T, rfl, hg, rfl, hT, kp, y, hk⟩
    rw [hr]
    exact ⟨lvs, k, cd, p', fs, T, sg, lv, rfl, hg, al'.fresh_back alive hT, al'.trans kp.alt, rfl, y, hk⟩
  | succ m ihm =>
    intro s₀ s O sg gs i vs ts fv lv th hm x hLL al hi hf hl hb hp
    have hov := over_for (x := .Name "ip" px) (it := .ref it) (b := forBodyG) (o := []) (env := (genC b pm G).env) (env' := (genC b pm G).env) (kr := kr) (g := false) (l := []) (body := body) (p := p) (kp := []) hA
    have hlt : i < ts.length := by omega
    have hltv : i < vs.length := by rw [← hp.length]; exact hlt
    obtain ⟨tn, htn⟩ : ∃ tn, ts[i]? = some tn := ⟨ts[i], by simp [hlt]⟩
    obtain ⟨nv, hnv⟩ : ∃ nv, vs[i]? = some nv := ⟨vs[i], by simp [hltv]⟩
    have hbx : ThR O tn nv := paired_get hp i tn nv htn hnv
    have dn : ts.drop i = tn :: ts.drop (i + 1) := by rw [List.drop_eq_getElem_cons hlt]; congr 1; rw [List.getElem?_eq_getElem hlt] at htn; exact Option.some.inj htn
    have dv : vs.drop i = nv :: vs.drop (i + 1) := by rw [List.drop_eq_getElem_cons hltv]; congr 1; rw [List.getElem?_eq_getElem hltv] at hnv; exact Option.some.inj hnv
    generalize hAfe : A.over (.forLoop (.Name "ip" px) (.ref it) forBodyG [] (genC b pm G).env) [.ret kr none false [] (.func body (genC b pm G).env) p []] = Af at hov
    refine rt_forLoop ?_
    rw [hAfe]
    refine n_item (c := (genC b pm G).up [] sg gs) (Mu := [(l, LP vs)]) x rfl (x.mu _ (.tail _ (.head _))).isList hnv fun s₁ al₁ x₁ => ?_
    have x₁' : At (gC6 b pm G Af [(it, IterP l (i + 1)), (l, LP vs)] sg gs) O s₁ := x₁.withA Af
    refine w_store_loc (c := gC6 b pm G Af [(it, IterP l (i + 1)), (l, LP vs)] sg gs) rfl rfl rfl (fun h => nomatch h) x₁' fun s₂ al₂ x₂ => ?_
    have ow := o Af [(it, IterP l (i + 1)), (l, LP vs)] (upd sg "ip" nv) gs hov.1 (by rw [hov.2]; omega)
    have alive : ∀ {j : Nat} {sg' : Str → Option Value} {gs' : Array GenState} {O' : Led} {s' : Shared}, At ((genC b pm G).up [(it, IterP l j), (l, LP vs)] sg' gs') O' s' → ∀ a ∈ [G, it], s'.heap.get? a ≠ none := by
      intro j sg' gs' O' s' y a ha
      refine y.alive (Cx.mem_places.mpr ?_)
      simp only [List.mem_cons, List.not_mem_nil, or_false] at ha
      rcases ha with rfl | rfl
      · exact .inl rfl
      · exact .inr (.inr ⟨_, .head _⟩)
    have al₂' : Alt [G, it] s₀ s₂ := (al.trans (al₁.sub (by simp))).trans (al₂.sub (by intro y hy; rw [List.mem_singleton.mp hy]; exact .head _))
    have nip : upd sg "ip" nv "ip" = some nv := upd_same
    have nla : upd sg "ip" nv "last" = some lv := (upd_ne (by decide)).trans hl
    have nfi : upd sg "ip" nv "first" = some fv := (upd_ne (by decide)).trans hf
    have nit : upd sg "ip" nv "it" = some (.ref it) := (upd_ne (by decide)).trans hi
    cases hst : errOf (stepOf th tn) with
    | some cls =>
      refine rt_execs_cons (rt_If ?_)
      rw [hAfe]
      refine t_bad6 (b := b) (pm := pm) (G := G) (cls := cls) ow nip nla hbx hb hst x₂ fun s₃ h' tk e k₃ x₃ hx => ?_
      have al₃ : Alt [G, it] s₀ s₃ := al₂'.trans k₃.alt
      refine rt_mono (gen_fail (b := b) (pm := pm) (G := G) hAf hLf hLk fail (x₃.withA b.A) hLL hx) ?_
      intro en s' herr
      have key : GErr (genC b pm G) it l lawE LL vs O gs s₀ cls en s' := ⟨s₃, upd sg "ip" nv, i + 1, al₃, x₃.withA b.A, herr⟩
      rw [dn]
      unfold scan
      cases hso : stepOf th tn with
      | attr => rw [hso] at hst; cases hst; exact key
      | type => rw [hso] at hst; cases hst; exact key
      | go => rw [hso] at hst; cases hst
      | told => rw [hso] at hst; cases hst
      | fin => rw [hso] at hst; cases hst
    | none =>
      refine rt_execs_cons (rt_If ?_)
      rw [hAfe]
      refine (t_ok6 (b := b) (pm := pm) (G := G) ow nip nla hbx hb hst).use x₂ fun q s₃ hq k₃ x₃ => ?_
      subst hq
      have al₃ := al₂'.trans k₃.alt
      cases hso : stepOf th tn with
      | attr => rw [hso] at hst; cases hst
      | type => rw [hso] at hst; cases hst
      | fin =>
        exfalso
        cases tn with
        | bare => cases th <;> cases hso
        | text => cases th <;> cases hso
        | num m' =>
          cases th with
          | bare => cases hso
          | text => cases hso
          | num n' => simp only [stepOf] at hso; split at hso <;> cases hso
      | told =>
        simp only [isTold, if_true]
        have hsc : scan th (ts.drop i) = (0, .told) := by rw [dn]; unfold scan; rw [hso]
        rw [hsc]
        refine rt_execs_cons (rt_Yield rfl ?_ rfl rfl)
        rw [hAfe]
        refine (tuple2 (c := gC6 b pm G Af [(it, IterP l (i + 1)), (l, LP vs)] (upd sg "ip" nv) gs) (u := fv) (v := lv) (e_local nfi) (e_local nla)).use x₃ fun v s₄ N ⟨T, h3, h4⟩ g₄ x₄ => ?_
        subst h3; subst h4
        intro kk lvs p' hres
        have x₄' : At ((genC b pm G).up [(it, IterP l (i + 1)), (l, LP vs)] (upd sg "ip" nv) gs) ((T, TP [fv, lv]) :: O) s₄ := x₄.withA b.A
        refine ⟨lvs, kk, _, p', _, T, upd sg "ip" nv, lv, nv, rfl, rfl, al₃.fresh_back (alive (x₃.withA b.A)) (g₄.2 _ (.head _)).1, al₃.trans g₄.1.alt, nit, rfl, by rw [dv]; rfl, nip, x₄', ?_⟩
        cases n with
        | zero => trivial
        | succ n =>
          intro s₅ O₅ sg₅ gs₅ i₅ vs₅ ts₅ pv th₅ x₅ hLL₅ hit hip hbp hpp
          refine hres .none s₅ _ (fun a h => nomatch h) ?_
          have y₅ := x₅.withA Af
          refine rt_stmt ?_
          rw [hAfe]
          refine x_assign_loc (c := gC6 b pm G Af [(it, IterP l i₅), (l, LP vs₅)] sg₅ gs₅) rfl rfl rfl (fun h => nomatch h) (e_local hip) y₅ fun v s₆ hv al₆ x₆ => ?_
          subst hv
          refine rt_execs_nil ?_
          refine rt_stmt ?_
          rw [hAfe]
          refine x_assign_loc (c := gC6 b pm G Af [(it, IterP l i₅), (l, LP vs₅)] (upd sg₅ "first" v) gs₅) rfl rfl rfl (fun h => nomatch h) (e_local (v := v) ((upd_ne (sg := sg₅) (x := "first") (v := v) (by decide)).trans hip)) x₆ fun v' s₇ hv al₇ x₇ => ?_
          subst hv
          refine rt_execs_nil (rt_again rfl ?_)
          refine ihn n (Nat.lt_succ_self n) _ s₅ s₇ O₅ (upd (upd sg₅ "first" v') "last" v') gs₅ i₅ vs₅ ts₅ v' v' th₅ rfl (x₇.withA b.A) hLL₅ ?_ ((upd_ne (by decide)).trans ((upd_ne (by decide)).trans hit)) ((upd_ne (by decide)).trans upd_same) upd_same hbp hpp
          exact (al₆.trans al₇).sub (by intro y hy; rw [List.mem_singleton.mp hy]; exact .head _)
      | go =>
        simp only [isTold, Bool.false_eq_true, if_false]
        have hsc : scan th (ts.drop i) = ((scan tn (ts.drop (i + 1))).1 + 1, (scan tn (ts.drop (i + 1))).2) := by rw [dn]; conv => lhs; unfold scan; rw [hso]
        refine rt_execs_nil ?_
        refine rt_stmt ?_
        rw [hAfe]
        refine x_assign_loc (c := gC6 b pm G Af [(it, IterP l (i + 1)), (l, LP vs)] (upd sg "ip" nv) gs) rfl rfl rfl (fun h => nomatch h) (e_local (v := nv) nip) x₃ fun v s₄ hv al₄ x₄ => ?_
        subst hv
        refine rt_execs_nil (rt_again rfl ?_)
        refine rt_mono (ihm s₀ s₄ O (upd (upd sg "ip" v) "last" v) gs (i + 1) vs ts fv v tn (by omega) (x₄.withA b.A) hLL ?_ ((upd_ne (by decide)).trans nit) ((upd_ne (by decide)).trans nfi) upd_same hbx hp) ?_
        · exact al₃.trans (al₄.sub (by intro y hy; rw [List.mem_singleton.mp hy]; exact .head _))
        · intro e s' hout
          rw [hsc]
          unfold GOut6 at hout ⊢
          dsimp only
          cases hr2 : (scan tn (ts.drop (i + 1))).2 with
          | told =>
            rw [hr2] at hout
            obtain ⟨lvs, kk, cd, p', fs, T, sg', lastv, nv', h1, h2, h3, h4, h5, h6, h7, h8, h9, h10⟩ := hout
            refine ⟨lvs, kk, cd, p', fs, T, sg', lastv, nv', h1, h2, h3, h4, h5, ?_, ?_, h8, ?_, h10⟩
            · rw [dv, List.getElem?_cons_succ]; exact h6
            · rw [dv, List.getElem?_cons_succ]; exact h7
            · rw [show i + ((scan tn (ts.drop (i + 1))).1 + 1) + 1 = i + 1 + (scan tn (ts.drop (i + 1))).1 + 1 from by omega]; exact h9
          | fin =>
            rw [hr2] at hout
            obtain ⟨lvs, kk, cd, p', fs, T, sg', lastv, h1, h2, h3, h4, h5, h6⟩ := hout
            refine ⟨lvs, kk, cd, p', fs, T, sg', lastv, h1, h2, h3, h4, ?_, h6⟩
            rw [dv, List.getElem?_cons_succ]; exact h5
          | attr => rw [hr2] at hout; exact hout
          | type => rw [hr2] at hout; exact hout
          | go => trivial
end
end Mine

namespace Mine

section
variable {b : Cx} {pm : Value} {G : Addr}

theorem fail_of {A : Around} {lawE : Env} {body : List Stmt} {K : Flow → Sem Fin} :
    FailK b pm G A lawE body (fun r => ((match r with | .ok f => (.pure f : Sem Flow) | .error e => .raise e).onRaise fun (x : Value) => do
        if (← field x 1) == Value.none then unsupported "frame.own-activation:exception-without-traceback"
        setFlight x (genC b pm G).env.frame).wrap K (fun e => (leaving (genC b pm G).env e).wrap (fun _ => .raise e) .raise id id) id id) := by
  intro s e base cls a0 hh
  obtain ⟨h1, h2, h3, h4⟩ := hh
  dsimp only
  rw [Sem.onRaise_eq_wrap]
  show RT _ A _ (((do
        if (← field (.ref e) 1) == Value.none then unsupported "frame.own-activation:exception-without-traceback"
        setFlight (.ref e) (genC b pm G).env.frame : Sem Unit).bind fun _ => (.raise (.ref e) : Sem Flow)).wrap K (fun e => (leaving (genC b pm G).env e).wrap (fun _ => .raise e) .raise id id) id id) _ _ _
  rw [Sem.bind_eq_wrap, Sem.wrap_wrap]
  refine rt_wrap (came_back (base := base) (l := [(genC b pm G).env, lawE]) (L := G) rfl h1 h3 h4 fun h' k1 k2 k3 k4 => ?_)
  show RT _ A _ ((leaving (genC b pm G).env (.ref e)).wrap (fun _ => .raise (.ref e)) .raise id id) _ _ _
  refine rt_wrap ?_
  unfold leaving
  refine wpAny_bind (wpAny_noteFrame_againW (L := G) rfl k3 ?_)
  refine wpAny_landsW (base := base) (l := [(genC b pm G).env, lawE]) (L := G) (cls := cls) (a0 := a0) ⟨k1, h2, k2, k3⟩ fun h'' hfl hup => ?_
  refine rt_end (.error (.ref e)) ⟨rfl, ?_, k4.trans hup, rfl, rfl⟩
  obtain ⟨f1, f2, ⟨_, _, f3⟩, f4⟩ := hfl
  exact ⟨f1, f2, f3, f4⟩

set_option maxHeartbeats 8000000 in
theorem gen_start6 (o : GenOk b pm G) {A : Around} (hA : A.handled = none) (hd : A.depth + 20 < recursionLimit) {lawE : Env} {LL : Addr} (hAf : A.frames = some [lawE]) (hLf : lawE.frame = some LL) (hLk : lawE.scope.kind ≠ .module) {it l : Addr} (n : Nat) {s₀ s : Shared} {O : Led} {sg : Str → Option Value} {gs : Array GenState} {i : Nat} {vs : List Value} {ts : List Th} {v₀ : Value} {t₀ : Th}
    (x : At ((genC b pm G).up [(it, IterP l i), (l, LP vs)] sg gs) O s) (hLL : (LL, DictP) ∈ O) (al : Alt [G, it] s₀ s) (hi : sg "it" = some (.ref it)) (hv : vs[i]? = some v₀) (hb : ThR O t₀ v₀) (hp : Paired (ThR O) ts vs) :
    RT (model b.prog b.w) A (.func (fnBody 1) (genC b pm G).env) ((execs ((fnBody 1).drop 1) (genC b pm G).env).wrap (fun f => .pure (.done (.ret (match f with | .ret v => v | _ => .none)))) (fun e => (leaving (genC b pm G).env e).wrap (fun _ => .raise e) .raise id id) id id) [] s
      (GOut6 (genC b pm G) it l lawE LL (i + 1) vs (scan t₀ (ts.drop (i + 1))) v₀ v₀ O gs s₀ (Susp6 (genC b pm G) A lawE LL it l n) (LastK (genC b pm G) A)) := by
  have hof := over_func (env := (genC b pm G).env) (body := fnBody 1) hA
  generalize hAfe : A.over (.func (fnBody 1) (genC b pm G).env) [] = Af at hof
  have ow := fun Mu sg gs => o Af Mu sg gs hof.1 (by rw [hof.2]; omega)
  refine rt_stmt ?_
  rw [hAfe]
  refine wpAny_Assign_two ?_ rfl rfl
  have y := x.withA Af
  refine Call_Name1 ((e_bi (c := gC6 b pm G Af [(it, IterP l i), (l, LP vs)] sg gs) (ow _ sg gs).std.next.1 (ow _ sg gs).std.next.2).use y fun f s₁ e₁ k₁ x₁ => ?_) rfl
  subst e₁
  refine callWith_builtin (args := [(false, eval _ _)]) rfl (evalArgs_plain (spliced_cons ((e_local (c := gC6 b pm G Af [(it, IterP l i), (l, LP vs)] sg gs) hi).use x₁ fun v s₂ e₂ k₂ x₂ => ?_)))
  subst e₂
  refine spliced_nil ?_
  refine call_next1_item (x₂.mu _ (.head _)).isIter (x₂.mu _ (.tail _ (.head _))).isList (by simpa using hv) fun h' hit hs => ?_
  have al₃ : Alt [it] s₂ { s₂ with heap := h' } := Alt.of_same (tk := s₂.toks) hs
  have x₃ : At (gC6 b pm G Af [(it, IterP l (i + 1)), (l, LP vs)] sg gs) O { s₂ with heap := h' } :=
    At.setMu (c := gC6 b pm G Af [] sg gs) x₂ rfl al₃ hit
  refine wpAny_assign_Name (w_store_loc (c := gC6 b pm G Af [(it, IterP l (i + 1)), (l, LP vs)] sg gs) rfl rfl rfl (fun h => nomatch h) x₃ fun s₄ al₄ x₄ => ?_)
  refine wpAny_assign_Name (w_store_loc (c := gC6 b pm G Af [(it, IterP l (i + 1)), (l, LP vs)] (upd sg "first" v₀) gs) rfl rfl rfl (fun h => nomatch h) x₄ fun s₅ al₅ x₅ => ?_)
  have al₅' : Alt [G, it] s₀ s₅ := by
    refine (((al.trans (k₁.trans k₂).alt).trans (al₃.sub ?_)).trans (al₄.sub ?_)).trans (al₅.sub ?_)
    · simp
    · intro y hy; rw [List.mem_singleton.mp hy]; exact .head _
    · intro y hy; rw [List.mem_singleton.mp hy]; exact .head _
  refine rt_execs_cons (rt_For (by intro _; rfl) ?_)
  rw [hAfe]
  refine (e_local (c := gC6 b pm G Af [(it, IterP l (i + 1)), (l, LP vs)] (upd (upd sg "first" v₀) "last" v₀) gs) (v := .ref it) ((upd_ne (by decide)).trans ((upd_ne (by decide)).trans hi))).use x₅ fun u s₆ e₆ k₆ x₆ => ?_
  subst e₆
  refine wpAny_pyIter_listiter (x₆.mu _ (.head _)).isIter fun p => ?_
  refine gen_loop6 o hA hd hAf hLf hLk ?_ fail_of n _ s₀ s₆ O (upd (upd sg "first" v₀) "last" v₀) gs (i + 1) vs ts v₀ v₀ t₀ rfl (x₆.withA b.A) hLL (al₅'.trans k₆.alt) ((upd_ne (by decide)).trans ((upd_ne (by decide)).trans hi)) ((upd_ne (by decide)).trans upd_same) upd_same hb hp
  intro s₇ O₇ sg₇ gs₇ vs₇ fv lv x₇ _ h1 h2
  exact gen_last o hA hd x₇ h1 h2

set_option maxHeartbeats 8000000 in
/-- a fresh walk over a list of things -/
theorem gen_fresh6 (o : GenOk b pm G) {A : Around} (hA : A.handled = none) (hd : A.depth + 20 < recursionLimit) {lawE : Env} {LL : Addr} (hAf : A.frames = some [lawE]) (hLf : lawE.frame = some LL) (hLk : lawE.scope.kind ≠ .module) {l : Addr} (n : Nat) {s : Shared} {O : Led} {sg : Str → Option Value} {gs : Array GenState} {vs : List Value} {ts : List Th} {v₀ : Value} {t₀ : Th}
    (x : At ((genC b pm G).up [(l, LP vs)] sg gs) O s) (hLL : (LL, DictP) ∈ O) (hi : sg "addresses" = some (.ref l)) (hv : vs[0]? = some v₀) (hb : ThR O t₀ v₀) (hp : Paired (ThR O) ts vs) :
    RT (model b.prog b.w) A (.func (fnBody 1) (genC b pm G).env) ((model b.prog b.w).den (.func (fnBody 1) (genC b pm G).env)) [] s
      (fun e s' => ∃ it s₁, s.heap.get? it = none ∧ Kp s s₁ ∧ At ((genC b pm G).up [(it, IterP l 0), (l, LP vs)] sg gs) O s₁ ∧ GOut6 (genC b pm G) it l lawE LL 1 vs (scan t₀ (ts.drop 1)) v₀ v₀ O gs s₁ (Susp6 (genC b pm G) A lawE LL it l n) (LastK (genC b pm G) A) e s') := by
  have hof := over_func (env := (genC b pm G).env) (body := fnBody 1) hA
  refine rt_func ?_
  generalize hAfe : A.over (.func (fnBody 1) (genC b pm G).env) [] = Af at hof
  have ow := fun Mu sg gs => o Af Mu sg gs hof.1 (by rw [hof.2]; omega)
  refine rt_stmt ?_
  rw [hAfe]
  have y := x.withA Af
  refine wpAny_Assign_Name (Call_Name1 ((e_bi (c := gC6 b pm G Af [(l, LP vs)] sg gs) (ow _ sg gs).std.iter.1 (ow _ sg gs).std.iter.2).use y fun f s₁ e₁ k₁ x₁ => ?_) rfl) rfl
  subst e₁
  refine callWith_builtin (args := [(false, eval _ _)]) rfl (evalArgs_plain (spliced_cons ((e_local (c := gC6 b pm G Af [(l, LP vs)] sg gs) hi).use x₁ fun v s₂ e₂ k₂ x₂ => ?_)))
  subst e₂
  refine spliced_nil (call_iter (wpAny_pyIter_list (x₂.mu _ (.head _)).isList ?_))
  generalize hit : s₂.heap.objs.size = it
  have g₃ : Grow [(it, IterP l 0)] s₂ { s₂ with heap := s₂.heap.push { cls := .type "list_iterator", data := .fields #[.ref l, .int 0 0] } } := by
    subst hit
    exact Grow.one Kp.push (fresh_size _) ⟨_, Heap.get?_push_size _ rfl, rfl, rfl⟩
  have x₃ := At.growMu (c := gC6 b pm G Af [(l, LP vs)] sg gs) x₂ g₃
  refine w_store_loc (c := gC6 b pm G Af [(it, IterP l 0), (l, LP vs)] sg gs) rfl rfl rfl (fun h => nomatch h) x₃ fun s₄ al₄ x₄ => ?_
  refine rt_mono (gen_start6 o hA hd hAf hLf hLk n (x₄.withA b.A) hLL (al₄.sub ?_) (upd_same (sg := sg) (x := "it")) hv hb hp) fun e s' h => ?_
  · intro y hy; rw [List.mem_singleton.mp hy]; exact .head _
  · exact ⟨it, _, (k₁.trans k₂).none (g₃.2 _ (.head _)).1, (k₁.trans k₂).trans g₃.1, x₃.withA b.A, h⟩
end
end Mine

namespace Mine

section
variable {prog : Program} {w : World} {A : Around} {E : Value → Shared → Prop} {s : Shared}

theorem gen_left {a : Addr} {g : Nat} {x : Addr} {cls : String} {Q : Fin → Shared → Prop} (hg : Has s.heap (a, GenP g)) (hT : s.TypeIs (.ref x) cls) (hs : isSubtype (.type cls) (.type "StopIteration") = pure false) (h : E (.ref x) s) :
    wpAny (model prog w) A (Builtin.Generator.genLeft (.ref a) (.ref x) : Sem Fin) Q E s := by
  obtain ⟨o, eo, nm, qn, hc, hd, _⟩ := hg
  unfold Builtin.Generator.genLeft
  have h1 : wpAny (model prog w) A (Builtin.Generator.madeByALambda (.ref a)) (fun r s' => r = false ∧ s' = s) E s := by
    unfold Builtin.Generator.madeByALambda
    refine wpAny_bind (wpAny_load eo (wpAny_pure ⟨?_, rfl⟩))
    rw [hd]; simp
  refine wpAny_bind (wpAny_mono h1 (fun r s' hr => ?_) fun _ _ e => e)
  obtain ⟨rfl, rfl⟩ := hr
  refine wpAny_bind (wpAny_isInstance (b := false) hT hs ?_)
  simp only [Bool.and_false, Bool.false_eq_true, if_false]
  have h2 : wpAny (model prog w) A (Builtin.Generator.genEscaped (.ref x) : Sem Fin) Q E s' := by
    unfold Builtin.Generator.genEscaped
    refine wpAny_bind (wpAny_isInstance (b := false) hT hs ?_)
    simp only [Bool.not_false, if_true]
    exact wpAny_throw h
  first
    | exact h2
    | exact wpAny_bind (wpAny_pure h2)

/-- the ends of a walk's stretch, an exception among them -/
def Ends6 (g : Nat) (Q : Option Value → Shared → Prop) (E : Value → Shared → Prop) (a : Addr) (e : End) (s₁ : Shared) : Prop :=
  Ends g Q e s₁ ∨ ∃ x cls, e = .ret (.error (.ref x)) ∧ Has s₁.heap (a, GenP g) ∧ s₁.TypeIs (.ref x) cls ∧ isSubtype (.type cls) (.type "StopIteration") = pure false ∧ E (.ref x) (s₁.setGen g .finished)

theorem w_pyNext6 {a : Addr} {g : Nat} {gst : GenState} {Q : Option Value → Shared → Prop} (hh : A.handled = none) (hl : s.heap.NoLimit) (hroom : A.depth < recursionLimit) (hg : s.heap.IsGen a g) (hgs : s.gens[g]? = some gst)
    (hgo : Wakens (model prog w) A.in1 gst (s.setGen g .running) (Ends6 g Q E a)) : wpAny (model prog w) A (pyNext (.ref a)) Q E s := by
  unfold pyNext
  refine wpAny_bind (wpAny_attempt (wpAny_callSpecial?_slot (name := Str.ofString "__next__") hg.typeIs slot_gen_next
    (wpAny_call_entry slot_gen_next hg.typeIs entry_gen_next ?_ (args_gen_next _))))
  show wpAny _ _ (Builtin.Generator.genWake (.ref a) (.send .none)) _ _ s
  unfold Builtin.Generator.genWake
  refine wpAny_bind (wpAny_holding (wpAny_genNumber hg (wpAny_bind (wpAny_genState hgs ?_))))
  have quiet : ∀ e s₁, Ends6 g Q E a e s₁ → e.quiet = true := by
    rintro e s₁ ((⟨v, lvs, k, cd, p, fs, rfl, hf, _⟩ | ⟨rfl, _⟩) | ⟨x, cls, rfl, _⟩)
    · simp [End.quiet, hf]
    · rfl
    · rfl
  have main : ∀ K : GenResult → Sem Fin, (∀ v, K (.yielded v) = ret v) → (∃ f : PUnit → Sem Fin, K (.returned .none) = (newExc (.type "StopIteration") [] >>= fun e => (raiseNew e : Sem PUnit) >>= f)) → (∀ x, K (.raised x) = Builtin.Generator.genLeft (.ref a) x) →
      wpAny (model prog w) A.in1 (.resume g (.send .none) [] K) (fun fin s' => ∃ v, fin = .done (.ret v) ∧ wpAny (model prog w) A (pure (some v) : Sem (Option Value)) Q E s')
        (fun e s' => wpAny (model prog w) A (isInstance e (.type "StopIteration") >>= fun b => if b = true then pure none else throw e) Q E s') s := by
    intro K hK1 ⟨f2, hK2⟩ hK3
    refine w_resume hgs hgo quiet ?_
    rintro e s₁ ((⟨v, lvs, k, cd, p, fs, rfl, hf, hQ⟩ | ⟨rfl, hQ⟩) | ⟨x, cls, rfl, hG, hT, hs, hE⟩)
    · show wpAny _ _ (K (.yielded v)) _ _ _
      rw [hK1]
      refine wpAny_pure ⟨v, rfl, wpAny_pure ?_⟩
      have : (End.susp v false lvs k cd p fs).genState = .suspended k lvs cd p fs false := by simp [End.genState, hf]
      rw [this]; exact hQ
    · show wpAny _ _ (K (.returned .none)) _ _ _
      rw [hK2]
      refine wpAny_bind ?_
      simp only [newExc, newTuple]
      refine wpAny_bind (wpAny_newObj_type ?_ (by size_fits))
      refine wpAny_bind (m := firstArgMember _ _) (wpAny_of_eq (a := Value.none) (by first | rfl | (simp only [firstArgMember]; rfl)) ?_)
      refine wpAny_newObj_type ?_ (by size_fits)
      simp only [raiseNew]
      refine wpAny_bind (wpAny_bind (wpAny_handled ?_))
      rw [show A.in1.handled = none from hh]
      refine wpAny_bind (wpAny_pure (wpAny_throw ?_))
      exact stop_is ⟨_, Heap.get?_push_size _ rfl, rfl⟩ (hQ _ fun b o hb => Heap.get?_push_of_some _ (Heap.get?_push_of_some _ hb))
    · show wpAny _ _ (K (.raised (.ref x))) _ _ _
      rw [hK3]
      refine gen_left (s := s₁.setGen g .finished) hG hT hs ?_
      refine wpAny_bind (wpAny_isInstance (b := false) (s := s₁.setGen g .finished) hT hs ?_)
      simp only [Bool.false_eq_true, if_false]
      exact wpAny_throw hE
  cases gst with
  | running => exact hgo.elim
  | finished => exact hgo.elim
  | fresh c =>
    refine wpAny_bind (wpAny_roomToWake hl hroom ?_)
    exact main _ (fun _ => rfl) ⟨_, rfl⟩ (fun _ => rfl)
  | suspended k₀ l₀ c₀ p₀ fs₀ cl =>
    refine wpAny_bind (wpAny_roomToWake hl hroom ?_)
    exact main _ (fun _ => rfl) ⟨_, rfl⟩ (fun _ => rfl)
end

section
variable {c : Cx} {O : Led} {s s' : Shared} {E : Value → Shared → Prop}

def NsOk (c : Cx) (h : Heap) : Prop := ∃ m, h.Ns c.env.locals m ∧ ∀ x v, c.env.kindOf x = some .local → c.sg x = some v → m x = some v

/-- an exception flies; what is known comes back when it has landed -/
def Fell (c : Cx) (O : Led) (lawE : Env) (cls : String) (x : Value) (s' : Shared) : Prop :=
  ∃ e base a0, x = .ref e ∧ Heap.FlyingW base [lawE] e (.type cls) a0 s'.heap ∧ s'.gens = c.gs ∧ s'.os = c.os ∧ NsOk c s'.heap ∧ ∀ s'', base.StaysIn s''.heap → NsOk c s''.heap → s''.gens = c.gs → s''.os = c.os → At c O s''

theorem At.safe {G : Addr} {q : Obj → Prop} {Mu : Led} {sg : Str → Option Value} {gs gs' : Array GenState} {base : Heap} (x : At (c.up ((G, q) :: Mu) sg gs) O s) (hwc : c.wc = true) (hb : ∀ b o, b ≠ G → b ≠ c.env.locals → s.heap.get? b = some o → base.get? b = some o)
    (k1 : base.StaysIn s'.heap) (k2 : NsOk (c.up Mu sg gs') s'.heap) (k3 : s'.gens = gs') (k4 : s'.os = c.os) : At (c.up Mu sg gs') O s' := by
  have nd := x.nodup
  unfold Cx.places at nd
  dsimp only at nd
  rw [hwc, if_pos rfl, List.nodup_cons, List.nodup_append, List.map_cons, List.nodup_cons] at nd
  obtain ⟨n1, n2, n3, n4⟩ := nd
  have Gp : G ∈ (c.up ((G, q) :: Mu) sg gs).places := Cx.mem_places.mpr (.inr (.inr ⟨_, .head _⟩))
  have Lp : c.env.locals ∈ (c.up ((G, q) :: Mu) sg gs).places := Cx.mem_places.mpr (.inl rfl)
  have kp : ∀ b o, b ≠ G → b ≠ c.env.locals → s.heap.get? b = some o → s'.heap.get? b = some o := fun b o h1 h2 e => k1 b o (hb b o h1 h2 e)
  have sub : ∀ a, a ∈ (c.up Mu sg gs').places → a ∈ (c.up ((G, q) :: Mu) sg gs).places := fun a h => by
    rcases Cx.mem_places.mp h with h | h | ⟨p, h⟩
    · exact Cx.mem_places.mpr (.inl h)
    · exact Cx.mem_places.mpr (.inr (.inl h))
    · exact Cx.mem_places.mpr (.inr (.inr ⟨p, .tail _ h⟩))
  have cl : ∀ p ∈ c.env.cells, p.2 ≠ G ∧ p.2 ≠ c.env.locals := fun p hp => ⟨fun h => n4 p.2 (List.mem_map.mpr ⟨p, hp, rfl⟩) G (.head _) h, fun h => n1 (by rw [← h]; exact List.mem_append_left _ (List.mem_map.mpr ⟨p, hp, rfl⟩))⟩
  refine ⟨fun b o e => kp b o (fun h => x.offB b o e (h ▸ Gp)) (fun h => x.offB b o e (h ▸ Lp)) (x.base b o e), fun p hp => (x.own p hp).keep fun o e => kp _ o (fun h => x.offO p hp (h ▸ Gp)) (fun h => x.offO p hp (h ▸ Lp)) e,
    fun p hp => (x.mu p (.tail _ hp)).keep fun o e => kp _ o (fun h => n3.1 (h ▸ List.mem_map.mpr ⟨p, hp, rfl⟩)) (fun h => n1 (by rw [← h]; exact List.mem_append_right _ (.tail _ (List.mem_map.mpr ⟨p, hp, rfl⟩)))) e,
    k2, fun z a v hz hv => ?_, fun p hp => ?_, ?_, fun p hp h => x.offO p hp (sub _ h), fun b o e h => x.offB b o e (sub _ h), k3, k4, x.kin, x.tg, x.tb, x.nl⟩
  · obtain ⟨o, ho, hd⟩ := x.cell z a v hz hv
    exact ⟨o, kp a o (cl (z, a) (mem_of_lookup hz)).1 (cl (z, a) (mem_of_lookup hz)).2 ho, hd⟩
  · obtain ⟨v, o, ho, hd⟩ := x.cellAlive p hp
    exact ⟨v, o, kp _ o (cl p hp).1 (cl p hp).2 ho, hd⟩
  · unfold Cx.places
    dsimp only
    rw [hwc, if_pos rfl, List.nodup_cons, List.nodup_append]
    refine ⟨fun h => n1 ?_, n2, n3.2, fun a ha b hb => n4 a ha b (.tail _ hb)⟩
    rcases List.mem_append.mp h with h | h
    · exact List.mem_append_left _ h
    · exact List.mem_append_right _ (.tail _ h)

theorem At.ofGen0 {pm : Value} {G it l : Addr} {f f' : Str → Option Value} {P P' : Obj → Prop} {vs : List Value} {X O' : Led} {gs : Array GenState} (x : At { c with Mu := (G, NsP f) :: (it, P) :: (l, LP vs) :: X } O s) (hwc : c.wc = true)
    (al : Alt [G, it] s s') (y : At ((genC c pm G).up [(it, P'), (l, LP vs)] f' gs) O' s') : At { c with Mu := (G, NsP (onLocals (genC c pm G).env f')) :: (it, P') :: (l, LP vs) :: X } O s' := by
  refine At.alts (L := [(G, NsP f), (it, P)]) (L' := [(G, NsP (onLocals (genC c pm G).env f')), (it, P')]) (Mu := (l, LP vs) :: X) x hwc al rfl ?_
  intro p hp
  rcases List.mem_cons.mp hp with rfl | hp
  · obtain ⟨m, hm, hf⟩ := y.ns
    refine Has.of_ns hm fun z v hv => ?_
    unfold onLocals at hv
    split at hv
    · rename_i hk; exact hf z v hk hv
    · cases hv
  · rw [List.mem_singleton.mp hp]; exact y.mu _ (.head _)

/-- what a law's walk over a row of things may come to -/
structure Asked (c : Cx) (A : Around) (pm : Value) (G l ga : Addr) (g n : Nat) (lawE : Env) (sg : Str → Option Value) (gs : Array GenState) (X O : Led) (vs : List Value) (it : Addr) (i : Nat) (r : Nat × Out) (pv : Value) (Q : Option Value → Shared → Prop) (E : Value → Shared → Prop) : Prop where
  told : r.2 = .told → ∀ T k lvs cd p fs f' lastv nv s', (pv :: vs.drop i)[r.1]? = some lastv → (vs.drop i)[r.1]? = some nv → f' "it" = some (.ref it) → f' "ip" = some nv → Susp6 (genC c pm G) A.in1 lawE c.env.locals it l n k cd fs →
      At (c.up ((G, NsP f') :: (it, IterP l (i + r.1 + 1)) :: (l, LP vs) :: X) sg (gs.setIfInBounds g (.suspended k lvs cd p fs false))) ((T, TP [pv, lastv]) :: O) s' → Q (some (.ref T)) s'
  fin : r.2 = .fin → ∀ T k lvs cd p fs f' lastv s', (pv :: vs.drop i)[r.1]? = some lastv → LastK (genC c pm G) A.in1 k cd fs →
      At (c.up ((G, NsP f') :: (it, EndP) :: (l, LP vs) :: X) sg (gs.setIfInBounds g (.suspended k lvs cd p fs false))) ((T, TP [pv, lastv]) :: O) s' → Q (some (.ref T)) s'
  err : ∀ cls, errOf r.2 = some cls → ∀ x s', Fell (c.up ((l, LP vs) :: X) sg (gs.setIfInBounds g .finished)) O lawE cls x s' → E x s'

theorem sub_attr : isSubtype (.type "AttributeError") (.type "StopIteration") = pure false := by rw [isSubtype_type]; kernel_rfl
theorem sub_type : isSubtype (.type "TypeError") (.type "StopIteration") = pure false := by rw [isSubtype_type]; kernel_rfl

/-- a generator's outcome, as the law sees it -/
theorem gout_ends {A : Around} {pm : Value} {G it l ga : Addr} {g n i : Nat} {lawE : Env} {f sg : Str → Option Value} {gs : Array GenState} {P : Obj → Prop} {vs : List Value} {X : Led} {r : Nat × Out} {pv : Value} {Q : Option Value → Shared → Prop} {e : End} {s₁ : Shared}
    (x : At (c.up ((G, NsP f) :: (it, P) :: (l, LP vs) :: X) sg (gs.setIfInBounds g .running)) O s) (hwc : c.wc = true) (hga : (ga, GenP g) ∈ O) (hgo : r.2 ≠ .go)
    (ask : Asked c A pm G l ga g n lawE sg gs X O vs it i r pv Q E)
    (hout : GOut6 (genC c pm G) it l lawE c.env.locals i vs r pv pv ((c.env.locals, DictP) :: O) (gs.setIfInBounds g .running) s (Susp6 (genC c pm G) A.in1 lawE c.env.locals it l n) (LastK (genC c pm G) A.in1) e s₁) : Ends6 g Q E ga e s₁ := by
  have e2 : ∀ z : GenState, (gs.setIfInBounds g GenState.running).setIfInBounds g z = gs.setIfInBounds g z := fun z => by simp
  have err : ∀ cls, errOf r.2 = some cls → isSubtype (.type cls) (.type "StopIteration") = pure false → GErr (genC c pm G) it l lawE c.env.locals vs ((c.env.locals, DictP) :: O) (gs.setIfInBounds g .running) s cls e s₁ → Ends6 g Q E ga e s₁ := by
    rintro cls hcls hsub ⟨s₂, sg', j, al, y, ex, base, a0, rfl, hb, hfl, hup, hg, ho⟩
    have x₂ := At.ofGen0 (c := c.up [] sg (gs.setIfInBounds g .running)) x hwc al y
    refine .inr ⟨ex, cls, rfl, ?_, ?_, hsub, ?_⟩
    · obtain ⟨o, eo, hp⟩ := x₂.own _ hga
      have hne : ga ≠ G ∧ ga ≠ c.env.locals := ⟨fun h => x₂.offO _ hga (Cx.mem_places.mpr (.inr (.inr ⟨_, by rw [show ((ga, GenP g) : Ent).1 = G from h]; exact .head _⟩))), fun h => x₂.offO _ hga (Cx.mem_places.mpr (.inl h))⟩
      exact ⟨o, hfl.1 _ _ (hb _ _ hne.1 hne.2 eo), hp⟩
    · obtain ⟨ob, h1, h2⟩ := hfl.there
      exact ⟨ob, h1, h2⟩
    · refine ask.err cls hcls _ _ ⟨ex, base, a0, rfl, hfl, ?_, ?_, ?_, fun s'' k1 k2 k3 k4 => ?_⟩
      · show (s₁.gens.setIfInBounds g .finished) = gs.setIfInBounds g .finished
        rw [hg, x₂.gens]; exact e2 _
      · show s₁.os = c.os
        exact ho.trans x₂.os
      · obtain ⟨m, hm, hz⟩ := x₂.ns
        exact ⟨m, hup.ns hm, hz⟩
      · have x₃ := At.safe (c := c) (gs' := gs.setIfInBounds g .finished) (s' := s'') (Mu := (it, IterP l j) :: (l, LP vs) :: X) (sg := sg) (gs := gs.setIfInBounds g .running) x₂ hwc hb k1 k2 k3 k4
        exact At.mu_sub (c := c.up [] sg (gs.setIfInBounds g .finished)) x₃ (List.Sublist.cons _ (List.Sublist.refl _))
  unfold GOut6 at hout
  cases hr : r.2 with
  | go => exact absurd hr hgo
  | attr => rw [hr] at hout; exact err _ (by rw [hr]; rfl) sub_attr hout
  | type => rw [hr] at hout; exact err _ (by rw [hr]; rfl) sub_type hout
  | told =>
    rw [hr] at hout
    obtain ⟨lvs, k, cd, p, fs, T, sg', lastv, nv, rfl, hfs, hT, al, hit, hlast, hnv, hip, y, hS⟩ := hout
    refine .inl (.inl ⟨_, lvs, k, cd, p, fs, rfl, hfs, ?_⟩)
    have y₁ := At.ofGen (c := c.up ((G, NsP f) :: (it, P) :: (l, LP vs) :: X) sg (gs.setIfInBounds g .running)) (T := (T, TP [pv, lastv])) x hwc al hT (y.sub fun q hq => by
      rcases List.mem_cons.mp hq with h | h
      · rw [h]; exact .head _
      · exact .tail _ (.tail _ h))
    have y₂ := At.setGen (g := g) (z := .suspended k lvs cd p fs false) y₁
    dsimp only at y₂
    rw [e2] at y₂
    exact ask.told hr T k lvs cd p fs _ lastv nv _ hlast hnv ((if_pos rfl).trans hit) ((if_pos rfl).trans hip) hS y₂
  | fin =>
    rw [hr] at hout
    obtain ⟨lvs, k, cd, p, fs, T, sg', lastv, rfl, hfs, hT, al, hlast, y, hL⟩ := hout
    refine .inl (.inl ⟨_, lvs, k, cd, p, fs, rfl, hfs, ?_⟩)
    have y₁ := At.ofGen (c := c.up ((G, NsP f) :: (it, P) :: (l, LP vs) :: X) sg (gs.setIfInBounds g .running)) (T := (T, TP [pv, lastv])) x hwc al hT (y.sub fun q hq => by
      rcases List.mem_cons.mp hq with h | h
      · rw [h]; exact .head _
      · exact .tail _ (.tail _ h))
    have y₂ := At.setGen (g := g) (z := .suspended k lvs cd p fs false) y₁
    dsimp only at y₂
    rw [e2] at y₂
    exact ask.fin hr T k lvs cd p fs _ lastv _ hlast hL y₂

theorem At.withL {G : Addr} {Mu Mu' : Led} {q : Obj → Prop} {f : Str → Option Value} {pm : Value} {gs : Array GenState} (x : At { c with Mu := (G, q) :: Mu' } O s) (hwc : c.wc = true) (y : At ((genC c pm G).up Mu f gs) O s) (hsub : ∀ p ∈ Mu, p ∈ Mu') : At ((genC c pm G).up Mu f gs) ((c.env.locals, DictP) :: O) s := by
  refine y.addO ?_ ?_
  · obtain ⟨m, ⟨o, es, ep, ho, hd, _⟩, _⟩ := x.ns
    exact ⟨o, ho, es, ep, hd⟩
  · have nd := x.nodup
    unfold Cx.places at nd
    dsimp only at nd
    rw [hwc, if_pos rfl, List.nodup_cons] at nd
    intro h
    rcases Cx.mem_places.mp h with h | ⟨_, z, h⟩ | ⟨p, h⟩
    · exact nd.1 (List.mem_append_right _ (by rw [show c.env.locals = G from h]; exact .head _))
    · exact nomatch (show (z, c.env.locals) ∈ ([] : List (Str × Addr)) from h)
    · exact nd.1 (List.mem_append_right _ (.tail _ (List.mem_map.mpr ⟨_, hsub _ h, rfl⟩)))

/-- a walk that holds a thing is asked -/
theorem next_mid6 {A : Around} {Q : Option Value → Shared → Prop} {pm : Value} {G it l ga : Addr} {g n : Nat} {lawE : Env} {k₀ : Resume → Sem Fin} {lvs₀ : List Value} {cd₀ : Code} {p₀ : Pos} {fs₀ : List Frame} {f sg : Str → Option Value} {gs : Array GenState} {i : Nat} {vs : List Value} {ts : List Th} {X : Led}
    {pv : Value} {th : Th} (x : At (c.up ((G, NsP f) :: (it, IterP l i) :: (l, LP vs) :: X) sg gs) O s) (hwc : c.wc = true) (hh : A.handled = none) (hroom : A.depth < recursionLimit) (hga : (ga, GenP g) ∈ O) (hgs : gs[g]? = some (.suspended k₀ lvs₀ cd₀ p₀ fs₀ false))
    (hS : Susp6 (genC c pm G) A.in1 lawE c.env.locals it l (n + 1) k₀ cd₀ fs₀) (hit : f "it" = some (.ref it)) (hip : f "ip" = some pv) (hb : ThR O th pv) (hp : Paired (ThR O) ts vs)
    (ask : Asked c A pm G l ga g n lawE sg gs X O vs it i (scan th (ts.drop i)) pv Q E) : wpAny (model c.prog c.w) A (pyNext (.ref ga)) Q E s := by
  have x₁ := At.setGen (g := g) (z := .running) x
  have y := At.toGen (c := c.up ((G, NsP f) :: (it, IterP l i) :: (l, LP vs) :: X) sg (gs.setIfInBounds g .running)) (pm := pm) x₁ hwc
  have y' := At.withL (c := c.up ((G, NsP f) :: (it, IterP l i) :: (l, LP vs) :: X) sg (gs.setIfInBounds g .running)) x₁ hwc y (fun p hp => by
    rcases List.mem_cons.mp hp with h | h
    · rw [h]; exact .head _
    · rw [List.mem_singleton.mp h]; exact .tail _ (.head _))
  refine w_pyNext6 hh x.nolimit hroom (x.own _ hga).isGen (by rw [x.gens]; exact hgs) (gst := .suspended k₀ lvs₀ cd₀ p₀ fs₀ false) (rt_mono (hS (s.setGen g .running) ((c.env.locals, DictP) :: O) f (gs.setIfInBounds g .running) i vs ts pv th y' (.head _) hit hip (hb.mono fun q hq => .tail _ hq) (hp.mono fun a u h => h.mono fun q hq => .tail _ hq)) ?_)
  intro e s₁ hout
  exact gout_ends (c := c) (A := A) (pm := pm) (sg := sg) (gs := gs) (f := f) (P := IterP l i) x₁ hwc hga (scan_no_go _ _) ask hout

/-- a walk over a list that has not begun is asked -/
theorem next_fresh6 {A : Around} {Q : Option Value → Shared → Prop} {pm : Value} {G l ga : Addr} {g : Nat} (n : Nat) {lawE : Env} {f sg : Str → Option Value} {gs : Array GenState} {vs : List Value} {ts : List Th} {X : Led}
    {pv : Value} {th : Th} (x : At (c.up ((G, NsP f) :: (l, LP vs) :: X) sg gs) O s) (hwc : c.wc = true) (hh : A.handled = none) (hroom : A.depth + 30 < recursionLimit) (hAf : A.in1.frames = some [lawE]) (hLf : lawE.frame = some c.env.locals) (hLk : lawE.scope.kind ≠ .module) (hga : (ga, GenP g) ∈ O) (hgs : gs[g]? = some (.fresh (.func (fnBody 1) (genC c pm G).env)))
    (o : GenOk c pm G) (hit : f "addresses" = some (.ref l)) (hv : vs[0]? = some pv) (hb : ThR O th pv) (hp : Paired (ThR O) ts vs)
    (ask : ∀ it, Asked c A pm G l ga g n lawE sg gs X O vs it 1 (scan th (ts.drop 1)) pv Q E) : wpAny (model c.prog c.w) A (pyNext (.ref ga)) Q E s := by
  have x₁ := At.setGen (g := g) (z := .running) x
  have y := At.toGenL (c := c.up ((G, NsP f) :: (l, LP vs) :: X) sg (gs.setIfInBounds g .running)) (pm := pm) x₁ hwc
  have y' := At.withL (c := c.up ((G, NsP f) :: (l, LP vs) :: X) sg (gs.setIfInBounds g .running)) x₁ hwc y (fun p hp => by rw [List.mem_singleton.mp hp]; exact .head _)
  refine w_pyNext6 hh x.nolimit (by omega) (x.own _ hga).isGen (by rw [x.gens]; exact hgs) (gst := .fresh (.func (fnBody 1) (genC c pm G).env)) (rt_mono (gen_fresh6 o (A := A.in1) hh (by show A.depth + 20 < recursionLimit; omega) hAf hLf hLk n y' (.head _) hit hv (hb.mono fun q hq => .tail _ hq) (hp.mono fun a u h => h.mono fun q hq => .tail _ hq)) ?_)
  rintro e s₁ ⟨it, s₂, hnew, kp, y₂, hout⟩
  have x₂ : At (c.up ((G, NsP f) :: (it, IterP l 0) :: (l, LP vs) :: X) sg (gs.setIfInBounds g .running)) O s₂ := by
    have := At.growMu (c := c.up [] sg (gs.setIfInBounds g .running)) x₁ (Grow.one (p := (it, IterP l 0)) kp hnew (y₂.mu _ (.head _)))
    exact At.mu_perm (c := c.up [] sg (gs.setIfInBounds g .running)) this (List.Perm.swap _ _ _)
  exact gout_ends (c := c) (A := A) (pm := pm) (sg := sg) (gs := gs) (f := f) (P := IterP l 0) x₂ hwc hga (scan_no_go _ _) (ask it) hout
end
end Mine

namespace Mine
/-- a written part of the heap within another one -/
theorem sub_look {K' : Frag} : ∀ {K : Frag}, (K.map fun p => K'.lookup p.1) = (K.map fun p => some p.2) → ∀ {b : Addr} {o : Obj}, K.lookup b = some o → K'.lookup b = some o
  | [], _, b, o, e => nomatch e
  | p :: K, h, b, o, e => by
    rw [List.map_cons, List.map_cons] at h
    injection h with h1 h2
    by_cases q : b = p.1
    · subst q
      have : (some p.2 : Option Obj) = some o := by
        simpa [List.lookup] using e
      rw [h1, this]
    · have hb : (b == p.1) = false := beq_eq_false_iff_ne.mpr q
      unfold List.lookup at e
      rw [hb] at e
      exact sub_look h2 e

/-- laid ints bear tokens from the state's on -/
theorem ints_toks {R : WRecords} {cl : Str → Option Addr} {P : Params} {ord : List DictEntry → List DictEntry} : ∀ (xs : List WData) (s : Shared) (vs : List Value) (s' : Shared), layAllW R cl P ord xs s = some (vs, s') → (∀ v ∈ vs, ∃ i t, v = .int i t) → ∀ v ∈ vs, ∃ i t, v = .int i t ∧ s.toks ≤ t
  | [], s, vs, s', h, _, v, hv => by
    simp only [layAllW, Option.some.injEq, Prod.mk.injEq] at h
    rw [← h.1] at hv; cases hv
  | x :: xs, s, vs, s', h, hi, v, hv => by
    unfold layAllW at h
    cases ha : layW R cl P ord x s with
    | none => rw [ha] at h; cases h
    | some a =>
      rw [ha] at h
      dsimp only at h
      cases hr : layAllW R cl P ord xs a.2 with
      | none => rw [hr] at h; cases h
      | some r =>
        rw [hr] at h
        simp only [Option.some.injEq, Prod.mk.injEq] at h
        obtain ⟨rfl, rfl⟩ := h
        obtain ⟨i, t, e⟩ := hi a.1 (.head _)
        have key : a = (.int i s.toks, { s with toks := s.toks + 1 }) := by
          obtain ⟨a1, a2⟩ := a
          dsimp only at e
          subst e
          cases x <;> simp only [layW] at ha
          case int j =>
            simp only [Option.some.injEq, Prod.mk.injEq, Value.int.injEq] at ha
            obtain ⟨⟨rfl, rfl⟩, rfl⟩ := ha
            rfl
          all_goals first
            | (simp at ha; done)
            | (repeat' split at ha) <;> simp at ha
        rcases List.mem_cons.mp hv with rfl | hv
        · exact ⟨i, s.toks, by rw [key], Nat.le_refl _⟩
        · obtain ⟨i', t', e', h'⟩ := ints_toks xs a.2 r.1 r.2 hr (fun u hu => hi u (.tail _ hu)) v hv
          refine ⟨i', t', e', ?_⟩
          rw [key] at h'
          exact Nat.le_trans (Nat.le_succ _) h'

theorem arg_toks {R : WRecords} {w : World} {s₀ s₁ : Shared} {args : List WData} {as : List Addr} {l : Addr} {vs : List Value} {ns : List Int} (La : Laid R w s₀ s₁ args [.ref l] as) (tok : 0 < s₀.toks) (hL : s₁.heap.IsList l vs.toArray) (hI : IntsAre vs ns) : ∀ v ∈ vs, ∃ i t, v = .int i t ∧ t ≠ 0 := by
  have hwl := La.well
  obtain ⟨o, eo, hc, n, hd⟩ := hL
  cases hwl with
  | cons hw hr =>
    cases hr
    rename_i d
    have shape : ∃ xs, d = .list xs := by
      cases hw with
      | list _ _ => exact ⟨_, rfl⟩
      | bytearray e => rw [eo] at e; cases e; exact absurd (show Value.type "bytearray" = Value.type "list" from hc) (by decide)
      | tuple e _ => rw [eo] at e; cases e; exact absurd (show Value.type "tuple" = Value.type "list" from hc) (by decide)
      | dict e _ => rw [eo] at e; cases e; exact absurd (show Value.type "dict" = Value.type "list" from hc) (by decide)
      | set e _ _ _ => rw [eo] at e; cases e; exact absurd (show Value.type "set" = Value.type "list" from hc) (by decide)
      | frozenset e _ _ _ => rw [eo] at e; cases e; exact absurd (show Value.type "frozenset" = Value.type "list" from hc) (by decide)
      | obj e _ _ _ => rw [eo] at e; cases e; cases hc
    obtain ⟨xs, rfl⟩ := shape
    obtain ⟨ord, _, hlaid⟩ := La.laid
    unfold layAllW at hlaid
    simp only [layW] at hlaid
    cases hr : layAllW R (classAt s₀.heap) w.params ord xs s₀ with
    | none => rw [hr] at hlaid; cases hlaid
    | some r =>
      rw [hr] at hlaid
      simp only [layAllW, Option.some.injEq, Prod.mk.injEq, List.cons.injEq, Value.ref.injEq, and_true] at hlaid
      obtain ⟨h1, h2⟩ := hlaid
      have e2 : s₁.heap.get? l = some { cls := .type "list", data := .seq r.1.toArray } := by rw [← h2, ← h1]; exact Heap.get?_push_size _ rfl
      rw [eo] at e2
      cases e2
      cases hd
      intro v hv
      have hall : ∀ u ∈ r.1, ∃ i t, u = .int i t := by
        have : ∀ {us : List Value} {ms : List Int}, IntsAre us ms → ∀ u ∈ us, ∃ i t, u = .int i t := by
          intro us ms h
          induction h with
          | nil => intro u hu; cases hu
          | cons i t _ ih =>
            intro u hu
            rcases List.mem_cons.mp hu with rfl | hu
            · exact ⟨_, _, rfl⟩
            · exact ih u hu
        exact this hI
      obtain ⟨i, t, e, h⟩ := ints_toks xs s₀ r.1 r.2 hr hall v hv
      exact ⟨i, t, e, Nat.pos_iff_ne_zero.mp (Nat.lt_of_lt_of_le tok h)⟩

/-- what a law's body must do, the tokens of the script known -/
def Main6 : Prop := ∀ (w : World) (s s' : Shared) (mg mb : Str → Option Value) (pm : Value) (l : Addr) (vs : List Value) (ns : List Int) (E : Value → Shared → Prop), Own (lawC w s mg mb pm l) → (lawC w s mg mb pm l).A.units < cLine → (∀ x ∈ stdNames, mg x = none) → (∀ x : Str, x ≠ "__name__" → mb x = bootBuiltins x) →
    s.heap.IsList l vs.toArray → IntsAre vs ns → (∀ v ∈ vs, ∃ i t, v = .int i t ∧ t ≠ 0) → ns.length ≤ 63 →
    At (lawC w s mg mb pm l) [] s' → wpAny (model theP w) (lawC w s mg mb pm l).A (execs (fnBody 5) (lawC w s mg mb pm l).env) (LawEnds s) E s'

set_option maxHeartbeats 4000000 in
theorem walk6 (main : Main6) {q : Program} {loose : List Str} {XP : (Str → Option Value) → Heap → Prop} {w : World} {s₀ s₁ : Shared} {mg mb : Str → Option Value} {R : WRecords} (G : Ground q loose R XP w s₀ mg mb s₁.heap) (KX : (theK w.params).In s₁.heap) {a : Addr} (hmg : mg "law" = some (.ref a))
    {args : List WData} {vals : List Value} {as : List Addr} (hpre : PySem.Challenge.rw_dm0182_06.row.toRowW.claim.pre args = true) (hlay : WData.layableAll args = true) (La : Laid PySem.Challenge.rw_dm0182_06.row.toRowW.records w s₀ s₁ args vals as) (hlo : ∀ a ∈ as, (a == sysModules) = false) (tok : 0 < s₀.toks) :
    wpAny (model PySem.Challenge.rw_dm0182_06.row.toRowW.prog w) callerA (PySem.call (.ref a) vals) (fun v s' => GoodWG PySem.Challenge.rw_dm0182_06.row.toRowW.claim (classAt s₀.heap) (ExcName.means s₀.heap) args s₁ (.ok (.ret v)) s')
      (fun e s' => GoodWG PySem.Challenge.rw_dm0182_06.row.toRowW.claim (classAt s₀.heap) (ExcName.means s₀.heap) args s₁ (.error e) s') s₁ := by
  have T := G.T
  have hlaw : mg "law" = some (.ref 48) := (ns_names KX T.g).2.2.2.1
  have hfa : a = 48 := by rw [hlaw] at hmg; cases hmg; rfl
  subst hfa
  obtain ⟨pm', hfn⟩ := theK_law w.params
  obtain ⟨l, vs, ns, rfl, hL, hI, hn⟩ := args_of hpre hlay La.reads La.well hlo
  have htk := arg_toks La tok hL hI
  have hroom : callerA.depth < recursionLimit := of_decide_eq_true (by kernel_rfl)
  refine enter_call (codeAny_call_cells (fd := fdOf "law" 5 47 pm') (body := fnBody 5) (binds := [(("script" : Str), .ref l)]) hroom (KX _ _ hfn) rfl T.nolimit (codeRec_of KX (theK_code _)) rfl rfl rfl ?_ ?_ rfl rfl rfl)
  · intro x hx
    rw [List.mem_singleton.mp hx]
    exact .inl (env_script pm' 0)
  · intro s' x
    have A₀ : At (lawC w s₁ mg mb pm' l) [] s' := law_at KX T.g T.b T.nolimit La.gens x
    refine wpAny_mono (main w s₁ s' mg mb pm' l vs ns _ (law_own KX T.g T.builtins) (of_decide_eq_true (by kernel_rfl)) (ns_names KX T.g).2.2.2.2 T.builtins hL hI htk hn A₀) ?_ fun _ _ e => e
    rintro f s'' ⟨rfl, c, O, hB, hos, hgs, z⟩
    refine ⟨.inl ⟨.bool true, .bool true, [], rfl, fun cls => rfl, .bool true, ?_, fun _ => ⟨List.nodup_nil, fun a ha => nomatch ha⟩⟩, .of_keep ?_, ?_, ?_⟩
    · exact post_ok args
    · intro b o e; exact z.base b o (hB ▸ e)
    · exact z.os.trans hos
    · rw [z.gens]; exact hgs
end Mine

namespace Mine

theorem eq_of_rising : ∀ {l l' : List Int}, l.Pairwise (· < ·) → l'.Pairwise (· < ·) → (∀ x, x ∈ l ↔ x ∈ l') → l = l'
  | [], [], _, _, _ => rfl
  | [], b :: r, _, _, h => absurd ((h b).mpr (.head _)) (by simp)
  | a :: r, [], _, _, h => absurd ((h a).mp (.head _)) (by simp)
  | a :: r, b :: r', h1, h2, h => by
    rw [List.pairwise_cons] at h1 h2
    have e : a = b := by
      rcases List.mem_cons.mp ((h a).mp (.head _)) with e | e
      · exact e
      · rcases List.mem_cons.mp ((h b).mpr (.head _)) with e' | e'
        · exact e'.symm
        · have := h1.1 b e'; have := h2.1 a e; omega
    subst e
    congr 1
    refine eq_of_rising h1.2 h2.2 fun x => ⟨fun hx => ?_, fun hx => ?_⟩
    · rcases List.mem_cons.mp ((h x).mp (.tail _ hx)) with e | e
      · have := h1.1 x hx; omega
      · exact e
    · rcases List.mem_cons.mp ((h x).mpr (.tail _ hx)) with e | e
      · have := h2.1 x hx; omega
      · exact e

def isGo : Out → Bool
  | .go => true
  | _ => false
/-- the step at a place of the row -/
def st (ts : List Th) (k : Nat) : Out := stepOf (ts.getD (k - 1) .bare) (ts.getD k .bare)
def faultB (ts : List Th) (k : Nat) : Bool := (errOf (st ts k)).isSome
def faultsOf (ts : List Th) : List Int := ((List.range (ts.length - 1)).filter fun i => faultB ts (i + 1)).map fun (i : Nat) => ((i + 1 : Nat) : Int)
/-- where the walk stops -/
def stopOf (ts : List Th) : Nat := match (List.range (ts.length - 1)).find? fun i => faultB ts (i + 1) with
  | some i => i + 1
  | none => ts.length

/-- numbers that go up by one just where the things go on -/
def cum (ts : List Th) : Nat → Int
  | 0 => 0
  | k + 1 => cum ts k + if isGo (st ts (k + 1)) then 1 else 2
def marks (ts : List Th) : List Int := (List.range (stopOf ts)).map (cum ts)

section
variable {ts : List Th}
theorem stop_pos (h : 0 < ts.length) : 0 < stopOf ts ∧ stopOf ts ≤ ts.length := by
  unfold stopOf
  cases e : (List.range (ts.length - 1)).find? fun i => faultB ts (i + 1) with
  | none => exact ⟨h, Nat.le_refl _⟩
  | some i =>
    have := List.mem_range.mp (List.mem_of_find?_eq_some e)
    dsimp only
    omega
theorem stop_fault (h : stopOf ts < ts.length) : faultB ts (stopOf ts) = true := by
  unfold stopOf at h ⊢
  cases e : (List.range (ts.length - 1)).find? fun i => faultB ts (i + 1) with
  | none => rw [e] at h; dsimp only at h; omega
  | some i => have := List.find?_some e; simpa using this
theorem stop_none (hn : 0 < ts.length) {k : Nat} (h1 : 1 ≤ k) (h2 : k < stopOf ts) : faultB ts k = false := by
  have hs := (stop_pos hn).2
  unfold stopOf at h2 hs
  cases e : (List.range (ts.length - 1)).find? fun i => faultB ts (i + 1) with
  | none =>
    rw [e] at h2
    dsimp only at h2
    have := List.find?_eq_none.mp e (k - 1) (List.mem_range.mpr (by omega))
    rw [show k - 1 + 1 = k from by omega] at this
    simpa using this
  | some i =>
    rw [e] at h2
    dsimp only at h2
    obtain ⟨_, as, bs, hl, hb⟩ := List.find?_eq_some_iff_append.mp e
    have hlen : as.length = i := by
      have h3 : (List.range (ts.length - 1))[as.length]? = some i := by rw [hl]; simp
      have h4 := (List.getElem?_eq_some_iff.mp h3)
      obtain ⟨h5, h6⟩ := h4
      simpa using h6
    have hk : (List.range (ts.length - 1))[k - 1]? = some (k - 1) := by
      have hi := List.mem_range.mp (List.mem_of_find?_eq_some e)
      rw [List.getElem?_range (by omega)]
    have hmem : (k - 1) ∈ as := by
      rw [hl, List.getElem?_append_left (by omega)] at hk
      exact List.mem_of_getElem? hk
    have := hb (k - 1) hmem
    rw [show k - 1 + 1 = k from by omega] at this
    simpa using this
theorem stop_cases (ts : List Th) : (faultsOf ts = [] ∧ stopOf ts = ts.length) ∨ (∃ r, faultsOf ts = (stopOf ts : Int) :: r ∧ stopOf ts < ts.length ∧ 1 ≤ stopOf ts) := by
  unfold faultsOf stopOf
  cases e : (List.range (ts.length - 1)).find? fun i => faultB ts (i + 1) with
  | none =>
    left
    refine ⟨?_, rfl⟩
    rw [List.filter_eq_nil_iff.mpr fun i hi => List.find?_eq_none.mp e i hi]; rfl
  | some i =>
    right
    have hi := List.mem_range.mp (List.mem_of_find?_eq_some e)
    obtain ⟨hp, as, bs, hl, hb⟩ := List.find?_eq_some_iff_append.mp e
    refine ⟨(bs.filter fun i => faultB ts (i + 1)).map (fun (i : Nat) => ((i + 1 : Nat) : Int)), ?_, by dsimp only; omega, by dsimp only; omega⟩
    rw [hl, List.filter_append, List.filter_eq_nil_iff.mpr (fun j hj => by simpa using hb j hj), List.nil_append, List.filter_cons, if_pos hp]
    rfl

theorem marks_len (ts : List Th) : (marks ts).length = stopOf ts := by simp [marks]
theorem marks_get {k : Nat} (h : k < stopOf ts) : (marks ts).getD k 0 = cum ts k := by
  unfold marks
  simp [List.getD_eq_getElem?_getD, h]
theorem marks_start {k : Nat} (h : k < stopOf ts) : isStart (marks ts) k = (k == 0 || !isGo (st ts k)) := by
  unfold isStart
  cases k with
  | zero => rfl
  | succ k =>
    rw [marks_get h, show k + 1 - 1 = k from rfl, marks_get (by omega)]
    show (_ || (cum ts k + (if isGo (st ts (k + 1)) then 1 else 2) - cum ts k != 1)) = _
    congr 1
    cases isGo (st ts (k + 1)) with
    | true => simp only [if_true, Bool.not_true]; rw [show cum ts k + 1 - cum ts k = 1 from by omega]; rfl
    | false => simp only [Bool.false_eq_true, if_false, Bool.not_false]; rw [show cum ts k + 2 - cum ts k = 2 from by omega]; rfl

/-- the starts, the ends, as the law asks for them -/
def startsL (ts : List Th) : List Int := ((List.range (stopOf ts)).filter fun k => k == 0 || !isGo (st ts k)).map fun (k : Nat) => (k : Int)
def endsL (ts : List Th) : List Int := ((List.range (stopOf ts)).filter fun k => k + 1 == stopOf ts || !isGo (st ts (k + 1))).map fun (k : Nat) => (k : Int)
theorem startsL_eq (ts : List Th) : startsL ts = (startsOf (marks ts)).map fun (k : Nat) => (k : Int) := by
  unfold startsL startsOf
  rw [marks_len]
  congr 1
  exact List.filter_congr fun k hk => (marks_start (List.mem_range.mp hk)).symm
theorem endsL_eq (hn : 0 < ts.length) : endsL ts = endsOf (marks ts) := by
  have hsp := (stop_pos hn).1
  have hf := starts_first (ns := marks ts) (by rw [marks_len]; exact hsp)
  obtain ⟨r, hr⟩ : ∃ r, startsOf (marks ts) = 0 :: r := by
    cases h : startsOf (marks ts) with
    | nil => rw [h] at hf; simp at hf
    | cons a r => rw [h] at hf; simp at hf; exact ⟨r, by rw [hf]⟩
  have hso := starts_sorted (marks ts)
  rw [hr, List.pairwise_cons] at hso
  have hmr : ∀ k, k ∈ r ↔ (0 < k ∧ k < stopOf ts ∧ isGo (st ts k) = false) := fun k => by
    constructor
    · intro hk
      have h1 := mem_starts.mp (by rw [hr]; exact .tail _ hk : k ∈ startsOf (marks ts))
      have h0 := hso.1 k hk
      rw [marks_len] at h1
      refine ⟨h0, h1.1, ?_⟩
      have h2 := h1.2
      rw [marks_start h1.1, Bool.or_eq_true] at h2
      rcases h2 with h2 | h2
      · have : k = 0 := by simpa using h2
        omega
      · simpa using h2
    · rintro ⟨h0, h1, h2⟩
      have := mem_starts.mpr (⟨by rw [marks_len]; exact h1, by rw [marks_start h1, h2]; simp⟩ : k < (marks ts).length ∧ isStart (marks ts) k = true)
      rw [hr] at this
      rcases List.mem_cons.mp this with h | h
      · omega
      · exact h
  unfold endsL endsOf
  rw [hr, marks_len]
  refine eq_of_rising ?_ ?_ fun x => ?_
  · rw [List.pairwise_map]
    refine (List.Pairwise.filter _ List.pairwise_lt_range).imp fun {a b} h => ?_
    omega
  · rw [List.pairwise_append]
    refine ⟨?_, by simp, fun a ha b hb => ?_⟩
    · rw [List.pairwise_map]
      simp only [List.drop_succ_cons, List.drop_zero]
      refine hso.2.imp fun {a b} h => ?_
      omega
    · simp only [List.drop_succ_cons, List.drop_zero] at ha
      obtain ⟨k, hk, rfl⟩ := List.mem_map.mp ha
      rw [List.mem_singleton.mp hb]
      have := (hmr k).mp hk
      omega
  · simp only [List.drop_succ_cons, List.drop_zero]
    constructor
    · intro h
      obtain ⟨k, hk, rfl⟩ := List.mem_map.mp h
      obtain ⟨h1, h2⟩ := List.mem_filter.mp hk
      have h1 := List.mem_range.mp h1
      rw [Bool.or_eq_true] at h2
      by_cases he : k + 1 = stopOf ts
      · exact List.mem_append_right _ (List.mem_singleton.mpr (by omega))
      · rcases h2 with h2 | h2
        · exact absurd (by simpa using h2) he
        · refine List.mem_append_left _ (List.mem_map.mpr ⟨k + 1, (hmr _).mpr ⟨by omega, by omega, by simpa using h2⟩, by omega⟩)
    · intro h
      rcases List.mem_append.mp h with h | h
      · obtain ⟨k, hk, rfl⟩ := List.mem_map.mp h
        obtain ⟨h0, h1, h2⟩ := (hmr k).mp hk
        refine List.mem_map.mpr ⟨k - 1, List.mem_filter.mpr ⟨List.mem_range.mpr (by omega), ?_⟩, by omega⟩
        rw [show k - 1 + 1 = k from by omega, h2]; simp
      · rw [List.mem_singleton.mp h]
        refine List.mem_map.mpr ⟨stopOf ts - 1, List.mem_filter.mpr ⟨List.mem_range.mpr (by omega), ?_⟩, by omega⟩
        rw [show stopOf ts - 1 + 1 = stopOf ts from by omega]; simp

theorem scan_spec : ∀ (d a : Nat) (hd : a + d + 1 ≤ ts.length) (hgo : ∀ t, a < t → t < a + d + 1 → st ts t = .go) (he : a + d + 1 = ts.length ∨ (a + d + 1 < ts.length ∧ st ts (a + d + 1) ≠ .go)),
    scan (ts.getD a .bare) (ts.drop (a + 1)) = (d, if a + d + 1 = ts.length then .fin else st ts (a + d + 1))
  | 0, a, hd, hgo, he => by
    by_cases h : a + 1 = ts.length
    · rw [List.drop_of_length_le (by omega), if_pos (by omega)]; rfl
    · have hlt : a + 1 < ts.length := by omega
      rw [List.drop_eq_getElem_cons hlt, if_neg (by omega)]
      have hs : st ts (a + 0 + 1) = stepOf (ts.getD a .bare) ts[a + 1] := by
        unfold st
        simp [List.getD_eq_getElem?_getD, hlt]
      have hne : st ts (a + 0 + 1) ≠ .go := by
        rcases he with he | he
        · omega
        · exact he.2
      rw [hs] at hne ⊢
      unfold scan
      cases hq : stepOf (ts.getD a .bare) ts[a + 1] with
      | go => exact absurd hq hne
      | _ => rfl
  | d + 1, a, hd, hgo, he => by
    have hlt : a + 1 < ts.length := by omega
    rw [List.drop_eq_getElem_cons hlt]
    have hs : st ts (a + 1) = stepOf (ts.getD a .bare) ts[a + 1] := by
      unfold st
      simp [List.getD_eq_getElem?_getD, hlt]
    have hg := hgo (a + 1) (by omega) (by omega)
    rw [hs] at hg
    have ih := scan_spec d (a + 1) (by omega) (fun t h1 h2 => hgo t (by omega) (by omega)) (by rw [show a + 1 + d + 1 = a + (d + 1) + 1 from by omega]; exact he)
    have hgd : ts.getD (a + 1) .bare = ts[a + 1] := by simp [List.getD_eq_getElem?_getD, hlt]
    rw [hgd] at ih
    unfold scan
    rw [hg]
    dsimp only
    rw [ih, show a + 1 + d + 1 = a + (d + 1) + 1 from by omega]

/-- what a walk comes to that is asked where it holds the j-th start -/
theorem ask_spec (hn : 0 < ts.length) {j a : Nat} (ha : (startsOf (marks ts))[j]? = some a) :
    scan (ts.getD a .bare) (ts.drop (a + 1)) = (nxt (marks ts) j - a - 1, if nxt (marks ts) j = ts.length then .fin else st ts (nxt (marks ts) j)) ∧ a < nxt (marks ts) j ∧ nxt (marks ts) j ≤ stopOf ts := by
  have hb := seg_bounds ha
  rw [marks_len] at hb
  have hsp := stop_pos hn
  have hgo : ∀ t, a < t → t < nxt (marks ts) j → st ts t = .go := fun t h1 h2 => by
    have hm := seg_mid ha h1 h2
    have hs : isStart (marks ts) t = false := by
      unfold isStart
      rw [hm, show (marks ts).getD (t - 1) 0 + 1 - (marks ts).getD (t - 1) 0 = 1 from by omega]
      have : (t == 0) = false := by simp; omega
      rw [this]; rfl
    rw [marks_start (by omega), Bool.or_eq_false_iff] at hs
    cases hq : st ts t with
    | go => rfl
    | _ => rw [hq] at hs; exact absurd hs.2 (by decide)
  have key := scan_spec (ts := ts) (nxt (marks ts) j - a - 1) a (by omega) (fun t h1 h2 => hgo t h1 (by omega)) (by
    rw [show a + (nxt (marks ts) j - a - 1) + 1 = nxt (marks ts) j from by omega]
    by_cases h : nxt (marks ts) j = ts.length
    · exact .inl h
    · refine .inr ⟨by omega, ?_⟩
      by_cases h' : nxt (marks ts) j < stopOf ts
      · rcases nxt_cases (marks ts) j with h1 | ⟨h1, h2⟩
        · have h3 := mem_starts.mp (List.mem_of_getElem? h1)
          have h4 := h3.2
          rw [marks_start h', Bool.or_eq_true] at h4
          rcases h4 with h4 | h4
          · have : nxt (marks ts) j = 0 := by simpa using h4
            omega
          · intro hq; rw [hq] at h4; exact absurd h4 (by decide)
        · rw [marks_len] at h2; omega
      · have he : nxt (marks ts) j = stopOf ts := by omega
        have hf := stop_fault (ts := ts) (by omega)
        rw [he]
        intro hq
        unfold faultB at hf
        rw [hq] at hf; exact absurd hf (by decide))
  rw [show a + (nxt (marks ts) j - a - 1) + 1 = nxt (marks ts) j from by omega] at key
  exact ⟨key, hb.1, hb.2⟩

theorem step_told (hn : 0 < ts.length) {e : Nat} (h1 : 1 ≤ e) (h2 : e < stopOf ts) (h3 : st ts e ≠ .go) : st ts e = .told := by
  have hf := stop_none hn h1 h2
  unfold faultB at hf
  cases hq : st ts e with
  | told => rfl
  | go => exact absurd hq h3
  | attr => rw [hq] at hf; exact absurd hf (by decide)
  | type => rw [hq] at hf; exact absurd hf (by decide)
  | fin =>
    exfalso
    unfold st at hq
    cases ha : ts.getD e .bare with
    | bare => rw [ha] at hq; cases hb : ts.getD (e - 1) .bare <;> rw [hb] at hq <;> cases hq
    | text => rw [ha] at hq; cases hb : ts.getD (e - 1) .bare <;> rw [hb] at hq <;> cases hq
    | num m =>
      rw [ha] at hq
      cases hb : ts.getD (e - 1) .bare with
      | bare => rw [hb] at hq; cases hq
      | text => rw [hb] at hq; cases hq
      | num n => rw [hb] at hq; simp only [stepOf] at hq; split at hq <;> cases hq
theorem nxt_not_go (hn : 0 < ts.length) {j a : Nat} (ha : (startsOf (marks ts))[j]? = some a) (h : nxt (marks ts) j < stopOf ts) : st ts (nxt (marks ts) j) = .told ∧ (startsOf (marks ts))[j + 1]? = some (nxt (marks ts) j) := by
  have hb := seg_bounds ha
  rcases nxt_cases (marks ts) j with h1 | ⟨h1, h2⟩
  · refine ⟨step_told hn (by omega) h ?_, h1⟩
    have h4 := (mem_starts.mp (List.mem_of_getElem? h1)).2
    rw [marks_start h, Bool.or_eq_true] at h4
    rcases h4 with h4 | h4
    · have : nxt (marks ts) j = 0 := by simpa using h4
      omega
    · intro hq; rw [hq] at h4; exact absurd h4 (by decide)
  · rw [marks_len] at h2; omega
theorem nxt_last {j a : Nat} (ha : (startsOf (marks ts))[j]? = some a) (h : nxt (marks ts) j = stopOf ts) : j + 1 = (startsOf (marks ts)).length := by
  have hj := (List.getElem?_eq_some_iff.mp ha).1
  rcases nxt_cases (marks ts) j with h1 | ⟨h1, h2⟩
  · have := (mem_starts.mp (List.mem_of_getElem? h1)).1
    rw [marks_len] at this; omega
  · have := List.getElem?_eq_none_iff.mp h1; omega
end
end Mine

namespace Mine

theorem TurnEnd.next {c : Cx} {T H : Led} {J : Led → Led → (Str → Option Value) → Array GenState → Prop} {Q : Flow → Shared → Prop} {s' : Shared} {O Mu : Led} {sg : Str → Option Value} {gs : Array GenState} (hJ : J O Mu sg gs) (h : At (c.up (Mu ++ T) sg gs) (H ++ O) s') : TurnEnd c T H J Q .next s' :=
  ⟨O, Mu, sg, gs, hJ, h⟩
theorem e_locI {c : Cx} {O : Led} {x : Str} {v : Value} {i : Int} {pos : Pos} (hv : c.sg x = some v) (hi : IsInt i v) (hl : c.env.kindOf x = some .local := by rfl) (hk : c.env.scope.kind = .function := by rfl) (hd : (x == ("__debug__" : Str)) = false := by decide) :
    TV c O (eval (.Name x pos) c.env) (IsInt i) := (e_local hv hl hk hd).mono fun u hu => hu ▸ hi
theorem env_c1 {pm : Value} {L : Addr} (x : Str) (h : ((lawEnv pm L).cells.lookup x).isSome = true) : ∃ a, (lawEnv pm L).cells.lookup x = some a := Option.isSome_iff_exists.mp h

section
variable {c : Cx} {O : Led} {s : Shared} {E : Value → Shared → Prop}
/-- x = [] -/
theorem x_assign_nil {x : Str} {p' lpos pos : Pos} {Q : Flow → Shared → Prop} (hx : Stores c x) (y : At c O s) (k : ∀ D s', At { c.set x (.ref D) with Mu := (D, LP []) :: c.Mu } O s' → Q .next s')
    (hs : swapsWith (.List [] lpos) (some (.Name x p')) pos.line c.env = pure false := by rfl) : wpAny (model c.prog c.w) c.A (exec (.Assign [.Name x p'] (.List [] lpos) pos) c.env) Q E s := by
  refine wpAny_Assign_Name ((e_listV (c := c) (O := O) (pos := lpos) s_nil ?_).use y ?_) hs
  · rintro vs rfl; simp
  rintro v s₁ N ⟨D, cvs, rfl, rfl, rfl⟩ g y₁
  have hB := fresh_B y (g.2 _ (.head _)).1
  refine w_store hx y₁ fun s₂ _ y₂ => ?_
  exact k D s₂ ((At.toMu y₂ (.head _) hB).sub (O' := O) fun q hq => List.mem_filter.mpr ⟨List.mem_append_right _ hq, decide_eq_true fun h => (y.own q hq).alive (by rw [h]; exact (g.2 _ (.head _)).1)⟩)

theorem q_ne_empty {l b : Addr} {xs : List Value} (hu : c.A.units < cLine) (hl : ∀ s, At c O s → s.heap.IsList l xs.toArray) (hb : InL c O (b, LP [])) : TV c O (compareOp .NotEq (.ref l) (.ref b)) (· = .bool (!xs.isEmpty)) := fun s E x => by
  cases xs with
  | nil =>
    refine SeqAt.RcNeAt.lists (e := fun _ => true) (hl s x) (x.has hb).isList rfl hu (fun j h1 _ => absurd h1 (by simp)) _ _ _ _ ?_
    exact ⟨rfl, Kp.refl s⟩
  | cons a r =>
    refine SeqAt.RcNeAt.lists_lengths (hl s x) (x.has hb).isList (by simp) hu _ _ _ _ ?_
    exact ⟨rfl, Kp.refl s⟩
end

def kindS : Th → Str
  | .bare => ("none" : Str)
  | .text => ("text" : Str)
  | .num _ => ("number" : Str)
/-- a value that is the same as itself -/
def Firm (v : Value) : Prop := (∃ a, v = .ref a) ∨ ∃ i t, v = .int i t ∧ t ≠ 0

/-- the row, its kinds, its numbers -/
structure Row6 (O : Led) (ts : List Th) (ms : List Int) (rvs kvs nvs : List Value) : Prop where
  len : ms.length = ts.length
  row : Paired (ThR O) ts rvs
  firm : ∀ v ∈ rvs, Firm v
  kin : Paired (fun t v => IsStr (kindS t) v) ts kvs
  num : Paired IsInt ms nvs
  ok : ∀ (k : Nat) (n : Int), ts[k]? = some (Th.num n) → ms[k]? = some n
theorem Row6.mono {O O' : Led} {ts : List Th} {ms : List Int} {rvs kvs nvs : List Value} (h : Row6 O ts ms rvs kvs nvs) (hs : ∀ q ∈ O, q ∈ O') : Row6 O' ts ms rvs kvs nvs := ⟨h.len, h.row.mono fun a u x => x.mono hs, h.firm, h.kin, h.num, h.ok⟩
theorem Row6.snoc {O : Led} {ts : List Th} {ms : List Int} {rvs kvs nvs : List Value} {t : Th} {m : Int} {rv kv nv : Value} (h : Row6 O ts ms rvs kvs nvs) (h1 : ThR O t rv) (h2 : Firm rv) (h3 : IsStr (kindS t) kv) (h4 : IsInt m nv) (h5 : ∀ n, t = .num n → m = n) :
    Row6 O (ts ++ [t]) (ms ++ [m]) (rvs ++ [rv]) (kvs ++ [kv]) (nvs ++ [nv]) := by
  refine ⟨by simp [h.len], paired_append h.row (.cons h1 .nil), fun v hv => ?_, paired_append h.kin (.cons h3 .nil), paired_append h.num (.cons h4 .nil), fun k n hk => ?_⟩
  · rcases List.mem_append.mp hv with hv | hv
    · exact h.firm v hv
    · rw [List.mem_singleton.mp hv]; exact h2
  · by_cases hlt : k < ts.length
    · rw [List.getElem?_append_left hlt] at hk
      rw [List.getElem?_append_left (by rw [h.len]; exact hlt)]
      exact h.ok k n hk
    · have hkt : k = ts.length := by
        have := (List.getElem?_eq_some_iff.mp hk).1
        simp at this; omega
      subst hkt
      rw [List.getElem?_append_right (Nat.le_refl _)] at hk
      simp at hk
      rw [List.getElem?_append_right (by rw [h.len]; exact Nat.le_refl _), h.len]
      simp [h5 n hk]

def itemsOf6 (ns : List Int) : List Int := if ns.isEmpty then [0] else ns.take 40
theorem items6_len (ns : List Int) : 1 ≤ (itemsOf6 ns).length ∧ (itemsOf6 ns).length ≤ 40 := by
  unfold itemsOf6
  cases ns with
  | nil => simp
  | cons a r => simp only [List.isEmpty_cons, Bool.false_eq_true, if_false, List.length_take, List.length_cons]; omega
/-- an item: a number, whose token is known where it goes into the row itself -/
def It6 (x : Int) (v : Value) : Prop := IsInt x v ∧ (x.fmod 8 = 7 → Firm v)
theorem paired_and {α β : Type} {R R' : α → β → Prop} {as : List α} {us : List β} (h : Paired R as us) (h' : ∀ u ∈ us, ∀ a, R a u → R' a u) : Paired (fun a u => R a u ∧ R' a u) as us := by
  induction h with
  | nil => exact .nil
  | cons hab _ ih => exact .cons ⟨hab, h' _ (.head _) _ hab⟩ (ih fun u hu a ha => h' u (.tail _ hu) a ha)

theorem log2_small {n : Int} (h0 : 0 ≤ n) (h : n < 1000) : n.natAbs.log2 < 1920 := by
  by_cases hz : n.natAbs = 0
  · rw [hz]; decide
  · rw [Nat.log2_lt hz]
    exact Nat.lt_of_lt_of_le (show n.natAbs < 2 ^ 10 by omega) (Nat.pow_le_pow_right (by decide) (by decide))

section
variable {b : Cx} {pm pw : Value} {L : Addr} {s : Shared} {E : Value → Shared → Prop}

/-- what the loop that builds the row knows -/
def Jb (Dr Dk Dm : Addr) (O : Led) (sg : Str → Option Value) (i : Nat) (O' Mu : Led) (sg' : Str → Option Value) (gs' : Array GenState) : Prop :=
  gs' = #[] ∧ (∀ q ∈ O, q ∈ O') ∧ (∀ z : Str, z ≠ "x" → z ≠ "last" → sg' z = sg z) ∧ (∃ lv last, sg' "last" = some lv ∧ IsInt last lv) ∧ ∃ ts ms rvs kvs nvs, Mu = [(Dm, LP nvs), (Dk, LP kvs), (Dr, LP rvs)] ∧ ts.length = i ∧ Row6 O' ts ms rvs kvs nvs

set_option maxHeartbeats 4000000 in
theorem build6 (o : ∀ Mu sg gs, Own ((LC b pm L).up Mu sg gs)) (hu : b.A.units < cLine) (hstr : b.mg "str" = none ∧ b.mb "str" = some (.type "str")) {Q : Flow → Shared → Prop} {sg : Str → Option Value} {l : Addr} {vs : List Value} {ns : List Int} (hl : b.B.IsList l vs.toArray) (hI : IntsAre vs ns) (htk : ∀ v ∈ vs, ∃ i t, v = .int i t ∧ t ≠ 0) (hn : ns.length ≤ 63)
    (hsc : sg "script" = some (.ref l)) (y : At ((LC b pm L).up [] sg #[]) [] s)
    (k : ∀ Dr Dk Dm ts ms rvs kvs nvs O sg' s', 0 < ts.length → ts.length ≤ 40 → Row6 O ts ms rvs kvs nvs → (Dk, LP kvs) ∈ O → (Dm, LP nvs) ∈ O → sg' "row" = some (.ref Dr) → sg' "kinds" = some (.ref Dk) → sg' "numbers" = some (.ref Dm) → At ((LC b pm L).up [(Dr, LP rvs)] sg' #[]) O s' →
      wpAny (model b.prog b.w) b.A (execs ((fnBody 5).drop 5) (lawEnv pm L)) Q E s') :
    wpAny (model b.prog b.w) b.A (execs (fnBody 5) (lawEnv pm L)) Q E s := by
  obtain ⟨aK, haK⟩ := env_c1 (pm := pm) (L := L) "kinds" (by kernel_rfl)
  obtain ⟨aN, haN⟩ := env_c1 (pm := pm) (L := L) "numbers" (by kernel_rfl)
  have hp := ints_paired hI
  have hvl : vs.length = ns.length := hp.length.symm
  refine wpAny_execs_cons (x_assign_nil (c := (LC b pm L).up [] sg #[]) (.loc rfl rfl rfl fun h => nomatch h) y fun Dr s₁ y₁ => ?_)
  refine wpAny_execs_cons (x_assign_nil (c := (LC b pm L).up [(Dr, LP [])] (upd sg "row" (.ref Dr)) #[]) (.cell aK rfl rfl haK rfl) y₁ fun Dk s₂ y₂ => ?_)
  refine wpAny_execs_cons (x_assign_nil (c := (LC b pm L).up [(Dk, LP []), (Dr, LP [])] (upd (upd sg "row" (.ref Dr)) "kinds" (.ref Dk)) #[]) (.cell aN rfl rfl haN rfl) y₂ fun Dm s₃ y₃ => ?_)
  refine wpAny_execs_cons (x_assignV (c := (LC b pm L).up [(Dm, LP []), (Dk, LP []), (Dr, LP [])] (upd (upd (upd sg "row" (.ref Dr)) "kinds" (.ref Dk)) "numbers" (.ref Dm)) #[]) (.loc rfl rfl rfl fun h => nomatch h) (e_int (i := 0)) y₃ fun lv s₄ hlv y₄ => ?_)
  refine wpAny_execs_cons (x_for (c := (LC b pm L).up [(Dm, LP []), (Dk, LP []), (Dr, LP [])] (upd (upd (upd (upd sg "row" (.ref Dr)) "kinds" (.ref Dk)) "numbers" (.ref Dm)) "last" lv) #[]) (items := itemsOf6 ns) (R := It6) (.loc rfl rfl rfl fun h => nomatch h) ?src rfl
    (Jb Dr Dk Dm [] (upd (upd (upd (upd sg "row" (.ref Dr)) "kinds" (.ref Dk)) "numbers" (.ref Dm)) "last" lv)) y₄ ⟨rfl, fun q hq => hq, fun z _ _ => rfl, ⟨lv, 0, rfl, hlv⟩, [], [], [], [], [], rfl, rfl, ⟨rfl, .nil, (fun v hv => nomatch hv), .nil, .nil, fun k n h => by simp at h⟩⟩ ?turn ?done)
  case src =>
    refine src_list (P := fun v N => ∃ D ws, v = .ref D ∧ (D, LP ws) ∈ N ∧ Paired It6 (itemsOf6 ns) ws) (o _ _ _).std (e_if (q := !vs.isEmpty) (t_cmpL (TV.tr (e_local hsc)) (fun _ _ _ => e_listV s_nil (by rintro vs rfl; simp)) ?cmp) ?yes ?no) ?_
    case cmp =>
      rintro a N1 b' N2 ⟨rfl, rfl⟩ ⟨D, us, rfl, rfl, rfl⟩
      exact q_ne_empty hu (fun s' x => let ⟨o, e, q⟩ := hl; ⟨o, x.base _ _ e, q⟩) (.inl (.head _))
    case yes =>
      intro hq
      refine Tr.mono (e_slice (xs := vs) (e_local hsc) (fun s' x => let ⟨o, e, q⟩ := hl; ⟨o, x.base _ _ e, q⟩) p_none (p_some (k := 40) e_int) (by omega)) ?_
      rintro v N ⟨D, rfl, rfl⟩
      refine ⟨D, _, rfl, .head _, ?_⟩
      have hne : ns.isEmpty = false := by
        cases ns with
        | nil => cases hp; simp at hq
        | cons a r => rfl
      rw [show ((40 : Int)) = ((40 : Nat) : Int) from rfl, cut_upto]
      unfold itemsOf6
      rw [hne]
      simp only [Bool.false_eq_true, if_false]
      refine paired_and (paired_take hp 40) fun u hu a _ _ => ?_
      exact .inr (htk u (List.mem_of_mem_take hu))
    case no =>
      intro hq
      refine Tr.mono (e_listV (s_cons (e_int (i := 0)) s_nil) ?_) ?_
      · rintro vs ⟨v, r, rfl, _, rfl⟩; simp
      · rintro v N ⟨D, us, rfl, rfl, u, r, rfl, h1, rfl⟩
        refine ⟨D, _, rfl, .head _, ?_⟩
        have hne : ns.isEmpty = true := by
          cases ns with
          | nil => rfl
          | cons a r => cases hp; simp at hq
        unfold itemsOf6
        rw [hne]
        exact .cons ⟨h1, fun h => absurd h (by decide)⟩ .nil
    · rintro v N ⟨D, ws, rfl, hD, hP⟩
      exact ⟨D, ws, rfl, List.mem_append_left _ hD, hP⟩
  case turn =>
    rintro i x v O' Mu sg' gs' T H s₅ E' hi ⟨hR, hF⟩ ⟨rfl, hO', hsg, ⟨lv', last, hsl, hlast⟩, ts, ms, rvs, kvs, nvs, rfl, hlen, hrow⟩ y₅
    have hi40 : i < 40 := by
      have h1 := (List.getElem?_eq_some_iff.mp hi).1
      have := items6_len ns
      omega
    have hro : sg' "row" = some (.ref Dr) := (hsg _ (by decide) (by decide)).trans rfl
    have hki : sg' "kinds" = some (.ref Dk) := (hsg _ (by decide) (by decide)).trans rfl
    have hnu : sg' "numbers" = some (.ref Dm) := (hsg _ (by decide) (by decide)).trans rfl
    have hlr : rvs.length = i := by rw [← hrow.row.length]; exact hlen
    have hlk : kvs.length = i := by rw [← hrow.kin.length]; exact hlen
    have hln : nvs.length = i := by rw [← hrow.num.length, hrow.len]; exact hlen
    have hrowH : Row6 (H ++ O') ts ms rvs kvs nvs := hrow.mono fun q hq => List.mem_append_right _ hq
    -- numbers.append(last)
    have tail : ∀ (N : Led) (sg₂ : Str → Option Value) (t : Th) (m : Int) (rv kv lv₂ : Value) (s₆ : Shared), ThR (N ++ (H ++ O')) t rv → Firm rv → IsStr (kindS t) kv → IsInt m lv₂ → (∀ n, t = .num n → m = n) → sg₂ "last" = some lv₂ → sg₂ "numbers" = some (.ref Dm) → (∀ z : Str, z ≠ "x" → z ≠ "last" → sg₂ z = sg' z) →
        At ((LC b pm L).up ([(Dm, LP nvs), (Dk, LP (kvs ++ [kv])), (Dr, LP (rvs ++ [rv]))] ++ T) sg₂ #[]) (N ++ (H ++ O')) s₆ →
        wpAny (model b.prog b.w) b.A (execs ((match ((fnBody 5)[4]? : Option Stmt) with | some (.For _ _ bd _ _) => bd | _ => []).drop 1) (lawEnv pm L)) (TurnEnd ((LC b pm L).up [(Dm, LP []), (Dk, LP []), (Dr, LP [])] (upd (upd (upd (upd sg "row" (.ref Dr)) "kinds" (.ref Dk)) "numbers" (.ref Dm)) "last" lv) #[]) T H
          (Jb Dr Dk Dm [] (upd (upd (upd (upd sg "row" (.ref Dr)) "kinds" (.ref Dk)) "numbers" (.ref Dm)) "last" lv) (i + 1)) (fun f s' => match f with | .next => wpAny (model b.prog b.w) b.A (execs ((fnBody 5).drop 5) (lawEnv pm L)) Q E s' | f => Q f s')) E' s₆ := by
      intro N sg₂ t m rv kv lv₂ s₆ h1 h2 h3 h4 h5 hl₂ hn₂ hz₂ y₆
      refine wpAny_execs_cons (x_append_at (c := (LC b pm L).up ([(Dm, LP nvs), (Dk, LP (kvs ++ [kv])), (Dr, LP (rvs ++ [rv]))] ++ T) sg₂ #[]) (X := []) (Y := [(Dk, LP (kvs ++ [kv])), (Dr, LP (rvs ++ [rv]))] ++ T) rfl rfl y₆ (e_cell hn₂ haN) (TV.tr (e_local hl₂)) (by omega) ?_)
      rintro v₂ N₂ s₇ ⟨rfl, rfl⟩ y₇
      refine wpAny_execs_nil (TurnEnd.next (O := N ++ (H ++ O')) (Mu := [(Dm, LP (nvs ++ [v₂])), (Dk, LP (kvs ++ [kv])), (Dr, LP (rvs ++ [rv]))]) (sg := sg₂) (gs := #[]) ⟨rfl, (fun q hq => nomatch hq), fun z hx hla => (hz₂ z hx hla).trans (hsg z hx hla), ⟨v₂, m, hl₂, h4⟩, ts ++ [t], ms ++ [m], _, _, _, rfl, by simp [hlen], ?_⟩ (y₇.sub fun q hq => ?_))
      · exact (hrowH.mono fun q hq => List.mem_append_right _ hq).snoc h1 h2 h3 h4 h5
      · rcases List.mem_append.mp hq with h | h
        · exact List.mem_append_right N (List.mem_append_left O' h)
        · exact h
    refine wpAny_execs_cons (x_if (c := (LC b pm L).up ([(Dm, LP nvs), (Dk, LP kvs), (Dr, LP rvs)] ++ T) (upd sg' "x" v) #[]) y₅ (q := (x.fmod 8 == 7)) (t_cmp (e_mod (e_locI (v := v) rfl hR) e_int (by decide)) e_int fun a b ha hb => q_eq ha hb) ?bare ?other)
    case bare =>
      intro hq s₆ y₆
      have hq' : x.fmod 8 = 7 := by simpa using hq
      refine wpAny_execs_cons (x_append_at (c := (LC b pm L).up ([(Dm, LP nvs), (Dk, LP kvs), (Dr, LP rvs)] ++ T) (upd sg' "x" v) #[]) (X := [(Dm, LP nvs), (Dk, LP kvs)]) (Y := T) rfl rfl y₆ (e_local hro) (TV.tr (e_local (v := v) rfl)) (by omega) ?_)
      rintro v₂ N₂ s₇ ⟨rfl, rfl⟩ y₇
      refine wpAny_execs_cons (x_append_at (c := (LC b pm L).up ([(Dm, LP nvs), (Dk, LP kvs), (Dr, LP (rvs ++ [v₂]))] ++ T) (upd sg' "x" v₂) #[]) (X := [(Dm, LP nvs)]) (Y := [(Dr, LP (rvs ++ [v₂]))] ++ T) rfl rfl y₇ (e_cell hki haK) (TV.tr e_str) (by omega) ?_)
      rintro kv N₃ s₈ ⟨rfl, hkv⟩ y₈
      refine wpAny_execs_nil (tail [] (upd sg' "x" v₂) .bare last v₂ kv lv' s₈ ?_ (hF hq') hkv hlast (fun n h => nomatch h) hsl hnu (fun z h1 h2 => upd_ne h1) y₈)
      obtain ⟨t, rfl⟩ := hR
      exact ⟨_, _, rfl⟩
    case other =>
      intro _ s₆ y₆
      refine wpAny_execs_cons (x_if (c := (LC b pm L).up ([(Dm, LP nvs), (Dk, LP kvs), (Dr, LP rvs)] ++ T) (upd sg' "x" v) #[]) y₆ (q := (x.fmod 8 == 6)) (t_cmp (e_mod (e_locI (v := v) rfl hR) e_int (by decide)) e_int fun a b ha hb => q_eq ha hb) ?text ?num)
      case text =>
        intro _ s₇ y₇
        have m0 := Int.fmod_nonneg_of_pos x (show (0 : Int) < 1000 by decide)
        have m1 := Int.fmod_lt_of_pos x (show (0 : Int) < 1000 by decide)
        refine wpAny_execs_cons (x_append_at (c := (LC b pm L).up ([(Dm, LP nvs), (Dk, LP kvs), (Dr, LP rvs)] ++ T) (upd sg' "x" v) #[]) (X := [(Dm, LP nvs), (Dk, LP kvs)]) (Y := T) rfl rfl y₇ (e_local hro) (e_box (o _ _ _) (e_strOf (o _ _ _).std hstr (e_mod (e_locI (v := v) rfl hR) e_int (by decide)) (log2_small m0 m1))) (by omega) ?_)
        rintro rv N₂ s₈ ⟨u, bx, d, ⟨t, rfl⟩, rfl, rfl⟩ y₈
        refine wpAny_execs_cons (x_append_at (c := (LC b pm L).up ([(Dm, LP nvs), (Dk, LP kvs), (Dr, LP (rvs ++ [Value.ref bx]))] ++ T) (upd sg' "x" v) #[]) (X := [(Dm, LP nvs)]) (Y := [(Dr, LP (rvs ++ [Value.ref bx]))] ++ T) rfl rfl y₈ (e_cell hki haK) (TV.tr e_str) (by omega) ?_)
        rintro kv N₃ s₉ ⟨rfl, hkv⟩ y₉
        exact wpAny_execs_nil (wpAny_execs_nil (tail _ (upd sg' "x" v) .text last (.ref bx) kv lv' s₉ ⟨bx, _, _, rfl, d, .head _, .tail _ (.head _)⟩ (.inl ⟨_, rfl⟩) hkv hlast (fun n h => nomatch h) hsl hnu (fun z h1 h2 => upd_ne h1) y₉))
      case num =>
        intro _ s₇ y₇
        refine wpAny_execs_cons (x_assignV (c := (LC b pm L).up ([(Dm, LP nvs), (Dk, LP kvs), (Dr, LP rvs)] ++ T) (upd sg' "x" v) #[]) (P := fun u => ∃ m, IsInt m u) (.loc rfl rfl rfl fun h => nomatch h) (e_ifV (q := (x.fmod 8 == 5)) (t_cmp (e_mod (e_locI (v := v) rfl hR) e_int (by decide)) e_int fun a b ha hb => q_eq ha hb) (fun _ => (e_div (e_locI (v := v) rfl hR) e_int (by decide) (PyProof.noPylong_small (by decide))).mono fun u hu => ⟨_, hu⟩) (fun _ => (e_add (e_locI hsl hlast) e_int).mono fun u hu => ⟨_, hu⟩)) y₇ ?_)
        rintro lv₂ s₈ ⟨m, hm⟩ y₈
        refine wpAny_execs_cons (x_append_at (c := (LC b pm L).up ([(Dm, LP nvs), (Dk, LP kvs), (Dr, LP rvs)] ++ T) (upd (upd sg' "x" v) "last" lv₂) #[]) (X := [(Dm, LP nvs), (Dk, LP kvs)]) (Y := T) rfl rfl y₈ (e_local hro) (e_box (o _ _ _) (e_local (v := lv₂) rfl)) (by omega) ?_)
        rintro rv N₂ s₉ ⟨u, bx, d, rfl, rfl, rfl⟩ y₉
        refine wpAny_execs_cons (x_append_at (c := (LC b pm L).up ([(Dm, LP nvs), (Dk, LP kvs), (Dr, LP (rvs ++ [Value.ref bx]))] ++ T) (upd (upd sg' "x" v) "last" u) #[]) (X := [(Dm, LP nvs)]) (Y := [(Dr, LP (rvs ++ [Value.ref bx]))] ++ T) rfl rfl y₉ (e_cell hki haK) (TV.tr e_str) (by omega) ?_)
        rintro kv N₃ s₁₀ ⟨rfl, hkv⟩ y₁₀
        refine wpAny_execs_nil (wpAny_execs_nil (tail _ (upd (upd sg' "x" v) "last" u) (.num m) m (.ref bx) kv u s₁₀ ⟨bx, u, rfl, ⟨d, .head _, .tail _ (.head _)⟩, hm⟩ (.inl ⟨_, rfl⟩) hkv hm (fun n h => by cases h; rfl) rfl hnu (fun z h1 h2 => (upd_ne h2).trans (upd_ne h1)) y₁₀))
  case done =>
    rintro O' Mu sg' gs' s₅ ⟨rfl, hO', hsg, _, ts, ms, rvs, kvs, nvs, rfl, hlen, hrow⟩ y₅
    have h40 := items6_len ns
    have y₆ := At.toO (c := (LC b pm L).up [] sg' #[]) y₅ rfl
    have y₇ := At.toO (c := (LC b pm L).up [] sg' #[]) y₆ rfl
    exact k Dr Dk Dm ts ms rvs kvs nvs _ sg' s₅ (by omega) (by omega) (hrow.mono fun q hq => .tail _ (.tail _ hq)) (.head _) (.tail _ (.head _)) ((hsg _ (by decide) (by decide)).trans rfl) ((hsg _ (by decide) (by decide)).trans rfl) ((hsg _ (by decide) (by decide)).trans rfl) y₇
end
end Mine

namespace Mine

section
variable {c : Cx} {O : Led} {s s' : Shared} {E : Value → Shared → Prop}

/-- an exception that flies or has landed, and what stands around it -/
def Land (c : Cx) (O : Led) (lawE : Env) (cls : String) (e : Addr) (s' : Shared) : Prop :=
  ∃ base a0, Heap.FlyingW base [lawE] e (.type cls) a0 s'.heap ∧ s'.gens = c.gs ∧ s'.os = c.os ∧ NsOk c s'.heap ∧ ∀ s'', base.StaysIn s''.heap → NsOk c s''.heap → s''.gens = c.gs → s''.os = c.os → At c O s''
theorem Land.at {lawE : Env} {cls : String} {e : Addr} (h : Land c O lawE cls e s) : At c O s := let ⟨_, _, hfl, hg, ho, hn, safe⟩ := h; safe s hfl.1 hn hg ho
theorem Land.typeIs {lawE : Env} {cls : String} {e : Addr} (h : Land c O lawE cls e s) : s.TypeIs (.ref e) cls := by
  obtain ⟨_, _, hfl, _⟩ := h
  obtain ⟨ob, h1, h2⟩ := hfl.there
  exact ⟨ob, h1, h2⟩
theorem NsOk.keeps {h h' : Heap} (x : NsOk c h) (k : ∀ b o, h.get? b = some o → h'.get? b = some o) : NsOk c h' := let ⟨m, h1, h2⟩ := x; ⟨m, h1.keeps k, h2⟩
theorem NsOk.slots {h h' : Heap} (x : NsOk c h) (k : h.UpToSlots h') : NsOk c h' := let ⟨m, h1, h2⟩ := x; ⟨m, k.ns h1, h2⟩
theorem Land.keeps {lawE : Env} {cls : String} {e : Addr} (h : Land c O lawE cls e s) (k : Kp s s') : Land c O lawE cls e s' := by
  obtain ⟨base, a0, ⟨f1, f2, f3, f4⟩, hg, ho, hn, safe⟩ := h
  refine ⟨base, a0, ⟨fun b o e => k.get (f1 b o e), f2, f3.of_keeps fun b o e _ => ⟨o, k.get e, rfl⟩, ?_⟩, k.gens.trans hg, k.os.trans ho, hn.keeps fun b o e => k.get e, safe⟩
  obtain ⟨oe, vs, T, oT, ts, h1, h2, h3, h4, h5, h6, h7, h8⟩ := f4
  exact ⟨oe, vs, T, oT, ts, k.get h1, h2, h3, h4, h5, h6, k.get h7, h8⟩

theorem caught {cls : String} {x : Value} {hs : List ExceptHandler} {Q : Flow → Shared → Prop} (hfr : c.A.frames = some [c.env]) (hf : c.env.frame = some c.env.locals) (h : Fell c O c.env cls x s)
    (k : ∀ e s', Land c O c.env cls e s' → wpAny (model c.prog c.w) c.A (handleBy (.ref e) c.env hs) Q E s') :
    notedBy (model c.prog c.w) c.A c.env (fun x s₁ => cameBackBy (model c.prog c.w) c.A c.env (fun e s₁ => wpAny (model c.prog c.w) c.A (noteFrame e c.env) (fun _ s₂ => wpAny (model c.prog c.w) c.A (setFlight e none) (fun _ s₃ => wpAny (model c.prog c.w) c.A (handleBy e c.env hs) Q E s₃) E s₂) E s₁) x s₁) x s := by
  obtain ⟨e, base, a0, rfl, hfl, hg, ho, hn, safe⟩ := h
  unfold notedBy
  refine wpAny_looks_onW (outer := []) hfr hf hfl fun h₁ hh₁ up₁ => ?_
  unfold cameBackBy
  obtain ⟨g1, g2, g3, g4⟩ := hh₁
  refine came_back (base := base) (l := [c.env]) hf g1 g3 g4 fun h₂ k1 k2 k3 up₂ => ?_
  refine wpAny_noteFrame_againW hf k3 ?_
  refine wpAny_landsW (base := base) (l := [c.env]) ⟨k1, g2, k2, k3⟩ fun h₃ hfl₃ up₃ => k e _ ⟨base, a0, hfl₃, hg, ho, ?_, safe⟩
  exact ((hn.slots up₁).slots up₂).slots up₃

theorem exc_attr : isSubtype (.type "AttributeError") (.type "BaseException") = pure true := by rw [isSubtype_type]; kernel_rfl
theorem exc_type : isSubtype (.type "TypeError") (.type "BaseException") = pure true := by rw [isSubtype_type]; kernel_rfl
theorem exc_aa : isSubtype (.type "AttributeError") (.type "AttributeError") = pure true := by rw [isSubtype_type]; kernel_rfl
theorem exc_tt : isSubtype (.type "TypeError") (.type "TypeError") = pure true := by rw [isSubtype_type]; kernel_rfl
theorem exc_ta : isSubtype (.type "TypeError") (.type "AttributeError") = pure false := by rw [isSubtype_type]; kernel_rfl
theorem meta_a : isSubtype (.type ((Manifest.find? "AttributeError").elim "type" fun x => x.metatype)) (.type "tuple") = pure false := by
  have e : ((Manifest.find? "AttributeError").elim "type" fun x => x.metatype) = "type" := by decide +kernel
  rw [e, isSubtype_type]; kernel_rfl
theorem meta_t : isSubtype (.type ((Manifest.find? "TypeError").elim "type" fun x => x.metatype)) (.type "tuple") = pure false := by
  have e : ((Manifest.find? "TypeError").elim "type" fun x => x.metatype) = "type" := by decide +kernel
  rw [e, isSubtype_type]; kernel_rfl

/-- a handler whose class fits: x = text -/
theorem suite6 {cls T : String} {e : Addr} {x : Str} {y : Str} {p1 p2 p3 p4 : Pos} {kk : Nat} {nm : Str} {rest : List ExceptHandler} {Q : Flow → Shared → Prop} (hx : Stores c x) (hb : c.mg nm = none ∧ c.mb nm = some (.type T)) (S : c.env.globals = mainGlobals ∧ c.env.builtins = builtinsNs)
    (hexc : isSubtype (.type T) (.type "BaseException") = pure true) (hnt : isSubtype (.type ((Manifest.find? T).elim "type" fun x => x.metatype)) (.type "tuple") = pure false) (hsub : isSubtype (.type cls) (.type T) = pure true)
    (h : Land c O c.env cls e s) (k : ∀ v s', IsStr y v → At (c.set x v) O s' → Q .next s')
    (hk : c.env.kindOf nm = some .globalImplicit := by rfl) (hf : c.env.scope.kind = .function := by rfl) (hd : (nm == ("__debug__" : Str)) = false := by decide)
    (hsw : swapsWith (.Constant (.str y) kk p3) (some (.Name x p2)) p4.line c.env = pure false := by rfl) :
    wpAny (model c.prog c.w) c.A (handleBy (.ref e) c.env (.ExceptHandler (some (.Name nm p1)) none [.Assign [.Name x p2] (.Constant (.str y) kk p3) p4] pos :: rest)) Q E s := by
  refine wpAny_handleBy_builtin (X := cls) (b := true) hexc hnt hsub ?_
  refine (e_bi (c := { c with A := c.A.mark (some (.ref e)) }) (O := O) hb.1 hb.2 hk S.1 S.2 hf hd).use (h.at.withA _) fun v s₁ hv k₁ _ => ⟨hv, (h.keeps k₁).typeIs, ?_⟩
  have h₁ := h.keeps k₁
  rw [if_pos rfl]
  obtain ⟨base, a0, ⟨f1, f2, f3, f4⟩, hg, ho, hn, safe⟩ := h₁
  refine wpAny_setFlight_noneW (base := base) (l := [c.env]) f1 f3 f4.at fun h' k1 k2 k3 k4 => ?_
  have hup : s₁.heap.UpToSlots h' := fun b o e hnf => ⟨o.slots, k4 b o e hnf⟩
  have y₂ : At c O { s₁ with heap := h' } := safe _ k1 (hn.slots hup) hg ho
  have hx' : Stores { c with A := c.A.mark (some (.ref e)) } x := by
    cases hx with
    | loc a b d e => exact .loc a b d e
    | cell a b d e f => exact .cell a b d e f
  refine wpAny_execs_cons (x_assignV (c := { c with A := c.A.mark (some (.ref e)) }) hx' e_str (y₂.withA _) (fun v s₃ hv y₃ => wpAny_execs_nil ?_) hsw)
  exact k v s₃ hv (y₃.withA c.A)
end
end Mine

namespace Mine

/-- the pairs heard, in a list of their own -/
def Heard (O : Led) (ns : List Int) (rvs hvs : List Value) (j : Nat) : Prop :=
  hvs.length = j ∧ ∀ i, i < j → ∃ T a pv lv, hvs[i]? = some (.ref T) ∧ (T, TP [pv, lv]) ∈ O ∧ (startsOf ns)[i]? = some a ∧ rvs[a]? = some pv ∧ rvs[nxt ns i - 1]? = some lv
theorem Heard.mono {O O' : Led} {ns : List Int} {rvs hvs : List Value} {j : Nat} (h : Heard O ns rvs hvs j) (hs : ∀ p ∈ O, p ∈ O') : Heard O' ns rvs hvs j :=
  ⟨h.1, fun i hi => let ⟨T, a, pv, lv, h1, h2, h3⟩ := h.2 i hi; ⟨T, a, pv, lv, h1, hs _ h2, h3⟩⟩
theorem Heard.snoc {O : Led} {ns : List Int} {rvs hvs : List Value} {j a : Nat} {T : Addr} {pv lv : Value} (h : Heard O ns rvs hvs j) (hT : (T, TP [pv, lv]) ∈ O) (ha : (startsOf ns)[j]? = some a) (hp : rvs[a]? = some pv) (hl : rvs[nxt ns j - 1]? = some lv) : Heard O ns rvs (hvs ++ [.ref T]) (j + 1) := by
  refine ⟨by rw [List.length_append, h.1]; rfl, fun i hi => ?_⟩
  by_cases hij : i < j
  · obtain ⟨T', b, pv', lv', h1, h2⟩ := h.2 i hij
    exact ⟨T', b, pv', lv', by rw [List.getElem?_append_left (by rw [h.1]; exact hij)]; exact h1, h2⟩
  · have : i = j := by omega
    subst this
    exact ⟨T, a, pv, lv, by rw [List.getElem?_append_right (by rw [h.1]; exact Nat.le_refl _), h.1]; simp, hT, ha, hp, hl⟩

def metS : String → Str := fun c => if c = "AttributeError" then ("none" : Str) else ("text" : Str)
/-- what was met, and how many pairs were told -/
def MetOk (ts : List Th) (m : Nat) (v : Value) : Prop :=
  (stopOf ts = ts.length ∧ v = .none ∧ m = (startsOf (marks ts)).length) ∨ (stopOf ts < ts.length ∧ m + 1 = (startsOf (marks ts)).length ∧ ∃ cls, errOf (st ts (stopOf ts)) = some cls ∧ IsStr (metS cls) v)

/-- a law's walk that has told j pairs -/
def W6 (c : Cx) (A : Around) (pw : Value) (G Dr Dt : Addr) (g : Nat) (ts : List Th) (rvs : List Value) (j : Nat) (tvs : List Value) (Mu : Led) (gs : Array GenState) : Prop :=
  (j = 0 ∧ Mu = [(G, NsP (argMap (.ref Dr))), (Dr, LP rvs), (Dt, LP tvs)] ∧ gs[g]? = some (.fresh (.func (fnBody 1) (genC c pw G).env))) ∨
  (∃ a pv it f k lvs cd p fs, (startsOf (marks ts))[j]? = some a ∧ 0 < j ∧ Mu = [(G, NsP f), (it, IterP Dr (a + 1)), (Dr, LP rvs), (Dt, LP tvs)] ∧ rvs[a]? = some pv ∧ f "it" = some (.ref it) ∧ f "ip" = some pv ∧ gs[g]? = some (.suspended k lvs cd p fs false) ∧ Susp6 (genC c pw G) A.in1 c.env c.env.locals it Dr (2000 - j) k cd fs) ∨
  (∃ it f k lvs cd p fs, j = (startsOf (marks ts)).length ∧ 0 < j ∧ stopOf ts = ts.length ∧ Mu = [(G, NsP f), (it, EndP), (Dr, LP rvs), (Dt, LP tvs)] ∧ gs[g]? = some (.suspended k lvs cd p fs false) ∧ LastK (genC c pw G) A.in1 k cd fs)

theorem getD_th {R : Th → Value → Prop} {ts : List Th} {us : List Value} (hp : Paired R ts us) {j : Nat} {u : Value} (h : us[j]? = some u) : R (ts.getD j .bare) u := by
  have hj : j < us.length := (List.getElem?_eq_some_iff.mp h).1
  have hj' : j < ts.length := by rw [hp.length]; exact hj
  exact paired_get hp j _ u (by simp [hj']) h

section
variable {b : Cx} {pm pw : Value} {L : Addr} {s : Shared} {E : Value → Shared → Prop}

/-- what a walk comes to that holds the j-th start, in the law's terms -/
theorem asked6 {c : Cx} {A : Around} {G Dr Dt ga it : Addr} {g j a : Nat} {ts : List Th} {rvs tvs : List Value} {sg : Str → Option Value} {gs : Array GenState} {O : Led} {pv : Value} {Q : Option Value → Shared → Prop} (hn : 0 < ts.length) (hrl : ts.length = rvs.length) (hgs : g < gs.size) (ha : (startsOf (marks ts))[j]? = some a) (hpv : rvs[a]? = some pv)
    (tell : ∀ T lastv Mu' z s', rvs[nxt (marks ts) j - 1]? = some lastv → z.bare = true → (∀ tvs', W6 c A pw G Dr Dt g ts rvs (j + 1) tvs' (Mu' ++ [(Dt, LP tvs')]) (gs.setIfInBounds g z)) → At (c.up (Mu' ++ [(Dt, LP tvs)]) sg (gs.setIfInBounds g z)) ((T, TP [pv, lastv]) :: O) s' → Q (some (.ref T)) s')
    (fell : ∀ cls, errOf (st ts (stopOf ts)) = some cls → stopOf ts < ts.length → j + 1 = (startsOf (marks ts)).length → ∀ x s', Fell (c.up [(Dr, LP rvs), (Dt, LP tvs)] sg (gs.setIfInBounds g .finished)) O c.env cls x s' → E x s') :
    Asked c A pw G Dr ga g (2000 - (j + 1)) c.env sg gs [(Dt, LP tvs)] O rvs it (a + 1) (scan (ts.getD a .bare) (ts.drop (a + 1))) pv Q E := by
  obtain ⟨hsc, hlt, hle⟩ := ask_spec hn ha
  have hsp := stop_pos hn
  have dv : pv :: rvs.drop (a + 1) = rvs.drop a := by
    have h3 : a < rvs.length := (List.getElem?_eq_some_iff.mp hpv).1
    rw [List.drop_eq_getElem_cons h3]
    congr 1
    rw [List.getElem?_eq_getElem h3] at hpv
    exact (Option.some.inj hpv).symm
  have idx : ∀ lastv, (pv :: rvs.drop (a + 1))[nxt (marks ts) j - a - 1]? = some lastv → rvs[nxt (marks ts) j - 1]? = some lastv := fun lastv h => by
    rw [dv, List.getElem?_drop, show a + (nxt (marks ts) j - a - 1) = nxt (marks ts) j - 1 from by omega] at h
    exact h
  have below : nxt (marks ts) j ≠ ts.length → errOf (st ts (nxt (marks ts) j)) = none → nxt (marks ts) j < stopOf ts := fun h1 h2 => by
    by_cases h : nxt (marks ts) j < stopOf ts
    · exact h
    · have he : nxt (marks ts) j = stopOf ts := by omega
      have hf := stop_fault (ts := ts) (by omega)
      unfold faultB at hf
      rw [← he, h2] at hf; cases hf
  rw [hsc]
  refine ⟨fun hr T k lvs cd p fs f' lastv nv s' h1 h2 h3 h4 h5 y => ?_, fun hr T k lvs cd p fs f' lastv s' h1 h2 y => ?_, fun cls hr x s' hf => ?_⟩
  · dsimp only at hr h1 h2 y
    have hne : nxt (marks ts) j ≠ ts.length := fun h => by rw [if_pos h] at hr; cases hr
    rw [if_neg hne] at hr
    have hlt' := below hne (by rw [hr]; rfl)
    obtain ⟨_, hs1⟩ := nxt_not_go hn ha hlt'
    have hnv : rvs[nxt (marks ts) j]? = some nv := by
      rw [List.getElem?_drop, show a + 1 + (nxt (marks ts) j - a - 1) = nxt (marks ts) j from by omega] at h2
      exact h2
    rw [show a + 1 + (nxt (marks ts) j - a - 1) + 1 = nxt (marks ts) j + 1 from by omega] at y
    refine tell T lastv [(G, NsP f'), (it, IterP Dr (nxt (marks ts) j + 1)), (Dr, LP rvs)] (.suspended k lvs cd p fs false) s' (idx lastv h1) rfl (fun tvs' => .inr (.inl ⟨nxt (marks ts) j, nv, it, f', k, lvs, cd, p, fs, hs1, by omega, rfl, hnv, h3, h4, by simp [hgs], h5⟩)) y
  · dsimp only at hr h1 y
    have he : nxt (marks ts) j = ts.length := by
      by_cases h : nxt (marks ts) j = ts.length
      · exact h
      · exfalso
        rw [if_neg h] at hr
        have hlt' := below h (by rw [hr]; rfl)
        have := (nxt_not_go hn ha hlt').1
        rw [this] at hr; cases hr
    have hst : stopOf ts = ts.length := by omega
    have hj1 := nxt_last ha (by omega)
    exact tell T lastv [(G, NsP f'), (it, EndP), (Dr, LP rvs)] (.suspended k lvs cd p fs false) s' (idx lastv h1) rfl (fun tvs' => .inr (.inr ⟨it, f', k, lvs, cd, p, fs, hj1, by omega, hst, rfl, by simp [hgs], h2⟩)) y
  · dsimp only at hr
    have hne : nxt (marks ts) j ≠ ts.length := fun h => by rw [if_pos h] at hr; cases hr
    rw [if_neg hne] at hr
    have he : nxt (marks ts) j = stopOf ts := by
      by_cases h : nxt (marks ts) j < stopOf ts
      · rw [(nxt_not_go hn ha h).1] at hr; cases hr
      · omega
    rw [he] at hr
    exact fell cls hr (by omega) (nxt_last ha he) x s' hf

/-- the walk is asked once more -/
theorem ask_w6 {c : Cx} {A : Around} {G Dr Dt ga : Addr} {g j : Nat} {ts : List Th} {rvs tvs : List Value} {Mu : Led} {sg : Str → Option Value} {gs : Array GenState} {O : Led} {Q : Option Value → Shared → Prop} (hwc : c.wc = true) (hh : A.handled = none) (hroom : A.depth + 50 < recursionLimit) (hAf : A.frames = some [c.env]) (hf : c.env.frame = some c.env.locals) (hk : c.env.scope.kind ≠ .module)
    (hgo : GenOk c pw G) (hn : 0 < ts.length) (hsl : (startsOf (marks ts)).length ≤ 40) (hrow : Paired (ThR O) ts rvs) (hga : (ga, GenP g) ∈ O) (W : W6 c A pw G Dr Dt g ts rvs j tvs Mu gs) (y : At (c.up Mu sg gs) O s)
    (ask : ∀ it a pv, g < gs.size → (startsOf (marks ts))[j]? = some a → rvs[a]? = some pv → Asked c A pw G Dr ga g (2000 - (j + 1)) c.env sg gs [(Dt, LP tvs)] O rvs it (a + 1) (scan (ts.getD a .bare) (ts.drop (a + 1))) pv Q E)
    (last : ∀ it f s', g < gs.size → j = (startsOf (marks ts)).length → stopOf ts = ts.length → At (c.up [(G, NsP f), (it, EndP), (Dr, LP rvs), (Dt, LP tvs)] sg (gs.setIfInBounds g .finished)) O s' → Q none s') :
    wpAny (model c.prog c.w) A (pyNext (.ref ga)) Q E s := by
  have hs0 : (startsOf (marks ts))[0]? = some 0 := starts_first (by rw [marks_len]; exact (stop_pos hn).1)
  rcases W with ⟨rfl, rfl, hgs⟩ | ⟨a, pv, it, f, k, lvs, cd, p, fs, ha, hj, rfl, hpv, hit, hip, hgs, hS⟩ | ⟨it, f, k, lvs, cd, p, fs, hj, hj0, hst, rfl, hgs, hL⟩
  · have hgl : g < gs.size := (Array.getElem?_eq_some_iff.mp hgs).1
    obtain ⟨pv, hpv⟩ : ∃ pv, rvs[0]? = some pv := ⟨rvs[0]'(by rw [← hrow.length]; exact hn), by simp [show 0 < rvs.length from by rw [← hrow.length]; exact hn]⟩
    exact next_fresh6 (c := c) (pm := pw) (X := [(Dt, LP tvs)]) (2000 - 1) (th := ts.getD 0 .bare) y hwc hh (by omega) hAf hf hk hga hgs hgo upd_same hpv (getD_th hrow hpv) hrow fun it => ask it 0 pv hgl hs0 hpv
  · have hgl : g < gs.size := (Array.getElem?_eq_some_iff.mp hgs).1
    have hj40 := (List.getElem?_eq_some_iff.mp ha).1
    have hS' : Susp6 (genC c pw G) A.in1 c.env c.env.locals it Dr (2000 - (j + 1) + 1) k cd fs := by rw [show 2000 - (j + 1) + 1 = 2000 - j from by omega]; exact hS
    exact next_mid6 (c := c) (pm := pw) (X := [(Dt, LP tvs)]) (th := ts.getD a .bare) y hwc hh (by omega) hga hgs hS' hit hip (getD_th hrow hpv) hrow (ask it a pv hgl ha hpv)
  · have hgl : g < gs.size := (Array.getElem?_eq_some_iff.mp hgs).1
    exact w_last (c := c.up [(G, NsP f), (it, EndP), (Dr, LP rvs), (Dt, LP tvs)] sg gs) (pm := pw) (G := G) y hh (by omega) hga hgs hL fun s' y' => last it f s' hgl hj hst y'

set_option maxHeartbeats 8000000 in
theorem try6 (o : ∀ Mu sg gs, Own ((LC b pm L).up Mu sg gs)) (hdeep : b.A.depth + 50 < recursionLimit) (hAf : b.A.frames = some [lawEnv pm L]) (hAe : b.mg "AttributeError" = none ∧ b.mb "AttributeError" = some (.type "AttributeError")) (hTe : b.mg "TypeError" = none ∧ b.mb "TypeError" = some (.type "TypeError"))
    {Q : Flow → Shared → Prop} {sg : Str → Option Value} {gs : Array GenState} {G Dr Dt ga : Addr} {g : Nat} {ts : List Th} {ms : List Int} {rvs kvs nvs : List Value} {O : Led} (hn : 0 < ts.length) (hn40 : ts.length ≤ 40) (hrow : Row6 O ts ms rvs kvs nvs) (hga : (ga, GenP g) ∈ O) (hgs : gs[g]? = some (.fresh (.func (fnBody 1) (genC (LC b pm L) pw G).env))) (hbr : AllBare gs)
    (hsw : sg "walk" = some (.ref ga)) (hst : sg "told" = some (.ref Dt)) (hsm : sg "met" = some .none) (y : At ((LC b pm L).up [(G, NsP (argMap (.ref Dr))), (Dr, LP rvs), (Dt, LP [])] sg gs) O s)
    (k : ∀ tvs m O' sg' gs' s' metv, Heard O' (marks ts) rvs tvs m → MetOk ts m metv → (Dr, LP rvs) ∈ O' → (Dt, LP tvs) ∈ O' → (∀ q ∈ O, q ∈ O') → gs'[g]? = some .finished → AllBare gs' → (∀ z : Str, z ≠ "pair" → z ≠ "met" → sg' z = sg z) → sg' "met" = some metv → At ((LC b pm L).up [] sg' gs') O' s' →
      wpAny (model b.prog b.w) b.A (execs ((fnBody 5).drop 9) (lawEnv pm L)) Q E s') :
    wpAny (model b.prog b.w) b.A (execs ((fnBody 5).drop 8) (lawEnv pm L)) Q E s := by
  have hh : b.A.handled = none := (o [] sg #[]).std.hh
  have hrl : ts.length = rvs.length := hrow.row.length
  have hsl : (startsOf (marks ts)).length ≤ ts.length := by
    have h1 : (startsOf (marks ts)).length ≤ (marks ts).length := by unfold startsOf; exact Nat.le_trans (List.length_filter_le _ _) (by simp)
    rw [marks_len] at h1
    have := (stop_pos hn).2
    omega
  have hs0 : (startsOf (marks ts))[0]? = some 0 := starts_first (by rw [marks_len]; exact (stop_pos hn).1)
  have hgo : GenOk (LC b pm L) pw G := genOk_of (o b.Mu b.sg b.gs)
  refine wpAny_execs_cons (wpAny_Try_except ?_)
  refine wpAny_execs_cons ?_
  -- the state behind
  have fin : ∀ tvs m Mu O' sg' gs' s' metv, Mu = [(Dr, LP rvs), (Dt, LP tvs)] → Heard O' (marks ts) rvs tvs m → MetOk ts m metv → (∀ q ∈ O, q ∈ O') → gs'[g]? = some .finished → AllBare gs' → (∀ z : Str, z ≠ "pair" → z ≠ "met" → sg' z = sg z) → sg' "met" = some metv → At ((LC b pm L).up Mu sg' gs') O' s' →
      wpAny (model b.prog b.w) b.A (execs ((fnBody 5).drop 9) (lawEnv pm L)) Q E s' := by
    intro tvs m Mu O' sg' gs' s' metv hMu hH hM hO' hg' hb' hz hm y'
    subst hMu
    have y₁ := At.toO (c := (LC b pm L).up [] sg' gs') y' rfl
    have y₂ := At.toO (c := (LC b pm L).up [] sg' gs') y₁ rfl
    exact k tvs m _ sg' gs' s' metv (hH.mono fun q hq => .tail _ (.tail _ hq)) hM (.tail _ (.head _)) (.head _) (fun q hq => .tail _ (.tail _ (hO' q hq))) hg' hb' hz hm y₂
  refine wpAny_For ((e_local (c := (LC b pm L).up [(G, NsP (argMap (.ref Dr))), (Dr, LP rvs), (Dt, LP [])] sg gs) hsw).use y fun v s₁ e₁ k₁ y₁ => ?_) (by intro _; rfl)
  subst e₁
  refine wpAny_pyIter_gen (y₁.own _ hga).isGen ?_
  refine codeAny_forLoop (fun n s' => ∃ j tvs Mu sg' gs' O', n = (startsOf (marks ts)).length + 1 - j ∧ j ≤ (startsOf (marks ts)).length ∧ W6 (LC b pm L) b.A pw G Dr Dt g ts rvs j tvs Mu gs' ∧ Heard O' (marks ts) rvs tvs j ∧ (∀ q ∈ O, q ∈ O') ∧ AllBare gs' ∧ (∀ z : Str, z ≠ "pair" → sg' z = sg z) ∧ At ((LC b pm L).up Mu sg' gs') O' s') ?_ ((startsOf (marks ts)).length + 1)
    ⟨0, [], _, sg, gs, O, rfl, Nat.zero_le _, .inl ⟨rfl, rfl, hgs⟩, ⟨rfl, fun i hi => absurd hi (by omega)⟩, fun q hq => hq, hbr, fun z _ => rfl, y₁⟩
  rintro n s₂ ⟨j, tvs, Mu, sg', gs', O', rfl, hj, hW, hH, hO', hbr', hz, y₂⟩
  have hga' : (ga, GenP g) ∈ O' := hO' _ hga
  have hrowO : Paired (ThR O') ts rvs := hrow.row.mono fun a u h => h.mono hO'
  have nto : sg' "told" = some (.ref Dt) := (hz _ (by decide)).trans hst
  have nme : sg' "met" = some .none := (hz _ (by decide)).trans hsm
  -- an exception
  have fell : ∀ gs'' cls x s', gs''[g]? = some .finished → AllBare gs'' → errOf (st ts (stopOf ts)) = some cls → stopOf ts < ts.length → j + 1 = (startsOf (marks ts)).length → Fell ((LC b pm L).up [(Dr, LP rvs), (Dt, LP tvs)] sg' gs'') O' (lawEnv pm L) cls x s' →
      notedBy (model b.prog b.w) b.A (lawEnv pm L) (fun x s₁ => cameBackBy (model b.prog b.w) b.A (lawEnv pm L) (fun e s₁ => wpAny (model b.prog b.w) b.A (noteFrame e (lawEnv pm L)) (fun _ s₂ => wpAny (model b.prog b.w) b.A (setFlight e none) (fun _ s₃ => wpAny (model b.prog b.w) b.A (handleBy e (lawEnv pm L) (match ((fnBody 5)[8]? : Option Stmt) with | some (.Try _ hs _ _ _) => hs | _ => [])) (fun f s' => match f with | .next => wpAny (model b.prog b.w) b.A (execs ((fnBody 5).drop 9) (lawEnv pm L)) Q E s' | f => Q f s') E s₃) E s₂) E s₁) x s₁) x s' := by
    intro gs'' cls x s' hg'' hb'' hcls hlt hj1 hf
    refine caught (c := (LC b pm L).up [(Dr, LP rvs), (Dt, LP tvs)] sg' gs'') hAf rfl hf fun e s₃ hl => ?_
    have hend : ∀ y' v s₄, metS cls = y' → IsStr y' v → At (((LC b pm L).up [(Dr, LP rvs), (Dt, LP tvs)] sg' gs'').set "met" v) O' s₄ → wpAny (model b.prog b.w) b.A (execs ((fnBody 5).drop 9) (lawEnv pm L)) Q E s₄ := fun y' v s₄ he hv y₄ =>
      fin tvs j _ O' (upd sg' "met" v) gs'' s₄ v rfl hH (.inr ⟨hlt, hj1, cls, hcls, he ▸ hv⟩) hO' hg'' hb'' (fun z h1 h2 => (upd_ne h2).trans (hz z h1)) upd_same y₄
    have hcc : cls = "AttributeError" ∨ cls = "TypeError" := by
      cases hq : st ts (stopOf ts) with
      | attr => rw [hq] at hcls; cases hcls; exact .inl rfl
      | type => rw [hq] at hcls; cases hcls; exact .inr rfl
      | go => rw [hq] at hcls; cases hcls
      | told => rw [hq] at hcls; cases hcls
      | fin => rw [hq] at hcls; cases hcls
    rcases hcc with rfl | rfl
    · exact suite6 (c := (LC b pm L).up [(Dr, LP rvs), (Dt, LP tvs)] sg' gs'') (.loc rfl rfl rfl fun h => nomatch h) hAe ⟨rfl, rfl⟩ exc_attr meta_a exc_aa hl fun v s₄ hv y₄ => hend _ v s₄ rfl hv y₄
    · refine wpAny_handleBy_builtin (X := "TypeError") (b := false) exc_attr meta_a exc_ta ?_
      refine (e_bi (c := { (LC b pm L).up [(Dr, LP rvs), (Dt, LP tvs)] sg' gs'' with A := b.A.mark (some (.ref e)) }) (O := O') hAe.1 hAe.2).use (hl.at.withA _) fun v s₄ hv k₄ _ => ⟨hv, (hl.keeps k₄).typeIs, ?_⟩
      simp only [Bool.false_eq_true, if_false]
      exact suite6 (c := (LC b pm L).up [(Dr, LP rvs), (Dt, LP tvs)] sg' gs'') (.loc rfl rfl rfl fun h => nomatch h) hTe ⟨rfl, rfl⟩ exc_type meta_t exc_tt (hl.keeps k₄) fun v s₅ hv y₅ => hend _ v s₅ rfl hv y₅
  have hj40 : (startsOf (marks ts)).length ≤ 40 := by omega
  refine ask_w6 (c := LC b pm L) (pw := pw) rfl hh hdeep hAf rfl (fun h => nomatch (show ScopeKind.function = ScopeKind.module from h)) hgo hn hj40 hrowO hga' hW y₂ (fun it a pv hgl ha hpv => asked6 hn hrl hgl ha hpv ?tell ?fell) ?last
  case tell =>
    intro T lastv Mu' z s₃ hlast hzb hW' y₃
    have hjl := (List.getElem?_eq_some_iff.mp ha).1
    refine wpAny_assign_Name (w_store (c := (LC b pm L).up (Mu' ++ [(Dt, LP tvs)]) sg' (gs'.setIfInBounds g z)) (.loc rfl rfl rfl fun h => nomatch h) y₃ fun s₄ _ y₄ => ?_)
    have htl : tvs.length ≤ 40 := by rw [hH.1]; omega
    refine wpAny_execs_cons (x_append_at (c := (LC b pm L).up (Mu' ++ [(Dt, LP tvs)]) (upd sg' "pair" (.ref T)) (gs'.setIfInBounds g z)) (X := Mu') (Y := []) rfl rfl y₄ (e_local nto) (TV.tr (e_local (v := .ref T) rfl)) (by omega) ?_)
    rintro v N s₅ ⟨rfl, rfl⟩ y₅
    refine wpAny_execs_nil ⟨(startsOf (marks ts)).length + 1 - (j + 1), by omega, j + 1, tvs ++ [.ref T], Mu' ++ [(Dt, LP (tvs ++ [.ref T]))], upd sg' "pair" (.ref T), gs'.setIfInBounds g z, (T, TP [pv, lastv]) :: O', rfl, by omega, hW' _, ?_, fun q hq => .tail _ (hO' q hq), AllBare.set hbr' hzb, fun z' hz' => (upd_ne hz').trans (hz z' hz'), y₅⟩
    exact (hH.mono fun q hq => .tail _ hq).snoc (.head _) ha hpv hlast
  case fell =>
    intro cls hcls hlt hj1 x s₃ hf
    exact fell (gs'.setIfInBounds g .finished) cls x s₃ (by simp [hgl]) (AllBare.set hbr' rfl) hcls hlt hj1 hf
  case last =>
    intro it f s₃ hgl hjl hstp y₃
    refine wpAny_execs_nil (wpAny_execs_nil (wpAny_execs_nil ?_))
    have y₄ := At.mu_sub (c := (LC b pm L).up [] sg' (gs'.setIfInBounds g .finished)) (Mu' := [(Dr, LP rvs), (Dt, LP tvs)]) y₃ (List.Sublist.cons _ (List.Sublist.cons _ (List.Sublist.refl _)))
    exact fin tvs j _ O' sg' (gs'.setIfInBounds g .finished) s₃ .none rfl hH (.inl ⟨hstp, rfl, hjl⟩) hO' (by simp [hgl]) (AllBare.set hbr' rfl) (fun z h1 h2 => hz z h1) nme y₄
end
end Mine

namespace Mine

theorem e_itemInt {c : Cx} {O : Led} {value slice : Expr} {pos : Pos} {l : Addr} {xs : List Value} {k i : Int} {v : Value} (h1 : TV c O (eval value c.env) (· = .ref l)) (h2 : TV c O (eval slice c.env) (IsInt k)) (hl : InL c O (l, LP xs))
    (h0 : 0 ≤ k) (hk : k < 2 ^ 63) (hx : xs[k.toNat]? = some v) (hi : IsInt i v)
    (hs : ∀ a i, subscripted slice false a i = operate [a, i] (getItem a i) := by intro _ _; with_unfolding_all rfl) (ht : ∀ a r, letTemporaryGo value a r = pure () := by intro _ _; with_unfolding_all rfl) :
    TV c O (eval (.Subscript value slice pos) c.env) (IsInt i) := (e_item h1 h2 hl h0 hk hx hs ht).mono fun u hu => hu ▸ hi
theorem e_itemStr {c : Cx} {O : Led} {value slice : Expr} {pos : Pos} {l : Addr} {xs : List Value} {k : Int} {y : Str} {v : Value} (h1 : TV c O (eval value c.env) (· = .ref l)) (h2 : TV c O (eval slice c.env) (IsInt k)) (hl : InL c O (l, LP xs))
    (h0 : 0 ≤ k) (hk : k < 2 ^ 63) (hx : xs[k.toNat]? = some v) (hi : IsStr y v)
    (hs : ∀ a i, subscripted slice false a i = operate [a, i] (getItem a i) := by intro _ _; with_unfolding_all rfl) (ht : ∀ a r, letTemporaryGo value a r = pure () := by intro _ _; with_unfolding_all rfl) :
    TV c O (eval (.Subscript value slice pos) c.env) (IsStr y) := (e_item h1 h2 hl h0 hk hx hs ht).mono fun u hu => hu ▸ hi

/-- a text in a list of two texts -/
theorem q_in2 {c : Cx} {O : Led} {D : Addr} {v u1 u2 : Value} {x y1 y2 : Str} (hv : IsStr x v) (h1 : IsStr y1 u1) (h2 : IsStr y2 u2) (hD : InL c O (D, LP [u1, u2])) : TV c O (compareOp .In v (.ref D)) (· = .bool (y1 == x || y2 == x)) := fun s E z => by
  obtain ⟨t, rfl⟩ := hv
  obtain ⟨t1, rfl⟩ := h1
  obtain ⟨t2, rfl⟩ := h2
  refine SeqAt.in_listAt (fun u => match u with | .str y _ => y == x | _ => false) (z.has hD).isList (fun u hu => ?_) ⟨?_, Kp.refl s⟩
  · simp only [List.mem_toArray, List.mem_cons, List.not_mem_nil, or_false] at hu
    rcases hu with rfl | rfl
    · exact SeqAt.EqAt.str_str y1 t1 x t
    · exact SeqAt.EqAt.str_str y2 t2 x t
  · simp
/-- two lists of two texts -/
theorem q_eq2 {c : Cx} {O : Led} {D D' : Addr} {u1 u2 v1 v2 : Value} {y1 y2 z1 z2 : Str} (hu : c.A.units < cLine) (h1 : IsStr y1 u1) (h2 : IsStr y2 u2) (h3 : IsStr z1 v1) (h4 : IsStr z2 v2) (hD : InL c O (D, LP [u1, u2])) (hD' : InL c O (D', LP [v1, v2])) : TV c O (compareOp .Eq (.ref D) (.ref D')) (· = .bool (y1 == z1 && y2 == z2)) := fun s E x => by
  obtain ⟨t1, rfl⟩ := h1
  obtain ⟨t2, rfl⟩ := h2
  obtain ⟨t3, rfl⟩ := h3
  obtain ⟨t4, rfl⟩ := h4
  refine SeqAt.RcAt.lists (e := fun j => if j = 0 then y1 == z1 else y2 == z2) (x.has hD).isList (x.has hD').isList rfl hu (fun j hj hj' => ?_) _ _ _ _ ⟨?_, Kp.refl s⟩
  · have hj2 : j < 2 := by simpa using hj
    have : j = 0 ∨ j = 1 := by omega
    rcases this with rfl | rfl
    · exact SeqAt.EqAt.str_str y1 t1 z1 t3
    · exact SeqAt.EqAt.str_str y2 t2 z2 t4
  · show Value.bool ((List.range 2).all fun j => if j = 0 then y1 == z1 else y2 == z2) = _
    have e : List.range 2 = [0, 1] := rfl
    rw [e]; simp

theorem cut_two (xs : List Value) {k : Nat} {u1 u2 : Value} (hk : 1 ≤ k) (h1 : xs[k - 1]? = some u1) (h2 : xs[k]? = some u2) : cut xs (some ((k : Int) - 1)) (some ((k : Int) + 1)) = [u1, u2] := by
  rw [show (k : Int) - 1 = ((k - 1 : Nat) : Int) from by omega, show (k : Int) + 1 = ((k + 1 : Nat) : Int) from by omega, cut_run xs (k - 1) (k + 1) (by omega), show k + 1 - (k - 1) = 2 from by omega]
  obtain ⟨a1, rfl⟩ := List.getElem?_eq_some_iff.mp h1
  obtain ⟨a2, rfl⟩ := List.getElem?_eq_some_iff.mp h2
  rw [List.drop_eq_getElem_cons a1]
  have : k - 1 + 1 = k := by omega
  rw [List.take_succ_cons]
  congr 1
  rw [show xs.drop (k - 1 + 1) = xs.drop k from by rw [this]]
  have e : xs.drop k = xs[k] :: xs.drop (k + 1) := List.drop_eq_getElem_cons a2
  rw [e]; rfl

theorem kinds_ne : (("number" : Str) == ("none" : Str)) = false ∧ (("text" : Str) == ("none" : Str)) = false ∧ (("none" : Str) == ("text" : Str)) = false ∧ (("number" : Str) == ("text" : Str)) = false ∧ (("none" : Str) == ("number" : Str)) = false ∧ (("text" : Str) == ("number" : Str)) = false := by decide +kernel

/-- the law's own test for a fault, for a step that goes on -/
theorem fault_test (ts : List Th) (k : Nat) : (kindS (ts.getD (k - 1) .bare) == ("none" : Str) || kindS (ts.getD k .bare) == ("none" : Str) || kindS (ts.getD (k - 1) .bare) == ("text" : Str)) = faultB ts k := by
  obtain ⟨a, b, c, d, e, f⟩ := kinds_ne
  unfold faultB st
  cases h1 : ts.getD (k - 1) .bare with
  | bare => cases h2 : ts.getD k .bare <;> simp [kindS, stepOf, errOf]
  | text => cases h2 : ts.getD k .bare <;> simp [kindS, stepOf, errOf]
  | num n =>
    cases h2 : ts.getD k .bare with
    | bare => simp [kindS, stepOf, errOf]
    | text => simp [kindS, stepOf, errOf, a, b, d]
    | num m =>
      simp only [kindS, a, d, Bool.or_self]
      simp only [stepOf]
      split <;> rfl
theorem none_test {ts : List Th} {k : Nat} {cls : String} (h : errOf (st ts k) = some cls) : (kindS (ts.getD (k - 1) .bare) == ("none" : Str) || kindS (ts.getD k .bare) == ("none" : Str)) = decide (cls = "AttributeError") := by
  obtain ⟨a, b, c, d, e, f⟩ := kinds_ne
  unfold st at h
  cases h1 : ts.getD (k - 1) .bare with
  | bare => rw [h1] at h; cases h2 : ts.getD k .bare <;> rw [h2] at h <;> simp [stepOf, errOf] at h <;> subst h <;> simp [kindS]
  | text =>
    rw [h1] at h
    cases h2 : ts.getD k .bare with
    | bare => rw [h2] at h; simp [stepOf, errOf] at h; subst h; simp [kindS]
    | text => rw [h2] at h; simp [stepOf, errOf] at h; subst h; simp [kindS, b]
    | num m => rw [h2] at h; simp [stepOf, errOf] at h; subst h; simp [kindS, a, b]
  | num n =>
    rw [h1] at h
    cases h2 : ts.getD k .bare with
    | bare => rw [h2] at h; simp [stepOf, errOf] at h; subst h; simp [kindS]
    | text => rw [h2] at h; simp [stepOf, errOf] at h
    | num m => rw [h2] at h; simp only [stepOf] at h; split at h <;> simp [errOf] at h
theorem rise_test {ts : List Th} {ms : List Int} (hlen : ms.length = ts.length) (ok : ∀ (k : Nat) (n : Int), ts[k]? = some (Th.num n) → ms[k]? = some n) {k : Nat} (h1 : 1 ≤ k) (h2 : k < ts.length) :
    ((kindS (ts.getD (k - 1) .bare) == ("number" : Str) && kindS (ts.getD k .bare) == ("number" : Str)) && (ms.getD k 0 - ms.getD (k - 1) 0 == 1)) = isGo (st ts k) := by
  obtain ⟨a, b, c, d, e, f⟩ := kinds_ne
  have get : ∀ j n, j < ts.length → ts.getD j .bare = .num n → ms.getD j 0 = n := fun j n hj h => by
    have hq : ts[j]? = some (Th.num n) := by
      rw [List.getD_eq_getElem?_getD, List.getElem?_eq_getElem hj] at h
      rw [List.getElem?_eq_getElem hj]
      simpa using h
    rw [List.getD_eq_getElem?_getD, ok j n hq]; rfl
  unfold st
  cases h3 : ts.getD (k - 1) .bare with
  | bare => cases h4 : ts.getD k .bare <;> simp [kindS, stepOf, isGo, e, f]
  | text => cases h4 : ts.getD k .bare <;> simp [kindS, stepOf, isGo, e, f]
  | num n =>
    cases h4 : ts.getD k .bare with
    | bare => simp [kindS, stepOf, isGo, e]
    | text => simp [kindS, stepOf, isGo, f]
    | num m =>
      rw [get k m h2 h4, get (k - 1) n (by omega) h3]
      simp only [kindS, beq_self_eq_true, Bool.true_and, stepOf]
      by_cases hm : m = n + 1
      · rw [if_pos hm, hm]; simp [isGo]; omega
      · rw [if_neg hm]; simp [isGo]; omega

section
variable {b : Cx} {pm pw : Value} {L : Addr} {s : Shared} {E : Value → Shared → Prop}

set_option maxHeartbeats 4000000 in
/-- the walk, an empty list, nothing met yet -/
theorem mid6 (o : ∀ Mu sg gs, Own ((LC b pm L).up Mu sg gs)) (hfn : b.K.lookup 21 = some ⟨.type "function", none, .func (fdOf "_find_address_range" 1 20 pw), #[]⟩) {Q : Flow → Shared → Prop} {sg : Str → Option Value} {Dr : Addr} {rvs : List Value} {O : Led} (hsr : sg "row" = some (.ref Dr)) (y : At ((LC b pm L).up [(Dr, LP rvs)] sg #[]) O s)
    (k : ∀ G ga Dt O' sg' gs' s', (∀ q ∈ O, q ∈ O') → (ga, GenP 0) ∈ O' → gs'[0]? = some (.fresh (.func (fnBody 1) (genC (LC b pm L) pw G).env)) → AllBare gs' → sg' "walk" = some (.ref ga) → sg' "told" = some (.ref Dt) → sg' "met" = some .none → (∀ z : Str, z ≠ "walk" → z ≠ "told" → z ≠ "met" → sg' z = sg z) →
      At ((LC b pm L).up [(G, NsP (argMap (.ref Dr))), (Dr, LP rvs), (Dt, LP [])] sg' gs') O' s' → wpAny (model b.prog b.w) b.A (execs ((fnBody 5).drop 8) (lawEnv pm L)) Q E s') :
    wpAny (model b.prog b.w) b.A (execs ((fnBody 5).drop 5) (lawEnv pm L)) Q E s := by
  refine wpAny_execs_cons (x_assign_raw (c := (LC b pm L).up [(Dr, LP rvs)] sg #[]) (e_far (c := (LC b pm L).up [(Dr, LP rvs)] sg #[]) (o _ _ _) hfn y (e_local hsr) fun G ga s₁ y₁ => ⟨_, _, y₁, ⟨rfl, rfl, rfl, rfl⟩, .loc rfl rfl rfl (fun h => nomatch h), fun s₂ y₂ => ?_⟩))
  refine wpAny_execs_cons (x_assign_nil (c := (LC b pm L).up [(G, NsP (argMap (.ref Dr))), (Dr, LP rvs)] (upd sg "walk" (.ref ga)) (#[].push (.fresh (.func (fnBody 1) (genC (LC b pm L) pw G).env)))) (.loc rfl rfl rfl fun h => nomatch h) y₂ fun Dt s₃ y₃ => ?_)
  have y₄ := At.mu_perm (c := (LC b pm L).up [] (upd (upd sg "walk" (.ref ga)) "told" (.ref Dt)) (#[].push (.fresh (.func (fnBody 1) (genC (LC b pm L) pw G).env)))) (Mu' := [(G, NsP (argMap (.ref Dr))), (Dr, LP rvs), (Dt, LP [])]) y₃ (List.perm_append_comm (l₁ := [(Dt, LP [])]) (l₂ := [(G, NsP (argMap (.ref Dr))), (Dr, LP rvs)]))
  refine wpAny_execs_cons (x_assignV (c := (LC b pm L).up [(G, NsP (argMap (.ref Dr))), (Dr, LP rvs), (Dt, LP [])] (upd (upd sg "walk" (.ref ga)) "told" (.ref Dt)) (#[].push (.fresh (.func (fnBody 1) (genC (LC b pm L) pw G).env)))) (.loc rfl rfl rfl fun h => nomatch h) e_none y₄ fun v s₅ hv y₅ => ?_)
  subst hv
  refine k G ga Dt _ (upd (upd (upd sg "walk" (.ref ga)) "told" (.ref Dt)) "met" .none) (#[].push (.fresh (.func (fnBody 1) (genC (LC b pm L) pw G).env))) s₅ (fun q hq => .tail _ hq) (.head _) rfl (AllBare.push (fun z hz => by simp at hz) rfl) rfl rfl rfl (fun z h1 h2 h3 => (upd_ne h3).trans ((upd_ne h2).trans (upd_ne h1))) y₅
end
end Mine

namespace Mine

def DueOk (ts : List Th) (v : Value) : Prop :=
  (stopOf ts = ts.length ∧ v = .none) ∨ (stopOf ts < ts.length ∧ ∃ cls, errOf (st ts (stopOf ts)) = some cls ∧ IsStr (metS cls) v)

theorem faults_irange (ts : List Th) : ((irange 1 (ts.length - 1)).filter fun a => faultB ts a.toNat) = faultsOf ts := by
  unfold irange faultsOf
  rw [List.filter_map]
  have e : ((fun a : Int => faultB ts a.toNat) ∘ fun (i : Nat) => (1 : Int) + (i : Int)) = fun i => faultB ts (i + 1) := by
    funext i
    show faultB ts ((1 : Int) + (i : Int)).toNat = _
    rw [show ((1 : Int) + (i : Int)).toNat = i + 1 from by omega]
  rw [e]
  refine List.map_congr_left fun i _ => ?_
  omega

theorem two_kinds {ts : List Th} {kvs : List Value} (hk : Paired (fun t v => IsStr (kindS t) v) ts kvs) {k : Nat} (h : k < ts.length) : ∃ u, kvs[k]? = some u ∧ IsStr (kindS (ts.getD k .bare)) u := by
  have hl : k < kvs.length := by rw [← hk.length]; exact h
  exact ⟨kvs[k], by simp [hl], getD_th hk (by simp [hl])⟩

section
variable {b : Cx} {pm pw : Value} {L : Addr} {s : Shared} {E : Value → Shared → Prop}

set_option maxHeartbeats 4000000 in
theorem faults6 (o : ∀ Mu sg gs, Own ((LC b pm L).up Mu sg gs)) (hu : b.A.units < cLine) {Q : Flow → Shared → Prop} {sg : Str → Option Value} {gs : Array GenState} {Dr Dk Dm : Addr} {ts : List Th} {ms : List Int} {rvs kvs nvs : List Value} {O : Led} (hn : 0 < ts.length) (hn40 : ts.length ≤ 40) (hrow : Row6 O ts ms rvs kvs nvs)
    (hDr : (Dr, LP rvs) ∈ O) (hDk : (Dk, LP kvs) ∈ O) (hsr : sg "row" = some (.ref Dr)) (hsk : sg "kinds" = some (.ref Dk)) (y : At ((LC b pm L).up [] sg gs) O s)
    (k : ∀ O' sg' s' sv dv, IsInt (stopOf ts : Int) sv → DueOk ts dv → (∀ q ∈ O, q ∈ O') → sg' "stop" = some sv → sg' "due" = some dv → (∀ z : Str, z ≠ "faults" → z ≠ "stop" → z ≠ "due" → sg' z = sg z) → At ((LC b pm L).up [] sg' gs) O' s' →
      wpAny (model b.prog b.w) b.A (execs ((fnBody 5).drop 13) (lawEnv pm L)) Q E s') :
    wpAny (model b.prog b.w) b.A (execs ((fnBody 5).drop 9) (lawEnv pm L)) Q E s := by
  obtain ⟨aK, haK⟩ := env_c1 (pm := pm) (L := L) "kinds" (by kernel_rfl)
  have hrl : ts.length = rvs.length := hrow.row.length
  have hkl : ts.length = kvs.length := hrow.kin.length
  -- faults
  refine wpAny_execs_cons (x_assign_comp (c := (LC b pm L).up [] sg gs) (items := irange 1 (ts.length - 1)) (R := IsInt) (.loc rfl rfl rfl fun h => nomatch h) ?src y rfl (fun a => faultB ts a.toNat) (fun a y N => IsInt a y) (fun a y N N' h hs => h) ?tests ?elem (by rw [irange_length]; omega) ?_)
  case src =>
    refine Src.eq ?_ (src_range2 (a := 1) (b := (rvs.length : Int)) (o _ _ _).std e_int (e_len (o _ _ _).std (e_local hsr) (.inl hDr) (by omega)) (by decide) (by decide) (by omega) (by omega))
    congr 1; omega
  case tests =>
    intro i a v C hi hR
    obtain ⟨hi', rfl⟩ := irange_get_some hi
    obtain ⟨kk, hkk⟩ : ∃ kk : Nat, (1 : Int) + (i : Int) = (kk : Int) := ⟨i + 1, by omega⟩
    have hkk1 : 1 ≤ kk := by omega
    have hkk2 : kk < ts.length := by omega
    rw [hkk] at hR ⊢
    obtain ⟨u1, hu1, hs1⟩ := two_kinds hrow.kin (k := kk - 1) (by omega)
    obtain ⟨u2, hu2, hs2⟩ := two_kinds hrow.kin (k := kk) hkk2
    rw [Int.toNat_natCast, ← fault_test]
    refine (ts_one (t_all (a_or (p := kindS (ts.getD (kk - 1) .bare) == ("none" : Str) || kindS (ts.getD kk .bare) == ("none" : Str)) (t_cmpL (TV.tr e_str) (fun _ _ _ => e_sliceL (l := Dk) (xs := kvs) (kl := some ((kk : Int) - 1)) (kh := some ((kk : Int) + 1)) (e_free (v := .ref Dk) hsk) (.inl (List.mem_append_right _ hDk)) (p_some (e_sub (e_tgtI hR) e_int)) (p_some (e_add (e_tgtI hR) e_int)) (by omega)) ?inn) fun _ => a_or (p := kindS (ts.getD (kk - 1) .bare) == ("text" : Str)) (t_cmp (e_itemStr (l := Dk) (xs := kvs) (k := (kk : Int) - 1) (v := u1) (e_free (v := .ref Dk) hsk) (e_sub (e_tgtI hR) e_int) (.inl hDk) (by omega) (by omega) (by rw [show ((kk : Int) - 1).toNat = kk - 1 from by omega]; exact hu1) hs1) e_str fun p q hp hq => q_streq hp hq) fun _ => a_nil))).mono fun v hv => ?_
    case inn =>
      rintro p N1 q N2 ⟨rfl, hp⟩ ⟨D, rfl, rfl⟩
      rw [cut_two kvs hkk1 hu1 hu2]
      exact q_in2 hp hs1 hs2 (.inl (.head _))
    have e0 : (BoolOp.Or == BoolOp.And) = false := rfl
    rw [hv, e0]; simp [Bool.or_assoc]
  case elem =>
    intro i a v C hi hR _
    exact (TV.tr (e_tgtI hR)).mono fun u N h => h.2
  intro Df fvs N s₁ _ hP₁ y₁
  rw [faults_irange] at hP₁
  have hO₁ : ∀ q ∈ O, q ∈ (Df, LP fvs) :: (N ++ O) := fun q hq => .tail _ (List.mem_append_right _ hq)
  have hDf : (Df, LP fvs) ∈ (Df, LP fvs) :: (N ++ O) := .head _
  generalize ((Df, LP fvs) :: (N ++ O)) = O₁ at y₁ hO₁ hDf
  -- stop, due
  refine wpAny_execs_cons (x_assignV (c := (LC b pm L).up [] (upd sg "faults" (.ref Df)) gs) (.loc rfl rfl rfl fun h => nomatch h) (e_len (l := Dr) (xs := rvs) (o _ _ _).std (e_local hsr) (.inl (hO₁ _ hDr)) (by omega)) y₁ fun sv s₂ hsv y₂ => ?_)
  refine wpAny_execs_cons (x_assignV (c := (LC b pm L).up [] (upd (upd sg "faults" (.ref Df)) "stop" sv) gs) (.loc rfl rfl rfl fun h => nomatch h) e_none y₂ fun dv s₃ hdv y₃ => ?_)
  subst hdv
  refine wpAny_execs_cons (x_if (c := (LC b pm L).up [] (upd (upd (upd sg "faults" (.ref Df)) "stop" sv) "due" .none) gs) y₃ (q := !fvs.isEmpty) (t_cmpL (TV.tr (e_local (v := .ref Df) rfl)) (fun _ _ _ => e_listV s_nil (by rintro vs rfl; simp)) ?cmp) ?yes ?no)
  case cmp =>
    rintro a N1 b' N2 ⟨rfl, rfl⟩ ⟨D, us, rfl, rfl, rfl⟩
    exact q_ne_empty hu (fun s' x => (x.own _ (List.mem_append_right _ hDf)).isList) (.inl (.head _))
  case no =>
    intro hq s₄ y₄
    have hnil : fvs = [] := by simpa using hq
    subst hnil
    rcases stop_cases ts with ⟨h1, h2⟩ | ⟨r, h1, _⟩
    · refine wpAny_execs_nil (k O₁ _ s₄ sv .none ?_ (.inl ⟨h2, rfl⟩) hO₁ rfl rfl (fun z h1 h2 h3 => (upd_ne h3).trans ((upd_ne h2).trans (upd_ne h1))) y₄)
      rw [h2, hrl]; exact hsv
    · rw [h1] at hP₁; cases hP₁
  case yes =>
    intro hq s₄ y₄
    rcases stop_cases ts with ⟨h1, h2⟩ | ⟨r, h1, h2, h3⟩
    · rw [h1] at hP₁; cases hP₁; simp at hq
    · rw [h1] at hP₁
      obtain ⟨f0, fr, rfl, hf0⟩ : ∃ f0 fr, fvs = f0 :: fr ∧ IsInt (stopOf ts : Int) f0 := by
        cases hP₁ with
        | cons h t => exact ⟨_, _, rfl, h⟩
      have hsb := stop_fault h2
      obtain ⟨cls, hcls⟩ : ∃ cls, errOf (st ts (stopOf ts)) = some cls := Option.isSome_iff_exists.mp hsb
      refine wpAny_execs_cons (x_assignV (c := (LC b pm L).up [] (upd (upd (upd sg "faults" (.ref Df)) "stop" sv) "due" .none) gs) (.loc rfl rfl rfl fun h => nomatch h) (e_itemInt (l := Df) (xs := f0 :: fr) (k := 0) (v := f0) (e_local (v := .ref Df) rfl) e_int (.inl hDf) (by omega) (by omega) rfl hf0) y₄ fun sv₂ s₅ hsv₂ y₅ => ?_)
      obtain ⟨u1, hu1, hs1⟩ := two_kinds hrow.kin (k := stopOf ts - 1) (by omega)
      obtain ⟨u2, hu2, hs2⟩ := two_kinds hrow.kin (k := stopOf ts) h2
      refine wpAny_execs_cons (x_assignV (c := (LC b pm L).up [] (upd (upd (upd (upd sg "faults" (.ref Df)) "stop" sv) "due" .none) "stop" sv₂) gs) (P := IsStr (metS cls)) (.loc rfl rfl rfl fun h => nomatch h) (e_ifV (q := decide (cls = "AttributeError")) (t_cmpL (TV.tr e_str) (fun _ _ _ => e_sliceL (l := Dk) (xs := kvs) (kl := some ((stopOf ts : Int) - 1)) (kh := some ((stopOf ts : Int) + 1)) (e_cell (v := .ref Dk) hsk haK) (.inl (List.mem_append_right _ (hO₁ _ hDk))) (p_some (e_sub (e_locI (v := sv₂) rfl hsv₂) e_int)) (p_some (e_add (e_locI (v := sv₂) rfl hsv₂) e_int)) (by omega)) ?inn2) (fun h => ?_) (fun h => ?_)) y₅ fun dv s₆ hdv y₆ => ?_)
      case inn2 =>
        rintro p N1 q N2 ⟨rfl, hp⟩ ⟨D, rfl, rfl⟩
        rw [cut_two kvs h3 hu1 hu2, ← none_test hcls]
        exact q_in2 hp hs1 hs2 (.inl (.head _))
      · have : cls = "AttributeError" := of_decide_eq_true h
        subst this
        exact e_str
      · have hne : cls ≠ "AttributeError" := of_decide_eq_false h
        unfold metS
        rw [if_neg hne]
        exact e_str
      refine wpAny_execs_nil (k O₁ _ s₆ sv₂ dv hsv₂ (.inr ⟨h2, cls, hcls, hdv⟩) hO₁ rfl rfl (fun z h1 h2 h3 => (upd_ne h3).trans ((upd_ne h2).trans ((upd_ne h3).trans ((upd_ne h2).trans (upd_ne h1))))) y₆)
end
end Mine

namespace Mine

def risesL (ts : List Th) : List Int := (irange 1 (stopOf ts - 1)).filter fun a => isGo (st ts a.toNat)
theorem rises_any (ts : List Th) (kk : Nat) : (risesL ts).any (· == (kk : Int)) = (decide (1 ≤ kk ∧ kk < stopOf ts) && isGo (st ts kk)) := by
  rw [Bool.eq_iff_iff, List.any_eq_true, Bool.and_eq_true, decide_eq_true_eq]
  unfold risesL irange
  constructor
  · rintro ⟨a, ha, he⟩
    obtain ⟨h1, h2⟩ := List.mem_filter.mp ha
    obtain ⟨i, hi, rfl⟩ := List.mem_map.mp h1
    have := List.mem_range.mp hi
    have he' : (1 : Int) + (i : Int) = (kk : Int) := by simpa using he
    have hk : kk = i + 1 := by omega
    subst hk
    rw [show ((1 : Int) + (i : Int)).toNat = i + 1 from by omega] at h2
    exact ⟨⟨by omega, by omega⟩, h2⟩
  · rintro ⟨⟨h1, h2⟩, h3⟩
    refine ⟨(kk : Int), List.mem_filter.mpr ⟨List.mem_map.mpr ⟨kk - 1, List.mem_range.mpr (by omega), by omega⟩, by rw [Int.toNat_natCast]; exact h3⟩, by simp⟩

theorem starts_irange (ts : List Th) : ((irange 0 (stopOf ts)).filter fun a => a.toNat == 0 || !isGo (st ts a.toNat)) = startsL ts := by
  unfold irange startsL
  rw [List.filter_map]
  have e : ((fun a : Int => a.toNat == 0 || !isGo (st ts a.toNat)) ∘ fun (i : Nat) => (0 : Int) + (i : Int)) = fun k => k == 0 || !isGo (st ts k) := by
    funext i
    show ((((0 : Int) + (i : Int)).toNat == 0) || _) = _
    rw [show ((0 : Int) + (i : Int)).toNat = i from by omega]
  rw [e]
  refine List.map_congr_left fun i _ => ?_
  omega
theorem ends_irange (ts : List Th) : ((irange 0 (stopOf ts)).filter fun a => a.toNat + 1 == stopOf ts || !isGo (st ts (a.toNat + 1))) = endsL ts := by
  unfold irange endsL
  rw [List.filter_map]
  have e : ((fun a : Int => a.toNat + 1 == stopOf ts || !isGo (st ts (a.toNat + 1))) ∘ fun (i : Nat) => (0 : Int) + (i : Int)) = fun k => k + 1 == stopOf ts || !isGo (st ts (k + 1)) := by
    funext i
    show ((((0 : Int) + (i : Int)).toNat + 1 == stopOf ts) || _) = _
    rw [show ((0 : Int) + (i : Int)).toNat = i from by omega]
  rw [e]
  refine List.map_congr_left fun i _ => ?_
  omega

section
variable {c : Cx} {O : Led} {s : Shared} {E : Value → Shared → Prop}

theorem q_isnot_firm {v : Value} (h : Firm v) : TV c O (compareOp .IsNot v v) (· = .bool false) := fun s E x => by
  rcases h with ⟨a, rfl⟩ | ⟨i, t, rfl, ht⟩
  · exact wpAny_isNot_ref_self ⟨rfl, Kp.refl s⟩
  · show wpAny _ _ (do return Value.bool (!(← isSame (.int i t) (.int i t))) : Sem Value) _ _ s
    have ht' : (t == 0) = false := by simpa using ht
    refine wpAny_bind ?_
    unfold isSame
    dsimp only
    by_cases hs : smallInt i = true
    · rw [if_pos (by simp [hs])]
      unfold isSame.cachedInt
      simp only [ht', Bool.or_self, Bool.false_eq_true, if_false]
      exact wpAny_bind (wpAny_rule (wpAny_pure (wpAny_pure ⟨rfl, Kp.refl s⟩)))
    · rw [if_neg (by simp [hs])]
      unfold isSame.created
      simp only [ht', Bool.or_self, Bool.false_eq_true, if_false, beq_self_eq_true, if_true]
      exact wpAny_pure (wpAny_pure ⟨rfl, Kp.refl s⟩)

/-- an 'or' of three that are false, the second of which changes the state -/
theorem t_or3_raw {e1 e2 e3 : Expr} {pos : Pos} {w : Sem Value} {Q : Bool → Shared → Prop} (y : At c O s) (h1 : TV c O (isTrue e1 c.env (eval e1 c.env)) (· = false))
    (h2 : ∀ s E (Q' : Bool → Shared → Prop), At c O s → (∀ s', At c O s' → Q' false s') → wpAny (model c.prog c.w) c.A (isTrue e2 c.env (eval e2 c.env)) Q' E s) (h3 : TV c O (isTrue e3 c.env (eval e3 c.env)) (· = false)) (k : ∀ s', At c O s' → Q false s') :
    wpAny (model c.prog c.w) c.A (isTrue (.BoolOp .Or [e1, e2, e3] pos) c.env w) Q E s := by
  have e : isTrue (.BoolOp .Or [e1, e2, e3] pos) c.env w = allTrue .Or [e1, e2, e3] c.env := by rfl
  rw [e, allTrue_cons]
  refine wpAny_bind (h1.use y fun b s₁ hb _ y₁ => ?_)
  subst hb
  show wpAny _ _ (allTrue .Or [e2, e3] c.env) Q E s₁
  rw [allTrue_cons]
  refine wpAny_bind (h2 s₁ E _ y₁ fun s₂ y₂ => ?_)
  show wpAny _ _ (allTrue .Or [e3] c.env) Q E s₂
  rw [allTrue_cons]
  refine wpAny_bind (h3.use y₂ fun b s₃ hb _ y₃ => ?_)
  subst hb
  exact wpAny_pure (k s₃ y₃)
end

section
variable {b : Cx} {pm pw : Value} {L : Addr} {s : Shared} {E : Value → Shared → Prop}

theorem t_list_done (o : ∀ Mu sg gs, Own ((LC b pm L).up Mu sg gs)) (hu : b.A.units < cLine) {sg : Str → Option Value} {gs : Array GenState} {O : Led} {ga : Addr} {g : Nat} {p p1 p2 p3 p4 : Pos} {w : Sem Value} {Q : Bool → Shared → Prop} (hga : (ga, GenP g) ∈ O) (hgs : gs[g]? = some .finished) (hsw : sg "walk" = some (.ref ga)) (y : At ((LC b pm L).up [] sg gs) O s)
    (k : ∀ s', At ((LC b pm L).up [] sg gs) O s' → Q false s') :
    wpAny (model b.prog b.w) b.A (isTrue (.Compare (.Call (.Name "list" p) [.Name "walk" p1] [] p2) [.NotEq] [.List [] p3] p4) (lawEnv pm L) w) Q E s := by
  have hh : b.A.handled = none := (o [] sg #[]).std.hh
  refine wpAny_isTrue_Compare1 (Call_Name1 ((e_bi (c := (LC b pm L).up [] sg gs) (o _ _ _).std.list.1 (o _ _ _).std.list.2).use y fun f s₁ e₁ k₁ y₁ => ?_) rfl) (by with_unfolding_all rfl)
  subst e₁
  refine PyProof.Rows.callWith_type (args := [(false, eval (.Name "walk" p1) (lawEnv pm L))]) rfl (evalArgs_plain (spliced_cons ((e_local (c := (LC b pm L).up [] sg gs) hsw).use y₁ fun v s₂ e₂ k₂ y₂ => ?_)))
  subst e₂
  refine spliced_nil (call_list_walk (c := LC b pm L) (A := b.A) (g := g) (Mu := []) (sg := sg) (gs := gs) rfl (fun j acc Mu gs' O' => j = 0 ∧ acc = [] ∧ Mu = [] ∧ gs' = gs ∧ O' = O) (fun acc Mu gs' O' => acc = [] ∧ Mu = [] ∧ gs' = gs ∧ O' = O) (fun j acc Mu gs' O' h => by rw [h.1, h.2.1]; simp) (j := 0) ⟨rfl, rfl, rfl, rfl, rfl⟩ y₂ hga ?turn ?fin)
  case turn =>
    rintro S j acc Mu gs' O' s₃ E' ⟨rfl, rfl, rfl, rfl, rfl⟩ y₃
    exact w_done (c := (LC b pm L).up ([] ++ [(S, LP [])]) sg gs') y₃ hh hga hgs fun s₄ y₄ => ⟨[], gs', O', ⟨rfl, rfl, rfl, rfl⟩, y₄⟩
  case fin =>
    rintro S acc Mu gs' O' s₃ ⟨rfl, rfl, rfl, rfl⟩ y₃
    refine (e_listV (c := (LC b pm L).up [] sg gs') (pos := p3) s_nil ?_).use y₃ ?_
    · rintro vs rfl; simp
    rintro v s₄ N ⟨D, us, rfl, rfl, rfl⟩ _ y₄
    refine (q_ne_nil (c := (LC b pm L).up [] sg gs') hu (.inl (List.mem_append_right _ (.head _))) (.inl (.head _))).use y₄ fun v s₅ hv _ y₅ => ?_
    subst hv
    exact wpAny_truthy_bool (k s₅ (y₅.sub fun q hq => List.mem_append_right _ (.tail _ hq)))

set_option maxHeartbeats 8000000 in
theorem end6 (o : ∀ Mu sg gs, Own ((LC b pm L).up Mu sg gs)) (hu : b.A.units < cLine) {Q : Flow → Shared → Prop} {sg : Str → Option Value} {gs : Array GenState} {Dr Dk Dm Dt ga : Addr} {g m : Nat} {ts : List Th} {ms : List Int} {rvs kvs nvs tvs : List Value} {O : Led} {sv dv metv : Value} (hn : 0 < ts.length) (hn40 : ts.length ≤ 40) (hrow : Row6 O ts ms rvs kvs nvs)
    (hDr : (Dr, LP rvs) ∈ O) (hDk : (Dk, LP kvs) ∈ O) (hDm : (Dm, LP nvs) ∈ O) (hDt : (Dt, LP tvs) ∈ O) (hga : (ga, GenP g) ∈ O) (hgs : gs[g]? = some .finished) (hH : Heard O (marks ts) rvs tvs m) (hM : MetOk ts m metv) (hsv : IsInt (stopOf ts : Int) sv) (hdv : DueOk ts dv)
    (hsr : sg "row" = some (.ref Dr)) (hsk : sg "kinds" = some (.ref Dk)) (hsn : sg "numbers" = some (.ref Dm)) (hst : sg "told" = some (.ref Dt)) (hsw : sg "walk" = some (.ref ga)) (hsm : sg "met" = some metv) (hss : sg "stop" = some sv) (hsd : sg "due" = some dv)
    (y : At ((LC b pm L).up [] sg gs) O s) (k : ∀ Mu O' sg' s', At ((LC b pm L).up Mu sg' gs) O' s' → Q (.ret (.bool true)) s') :
    wpAny (model b.prog b.w) b.A (execs ((fnBody 5).drop 13) (lawEnv pm L)) Q E s := by
  obtain ⟨aR, haR⟩ := env_c1 (pm := pm) (L := L) "rises" (by kernel_rfl)
  have hsp := stop_pos hn
  have hrl : ts.length = rvs.length := hrow.row.length
  have hkl : ts.length = kvs.length := hrow.kin.length
  have hnl : ms.length = nvs.length := hrow.num.length
  have hml := hrow.len
  have hsl : (startsOf (marks ts)).length ≤ 40 := by
    have h1 : (startsOf (marks ts)).length ≤ (marks ts).length := by unfold startsOf; exact Nat.le_trans (List.length_filter_le _ _) (by simp)
    rw [marks_len] at h1
    omega
  -- rises
  refine wpAny_execs_cons (x_assign (c := (LC b pm L).up [] sg gs) (.cell aR rfl rfl haR rfl) (e_comp (items := irange 1 (stopOf ts - 1)) (R := IsInt) ?src (fun a => isGo (st ts a.toNat)) (fun a y N => IsInt a y) (fun a y N N' h hs => h) ?tests (fun i a v C hi hR _ => (TV.tr (e_tgtI hR)).mono fun u N h => h.2) (by rw [irange_length]; omega)) y ?_)
  case src =>
    refine Src.eq ?_ (src_range2 (a := 1) (b := (stopOf ts : Int)) (o _ _ _).std e_int (e_locI hss hsv) (by decide) (by decide) (by omega) (by omega))
    congr 1; omega
  case tests =>
    intro i a v C hi hR
    obtain ⟨hi', rfl⟩ := irange_get_some hi
    obtain ⟨kk, hkk⟩ : ∃ kk : Nat, (1 : Int) + (i : Int) = (kk : Int) := ⟨i + 1, by omega⟩
    have hkk1 : 1 ≤ kk := by omega
    have hkk2 : kk < ts.length := by omega
    rw [hkk] at hR ⊢
    obtain ⟨u1, hu1, hs1⟩ := two_kinds hrow.kin (k := kk - 1) (by omega)
    obtain ⟨u2, hu2, hs2⟩ := two_kinds hrow.kin (k := kk) hkk2
    obtain ⟨n1, hn1⟩ : ∃ n1, nvs[kk - 1]? = some n1 := ⟨nvs[kk - 1]'(by omega), by simp [show kk - 1 < nvs.length from by omega]⟩
    obtain ⟨n2, hn2⟩ : ∃ n2, nvs[kk]? = some n2 := ⟨nvs[kk]'(by omega), by simp [show kk < nvs.length from by omega]⟩
    rw [Int.toNat_natCast, ← rise_test hrow.len hrow.ok hkk1 hkk2]
    refine (ts_one (t_all (a_and (p := kindS (ts.getD (kk - 1) .bare) == ("number" : Str) && kindS (ts.getD kk .bare) == ("number" : Str)) (t_cmpL (e_sliceL (l := Dk) (xs := kvs) (kl := some ((kk : Int) - 1)) (kh := some ((kk : Int) + 1)) (e_free (v := .ref Dk) hsk) (.inl hDk) (p_some (e_sub (e_tgtI hR) e_int)) (p_some (e_add (e_tgtI hR) e_int)) (by omega)) (fun _ _ _ => e_listV (s_cons e_str (s_cons e_str s_nil)) ?two) ?eqq) fun _ => a_and (t_cmp (e_sub (e_itemInt (l := Dm) (xs := nvs) (k := (kk : Int)) (v := n2) (i := ms.getD kk 0) (e_free (v := .ref Dm) hsn) (e_tgtI hR) (.inl hDm) (by omega) (by omega) (by rw [Int.toNat_natCast]; exact hn2) (getD_paired hrow.num hn2)) (e_itemInt (l := Dm) (xs := nvs) (k := (kk : Int) - 1) (v := n1) (i := ms.getD (kk - 1) 0) (e_free (v := .ref Dm) hsn) (e_sub (e_tgtI hR) e_int) (.inl hDm) (by omega) (by omega) (by rw [show ((kk : Int) - 1).toNat = kk - 1 from by omega]; exact hn1) (getD_paired hrow.num hn1))) e_int fun p q hp hq => q_eq hp hq) fun _ => a_nil))).mono fun v hv => ?_
    case two => rintro vs ⟨v, r, rfl, _, v', r', rfl, _, rfl⟩; simp
    case eqq =>
      rintro p N1 q N2 ⟨D, rfl, rfl⟩ ⟨D', us, rfl, rfl, v1, r1, rfl, hv1, v2, r2, rfl, hv2, rfl⟩
      have hc := cut_two kvs hkk1 hu1 hu2
      exact q_eq2 hu hs1 hs2 hv1 hv2 (.inl (.tail _ (by rw [hc]; exact .head _))) (.inl (.head _))
    have e0 : (BoolOp.And == BoolOp.And) = true := rfl
    rw [hv, e0]; simp
  rintro v N s₁ ⟨Di, ivs, N1, rfl, rfl, hPi⟩ y₁
  have hPi' : Paired IsInt (risesL ts) ivs := hPi
  have hO₁ : ∀ q ∈ O, q ∈ (Di, LP ivs) :: N1 ++ O := fun q hq => List.mem_append_right _ hq
  have hDi : (Di, LP ivs) ∈ (Di, LP ivs) :: N1 ++ O := .head _
  generalize ((Di, LP ivs) :: N1 ++ O) = O₁ at y₁ hO₁ hDi
  -- starts
  refine wpAny_execs_cons (x_assign_comp (c := (LC b pm L).up [] (upd sg "rises" (.ref Di)) gs) (items := irange 0 (stopOf ts)) (R := IsInt) (.loc rfl rfl rfl fun h => nomatch h) ?src2 y₁ rfl (fun a => a.toNat == 0 || !isGo (st ts a.toNat)) (fun a y N => IsInt a y) (fun a y N N' h hs => h) ?tests2 (fun i a v C hi hR _ => (TV.tr (e_tgtI hR)).mono fun u N h => h.2) (by rw [irange_length]; omega) ?_)
  case src2 => exact Src.eq (by simp) (src_range1 (n := (stopOf ts : Int)) (o _ _ _).std (e_locI hss hsv) (by omega) (by omega))
  case tests2 =>
    intro i a v C hi hR
    obtain ⟨hi', rfl⟩ := irange_get_some hi
    rw [Int.zero_add] at hR ⊢
    rw [Int.toNat_natCast]
    refine (ts_one (t_cmp (e_tgtI hR) (e_free (v := .ref Di) rfl) fun p q hp hq => by subst hq; exact q_notin hp (.inl hDi) hPi')).mono fun v hv => ?_
    rw [hv, rises_any]
    by_cases h0 : i = 0
    · subst h0; rfl
    · have e1 : decide (1 ≤ i ∧ i < stopOf ts) = true := decide_eq_true ⟨by omega, hi'⟩
      have e2 : (i == 0) = false := by simp [h0]
      rw [e1, e2]; simp
  intro Ds svs N₂ s₂ _ hPs y₂
  rw [starts_irange, startsL_eq] at hPs
  have hO₂ : ∀ q ∈ O₁, q ∈ (Ds, LP svs) :: (N₂ ++ O₁) := fun q hq => .tail _ (List.mem_append_right _ hq)
  have hDs : (Ds, LP svs) ∈ (Ds, LP svs) :: (N₂ ++ O₁) := .head _
  generalize ((Ds, LP svs) :: (N₂ ++ O₁)) = O₂ at y₂ hO₂ hDs
  -- ends
  refine wpAny_execs_cons (x_assign_comp (c := (LC b pm L).up [] (upd (upd sg "rises" (.ref Di)) "starts" (.ref Ds)) gs) (items := irange 0 (stopOf ts)) (R := IsInt) (.loc rfl rfl rfl fun h => nomatch h) ?src3 y₂ rfl (fun a => a.toNat + 1 == stopOf ts || !isGo (st ts (a.toNat + 1))) (fun a y N => IsInt a y) (fun a y N N' h hs => h) ?tests3 (fun i a v C hi hR _ => (TV.tr (e_tgtI hR)).mono fun u N h => h.2) (by rw [irange_length]; omega) ?_)
  case src3 => exact Src.eq (by simp) (src_range1 (n := (stopOf ts : Int)) (o _ _ _).std (e_locI hss hsv) (by omega) (by omega))
  case tests3 =>
    intro i a v C hi hR
    obtain ⟨hi', rfl⟩ := irange_get_some hi
    rw [Int.zero_add] at hR ⊢
    rw [Int.toNat_natCast]
    refine (ts_one (t_cmp (P1 := IsInt ((i + 1 : Nat) : Int)) (e_add (e_tgtI hR) e_int) (e_free (v := .ref Di) rfl) fun p q hp hq => by subst hq; exact q_notin hp (.inl (hO₂ _ hDi)) hPi')).mono fun v hv => ?_
    rw [hv, rises_any]
    by_cases h0 : i + 1 = stopOf ts
    · have e1 : decide (1 ≤ i + 1 ∧ i + 1 < stopOf ts) = false := decide_eq_false (by omega)
      have e2 : (i + 1 == stopOf ts) = true := by simp [h0]
      rw [e1, e2]; rfl
    · have e1 : decide (1 ≤ i + 1 ∧ i + 1 < stopOf ts) = true := decide_eq_true ⟨by omega, by omega⟩
      have e2 : (i + 1 == stopOf ts) = false := by simp [h0]
      rw [e1, e2]; simp
  intro De evs N₃ s₃ _ hPe y₃
  rw [ends_irange, endsL_eq hn] at hPe
  have hO₃ : ∀ q ∈ O₂, q ∈ (De, LP evs) :: (N₃ ++ O₂) := fun q hq => .tail _ (List.mem_append_right _ hq)
  have hDe : (De, LP evs) ∈ (De, LP evs) :: (N₃ ++ O₂) := .head _
  generalize ((De, LP evs) :: (N₃ ++ O₂)) = O₃ at y₃ hO₃ hDe
  have hOO : ∀ q ∈ O, q ∈ O₃ := fun q hq => hO₃ q (hO₂ q (hO₁ q hq))
  have hsvl : svs.length = (startsOf (marks ts)).length := by rw [← hPs.length, List.length_map]
  have htl : tvs.length = m := hH.1
  have hmle : m ≤ (startsOf (marks ts)).length := by
    rcases hM with ⟨_, _, h⟩ | ⟨_, h, _⟩ <;> omega
  -- the test
  refine wpAny_execs_cons (wpAny_If (t_or3_raw (c := (LC b pm L).up [] (upd (upd (upd sg "rises" (.ref Di)) "starts" (.ref Ds)) "ends" (.ref De)) gs) y₃ ?one (fun s' E' Q' y' k' => t_list_done (b := b) (pm := pm) (L := L) (sg := upd (upd (upd sg "rises" (.ref Di)) "starts" (.ref Ds)) "ends" (.ref De)) o hu (hOO _ hga) hgs hsw y' k') ?three fun s₄ y₄ => ?_))
  case one =>
    refine t_cmp (q := false) (e_local (v := metv) hsm) (e_local (v := dv) hsd) ?_
    rintro p q rfl rfl
    rcases hM with ⟨h1, rfl, _⟩ | ⟨h1, _, cls, h2, h3⟩
    · rcases hdv with ⟨_, rfl⟩ | ⟨h4, _⟩
      · exact fun s E x => PySem.EqNone.ne_none_none ⟨rfl, Kp.refl s⟩
      · omega
    · rcases hdv with ⟨h4, _⟩ | ⟨_, cls', h5, h6⟩
      · omega
      · rw [h2] at h5; cases h5
        obtain ⟨t, rfl⟩ := h3
        obtain ⟨t', rfl⟩ := h6
        intro s E x
        refine PyProof.Rows.ne_str ⟨?_, Kp.refl s⟩
        simp
  case three =>
    obtain ⟨dd, hdd, hd0⟩ : ∃ dd : Int, (m : Int) = ((startsOf (marks ts)).length : Int) - dd ∧ ((dv = .none ∧ dd = 0) ∨ ((∃ x t, dv = .str x t) ∧ dd = 1)) := by
      rcases hM with ⟨h1, _, h2⟩ | ⟨h1, h2, cls, h3, h4⟩
      · rcases hdv with ⟨_, h5⟩ | ⟨h6, _⟩
        · exact ⟨0, by omega, .inl ⟨h5, rfl⟩⟩
        · omega
      · rcases hdv with ⟨h5, _⟩ | ⟨_, cls', h6, ⟨t, h7⟩⟩
        · omega
        · exact ⟨1, by omega, .inr ⟨⟨_, t, h7⟩, rfl⟩⟩
    refine TV.mono (t_cmp (q := ((tvs.length : Int) != (svs.length : Int) - dd)) (e_len (l := Dt) (xs := tvs) (o _ _ _).std (e_local hst) (.inl (hOO _ hDt)) (by omega)) (e_sub (e_len (l := Ds) (xs := svs) (o _ _ _).std (e_local (v := .ref Ds) rfl) (.inl (hO₃ _ hDs)) (by omega)) (e_ifV (q := (dv == .none)) (t_cmp (e_local (v := dv) hsd) e_none ?iss) (fun h => ?_) (fun h => ?_))) fun p q hp hq => q_ne hp hq) fun v hv => ?_
    case iss =>
      rintro p q rfl rfl
      refine q_is_plain ?_
      rcases hd0 with ⟨rfl, _⟩ | ⟨⟨x, t, rfl⟩, _⟩ <;> rfl
    · rcases hd0 with ⟨_, rfl⟩ | ⟨⟨x, t, rfl⟩, _⟩
      · exact e_int
      · exact absurd h (by simp)
    · rcases hd0 with ⟨rfl, _⟩ | ⟨_, rfl⟩
      · exact absurd h (by simp)
      · exact e_int
    · rw [hv, htl, hsvl, hdd]; simp
  simp only [Bool.false_eq_true, if_false]
  refine wpAny_execs_nil ?_
  -- the loop
  refine wpAny_execs_cons (x_for (c := (LC b pm L).up [] (upd (upd (upd sg "rises" (.ref Di)) "starts" (.ref Ds)) "ends" (.ref De)) gs) (items := irange 0 m) (R := IsInt) (.loc rfl rfl rfl fun h => nomatch h) ?src4 rfl
    (fun i O' Mu sg' gs' => Mu = [] ∧ gs' = gs ∧ (∀ q ∈ O₃, q ∈ O') ∧ ∀ z : Str, z ≠ "k" → sg' z = upd (upd (upd sg "rises" (.ref Di)) "starts" (.ref Ds)) "ends" (.ref De) z) y₄ ⟨rfl, rfl, fun q hq => hq, fun z _ => rfl⟩ ?turn ?done)
  case src4 =>
    refine Src.eq ?_ (src_range1 (n := (tvs.length : Int)) (o _ _ _).std (e_len (l := Dt) (xs := tvs) (o _ _ _).std (e_local hst) (.inl (hOO _ hDt)) (by omega)) (by omega) (by omega))
    rw [htl]; simp
  case turn =>
    rintro i a v O' Mu sg' gs' T H s₅ E' hi hR ⟨rfl, rfl, hO', hz⟩ y₅
    obtain ⟨him, rfl⟩ := irange_get_some hi
    rw [Int.zero_add] at hR
    obtain ⟨Tu, aa, pv, lv, h1, h2, h3, h4, h5⟩ := hH.2 i him
    have hO5 : ∀ q ∈ O₃, q ∈ H ++ O' := fun q hq => List.mem_append_right _ (hO' q hq)
    obtain ⟨sa, hsa, hsa'⟩ := get_int hPs (j := i) (a := (aa : Int)) (by rw [List.getElem?_map, h3]; rfl)
    obtain ⟨ea, hea, hea'⟩ := get_int hPe (j := i) (a := ((nxt (marks ts) i : Nat) : Int) - 1) (ends_get h3)
    have hnx := seg_bounds h3
    have nto : sg' "told" = some (.ref Dt) := (hz _ (by decide)).trans hst
    have nro : sg' "row" = some (.ref Dr) := (hz _ (by decide)).trans hsr
    have nst : sg' "starts" = some (.ref Ds) := (hz _ (by decide)).trans rfl
    have nen : sg' "ends" = some (.ref De) := (hz _ (by decide)).trans rfl
    have hnl40 := seg_bounds h3
    rw [marks_len] at hnl40
    refine wpAny_execs_cons (x_if (c := (LC b pm L).up ([] ++ T) (upd sg' "k" v) gs') y₅ (q := (false || (false || (BoolOp.Or == .And)))) (t_all (a_or (t_cmp (e_titemT (l := Tu) (xs := [pv, lv]) (k := 0) (v := pv) (e_item (l := Dt) (xs := tvs) (k := (i : Int)) (v := .ref Tu) (e_local nto) (e_locI (v := v) rfl hR) (.inl (hO5 _ (hOO _ hDt))) (by omega) (by omega) (by rw [Int.toNat_natCast]; exact h1)) e_int (.inl (hO5 _ (hOO _ h2))) (by omega) (by omega) rfl) (e_item (l := Dr) (xs := rvs) (k := (aa : Int)) (v := pv) (e_local nro) (e_itemInt (l := Ds) (xs := svs) (k := (i : Int)) (v := sa) (e_local nst) (e_locI (v := v) rfl hR) (.inl (hO5 _ (hO₃ _ hDs))) (by omega) (by omega) (by rw [Int.toNat_natCast]; exact hsa) hsa') (.inl (hO5 _ (hOO _ hDr))) (by omega) (by omega) (by rw [Int.toNat_natCast]; exact h4)) fun p q hp hq => by subst hp; subst hq; exact q_isnot_firm (hrow.firm _ (List.mem_of_getElem? h4))) fun _ => a_or (t_cmp (e_titemT (l := Tu) (xs := [pv, lv]) (k := 1) (v := lv) (e_item (l := Dt) (xs := tvs) (k := (i : Int)) (v := .ref Tu) (e_local nto) (e_locI (v := v) rfl hR) (.inl (hO5 _ (hOO _ hDt))) (by omega) (by omega) (by rw [Int.toNat_natCast]; exact h1)) e_int (.inl (hO5 _ (hOO _ h2))) (by omega) (by omega) rfl) (e_item (l := Dr) (xs := rvs) (k := ((nxt (marks ts) i : Nat) : Int) - 1) (v := lv) (e_local nro) (e_itemInt (l := De) (xs := evs) (k := (i : Int)) (v := ea) (e_local nen) (e_locI (v := v) rfl hR) (.inl (hO5 _ hDe)) (by omega) (by omega) (by rw [Int.toNat_natCast]; exact hea) hea') (.inl (hO5 _ (hOO _ hDr))) (by omega) (by omega) (by rw [show (((nxt (marks ts) i : Nat) : Int) - 1).toNat = nxt (marks ts) i - 1 from by omega]; exact h5)) fun p q hp hq => by subst hp; subst hq; exact q_isnot_firm (hrow.firm _ (List.mem_of_getElem? h5))) fun _ => a_nil)) (fun h => absurd h (by decide)) fun _ s₆ y₆ => ?_)
    exact wpAny_execs_nil (wpAny_execs_nil (TurnEnd.next (O := O') (Mu := []) (sg := upd sg' "k" v) (gs := gs') ⟨rfl, rfl, hO', fun z hz' => (upd_ne hz').trans (hz z hz')⟩ y₆))
  case done =>
    rintro O' Mu sg' gs' s₅ ⟨rfl, rfl, hO', hz⟩ y₅
    refine wpAny_execs_cons (wpAny_Return_some ((e_bool (c := (LC b pm L).up [] sg' gs')).use y₅ fun v s₆ hv _ y₆ => ?_))
    subst hv
    exact k _ O' sg' s₆ y₆
end
end Mine

namespace Mine

set_option maxHeartbeats 4000000 in
theorem main6 : Main6 := by
  intro w s s' mg mb pm l vs ns E o hu hstd hbi hL hI htk hn y
  have o' : ∀ Mu sg gs, Own ((LC (lawC w s mg mb pm l) pm s.heap.objs.size).up Mu sg gs) := fun Mu sg gs =>
    ⟨⟨o.std.hh, o.std.gl, o.std.bu, o.std.len, o.std.range, o.std.list, o.std.iter, o.std.next⟩, o.ok, o.room, o.cls, o.box, o.far⟩
  have hstr : (lawC w s mg mb pm l).mg "str" = none ∧ (lawC w s mg mb pm l).mb "str" = some (.type "str") := ⟨hstd _ (by decide), (hbi _ (by decide)).trans rfl⟩
  have hAe : (lawC w s mg mb pm l).mg "AttributeError" = none ∧ (lawC w s mg mb pm l).mb "AttributeError" = some (.type "AttributeError") := ⟨hstd _ (by decide), (hbi _ (by decide)).trans rfl⟩
  have hTe : (lawC w s mg mb pm l).mg "TypeError" = none ∧ (lawC w s mg mb pm l).mb "TypeError" = some (.type "TypeError") := ⟨hstd _ (by decide), (hbi _ (by decide)).trans rfl⟩
  have hdeep : (lawC w s mg mb pm l).A.depth + 50 < recursionLimit := of_decide_eq_true (by kernel_rfl)
  have hAf : (lawC w s mg mb pm l).A.frames = some [lawEnv pm s.heap.objs.size] := rfl
  obtain ⟨pw, hfn⟩ := (theK_ok w.params).fn21
  refine build6 (b := lawC w s mg mb pm l) (pm := pm) (L := s.heap.objs.size) o' hu hstr hL hI htk hn rfl y fun Dr Dk Dm ts ms rvs kvs nvs O₁ sg₁ s₁ hn0 hn40 hrow hDk hDm hsr hsk hsn y₁ => ?_
  refine mid6 (b := lawC w s mg mb pm l) (pm := pm) (pw := pw) (L := s.heap.objs.size) o' hfn hsr y₁ fun G ga Dt O₂ sg₂ gs₂ s₂ hO₂ hga hgs hbr hsw hst hsm hz₂ y₂ => ?_
  refine try6 (b := lawC w s mg mb pm l) (pm := pm) (pw := pw) (L := s.heap.objs.size) o' hdeep hAf hAe hTe hn0 hn40 (hrow.mono hO₂) hga hgs hbr hsw hst hsm y₂ fun tvs m O₃ sg₃ gs₃ s₃ metv hH hM hDr₃ hDt₃ hO₃ hgs₃ hbr₃ hz₃ hsm₃ y₃ => ?_
  have hr3 : ∀ z : Str, z ≠ "pair" → z ≠ "met" → z ≠ "walk" → z ≠ "told" → sg₃ z = sg₁ z := fun z h1 h2 h3 h4 => (hz₃ z h1 h2).trans (hz₂ z h3 h4 h2)
  refine faults6 (b := lawC w s mg mb pm l) (pm := pm) (L := s.heap.objs.size) (Dm := Dm) o' hu hn0 hn40 (hrow.mono fun q hq => hO₃ q (hO₂ q hq)) hDr₃ (hO₃ _ (hO₂ _ hDk)) ((hr3 _ (by decide) (by decide) (by decide) (by decide)).trans hsr) ((hr3 _ (by decide) (by decide) (by decide) (by decide)).trans hsk) y₃ fun O₄ sg₄ s₄ sv dv hsv hdv hO₄ hss hsd hz₄ y₄ => ?_
  have hr4 : ∀ z : Str, z ≠ "pair" → z ≠ "met" → z ≠ "walk" → z ≠ "told" → z ≠ "faults" → z ≠ "stop" → z ≠ "due" → sg₄ z = sg₁ z := fun z h1 h2 h3 h4 h5 h6 h7 => (hz₄ z h5 h6 h7).trans (hr3 z h1 h2 h3 h4)
  exact end6 (b := lawC w s mg mb pm l) (pm := pm) (L := s.heap.objs.size) o' hu hn0 hn40 (hrow.mono fun q hq => hO₄ q (hO₃ q (hO₂ q hq))) (hO₄ _ hDr₃) (hO₄ _ (hO₃ _ (hO₂ _ hDk))) (hO₄ _ (hO₃ _ (hO₂ _ hDm))) (hO₄ _ hDt₃) (hO₄ _ (hO₃ _ hga)) hgs₃ (hH.mono hO₄) hM hsv hdv
    ((hr4 _ (by decide) (by decide) (by decide) (by decide) (by decide) (by decide) (by decide)).trans hsr) ((hr4 _ (by decide) (by decide) (by decide) (by decide) (by decide) (by decide) (by decide)).trans hsk) ((hr4 _ (by decide) (by decide) (by decide) (by decide) (by decide) (by decide) (by decide)).trans hsn)
    ((hz₄ _ (by decide) (by decide) (by decide)).trans ((hz₃ _ (by decide) (by decide)).trans hst)) ((hz₄ _ (by decide) (by decide) (by decide)).trans ((hz₃ _ (by decide) (by decide)).trans hsw)) ((hz₄ _ (by decide) (by decide) (by decide)).trans hsm₃) hss hsd y₄
    fun Mu O' sg' s₅ y₅ => ⟨rfl, _, O', rfl, rfl, hbr₃, y₅⟩

set_option maxHeartbeats 4000000 in
theorem law6 : PySem.Challenge.rw_dm0182_06.Holds := by
  w_on
  o_law
  z_head
  case hw => w_witness2
  case hc =>
    intro w s₀ s₁ mg mb G Y a o pm cd doc dV kV ho hd hcd hD hmg hg args vals as La hpre hlay hrd hwl hlo
    obtain ⟨_, K0, _, tk⟩ := PySem.W.X.z_facts (fun P => by kernel_rfl) Y
    have KX : (theK w.params).In s₁.heap := fun b o e => La.keeps b o (K0 b o (sub_look (by kernel_rfl) e))
    exact walk6 main6 G KX hmg hpre hlay La hlo (by rw [tk]; decide)
end Mine


set_option maxRecDepth 100000 in
theorem PySem.Challenge.cw_dm0182_06_holds : PySem.Challenge.rw_dm0182_06.Holds :=
  Mine.law6
