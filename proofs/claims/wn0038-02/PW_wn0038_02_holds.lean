import PyProof.Rows.All
import Wide.All
import OpenK.AllK
import Wide.FinOn
import Lean
import PySem.Challenge.RW_wn0038_02
open PySem PySem.W PyProof.Rows PySem.Calls
set_option Elab.async false
set_option maxRecDepth 100000
namespace Mine
abbrev Mem := Addr → Option Obj
def Le (g g' : Mem) : Prop := ∀ b o, g b = some o → g' b = some o
theorem Le.refl (g : Mem) : Le g g := fun _ _ e => e
theorem Le.trans {a b c : Mem} (x : Le a b) (y : Le b c) : Le a c := fun _ _ e => y _ _ (x _ _ e)
/-- what of h' stands at places that h has not -/
def fresh (h h' : Heap) : Mem := fun b => if (h.get? b).isSome then none else h'.get? b
theorem fresh_le {h h' : Heap} : Le (fresh h h') h'.get? := fun b o e => by
  unfold fresh at e; split at e
  · cases e
  · exact e
theorem fresh_new {h h' : Heap} {b : Addr} {o : Obj} (e : fresh h h' b = some o) : h.get? b = none := by
  unfold fresh at e; split at e
  · cases e
  · rename_i q; cases hh : h.get? b with
    | none => rfl
    | some x => rw [hh] at q; exact absurd rfl q
theorem fresh_of {h h' : Heap} {b : Addr} {o : Obj} (e : h.get? b = none) (e' : h'.get? b = some o) : fresh h h' b = some o := by
  unfold fresh; rw [if_neg (by rw [e]; exact Bool.false_ne_true)]; exact e'
structure Pu (s s' : Shared) : Prop where
  same : s' = { s with heap := s'.heap, toks := s'.toks }
  keep : ∀ b o, s.heap.get? b = some o → s'.heap.get? b = some o
theorem Pu.refl (s : Shared) : Pu s s := ⟨rfl, fun _ _ e => e⟩
theorem Pu.trans {a b c : Shared} (x : Pu a b) (y : Pu b c) : Pu a c :=
  ⟨by have e := y.same; rw [x.same] at e; exact e, fun _ _ e => y.keep _ _ (x.keep _ _ e)⟩
theorem Pu.tok (s : Shared) (n : Nat) : Pu s { s with toks := n } := ⟨rfl, fun _ _ e => e⟩
theorem Pu.fresh_le {a b c : Shared} (x : Pu b c) : Le (fresh a.heap b.heap) (fresh a.heap c.heap) := fun _ _ e =>
  fresh_of (fresh_new e) (x.keep _ _ (Mine.fresh_le _ _ e))
theorem Pu.fresh_le' {a b c : Shared} (x : Pu a b) : Le (fresh b.heap c.heap) (fresh a.heap c.heap) := fun d _ e => by
  refine fresh_of ?_ (Mine.fresh_le _ _ e)
  cases q : a.heap.get? d with
  | none => rfl
  | some o => have := x.keep _ _ q; rw [fresh_new e] at this; cases this
/-- the room around -/
structure Rm (k : Nat) (A : Around) : Prop where
  hand : A.handled = none
  depth : A.depth + k < 1000
  units : A.units + 20 * k < 9900
theorem Rm.lower {k j : Nat} {A : Around} (h : Rm k A) (e : j ≤ k) : Rm j A := ⟨h.hand, by have := h.depth; omega, by have := h.units; omega⟩
theorem Rm.deeper {k : Nat} {A : Around} (h : Rm (k + 1) A) (env : Env) : Rm k (A.deeper env) :=
  ⟨h.hand, by have := h.depth; show A.depth + 1 + k < 1000; omega, by have := h.units; show A.units + 3 + 20 * k < 9900; omega⟩
theorem Rm.room {k : Nat} {A : Around} (h : Rm k A) : A.depth < recursionLimit := by have := h.depth; show A.depth < 1000; omega
section
variable {prog : Program} {w : World} {A : Around} {s₀ : Shared} {env : Env}
def Ev (prog : Program) (w : World) (A : Around) (t : Sem Value) (s₀ : Shared) (P : Value → Mem → Prop) : Prop :=
  ∀ s (Q : Value → Shared → Prop) (E : Value → Shared → Prop), Pu s₀ s → (∀ v s', Pu s s' → P v (fresh s.heap s'.heap) → Q v s') → wpAny (model prog w) A t Q E s
def Eb (prog : Program) (w : World) (A : Around) (t : Sem Bool) (s₀ : Shared) (b : Bool) : Prop :=
  ∀ s (Q : Bool → Shared → Prop) (E : Value → Shared → Prop), Pu s₀ s → (∀ s', Pu s s' → Q b s') → wpAny (model prog w) A t Q E s
abbrev isI (a : Int) : Value → Mem → Prop := fun v _ => ∃ t, v = .int a t
abbrev isS (x : Str) : Value → Mem → Prop := fun v _ => ∃ t, v = .str x t
abbrev isB (b : Array UInt8) : Value → Mem → Prop := fun v _ => ∃ t, v = .bytes b t
abbrev isV (v₀ : Value) : Value → Mem → Prop := fun v _ => v = v₀
theorem Ev.imp {t : Sem Value} {P P' : Value → Mem → Prop} (h : Ev prog w A t s₀ P) (i : ∀ v g, P v g → P' v g) : Ev prog w A t s₀ P' := fun s Q E q k => h s Q E q fun v s' p hp => k v s' p (i v _ hp)
theorem Ev.isI_eq {t : Sem Value} {a b : Int} (h : Ev prog w A t s₀ (isI a)) (e : a = b) : Ev prog w A t s₀ (isI b) := e ▸ h
theorem Eb.eq {t : Sem Bool} {a b : Bool} (h : Eb prog w A t s₀ a) (e : a = b) : Eb prog w A t s₀ b := e ▸ h
-- constants
theorem ev_int {i : Int} {k : Nat} {pos : Pos} : Ev prog w A (eval (.Constant (.int i) k pos) env) s₀ (isI i) := fun s _ _ _ k => wpAny_Constant_int (k _ _ (Pu.tok s _) ⟨_, rfl⟩)
theorem ev_none {k : Nat} {pos : Pos} : Ev prog w A (eval (.Constant .none k pos) env) s₀ (isV .none) := fun s _ _ _ k => Constant_none (k _ _ (Pu.refl s) rfl)
theorem ev_bool {b : Bool} {k : Nat} {pos : Pos} : Ev prog w A (eval (.Constant (.bool b) k pos) env) s₀ (isV (.bool b)) := fun s _ _ _ k => Constant_bool (k _ _ (Pu.refl s) rfl)
theorem ev_str {x : Str} {k : Nat} {pos : Pos} : Ev prog w A (eval (.Constant (.str x) k pos) env) s₀ (isS x) := fun s _ _ _ k => wpAny_mkText (k _ _ (Pu.tok s _) ⟨_, rfl⟩)
theorem wpAny_mkTextBytes {M : Model} {E : Value → Shared → Prop} {s : Shared} {b : Array UInt8} {Q : Value → Shared → Prop} (h : Q (.bytes b s.toks) { s with toks := s.toks + 1 }) : wpAny M A (mkTextBytes b) Q E s := fun _ _ _ => h
theorem ev_bytes {x : List UInt8} {k : Nat} {pos : Pos} : Ev prog w A (eval (.Constant (.bytes x) k pos) env) s₀ (isB x.toArray) := fun s _ _ _ k => wpAny_mkTextBytes (k _ _ (Pu.tok s _) ⟨_, rfl⟩)
-- the frame's names
def Agree (m : Str → Option Value) : List Str → List (Option Value) → Prop
  | [], [] => True
  | x :: xs, v :: vs => m x = v ∧ Agree m xs vs
  | _, _ => False
theorem Agree.get {m : Str → Option Value} : ∀ {xs : List Str} {vs : List (Option Value)} {i : Nat} {x : Str} {v : Option Value}, Agree m xs vs → xs[i]? = some x → vs[i]? = some v → m x = v
  | _ :: _, _ :: _, 0, _, _, h, e, e' => by simp at e e'; subst e e'; exact h.1
  | _ :: _, _ :: _, i + 1, _, _, h, e, e' => Agree.get (i := i) h.2 (by simpa using e) (by simpa using e')
  | [], [], _, _, _, _, e, _ => by simp at e
  | [], _ :: _, _, _, _, h, _, _ => h.elim
  | _ :: _, [], _, _, _, h, _, _ => h.elim
theorem Agree.other {m : Str → Option Value} {y : Str} {w : Option Value} : ∀ {xs : List Str} {vs : List (Option Value)}, Agree m xs vs → y ∉ xs → Agree (fun z => if z = y then w else m z) xs vs
  | [], [], _, _ => trivial
  | x :: xs, v :: vs, h, n => ⟨(if_neg (fun e => n (by rw [e]; exact .head _))).trans h.1, h.2.other fun q => n (.tail _ q)⟩
  | [], _ :: _, h, _ => h.elim
  | _ :: _, [], h, _ => h.elim
theorem Agree.set {m : Str → Option Value} {y : Str} {w : Value} : ∀ {xs : List Str} {vs : List (Option Value)} {i : Nat}, Agree m xs vs → xs.Nodup → xs[i]? = some y → Agree (fun z => if z = y then some w else m z) xs (vs.set i (some w))
  | x :: xs, v :: vs, 0, h, nd, e => by
    simp at e; subst e
    exact ⟨by simp, Agree.other h.2 (List.nodup_cons.mp nd).1⟩
  | x :: xs, v :: vs, i + 1, h, nd, e => by
    have e' : xs[i]? = some y := by simpa using e
    have hx : x ≠ y := fun q => (List.nodup_cons.mp nd).1 (q ▸ List.mem_of_getElem? e')
    exact ⟨(if_neg hx).trans h.1, Agree.set (i := i) h.2 (List.nodup_cons.mp nd).2 e'⟩
  | [], _, _, _, _, e => by simp at e
  | _ :: _, [], _, h, _, _ => h.elim
def Loc (h : Heap) (L : Addr) (xs : List Str) (vs : List (Option Value)) : Prop := ∃ m, h.Ns L m ∧ Agree m xs vs
theorem Loc.keeps {h h' : Heap} {L : Addr} {xs : List Str} {vs : List (Option Value)} (x : Loc h L xs vs) (k : ∀ b o, h.get? b = some o → h'.get? b = some o) : Loc h' L xs vs := let ⟨m, a, b⟩ := x; ⟨m, a.keeps k, b⟩
/-- names of an environment: xs are its locals -/
structure En (env : Env) (xs : List Str) : Prop where
  fn : env.scope.kind = .function
  loc : ∀ x ∈ xs, env.kindOf x = some .local
  nd : xs.Nodup
  nodbg : ∀ x ∈ xs, (x == ("__debug__" : Str)) = false
  glb : env.globals = mainGlobals
  blt : env.builtins = builtinsNs
theorem ev_loc {xs : List Str} {vs : List (Option Value)} {i : Nat} {x : Str} {v : Value} {pos : Pos} (en : En env xs) (l : Loc s₀.heap env.locals xs vs) (hx : xs[i]? = some x) (hv : vs[i]? = some (some v)) :
    Ev prog w A (eval (.Name x pos) env) s₀ (isV v) := fun s _ _ p k => by
  obtain ⟨m, hn, ha⟩ := l.keeps p.keep
  have hm := List.mem_of_getElem? hx
  exact wpAny_Name (wpAny_loadName_local en.fn (en.loc x hm) hn (ha.get hx hv) (k _ _ (Pu.refl s) rfl)) (en.nodbg x hm)
theorem ev_locI {xs : List Str} {vs : List (Option Value)} {i : Nat} {x : Str} {a : Int} {t : Tok} {pos : Pos} (en : En env xs) (l : Loc s₀.heap env.locals xs vs) (hx : xs[i]? = some x) (hv : vs[i]? = some (some (.int a t))) :
    Ev prog w A (eval (.Name x pos) env) s₀ (isI a) := (ev_loc en l hx hv).imp fun _ _ e => ⟨t, e⟩
theorem ev_cell {x : Str} {c : Addr} {o : Obj} {v : Value} {pos : Pos} (hf : env.scope.kind = .function) (hk : env.kindOf x = some .cell) (hc : env.cells.lookup x = some c) (ho : s₀.heap.get? c = some o) (hd : o.data = .cell (some v))
    (hb : (x == ("__debug__" : Str)) = false := by decide +kernel) : Ev prog w A (eval (.Name x pos) env) s₀ (isV v) := fun s _ _ p k =>
  wpAny_Name (wpAny_loadName_cell hf hk hc ⟨o, p.keep _ _ ho, hd⟩ (k _ _ (Pu.refl s) rfl)) hb
theorem ev_free {x : Str} {c : Addr} {o : Obj} {v : Value} {pos : Pos} (hf : env.scope.kind = .function) (hk : env.kindOf x = some .free) (hc : env.cells.lookup x = some c) (ho : s₀.heap.get? c = some o) (hd : o.data = .cell (some v))
    (hb : (x == ("__debug__" : Str)) = false := by decide +kernel) (hn : (x == ("__classdict__" : Str)) = false := by decide +kernel) : Ev prog w A (eval (.Name x pos) env) s₀ (isV v) := fun s _ _ p k =>
  wpAny_Name (wpAny_loadName_free hf hk hc ⟨o, p.keep _ _ ho, hd⟩ (k _ _ (Pu.refl s) rfl) hn) hb
/-- the module's names -/
structure GL (mg mb : Str → Option Value) (h : Heap) : Prop where
  g : h.Ns mainGlobals mg
  b : h.Ns builtinsNs mb
  lim : h.NoLimit
theorem GL.keeps {mg mb : Str → Option Value} {h h' : Heap} (G : GL mg mb h) (k : ∀ b o, h.get? b = some o → h'.get? b = some o) : GL mg mb h' := ⟨G.g.keeps k, G.b.keeps k, G.lim.keeps k⟩
variable {mg mb : Str → Option Value}
theorem ev_glob {x : Str} {v : Value} {pos : Pos} (G : GL mg mb s₀.heap) (hf : env.scope.kind = .function) (hk : env.kindOf x = some .globalImplicit) (hg : env.globals = mainGlobals) (e : mg x = some v)
    (hb : (x == ("__debug__" : Str)) = false := by decide +kernel) : Ev prog w A (eval (.Name x pos) env) s₀ (isV v) := fun s _ _ p k =>
  Name_function_global hf hk (loadGlobal_global (hg ▸ (G.keeps p.keep).g) e (k _ _ (Pu.refl s) rfl)) hb
theorem ev_blt {x : Str} {v : Value} {pos : Pos} (G : GL mg mb s₀.heap) (hf : env.scope.kind = .function) (hk : env.kindOf x = some .globalImplicit) (hg : env.globals = mainGlobals) (hbl : env.builtins = builtinsNs) (e : mg x = none) (e' : mb x = some v)
    (hb : (x == ("__debug__" : Str)) = false := by decide +kernel) : Ev prog w A (eval (.Name x pos) env) s₀ (isV v) := fun s _ _ p k =>
  Name_function_global hf hk (loadGlobal_builtin (hg ▸ (G.keeps p.keep).g) e (hbl ▸ (G.keeps p.keep).b) e' (k _ _ (Pu.refl s) rfl)) hb
-- two operands
def Bin (prog : Program) (w : World) (A : Around) (op : Operator) (P₁ P₂ P : Value → Mem → Prop) (s₀ : Shared) : Prop :=
  ∀ a b s (Q : Value → Shared → Prop) (E : Value → Shared → Prop) g₁ g₂, Pu s₀ s → Le g₁ s.heap.get? → Le g₂ s.heap.get? → P₁ a g₁ → P₂ b g₂ → (∀ v s', Pu s s' → P v (fresh s.heap s'.heap) → Q v s') → wpAny (model prog w) A (binaryOp op a b) Q E s
theorem ev_bin {op : Operator} {P₁ P₂ P : Value → Mem → Prop} {l r : Expr} {pos : Pos} (B : Bin prog w A op P₁ P₂ P s₀) (mono : ∀ v g g', Le g g' → P v g → P v g') (h₁ : Ev prog w A (eval l env) s₀ P₁) (h₂ : Ev prog w A (eval r env) s₀ P₂) :
    Ev prog w A (eval (.BinOp l op r pos) env) s₀ P := fun s Q E p k => by
  refine wpAny_BinOp (h₁ s _ _ p fun a s₁ p₁ ha => h₂ s₁ _ _ (p.trans p₁) fun b s₂ p₂ hb => ?_)
  refine B a b s₂ _ _ _ _ ((p.trans p₁).trans p₂) ((Pu.fresh_le p₂).trans fresh_le) fresh_le ha hb fun v s' p' hv => ?_
  exact k v s' ((p₁.trans p₂).trans p') (mono _ _ _ (Pu.fresh_le' (p₁.trans p₂)) hv)
theorem binI {op : Operator} {a b c : Int} (h : ∀ {s t u} {Q : Value → Shared → Prop} {E : Value → Shared → Prop}, Q (.int c s.toks) { s with toks := s.toks + 1 } → wpAny (model prog w) A (binaryOp op (.int a t) (.int b u)) Q E s) :
    Bin prog w A op (isI a) (isI b) (isI c) s₀ := fun x y s Q E _ _ p _ _ ⟨_, hx⟩ ⟨_, hy⟩ k => by
  subst hx hy; exact h (k _ _ (Pu.tok s _) ⟨_, rfl⟩)
theorem monoI {a : Int} : ∀ v g g', Le g g' → isI a v g → isI a v g' := fun _ _ _ _ h => h
theorem ev_add {a b : Int} {l r : Expr} {pos : Pos} (h₁ : Ev prog w A (eval l env) s₀ (isI a)) (h₂ : Ev prog w A (eval r env) s₀ (isI b)) : Ev prog w A (eval (.BinOp l .Add r pos) env) s₀ (isI (a + b)) :=
  ev_bin (binI fun h => add_int h) monoI h₁ h₂
theorem ev_sub {a b : Int} {l r : Expr} {pos : Pos} (h₁ : Ev prog w A (eval l env) s₀ (isI a)) (h₂ : Ev prog w A (eval r env) s₀ (isI b)) : Ev prog w A (eval (.BinOp l .Sub r pos) env) s₀ (isI (a - b)) :=
  ev_bin (binI fun h => sub_int h) monoI h₁ h₂
theorem ev_mul {a b : Int} {l r : Expr} {pos : Pos} (h₁ : Ev prog w A (eval l env) s₀ (isI a)) (h₂ : Ev prog w A (eval r env) s₀ (isI b)) (ok : IntMulOk a b) : Ev prog w A (eval (.BinOp l .Mult r pos) env) s₀ (isI (a * b)) :=
  ev_bin (binI fun h => mul_int h ok) monoI h₁ h₂
theorem ev_mod {a b : Int} {l r : Expr} {pos : Pos} (h₁ : Ev prog w A (eval l env) s₀ (isI a)) (h₂ : Ev prog w A (eval r env) s₀ (isI b)) (ok : b ≠ 0) : Ev prog w A (eval (.BinOp l .Mod r pos) env) s₀ (isI (a.fmod b)) :=
  ev_bin (binI fun h => mod_int ok h) monoI h₁ h₂
theorem ev_fdiv {a b : Int} {l r : Expr} {pos : Pos} (h₁ : Ev prog w A (eval l env) s₀ (isI a)) (h₂ : Ev prog w A (eval r env) s₀ (isI b)) (ok : b ≠ 0) (hp : Builtin.divisionGoesByPylong a b = false) : Ev prog w A (eval (.BinOp l .FloorDiv r pos) env) s₀ (isI (a.fdiv b)) :=
  ev_bin (binI fun h => floordiv_int ok h (.inl hp)) monoI h₁ h₂
theorem ev_pow {a b : Int} {l r : Expr} {pos : Pos} (h₁ : Ev prog w A (eval l env) s₀ (isI a)) (h₂ : Ev prog w A (eval r env) s₀ (isI b)) (h0 : 0 ≤ b) (h1 : b ≤ 1000000) (ha : a.natAbs < 2 ^ 64) : Ev prog w A (eval (.BinOp l .Pow r pos) env) s₀ (isI (a ^ b.toNat)) :=
  ev_bin (binI fun h => pow_int_small h0 h1 ha h) monoI h₁ h₂
theorem ev_neg {a : Int} {e : Expr} {pos : Pos} (h : Ev prog w A (eval e env) s₀ (isI a)) : Ev prog w A (eval (.UnaryOp .USub e pos) env) s₀ (isI (-a)) := fun s Q E p k =>
  UnaryOp_ (h s _ _ p fun v s₁ p₁ hv => by obtain ⟨t, rfl⟩ := hv; exact neg_int (k _ _ (p₁.trans (Pu.tok s₁ _)) ⟨_, rfl⟩))
-- tests
def Cmp (prog : Program) (w : World) (A : Around) (op : CmpOp) (P₁ P₂ : Value → Mem → Prop) (c : Bool) (s₀ : Shared) : Prop :=
  ∀ a b s (Q : Value → Shared → Prop) (E : Value → Shared → Prop) g₁ g₂, Pu s₀ s → Le g₁ s.heap.get? → Le g₂ s.heap.get? → P₁ a g₁ → P₂ b g₂ → (∀ s', Pu s s' → Q (.bool c) s') → wpAny (model prog w) A (compareOp op a b) Q E s
theorem eb_cmp {op : CmpOp} {P₁ P₂ : Value → Mem → Prop} {c : Bool} {l r : Expr} {pos : Pos} {whole : Sem Value} (C : Cmp prog w A op P₁ P₂ c s₀) (h₁ : Ev prog w A (eval l env) s₀ P₁) (h₂ : Ev prog w A (eval r env) s₀ P₂)
    (hm : behindInMarks op r = false := by with_unfolding_all rfl) : Eb prog w A (isTrue (.Compare l [op] [r] pos) env whole) s₀ c := fun s Q E p k => by
  refine wpAny_isTrue_Compare1 (h₁ s _ _ p fun a s₁ p₁ ha => h₂ s₁ _ _ (p.trans p₁) fun b s₂ p₂ hb => ?_) hm
  exact C a b s₂ _ _ _ _ ((p.trans p₁).trans p₂) ((Pu.fresh_le p₂).trans fresh_le) fresh_le ha hb fun s' p' => wpAny_truthy_bool (k s' ((p₁.trans p₂).trans p'))
theorem c_ltI {a b : Int} : Cmp prog w A .Lt (isI a) (isI b) (decide (a < b)) s₀ := fun _ _ s _ _ _ _ _ _ _ ⟨_, hx⟩ ⟨_, hy⟩ k => by subst hx hy; exact lt_int (k _ (Pu.refl s))
theorem c_neI {a b : Int} : Cmp prog w A .NotEq (isI a) (isI b) (!(a == b)) s₀ := fun _ _ s _ _ _ _ _ _ _ ⟨_, hx⟩ ⟨_, hy⟩ k => by subst hx hy; exact ne_int (k _ (Pu.refl s))
theorem c_ltS {a b : Str} : Cmp prog w A .Lt (isS a) (isS b) (decide (a.cps.toList < b.cps.toList)) s₀ := fun _ _ s _ _ _ _ _ _ _ ⟨_, hx⟩ ⟨_, hy⟩ k => by subst hx hy; exact lt_str (k _ (Pu.refl s))
theorem c_isN {v : Value} : Cmp prog w A .Is (isV v) (isV .none) (v == .none) s₀ := fun _ _ s _ _ _ _ _ _ _ hx hy k => by cases hx; cases hy; exact is_none (k _ (Pu.refl s))
end
end Mine
namespace Mine
section
variable {prog : Program} {w : World} {A : Around} {env : Env}
/-- the state within a call: u is the state at its beginning, g what stands fast, L the frame, xs the names, vs their values, ms the objects that are the call's own and may turn -/
structure St (u : Shared) (g : Mem) (L : Addr) (xs : List Str) (vs : List (Option Value)) (ms : List (Addr × Obj)) (s : Shared) : Prop where
  same : s = { u with heap := s.heap, toks := s.toks }
  loc : Loc s.heap L xs vs
  gk : Le g s.heap.get?
  uk : Le u.heap.get? g
  gL : g L = none
  own : ∀ p ∈ ms, s.heap.get? p.1 = some p.2 ∧ p.1 ≠ L ∧ g p.1 = none
  nd : (ms.map (·.1)).Nodup
variable {u s s' : Shared} {g : Mem} {L : Addr} {xs : List Str} {vs : List (Option Value)} {ms : List (Addr × Obj)}
theorem St.pu (S : St u g L xs vs ms s) : Pu u s := ⟨S.same, fun b o e => S.gk b o (S.uk b o e)⟩
theorem St.ukeep (S : St u g L xs vs ms s) : ∀ b o, u.heap.get? b = some o → s.heap.get? b = some o := fun b o e => S.gk b o (S.uk b o e)
/-- only additions: nothing new is held -/
theorem St.up (S : St u g L xs vs ms s) (p : Pu s s') : St u g L xs vs ms s' :=
  ⟨(S.pu.trans p).same, S.loc.keeps p.keep, fun b o e => p.keep b o (S.gk b o e), S.uk, S.gL, fun q hq => ⟨p.keep _ _ (S.own q hq).1, (S.own q hq).2⟩, S.nd⟩
/-- additions: what is new stands fast from here on, but for nw, which is the call's own -/
theorem St.grow (S : St u g L xs vs ms s) (p : Pu s s') (nw : List (Addr × Obj)) (hn : ∀ q ∈ nw, s.heap.get? q.1 = none ∧ s'.heap.get? q.1 = some q.2) (hd : (nw.map (·.1)).Nodup) :
    ∃ g', Le g g' ∧ (∀ b o, fresh s.heap s'.heap b = some o → b ∉ nw.map (·.1) → g' b = some o) ∧ St u g' L xs vs (nw ++ ms) s' := by
  refine ⟨fun b => if b = L ∨ b ∈ (nw ++ ms).map (·.1) then none else s'.heap.get? b, fun b o e => ?_, fun b o e hb => ?_, ?_⟩
  · have hL : b ≠ L := fun q => by rw [q, S.gL] at e; cases e
    have hm : b ∉ (nw ++ ms).map (·.1) := fun q => by
      obtain ⟨r, hr, rfl⟩ := List.mem_map.mp q
      rcases List.mem_append.mp hr with h | h
      · have h1 := (hn r h).1; rw [S.gk _ _ e] at h1; cases h1
      · have h1 := (S.own r h).2.2; rw [e] at h1; cases h1
    show (if _ then _ else _) = _
    rw [if_neg (by rintro (q | q); exact hL q; exact hm q)]
    exact p.keep _ _ (S.gk _ _ e)
  · have hb0 := fresh_new e
    have hL : b ≠ L := fun q => by
      obtain ⟨m, ⟨o', _, _, hh, _⟩, _⟩ := S.loc
      rw [← q, hb0] at hh; cases hh
    have hm : b ∉ (nw ++ ms).map (·.1) := fun q => by
      rw [List.map_append] at q
      rcases List.mem_append.mp q with h | h
      · exact hb h
      · obtain ⟨r, hr, rfl⟩ := List.mem_map.mp h
        have h1 := (S.own r hr).1; rw [hb0] at h1; cases h1
    show (if _ then _ else _) = _
    rw [if_neg (by rintro (q | q); exact hL q; exact hm q)]
    exact fresh_le _ _ e
  · have own' : ∀ q ∈ nw ++ ms, s'.heap.get? q.1 = some q.2 ∧ q.1 ≠ L := fun q hq => by
      rcases List.mem_append.mp hq with h | h
      · refine ⟨(hn q h).2, fun e => ?_⟩
        obtain ⟨m, ⟨o', _, _, hh, _⟩, _⟩ := S.loc
        rw [← e, (hn q h).1] at hh; cases hh
      · exact ⟨p.keep _ _ (S.own q h).1, (S.own q h).2.1⟩
    refine ⟨(S.pu.trans p).same, S.loc.keeps p.keep, fun b o e => ?_, fun b o e => ?_, ?_, fun q hq => ⟨(own' q hq).1, (own' q hq).2, ?_⟩, ?_⟩
    · show _ = _
      have e' : (if b = L ∨ b ∈ (nw ++ ms).map (·.1) then none else s'.heap.get? b) = some o := e
      split at e'
      · cases e'
      · exact e'
    · have e1 := S.uk _ _ e
      have hL : b ≠ L := fun q => by rw [q, S.gL] at e1; cases e1
      have hm : b ∉ (nw ++ ms).map (·.1) := fun q => by
        obtain ⟨r, hr, rfl⟩ := List.mem_map.mp q
        rcases List.mem_append.mp hr with h | h
        · have h1 := (hn r h).1; rw [S.gk _ _ e1] at h1; cases h1
        · have h1 := (S.own r h).2.2; rw [e1] at h1; cases h1
      show (if _ then _ else _) = _
      rw [if_neg (by rintro (q | q); exact hL q; exact hm q)]
      exact p.keep _ _ (S.gk _ _ e1)
    · show (if _ then _ else _) = _
      rw [if_pos (.inl rfl)]
    · show (if _ then _ else _) = _
      rw [if_pos (.inr (List.mem_map_of_mem hq))]
    · rw [List.map_append, List.nodup_append]
      refine ⟨hd, S.nd, fun a ha b hb e => ?_⟩
      obtain ⟨r, hr, rfl⟩ := List.mem_map.mp ha
      obtain ⟨q, hq, rfl⟩ := List.mem_map.mp hb
      have h1 := (hn r hr).1; rw [e, (S.own q hq).1] at h1; cases h1
/-- a local name is stored -/
theorem St.store (S : St u g L xs vs ms s) {x : Str} {v : Value} {i : Nat} {h' : Heap} {m : Str → Option Value} {n : Nat} (ha : Agree m xs vs) (hn : h'.Ns L fun y => if y = x then some v else m y) (hs : Heap.SameBut L s.heap h') (nd : xs.Nodup) (hx : xs[i]? = some x) :
    St u g L xs (vs.set i (some v)) ms { s with heap := h', toks := n } := by
  have k : ∀ b o, b ≠ L → s.heap.get? b = some o → h'.get? b = some o := fun b o q e => (hs.2 b q).trans e
  refine ⟨?_, ⟨_, hn, ha.set nd hx⟩, fun b o e => k b o (fun q => ?_) (S.gk b o e), S.uk, S.gL, fun q hq => ⟨k _ _ (S.own q hq).2.1 (S.own q hq).1, (S.own q hq).2⟩, S.nd⟩
  · have e := S.same
    show ({ s with heap := h', toks := n } : Shared) = _
    rw [e]
  · rw [q, S.gL] at e; cases e
theorem st_name {x : Str} {v : Value} {i : Nat} {Q : Unit → Shared → Prop} {E : Value → Shared → Prop} {M : Model} (en : En env xs) (hL : env.locals = L) (S : St u g L xs vs ms s) (hx : xs[i]? = some x)
    (k : ∀ s', St u g L xs (vs.set i (some v)) ms s' → Q () s') : wpAny M A (storeName env x v) Q E s := by
  subst hL
  obtain ⟨m, hn, ha⟩ := S.loc
  exact wpAny_storeName_local (en.loc x (List.mem_of_getElem? hx)) hn (fun h' hn' hs' => k _ (S.store ha hn' hs' en.nd hx))
    (by show (env.scope.kind == .class || (env.scope.kind == .module && _)) = false; rw [en.fn]; rfl)
/-- an object of the call's own is turned -/
theorem St.turn (S : St u g L xs vs ms s) {a : Addr} {o o' : Obj} {i : Nat} {h' : Heap} {n : Nat} (hi : ms[i]? = some (a, o)) (hs : Heap.SameBut a s.heap h') (ho' : h'.get? a = some o') :
    St u g L xs vs (ms.set i (a, o')) { s with heap := h', toks := n } := by
  have hm := List.mem_of_getElem? hi
  have ha := S.own _ hm
  have k : ∀ b o, b ≠ a → s.heap.get? b = some o → h'.get? b = some o := fun b o q e => (hs.2 b q).trans e
  have hlt : i < ms.length := (List.getElem?_eq_some_iff.mp hi).1
  refine ⟨?_, ?_, fun b o e => k b o (fun q => ?_) (S.gk b o e), S.uk, S.gL, fun q hq => ?_, ?_⟩
  · have e := S.same
    show ({ s with heap := h', toks := n } : Shared) = _
    rw [e]
  · obtain ⟨m, hn, hag⟩ := S.loc
    exact ⟨m, hn.sameBut hs (Ne.symm ha.2.1), hag⟩
  · rw [q, ha.2.2] at e; cases e
  · rcases List.mem_or_eq_of_mem_set hq with h | h
    · by_cases e : q.1 = a
      · -- the same place: q is the old entry or the new one
        obtain ⟨j, hj⟩ := List.mem_iff_getElem?.mp hq
        rw [List.getElem?_set] at hj
        split at hj
        · rename_i e1
          cases hj
          exact ⟨ho', ha.2⟩
        · rename_i e1
          exfalso
          have e2 : (ms.map (·.1))[j]? = some a := by rw [List.getElem?_map, hj, ← e]; rfl
          have e3 : (ms.map (·.1))[i]? = some a := by rw [List.getElem?_map, hi]; rfl
          exact e1 ((List.getElem?_inj (by rw [List.length_map]; exact hlt) S.nd).mp (e3.trans e2.symm))
      · exact ⟨k _ _ e (S.own q h).1, (S.own q h).2⟩
    · subst h; exact ⟨ho', ha.2⟩
  · have e : (ms.set i (a, o')).map (·.1) = ms.map (·.1) := by
      refine List.ext_getElem? fun j => ?_
      rw [List.getElem?_map, List.getElem?_map, List.getElem?_set]
      split
      · rename_i e1; subst e1
        rw [hi]; rfl
      · rfl
    rw [e]; exact S.nd
-- statements
theorem x_nil {Q : Flow → Shared → Prop} {E : Value → Shared → Prop} {M : Model} (h : Q .next s) : wpAny M A (execs [] env) Q E s := wpAny_execs_nil h
theorem x_cons {st : Stmt} {rest : List Stmt} {Q : Flow → Shared → Prop} {E : Value → Shared → Prop} {M : Model} (h : wpAny M A (exec st env) (fun f s' => match f with | .next => wpAny M A (execs rest env) Q E s' | f => Q f s') E s) :
    wpAny M A (execs (st :: rest) env) Q E s := wpAny_execs_cons h
/-- x = e, the value no object of the call's making -/
theorem x_asg {x : Str} {px pos : Pos} {e : Expr} {i : Nat} {P : Value → Mem → Prop} {Q : Flow → Shared → Prop} {E : Value → Shared → Prop} (en : En env xs) (hL : env.locals = L) (S : St u g L xs vs ms s) (hx : xs[i]? = some x)
    (he : Ev prog w A (eval e env) s P) (k : ∀ (v : Value) (g' f : Mem) (s'' : Shared), Le g g' → Le f g' → P v f → St u g' L xs (vs.set i (some v)) ms s'' → Q .next s'')
    (hs : swapsWith e (some (.Name x px)) pos.line env = pure false := by rfl) : wpAny (model prog w) A (exec (.Assign [.Name x px] e pos) env) Q E s :=
  wpAny_Assign_Name (he s _ _ (Pu.refl s) fun v s₁ p hv => by
    obtain ⟨g', l, hf, S'⟩ := S.grow p [] (fun _ h => nomatch h) .nil
    exact st_name en hL S' hx fun s' S'' => k v g' _ s' l (fun b o e => hf b o e (fun h => nomatch h)) hv S'') hs
theorem x_asgI {x : Str} {px pos : Pos} {e : Expr} {i : Nat} {a : Int} {Q : Flow → Shared → Prop} {E : Value → Shared → Prop} (en : En env xs) (hL : env.locals = L) (S : St u g L xs vs ms s) (hx : xs[i]? = some x)
    (he : Ev prog w A (eval e env) s (isI a)) (k : ∀ t s', St u g L xs (vs.set i (some (.int a t))) ms s' → Q .next s')
    (hs : swapsWith e (some (.Name x px)) pos.line env = pure false := by rfl) : wpAny (model prog w) A (exec (.Assign [.Name x px] e pos) env) Q E s :=
  wpAny_Assign_Name (he s _ _ (Pu.refl s) fun v s₁ p hv => by obtain ⟨t, rfl⟩ := hv; exact st_name en hL (S.up p) hx fun s' S'' => k t s' S'') hs
theorem x_asgV {x : Str} {px pos : Pos} {e : Expr} {i : Nat} {P : Value → Prop} {Q : Flow → Shared → Prop} {E : Value → Shared → Prop} (en : En env xs) (hL : env.locals = L) (S : St u g L xs vs ms s) (hx : xs[i]? = some x)
    (he : Ev prog w A (eval e env) s (fun v _ => P v)) (k : ∀ v s', P v → St u g L xs (vs.set i (some v)) ms s' → Q .next s')
    (hs : swapsWith e (some (.Name x px)) pos.line env = pure false := by rfl) : wpAny (model prog w) A (exec (.Assign [.Name x px] e pos) env) Q E s :=
  wpAny_Assign_Name (he s _ _ (Pu.refl s) fun v s₁ p hv => st_name en hL (S.up p) hx fun s' S'' => k v s' hv S'') hs
/-- x = e, the value an object of the call's own -/
theorem x_asgO {x : Str} {px pos : Pos} {e : Expr} {i : Nat} {P : Addr → Obj → Prop} {Q : Flow → Shared → Prop} {E : Value → Shared → Prop} (en : En env xs) (hL : env.locals = L) (S : St u g L xs vs ms s) (hx : xs[i]? = some x)
    (he : Ev prog w A (eval e env) s (fun v f => ∃ a o, v = .ref a ∧ f a = some o ∧ P a o)) (k : ∀ a o g' s', P a o → Le g g' → St u g' L xs (vs.set i (some (.ref a))) ((a, o) :: ms) s' → Q .next s')
    (hs : swapsWith e (some (.Name x px)) pos.line env = pure false := by rfl) : wpAny (model prog w) A (exec (.Assign [.Name x px] e pos) env) Q E s :=
  wpAny_Assign_Name (he s _ _ (Pu.refl s) fun v s₁ p hv => by
    obtain ⟨a, o, rfl, hf, hP⟩ := hv
    obtain ⟨g', l, _, S'⟩ := S.grow p [(a, o)] (fun q h => by rw [List.mem_singleton.mp h]; exact ⟨fresh_new hf, fresh_le _ _ hf⟩) (by simp)
    exact st_name en hL S' hx fun s' S'' => k a o g' s' hP l S'') hs
theorem x_ret {e : Expr} {pos : Pos} {P : Value → Mem → Prop} {Q : Flow → Shared → Prop} {E : Value → Shared → Prop} (he : Ev prog w A (eval e env) s P) (k : ∀ v s', Pu s s' → P v (fresh s.heap s'.heap) → Q (.ret v) s') :
    wpAny (model prog w) A (exec (.Return (some e) pos) env) Q E s := wpAny_Return_some (he s _ _ (Pu.refl s) k)
theorem x_if {test : Expr} {body orelse : List Stmt} {pos : Pos} {b : Bool} {Q : Flow → Shared → Prop} {E : Value → Shared → Prop} (S : St u g L xs vs ms s) (ht : Eb prog w A (isTrue test env (eval test env)) s b)
    (k₁ : b = true → ∀ s', St u g L xs vs ms s' → wpAny (model prog w) A (execs body env) Q E s') (k₂ : b = false → ∀ s', St u g L xs vs ms s' → wpAny (model prog w) A (execs orelse env) Q E s') :
    wpAny (model prog w) A (exec (.If test body orelse pos) env) Q E s :=
  wpAny_If (ht s _ _ (Pu.refl s) fun s' p => by
    cases b with
    | true => rw [if_pos rfl]; exact k₁ rfl s' (S.up p)
    | false => rw [if_neg Bool.false_ne_true]; exact k₂ rfl s' (S.up p))
theorem x_while {test : Expr} {body : List Stmt} {pos : Pos} {Q : Flow → Shared → Prop} {E : Value → Shared → Prop} (I : Nat → Shared → Prop) (n : Nat) (h : I n s)
    (turn : ∀ n s, I n s → ∃ b, Eb prog w A (isTrue test env (eval test env)) s b ∧ (b = true → ∀ s', Pu s s' → wpAny (model prog w) A (execs body env) (fun f s₃ => match f with
        | .next | .cont => ∃ m, m < n ∧ I m s₃
        | .brk => Q .next s₃
        | .ret v => Q (.ret v) s₃) (fun _ _ => False) s') ∧ (b = false → ∀ s', Pu s s' → Q .next s')) :
    wpAny (model prog w) A (exec (.While test body [] pos) env) Q E s := by
  refine wpAny_While (codeAny_whileLoop I (fun n s hI => ?_) n h)
  obtain ⟨b, ht, h1, h2⟩ := turn n s hI
  refine ht s _ _ (Pu.refl s) fun s' p => ?_
  cases b with
  | true =>
    rw [if_pos rfl]
    refine wpAny_mono (h1 rfl s' p) (fun f s₃ h₃ => ?_) fun _ _ x => x.elim
    cases f <;> exact h₃
  | false => rw [if_neg Bool.false_ne_true]; exact wpAny_execs_nil (h2 rfl s' p)
end
end Mine
namespace Mine
section
variable {prog : Program} {w : World} {A : Around} {env : Env}
variable {u s s' : Shared} {g : Mem} {L : Addr} {xs : List Str} {vs : List (Option Value)} {ms r : List (Addr × Obj)}
theorem St.drop (S : St u g L xs vs (ms ++ r) s) : St u g L xs vs ms s :=
  ⟨S.same, S.loc, S.gk, S.uk, S.gL, fun p hp => S.own p (List.mem_append_left _ hp), by have := S.nd; rw [List.map_append] at this; exact (List.nodup_append.mp this).1⟩
theorem St.rewr (S : St u g L xs vs (ms ++ r) s) {h' : Heap} {n : Nat} (k : ∀ b o, b ∉ r.map (·.1) → s.heap.get? b = some o → h'.get? b = some o) (al : ∀ b ∈ r.map (·.1), (h'.get? b).isSome = true) :
    ∃ r', r'.map (·.1) = r.map (·.1) ∧ St u g L xs vs (ms ++ r') { s with heap := h', toks := n } := by
  have e : (r.map fun p => (p.1, (h'.get? p.1).getD default)).map (·.1) = r.map (·.1) := by rw [List.map_map]; rfl
  refine ⟨r.map fun p => (p.1, (h'.get? p.1).getD default), e, ?_, ?_, fun b o h => ?_, S.uk, S.gL, fun p hp => ?_, ?_⟩
  · have e := S.same
    show ({ s with heap := h', toks := n } : Shared) = _
    rw [e]
  · obtain ⟨m, hn, ha⟩ := S.loc
    refine ⟨m, hn.at' fun o e => k _ _ (fun hm => ?_) e, ha⟩
    obtain ⟨q, hq, h1⟩ := List.mem_map.mp hm
    exact (S.own q (List.mem_append_right _ hq)).2.1 h1
  · refine k _ _ (fun hm => ?_) (S.gk _ _ h)
    obtain ⟨q, hq, h1⟩ := List.mem_map.mp hm
    have := (S.own q (List.mem_append_right _ hq)).2.2; rw [h1, h] at this; cases this
  · rcases List.mem_append.mp hp with h | h
    · refine ⟨k _ _ (fun hm => ?_) (S.own p (List.mem_append_left _ h)).1, (S.own p (List.mem_append_left _ h)).2⟩
      have nd := S.nd
      rw [List.map_append, List.nodup_append] at nd
      exact nd.2.2 _ (List.mem_map_of_mem h) _ hm rfl
    · obtain ⟨q, hq, rfl⟩ := List.mem_map.mp h
      have hq' := S.own q (List.mem_append_right _ hq)
      refine ⟨?_, hq'.2⟩
      have := al q.1 (List.mem_map_of_mem hq)
      show h'.get? q.1 = some ((h'.get? q.1).getD default)
      cases hh : h'.get? q.1 with
      | none => rw [hh] at this; cases this
      | some o => rfl
  · rw [List.map_append, e, ← List.map_append]; exact S.nd
theorem St.after (S : St u g L xs vs (ms ++ r) s) {h' : Heap} {n : Nat} (k : ∀ b o, b ∉ r.map (·.1) → s.heap.get? b = some o → h'.get? b = some o) : St u g L xs vs ms { s with heap := h', toks := n } := by
  have hn : ∀ b, (∃ q ∈ r, q.1 = b) → g b = none ∧ b ≠ L := fun b ⟨q, hq, e⟩ => e ▸ ⟨(S.own q (List.mem_append_right _ hq)).2.2, (S.own q (List.mem_append_right _ hq)).2.1⟩
  refine ⟨by have e := S.same; show ({ s with heap := h', toks := n } : Shared) = _; rw [e], ?_, fun b o e => k b o (fun hm => ?_) (S.gk b o e), S.uk, S.gL, fun q hq => ⟨k _ _ (fun hm => ?_) (S.own q (List.mem_append_left _ hq)).1, (S.own q (List.mem_append_left _ hq)).2⟩, S.drop.nd⟩
  · obtain ⟨m, hn', ha⟩ := S.loc
    refine ⟨m, hn'.at' fun o e => k _ _ (fun hm => ?_) e, ha⟩
    obtain ⟨q, hq, h1⟩ := List.mem_map.mp hm
    exact (hn _ ⟨q, hq, h1⟩).2 rfl
  · obtain ⟨q, hq, h1⟩ := List.mem_map.mp hm
    have := (hn _ ⟨q, hq, h1⟩).1; rw [this] at e; cases e
  · have nd := S.nd
    rw [List.map_append, List.nodup_append] at nd
    exact nd.2.2 _ (List.mem_map_of_mem hq) _ hm rfl
/-- a source of values, as a for's iterable: P k v: the k-th value -/
def Src (prog : Program) (w : World) (A : Around) (iter : Expr) (env : Env) (s₀ : Shared) (g : Mem) (n : Nat) (P : Nat → Value → Prop) : Prop :=
  ∀ s (Q : Value → Shared → Prop) (E : Value → Shared → Prop), Pu s₀ s → (∀ I fp wr Sx s', Pu s s' → Walks prog w A I fp wr n P Sx → (∀ i h, Sx i h → ∀ b ∈ wr, (h.get? b).isSome = true) → Sx 0 s'.heap → (∀ b ∈ wr, s.heap.get? b = none) → wr.Nodup →
    (∀ b ∈ fp, b ∉ wr → (∃ o, g b = some o) ∨ (∃ o, fresh s.heap s'.heap b = some o)) → Q (.ref I) s') → wpAny (model prog w) A (eval iter env) (fun x s₁ => wpAny (model prog w) A (pyIter x) Q E s₁) E s
/-- a source of pairs -/
def Src2 (prog : Program) (w : World) (A : Around) (iter : Expr) (env : Env) (s₀ : Shared) (g : Mem) (n : Nat) (P : Nat → Value → Value → Prop) : Prop :=
  ∀ s (Q : Value → Shared → Prop) (E : Value → Shared → Prop), Pu s₀ s → (∀ I fp wr Sx Mid s', Pu s s' → WalksU prog w A I fp wr n (fun i vals => ∃ a b, vals = #[a, b] ∧ P i a b) Sx Mid → (∀ i h, Sx i h → ∀ b ∈ wr, (h.get? b).isSome = true) →
    (∀ i T h, Mid i T h → ∀ b ∈ wr, (h.get? b).isSome = true) → Sx 0 s'.heap → (∀ b ∈ wr, s.heap.get? b = none) → wr.Nodup →
    (∀ b ∈ fp, b ∉ wr → (∃ o, g b = some o) ∨ (∃ o, fresh s.heap s'.heap b = some o)) → Q (.ref I) s') → wpAny (model prog w) A (eval iter env) (fun x s₁ => wpAny (model prog w) A (pyIter x) Q E s₁) E s
theorem St.into (S : St u g L xs vs ms s) (p : Pu s s') {fp wr : List Addr} (hw : ∀ b ∈ wr, s.heap.get? b = none) (al : ∀ b ∈ wr, (s'.heap.get? b).isSome = true) (nd : wr.Nodup)
    (hf : ∀ b ∈ fp, b ∉ wr → (∃ o, g b = some o) ∨ (∃ o, fresh s.heap s'.heap b = some o)) :
    ∃ g' r, r.map (·.1) = wr ∧ Le g g' ∧ St u g' L xs vs (ms ++ r) s' ∧ ∀ b ∈ fp, b ∉ wr → ∃ o, g' b = some o := by
  have e : (wr.map fun b => (b, (s'.heap.get? b).getD default)).map (·.1) = wr := by rw [List.map_map]; exact List.map_id _
  obtain ⟨g', l, hg, S'⟩ := S.grow p (wr.map fun b => (b, (s'.heap.get? b).getD default)) (fun q hq => by
    obtain ⟨b, hb, rfl⟩ := List.mem_map.mp hq
    refine ⟨hw b hb, ?_⟩
    have := al b hb
    show s'.heap.get? b = some ((s'.heap.get? b).getD default)
    cases hh : s'.heap.get? b with
    | none => rw [hh] at this; cases this
    | some o => rfl) (e.symm ▸ nd)
  refine ⟨g', _, e, l, ⟨S'.same, S'.loc, S'.gk, S'.uk, S'.gL, fun q hq => S'.own q (List.mem_append.mpr (List.mem_append.mp hq).symm), ?_⟩, fun b hb hbw => ?_⟩
  · have nd' := S'.nd
    rw [List.map_append] at nd' ⊢
    exact (List.perm_append_comm.nodup_iff).mp nd'
  · rcases hf b hb hbw with ⟨o, h⟩ | ⟨o, h⟩
    · exact ⟨o, l _ _ h⟩
    · exact ⟨o, hg b o h (by rw [e]; exact hbw)⟩
theorem frame_of {u s s' : Shared} {g g' : Mem} {L : Addr} {xs xs' : List Str} {vs vs' : List (Option Value)} {ms ms' r : List (Addr × Obj)} (S : St u g L xs vs (ms ++ r) s) (S' : St u g' L xs' vs' (ms' ++ r) s') (l : Le g g') {fp wr : List Addr} (hr : r.map (·.1) = wr)
    (hf : ∀ b ∈ fp, b ∉ wr → ∃ o, g b = some o) : ∀ b ∈ fp, ∀ o, s.heap.get? b = some o → s'.heap.get? b = some o := fun b hb o e => by
  by_cases hw : b ∈ wr
  · rw [← hr] at hw
    obtain ⟨q, hq, rfl⟩ := List.mem_map.mp hw
    have h1 := (S.own q (List.mem_append_right _ hq)).1
    have h2 := (S'.own q (List.mem_append_right _ hq)).1
    rw [h1] at e; rw [h2, e]
  · obtain ⟨o', ho'⟩ := hf b hb hw
    have h1 := S.gk _ _ ho'
    rw [h1] at e; cases e
    exact S'.gk _ _ (l _ _ ho')
def Turn (u : Shared) (L : Addr) (xs : List Str) (g : Mem) (r : List (Addr × Obj)) (J : Mem → List (Option Value) → List (Addr × Obj) → Prop) (Q : Flow → Shared → Prop) (f : Flow) (s : Shared) : Prop :=
  match f with
  | .next | .cont => ∃ g' vs ms, Le g g' ∧ St u g' L xs vs (ms ++ r) s ∧ J g' vs ms
  | .brk => False
  | .ret v => Q (.ret v) s
theorem x_for1 {x : Str} {px pos : Pos} {iter : Expr} {body : List Stmt} {i n : Nat} {P : Nat → Value → Prop} {Q : Flow → Shared → Prop} {E : Value → Shared → Prop} (J : Nat → Mem → List (Option Value) → List (Addr × Obj) → Prop)
    (en : En env xs) (hL : env.locals = L) (S : St u g L xs vs ms s) (hx : xs[i]? = some x) (hI : Src prog w A iter env s g n P) (h0 : ∀ g', Le g g' → J 0 g' vs ms)
    (turn : ∀ k v g' vs' ms' r s', k < n → P k v → Le g g' → J k g' vs' ms' → St u g' L xs (vs'.set i (some v)) (ms' ++ r) s' → wpAny (model prog w) A (execs body env) (Turn u L xs g' r (J (k + 1)) Q) (fun _ _ => False) s')
    (done : ∀ g' vs' ms' s', Le g g' → J n g' vs' ms' → St u g' L xs vs' ms' s' → Q .next s')
    (hs : ∀ x, foldedSetIterable iter env x = pure x := by intro; rfl) : wpAny (model prog w) A (exec (.For (.Name x px) iter body [] pos) env) Q E s := by
  refine wpAny_For (hI s _ _ (Pu.refl s) fun I fp wr Sx s₁ p W al h1 hw nd hf => ?_) hs
  obtain ⟨g₁, r₁, hr₁, l₁, S₁, hf₁⟩ := S.into p hw (al 0 _ h1) nd hf
  refine codeAny_forLoop (fun m s' => ∃ k g' vs' ms' r, k ≤ n ∧ m = n - k ∧ Le g g' ∧ St u g' L xs vs' (ms' ++ r) s' ∧ r.map (·.1) = wr ∧ Sx k s'.heap ∧ (∀ b ∈ fp, b ∉ wr → ∃ o, g' b = some o) ∧ J k g' vs' ms') ?_ n ⟨0, g₁, vs, ms, r₁, Nat.zero_le _, rfl, l₁, S₁, hr₁, h1, hf₁, h0 g₁ l₁⟩
  rintro m s' ⟨k, g', vs', ms', r, hk, rfl, l', S', hr, hS, hf', hJ⟩
  by_cases hlt : k < n
  · refine W.item k _ _ _ hlt hS fun v h' tk hP hS' hk' => ?_
    obtain ⟨r', hr', S₂⟩ := S'.rewr (h' := h') (n := tk) (fun b o hb e => hk' b o (hr ▸ hb) e) (by rw [hr]; exact al _ _ hS')
    refine wpAny_assign_Name (st_name en hL S₂ hx fun s₃ S₃ => ?_)
    refine wpAny_mono (turn k v g' vs' ms' r' s₃ hlt hP l' hJ S₃) (fun f s₄ hT => ?_) fun _ _ x => x.elim
    have hS₃ : Sx (k + 1) s₃.heap := W.frame _ _ _ hS' (frame_of S₂ S₃ (Le.refl _) (hr'.trans hr) hf')
    have fin : (∃ g'' vs'' ms'', Le g' g'' ∧ St u g'' L xs vs'' (ms'' ++ r') s₄ ∧ J (k + 1) g'' vs'' ms'') → ∃ m, m < n - k ∧ ∃ k g' vs' ms' r, k ≤ n ∧ m = n - k ∧ Le g g' ∧ St u g' L xs vs' (ms' ++ r) s₄ ∧ r.map (·.1) = wr ∧ Sx k s₄.heap ∧ (∀ b ∈ fp, b ∉ wr → ∃ o, g' b = some o) ∧ J k g' vs' ms' := by
      rintro ⟨g'', vs'', ms'', l'', S₄, hJ'⟩
      exact ⟨n - (k + 1), by omega, k + 1, g'', vs'', ms'', r', hlt, rfl, l'.trans l'', S₄, hr'.trans hr, W.frame _ _ _ hS₃ (frame_of S₃ S₄ l'' (hr'.trans hr) hf'), fun b hb hbw => let ⟨o, h⟩ := hf' b hb hbw; ⟨o, l'' _ _ h⟩, hJ'⟩
    cases f with
    | next => exact fin hT
    | cont => exact fin hT
    | brk => exact hT.elim
    | ret v => exact hT
  · have hkn : k = n := by omega
    subst hkn
    refine W.done _ _ _ hS fun h' tk hk' => ?_
    have S₂ : St u g' L xs vs' ms' { s' with heap := h', toks := tk } := S'.after fun b o hb e => hk' b o (hr ▸ hb) e
    exact wpAny_execs_nil (done g' vs' ms' _ l' hJ S₂)
theorem x_for2 {x y : Str} {px py pt pos : Pos} {kt : Nat} {iter : Expr} {body : List Stmt} {i j n : Nat} {P : Nat → Value → Value → Prop} {Q : Flow → Shared → Prop} {E : Value → Shared → Prop} (J : Nat → Mem → List (Option Value) → List (Addr × Obj) → Prop)
    (hh : A.handled = none) (en : En env xs) (hL : env.locals = L) (S : St u g L xs vs ms s) (hx : xs[i]? = some x) (hy : xs[j]? = some y) (hI : Src2 prog w A iter env s g n P) (h0 : ∀ g', Le g g' → J 0 g' vs ms)
    (turn : ∀ k a b g' vs' ms' r s', k < n → P k a b → Le g g' → J k g' vs' ms' → St u g' L xs ((vs'.set i (some a)).set j (some b)) (ms' ++ r) s' → wpAny (model prog w) A (execs body env) (Turn u L xs g' r (J (k + 1)) Q) (fun _ _ => False) s')
    (done : ∀ g' vs' ms' s', Le g g' → J n g' vs' ms' → St u g' L xs vs' ms' s' → Q .next s')
    (hs : ∀ x, foldedSetIterable iter env x = pure x := by intro; rfl) : wpAny (model prog w) A (exec (.For (.Tuple [.Name x px, .Name y py] kt pt) iter body [] pos) env) Q E s := by
  refine wpAny_For (hI s _ _ (Pu.refl s) fun I fp wr Sx Mid s₁ p W al alM h1 hw nd hf => ?_) hs
  obtain ⟨g₁, r₁, hr₁, l₁, S₁, hf₁⟩ := S.into p hw (al 0 _ h1) nd hf
  refine codeAny_forLoop_any (fun m s' => ∃ k g' vs' ms' r, k ≤ n ∧ m = n - k ∧ Le g g' ∧ St u g' L xs vs' (ms' ++ r) s' ∧ r.map (·.1) = wr ∧ Sx k s'.heap ∧ (∀ b ∈ fp, b ∉ wr → ∃ o, g' b = some o) ∧ J k g' vs' ms') ?_ n ⟨0, g₁, vs, ms, r₁, Nat.zero_le _, rfl, l₁, S₁, hr₁, h1, hf₁, h0 g₁ l₁⟩
  rintro m s' ⟨k, g', vs', ms', r, hk, rfl, l', S', hr, hS, hf', hJ⟩
  by_cases hlt : k < n
  · refine W.item k _ _ _ hlt hS fun T vals h' tk hP hT hM hk' => ?_
    obtain ⟨a, b, rfl, hab⟩ := hP
    obtain ⟨r', hr', S₂⟩ := S'.rewr (h' := h') (n := tk) (fun b o hb e => hk' b o (hr ▸ hb) e) (by rw [hr]; exact alM _ _ _ hM)
    refine W.go _ _ _ k T _ _ _ hM fun h₂ hS₂ hk₂ => ?_
    obtain ⟨r₃, hr₃, S₃⟩ := S₂.rewr (h' := h₂) (n := tk) (fun b o hb e => hk₂ b o (by rw [hr', hr] at hb; exact hb) e) (by rw [hr', hr]; exact al _ _ hS₂)
    have hT₂ : IsTup h₂ T #[a, b] := let ⟨o, h1, h2⟩ := hT; ⟨o, hk₂ _ _ (W.apart _ _ _ hM) h1, h2⟩
    refine assign_Tuple_tuple hh hT₂ rfl rfl fun h₄ he₄ => ?_
    have p₄ : Pu { s' with heap := h₂, toks := tk } { s' with heap := h₄, toks := tk } := ⟨rfl, fun b o e => he₄ b o (Nat.ne_of_lt (Heap.lt_size e)) e⟩
    have S₄ := S₃.up p₄
    refine wpAny_bind (wpAny_holding (wpAny_assign_Name (st_name en hL S₄ hx fun s₅ S₅ => ?_)))
    refine wpAny_bind (wpAny_holding (wpAny_assign_Name (st_name en hL S₅ hy fun s₆ S₆ => wpAny_pure ?_)))
    refine wpAny_mono (turn k a b g' vs' ms' r₃ s₆ hlt hab l' hJ S₆) (fun f s₇ hT => ?_) fun _ _ x => x.elim
    have hrr : r₃.map (·.1) = wr := (hr₃.trans hr').trans hr
    have hS₆ : Sx (k + 1) s₆.heap := W.frame _ _ _ hS₂ (frame_of S₃ S₆ (Le.refl _) hrr hf')
    have fin : (∃ g'' vs'' ms'', Le g' g'' ∧ St u g'' L xs vs'' (ms'' ++ r₃) s₇ ∧ J (k + 1) g'' vs'' ms'') → ∃ m, m < n - k ∧ ∃ k g' vs' ms' r, k ≤ n ∧ m = n - k ∧ Le g g' ∧ St u g' L xs vs' (ms' ++ r) s₇ ∧ r.map (·.1) = wr ∧ Sx k s₇.heap ∧ (∀ b ∈ fp, b ∉ wr → ∃ o, g' b = some o) ∧ J k g' vs' ms' := by
      rintro ⟨g'', vs'', ms'', l'', S₇, hJ'⟩
      exact ⟨n - (k + 1), by omega, k + 1, g'', vs'', ms'', r₃, hlt, rfl, l'.trans l'', S₇, hrr, W.frame _ _ _ hS₆ (frame_of S₆ S₇ l'' hrr hf'), fun b hb hbw => let ⟨o, h⟩ := hf' b hb hbw; ⟨o, l'' _ _ h⟩, hJ'⟩
    cases f with
    | next => exact fin hT
    | cont => exact fin hT
    | brk => exact hT.elim
    | ret v => exact hT
  · have hkn : k = n := by omega
    subst hkn
    refine W.done _ _ _ hS fun h' tk hk' => ?_
    have S₂ : St u g' L xs vs' ms' { s' with heap := h', toks := tk } := S'.after fun b o hb e => hk' b o (hr ▸ hb) e
    exact wpAny_execs_nil (done g' vs' ms' _ l' hJ S₂)
end
end Mine
namespace Mine
section
variable {prog : Program} {w : World} {A : Around} {env : Env} {s₀ : Shared}
variable {u s s' : Shared} {g : Mem} {L : Addr} {xs : List Str} {vs : List (Option Value)} {ms r : List (Addr × Obj)} {mg mb : Str → Option Value}
-- arguments
def AllP : List (Value → Mem → Prop) → List Value → Mem → Prop
  | [], [], _ => True
  | P :: Ps, v :: vs, g => P v g ∧ AllP Ps vs g
  | _, _, _ => False
def Mono (P : Value → Mem → Prop) : Prop := ∀ v g g', Le g g' → P v g → P v g'
theorem mono_of (P : Value → Prop) : Mono (fun v _ => P v) := fun _ _ _ _ h => h
theorem mono_I {a : Int} : Mono (isI a) := fun _ _ _ _ h => h
theorem mono_S {a : Str} : Mono (isS a) := fun _ _ _ _ h => h
theorem mono_B {a : Array UInt8} : Mono (isB a) := fun _ _ _ _ h => h
theorem mono_V {a : Value} : Mono (isV a) := fun _ _ _ _ h => h
theorem AllP.mono : ∀ {Ps : List (Value → Mem → Prop)} {vs : List Value} {g g' : Mem}, (∀ P ∈ Ps, Mono P) → Le g g' → AllP Ps vs g → AllP Ps vs g'
  | [], [], _, _, _, _, _ => trivial
  | _ :: _, _ :: _, _, _, hm, l, h => ⟨hm _ (.head _) _ _ _ l h.1, AllP.mono (fun P hP => hm P (.tail _ hP)) l h.2⟩
  | [], _ :: _, _, _, _, _, h => h.elim
  | _ :: _, [], _, _, _, _, h => h.elim
theorem AllP.one {P : Value → Mem → Prop} {l : List Value} (h : AllP [P] l g) : ∃ a, l = [a] ∧ P a g := by
  match l, h with
  | [a], h => exact ⟨a, rfl, h.1⟩
  | _ :: _ :: _, h => exact h.2.elim
theorem AllP.two {P P' : Value → Mem → Prop} {l : List Value} (h : AllP [P, P'] l g) : ∃ a b, l = [a, b] ∧ P a g ∧ P' b g := by
  match l, h with
  | [_], h => exact h.2.elim
  | [a, b], h => exact ⟨a, b, rfl, h.1, h.2.1⟩
  | _ :: _ :: _ :: _, h => exact h.2.2.elim
theorem AllP.three {P P' P'' : Value → Mem → Prop} {l : List Value} (h : AllP [P, P', P''] l g) : ∃ a b c, l = [a, b, c] ∧ P a g ∧ P' b g ∧ P'' c g := by
  match l, h with
  | [_], h => exact h.2.elim
  | [_, _], h => exact h.2.2.elim
  | [a, b, c], h => exact ⟨a, b, c, rfl, h.1, h.2.1, h.2.2.1⟩
  | _ :: _ :: _ :: _ :: _, h => exact h.2.2.2.elim
def EvAll (prog : Program) (w : World) (A : Around) (ts : List (Sem Value)) (s₀ : Shared) (Ps : List (Value → Mem → Prop)) : Prop :=
  (∀ P ∈ Ps, Mono P) ∧ ∀ s (Q : List Value → Shared → Prop) (E : Value → Shared → Prop), Pu s₀ s → (∀ vs s', Pu s s' → AllP Ps vs (fresh s.heap s'.heap) → Q vs s') → wpAny (model prog w) A (spliced (ts.map fun t => (false, t))) Q E s
theorem ea_nil : EvAll prog w A [] s₀ [] := ⟨fun _ h => (nomatch h), fun s _ _ _ k => Calls.spliced_nil (k [] s (Pu.refl s) trivial)⟩
theorem ea_cons {t : Sem Value} {ts : List (Sem Value)} {P : Value → Mem → Prop} {Ps : List (Value → Mem → Prop)} (h : Ev prog w A t s₀ P) (m : Mono P) (hs : EvAll prog w A ts s₀ Ps) : EvAll prog w A (t :: ts) s₀ (P :: Ps) :=
  ⟨fun P' hP => (List.mem_cons.mp hP).elim (fun e => e ▸ m) (hs.1 P'), fun s Q E p k => by
    refine Calls.spliced_cons (h s _ _ p fun v s₁ p₁ hv => hs.2 s₁ _ _ (p.trans p₁) fun vs s₂ p₂ hvs => ?_)
    exact k _ _ (p₁.trans p₂) ⟨m _ _ _ (Pu.fresh_le p₂) hv, AllP.mono hs.1 (Pu.fresh_le' p₁) hvs⟩⟩
theorem ea1 {t : Sem Value} {P : Value → Mem → Prop} (h : Ev prog w A t s₀ P) (m : Mono P) : EvAll prog w A [t] s₀ [P] := ea_cons h m ea_nil
theorem ea2 {t t' : Sem Value} {P P' : Value → Mem → Prop} (h : Ev prog w A t s₀ P) (m : Mono P) (h' : Ev prog w A t' s₀ P') (m' : Mono P') : EvAll prog w A [t, t'] s₀ [P, P'] := ea_cons h m (ea1 h' m')
theorem ea3 {t t' t'' : Sem Value} {P P' P'' : Value → Mem → Prop} (h : Ev prog w A t s₀ P) (m : Mono P) (h' : Ev prog w A t' s₀ P') (m' : Mono P') (h'' : Ev prog w A t'' s₀ P'') (m'' : Mono P'') : EvAll prog w A [t, t', t''] s₀ [P, P', P''] := ea_cons h m (ea2 h' m' h'' m'')
/-- f, called with such arguments, gives such a value, and adds alone -/
def Cl (prog : Program) (w : World) (A : Around) (f : Value) (s₀ : Shared) (Ps : List (Value → Mem → Prop)) (P : Value → Mem → Prop) : Prop :=
  ∀ l s (Q : Value → Shared → Prop) (E : Value → Shared → Prop) g, Pu s₀ s → Le g s.heap.get? → AllP Ps l g → (∀ v s', Pu s s' → P v (fresh s.heap s'.heap) → Q v s') → wpAny (model prog w) A (call f l []) Q E s
/-- f is of a kind that may be called -/
def Kept (prog : Program) (w : World) (f : Value) (h₀ : Heap) : Prop :=
  ∀ h : Heap, (∀ b o, h₀.get? b = some o → h.get? b = some o) → ∃ k, (k = Keeper.frame ∨ k = Keeper.machine ∨ k = Keeper.boundFrame) ∧ Looks (model prog w) h (keeperOf f) k
theorem kept_builtin {id : String} {h : Heap} : Kept prog w (.builtin id) h := fun _ _ => ⟨_, .inr (.inl rfl), Looks.of_pure rfl⟩
theorem kept_type {T : String} {h : Heap} : Kept prog w (.type T) h := fun _ _ => ⟨_, .inr (.inl rfl), Looks.of_pure rfl⟩
theorem kept_func {f : Addr} {o : Obj} {fd : FuncData} {h : Heap} (ho : h.get? f = some o) (hd : o.data = .func fd) : Kept prog w (.ref f) h := fun h' k =>
  ⟨_, .inl rfl, fun A Q E s k' q => by
    unfold keeperOf
    refine wpAny_bind (wpAny_load (k' _ _ (k _ _ ho)) ?_)
    rw [hd]; exact wpAny_pure q⟩
theorem backTo_plain {pos : Pos} {l : List (Sem Value)} : backTo pos (l.map fun t => (false, t)) = l.map fun t => (false, t) := by
  unfold backTo; rw [List.map_map]; rfl
/-- a call's tail, its arguments reckoned -/
theorem call_tail {pos : Pos} {f : Value} {first : List Value} {es : List Expr} {t₀ : Sem Value} {ts : List (Sem Value)} {Ps : List (Value → Mem → Prop)} {Q : Value → Shared → Prop} {E : Value → Shared → Prop} (p : Pu s₀ s) (hk : Kept prog w f s₀.heap) (ha : EvAll prog w A (t₀ :: ts) s₀ Ps)
    (hs : starEach es env = (t₀ :: ts).map fun t => (false, t)) (k : ∀ l s', Pu s s' → AllP Ps l (fresh s.heap s'.heap) → wpAny (model prog w) A (call f (first ++ l) []) Q E s') :
    wpAny (model prog w) A (callWith pos f first (backTo pos (starEach es env)) []) Q E s := by
  rw [hs, backTo_plain]
  refine callWith_of (P := fun h => ∀ b o, s₀.heap.get? b = some o → h.get? b = some o) ?_ (fun h q => hk h q) ?_
  · rw [List.any_map]; show (List.any _ (fun _ => false) || false) = false
    rw [Bool.or_false, List.any_eq_false]; exact fun _ _ => Bool.false_ne_true
  · refine evalArgs_kw rfl (ha.2 s _ _ p fun l s' p' hl => wpAny_evalAll_nil ⟨(p.trans p').keep, ?_⟩)
    exact k l s' p' hl
abbrev evs (es : List Expr) (env : Env) : List (Sem Value) := es.map fun e => eval e env
theorem ev_call {x : Str} {np pos : Pos} {f : Value} {e₀ : Expr} {es : List Expr} {Ps : List (Value → Mem → Prop)} {P : Value → Mem → Prop} (hf : Ev prog w A (eval (.Name x np) env) s₀ (isV f)) (hk : Kept prog w f s₀.heap)
    (ha : EvAll prog w A (eval e₀ env :: evs es env) s₀ Ps) (m : Mono P) (C : Cl prog w A f s₀ Ps P) (hs : starEach (e₀ :: es) env = (eval e₀ env :: evs es env).map fun t => (false, t) := by rfl) : Ev prog w A (eval (.Call (.Name x np) (e₀ :: es) [] pos) env) s₀ P := fun s Q E p k => by
  refine wpAny_Call_NameR (hf s _ _ p fun v s₁ p₁ hv => ?_)
  cases hv
  refine call_tail (p.trans p₁) hk ha hs fun l s₂ p₂ hl => C l s₂ _ _ _ ((p.trans p₁).trans p₂) fresh_le hl fun v s₃ p₃ hv => ?_
  exact k v s₃ ((p₁.trans p₂).trans p₃) (m _ _ _ (Pu.fresh_le' (p₁.trans p₂)) hv)
abbrev impB (o : Expr) (env : Env) : Sem Bool := do return (← importBound o env).getD true
/-- o.name(es), o no object -/
theorem ev_meth {o : Expr} {name : Str} {apos pos : Pos} {f : Value} {e₀ : Expr} {es : List Expr} {P₀ : Value → Prop} {Ps : List (Value → Mem → Prop)} {P : Value → Mem → Prop} (ho : Ev prog w A (eval o env) s₀ (fun v _ => P₀ v))
    (hg : ∀ v s (Q : Value × List Value → Shared → Prop) (E : Value → Shared → Prop), P₀ v → Pu s₀ s → Q (f, [v]) s → wpAny (model prog w) A (getMethod v name (impB o env)) Q E s) (hk : Kept prog w f s₀.heap)
    (ha : EvAll prog w A (eval e₀ env :: evs es env) s₀ Ps) (m : Mono P) (C : Cl prog w A f s₀ ((fun v _ => P₀ v) :: Ps) P) (hs : starEach (e₀ :: es) env = (eval e₀ env :: evs es env).map fun t => (false, t) := by rfl)
    (he : eval (.Call (.Attribute o name apos) (e₀ :: es) [] pos) env = (do
      let ov ← eval o env
      standAt apos.atName
      let (f, first) ← holding [ov] (getMethod ov name (impB o env))
      callWith pos f first (backTo pos (starEach (e₀ :: es) env)) []) := by rfl) : Ev prog w A (eval (.Call (.Attribute o name apos) (e₀ :: es) [] pos) env) s₀ P := fun s Q E p k => by
  refine MethodCall_  (ho s _ _ p fun v s₁ p₁ hv => hg v s₁ _ _ hv (p.trans p₁) ?_) he
  refine call_tail (p.trans p₁) hk ha hs fun l s₂ p₂ hl => C (v :: l) s₂ _ _ _ ((p.trans p₁).trans p₂) fresh_le ⟨hv, hl⟩ fun v s₃ p₃ hv => ?_
  exact k v s₃ ((p₁.trans p₂).trans p₃) (m _ _ _ (Pu.fresh_le' (p₁.trans p₂)) hv)
/-- the text's def stands at f -/
def FnAt (h : Heap) (f : Addr) (name : Str) (params : Arguments) (body : List Stmt) (scope : Scope) (dV kV : Value) : Prop :=
  ∃ o doc pm an cdv ct, h.get? f = some o ∧ o.data = .func (fnOf name name params body scope dV kV doc pm an cdv ct) ∧ h.CodeRec cdv name
theorem FnAt.keeps {h h' : Heap} {f : Addr} {name : Str} {params : Arguments} {body : List Stmt} {scope : Scope} {dV kV : Value} (F : FnAt h f name params body scope dV kV) (k : ∀ b o, h.get? b = some o → h'.get? b = some o) : FnAt h' f name params body scope dV kV :=
  let ⟨o, doc, pm, an, cdv, ct, a, b, c⟩ := F; ⟨o, doc, pm, an, cdv, ct, k _ _ a, b, c.keeps k⟩
theorem FnAt.kept {h : Heap} {f : Addr} {name : Str} {params : Arguments} {body : List Stmt} {scope : Scope} {dV kV : Value} (F : FnAt h f name params body scope dV kV) : Kept prog w (.ref f) h :=
  let ⟨_, _, _, _, _, _, a, b, _⟩ := F; kept_func a b
theorem size_none {h : Heap} {a : Addr} (ha : h.objs.size ≤ a) : h.get? a = none := by
  cases e : h.get? a with
  | none => rfl
  | some o => exact absurd (Heap.lt_size e) (Nat.not_lt.mpr ha)
/-- a call of a def without cells: the body from its first state -/
theorem fn_plain {k : Nat} {f : Addr} {name : Str} {params : Arguments} {body : List Stmt} {scope : Scope} {dV kV : Value} {l : List Value} {kw : List (Str × Value)} {binds : List (Str × Value)} {Q : Value → Shared → Prop} {E : Value → Shared → Prop}
    (R : Rm k A) (lim : s.heap.NoLimit) (F : FnAt s.heap f name params body scope dV kV) (hbind : ∀ doc pm an cdv ct, BindsTo s (fnOf name name params body scope dV kV doc pm an cdv ct) ⟨l, kw⟩ binds)
    (hcell : ∀ x ∈ scope.names, x.2 ≠ .cell) (hloc : ∀ x ∈ binds, scope.names.lookup x.1 = some .local) (ha : Agree (fun y => binds.reverse.lookup y) xs vs)
    (h : ∀ L cdv s', St s s.heap.get? L xs vs [] s' → wpAny (model prog w) (A.deeper (envOf name scope L f cdv)) (execs body (envOf name scope L f cdv)) (fun fl s' => Pu s s' ∧ Q (match fl with | .ret v => v | _ => .none) s') (fun _ _ => False) s')
    (hco : scope.isCoroutine = false := by rfl) (hgen : scope.isGenerator = false := by rfl) (hk : scope.kind = .function := by rfl) : wpAny (model prog w) A (call (.ref f) l kw) Q E s := by
  obtain ⟨o, doc, pm, an, cdv, ct, ho, hd, hcd⟩ := F
  refine wpAny_call (codeAny_call_def (fd := fnOf name name params body scope dV kV doc pm an cdv ct) (body := body) R.room ho hd lim hcd rfl (hbind doc pm an cdv ct) hcell hloc (fun h₀ hn hk₀ => ?_) hco hgen hk)
  refine wpAny_mono (h s.heap.objs.size cdv _ ⟨rfl, ⟨_, hn, ha⟩, hk₀, Le.refl _, size_none (Nat.le_refl _), (fun _ h => nomatch h), .nil⟩) (fun fl s' hq => hq.2) fun _ _ x => x.elim
end
end Mine
namespace Mine
section
variable {prog : Program} {w : World} {A : Around} {env : Env} {s₀ : Shared}
variable {u s s' : Shared} {g : Mem} {L : Addr} {xs : List Str} {vs : List (Option Value)} {ms r : List (Addr × Obj)} {mg mb : Str → Option Value}
abbrev lobj (ys : Array Value) (k : Nat) : Obj := { cls := .type "list", data := .seq ys k }
/-- the part of g that is new against h -/
def fr (h : Heap) (g : Mem) : Mem := fun b => if (h.get? b).isSome then none else g b
theorem fr_le {h : Heap} {g : Mem} : Le (fr h g) g := fun b o e => by
  unfold fr at e; split at e
  · cases e
  · exact e
theorem fr_new {h : Heap} {g : Mem} {b : Addr} {o : Obj} (e : fr h g b = some o) : h.get? b = none := by
  unfold fr at e; split at e
  · cases e
  · rename_i q; cases hh : h.get? b with
    | none => rfl
    | some x => rw [hh] at q; exact absurd rfl q
theorem fr_of {h : Heap} {g : Mem} {b : Addr} {o : Obj} (e : h.get? b = none) (e' : g b = some o) : fr h g b = some o := by
  unfold fr; rw [if_neg (by rw [e]; exact Bool.false_ne_true)]; exact e'
theorem fr_up {h : Heap} {g g' : Mem} (l : Le g g') : Le (fr h g) (fr h g') := fun _ _ e => fr_of (fr_new e) (l _ _ (fr_le _ _ e))
theorem St.fr_fresh (S : St u g L xs vs ms s) : Le (fr u.heap g) (fresh u.heap s.heap) := fun _ _ e => fresh_of (fr_new e) (S.gk _ _ (fr_le _ _ e))
theorem fresh_fr {g' : Mem} (S : St u g L xs vs ms s) (h : Le (fresh s.heap s'.heap) g') : Le (fresh s.heap s'.heap) (fr u.heap g') := fun b o e => by
  refine fr_of ?_ (h _ _ e)
  cases q : u.heap.get? b with
  | none => rfl
  | some x => have := S.ukeep _ _ q; rw [fresh_new e] at this; cases this
-- comprehensions
abbrev tests (ifs : List Expr) (env : Env) : Sem Bool := forIn ifs true fun c r => if r = true then do let ok ← isTrue c env (eval c env); pure (ForInStep.yield ok) else pure (ForInStep.yield r)
theorem eb_nil : Eb prog w A (tests [] env) s₀ true := fun s _ _ _ k => wpAny_tests_nil (k s (Pu.refl s))
theorem cl_raw {elt target iter : Expr} {ifs : List Expr} {scope : Scope} {pos : Pos} {it acc : Value} {R : Result → Shared → Prop} (I : Nat → Shared → Prop)
    (turn : ∀ n s, I n s → wpAny (model prog w) A (pyNext it) (fun r s₁ => match r with
      | none => R (.ok .next) s₁
      | some v => wpAny (model prog w) A (letOwnedTupleGo target it v) (fun _ s₁' => wpAny (model prog w) A (assign target env v) (fun _ s₂ =>
          wpAny (model prog w) A (tests ifs env) (fun ok s₃ =>
            if ok = true then wpAny (model prog w) A (eval elt env) (fun x s₄ =>
              wpAny (model prog w) A (call (.builtin "list.append") [acc, x]) (fun _ s₅ => ∃ m, m < n ∧ I m s₅) (fun _ _ => False) s₄) (fun _ _ => False) s₃
            else ∃ m, m < n ∧ I m s₃) (fun _ _ => False) s₂) (fun _ _ => False) s₁') (fun _ _ => False) s₁) (fun _ _ => False) s)
    (n : Nat) (h : I n s) : codeAny (model prog w) A (.compLoop (.ListComp elt [⟨target, iter, ifs, 0⟩] scope pos) 0 it acc env) R s := by
  have nf : ∀ {α : Type} {t : Sem α} {Q : α → Shared → Prop} {E : Value → Shared → Prop} {s : Shared}, wpAny (model prog w) A t Q (fun _ _ => False) s → wpAny (model prog w) A t Q E s := fun h => wpAny_mono h (fun _ _ x => x) fun _ _ x => x.elim
  refine codeAny_loop rfl I (fun n s hI => ?_) n h
  show wpAny _ A ((compTurn (.ListComp elt [⟨target, iter, ifs, 0⟩] scope pos) 0 it acc env).onRaise (fun x => do noteFrame x env; theTreesLotGoes x)) _ _ s
  refine wpAny_noted ?_
  rw [compTurn_list]
  refine wpAny_bind (wpAny_standAt (wpAny_bind (nf (wpAny_mono (turn n s hI) (fun r s₁ h₁ => ?_) fun _ _ h' => h'))))
  cases r with
  | none => exact wpAny_pure h₁
  | some v =>
    refine wpAny_bind (nf (wpAny_mono h₁ (fun _ s₁' h₁' => ?_) fun _ _ h' => h'))
    refine wpAny_bind (nf (wpAny_mono h₁' (fun _ s₂ h₂ => wpAny_bind (nf (wpAny_mono h₂ (fun ok s₃ h₃ => ?_) fun _ _ h' => h'))) fun _ _ h' => h'))
    cases ok with
    | false => exact wpAny_pure ⟨rfl, h₃⟩
    | true =>
      exact wpAny_bind (wpAny_bind (nf (wpAny_mono h₃ (fun x s₄ h₄ => wpAny_bind (nf (wpAny_mono h₄ (fun _ s₅ h₅ => wpAny_pure (wpAny_pure ⟨rfl, h₅⟩)) fun _ _ h' => h'))) fun _ _ h' => h')))
/-- one value is put onto the list that is made -/
theorem st_append {D : Addr} {ys : Array Value} {k i : Nat} {v : Value} {Q : Value → Shared → Prop} {E : Value → Shared → Prop} (S : St u g L xs vs ms s) (hi : ms[i]? = some (D, lobj ys k)) (hz : ys.size ≤ sizeLine)
    (h : ∀ k' s', St u g L xs vs (ms.set i (D, lobj (ys.push v) k')) s' → Q .none s') : wpAny (model prog w) A (call (.builtin "list.append") [.ref D, v]) Q E s := by
  refine wpAny_list_append_plain (hsz := hz) ⟨k, (S.own _ (List.mem_of_getElem? hi)).1⟩ fun h' hp hs => ?_
  obtain ⟨k', hk'⟩ := hp
  exact h k' _ (S.turn (n := s.toks) hi hs hk')
/-- the state in which a comprehension's loop begins -/
theorem comp_begin {scope : Scope} {cl : List (Str × Addr)} {Q : Value → Env → Shared → Prop} {E : Value → Shared → Prop} {fp wr : List Addr} (p : Pu s s') (hcell : ∀ y ∈ scope.names, y.2 ≠ .cell) (hkind : scope.kind = .function)
    (hw : ∀ b ∈ wr, s.heap.get? b = none) (al : ∀ b ∈ wr, (s'.heap.get? b).isSome = true) (nd : wr.Nodup) (hf : ∀ b ∈ fp, b ∉ wr → (∃ o, s.heap.get? b = some o) ∨ (∃ o, fresh s.heap s'.heap b = some o))
    (h : ∀ D C g r k₀ s'', r.map (·.1) = wr → Pu s' s'' → St s g C xs (xs.map fun _ => none) ((D, lobj #[] k₀) :: r) s'' → (∀ b ∈ fp, b ∉ wr → ∃ o, g b = some o) →
      Q (.ref D) { newEnv scope C env.globals cl env.qual none .none (some env) env.builtins with scope := relabel scope env } s'') :
    wpAny (model prog w) A (newList []) (fun acc s₃ => wpAny (model prog w) A (newFunctionEnv scope env.globals cl [] env.qual none .none (some env)) (fun cenv s₄ => Q acc { cenv with scope := relabel scope env } s₄) E s₃) E s' := by
  refine wpAny_newObj_type (wpAny_newFunctionEnv hcell (by intro y hy; simp at hy) (fun h₁ hns₁ hsb₁ => ?_) hkind)
  dsimp only at hns₁ hsb₁ ⊢
  generalize hH2 : s'.heap.push { cls := .type "list", dict := none, data := .seq ([] : List Value).toArray } = H2 at hns₁ hsb₁ ⊢
  have hC : H2.objs.size = s'.heap.objs.size + 1 := by rw [← hH2, Heap.size_push]
  have hDC : s'.heap.objs.size ≠ H2.objs.size := by rw [hC]; exact Nat.ne_of_lt (Nat.lt_succ_self _)
  have below : ∀ b o, s'.heap.get? b = some o → b ≠ H2.objs.size ∧ b ≠ s'.heap.objs.size := fun b o e => ⟨by rw [hC]; exact Nat.ne_of_lt (Nat.lt_succ_of_lt (Heap.lt_size e)), Nat.ne_of_lt (Heap.lt_size e)⟩
  have old : ∀ b o, s'.heap.get? b = some o → h₁.get? b = some o := fun b o e => hsb₁.extBut b o (below b o e).1 (Heap.get?_push_of_some _ (hH2 ▸ Heap.get?_push_of_some _ e))
  have hacc : h₁.get? s'.heap.objs.size = some (lobj #[] 0) := hsb₁.extBut _ _ hDC (Heap.get?_push_of_some _ (hH2 ▸ Heap.get?_push_size _ rfl))
  have e : (wr.map fun b => (b, (s'.heap.get? b).getD default)).map (·.1) = wr := by rw [List.map_map]; exact List.map_id _
  have alw : ∀ b ∈ wr, s'.heap.get? b = some ((s'.heap.get? b).getD default) := fun b hb => by
    have := al b hb
    cases hh : s'.heap.get? b with
    | none => rw [hh] at this; cases this
    | some o => rfl
  have hC' : s.heap.get? H2.objs.size = none := by
    cases q : s.heap.get? H2.objs.size with
    | none => rfl
    | some o => exact absurd rfl (below _ _ (p.keep _ _ q)).1
  have hD' : s.heap.get? s'.heap.objs.size = none := by
    cases q : s.heap.get? s'.heap.objs.size with
    | none => rfl
    | some o => exact absurd rfl (below _ _ (p.keep _ _ q)).2
  refine h s'.heap.objs.size H2.objs.size (fun b => if b = H2.objs.size ∨ b = s'.heap.objs.size ∨ b ∈ wr then none else h₁.get? b) (wr.map fun b => (b, (s'.heap.get? b).getD default)) 0 _ e ⟨rfl, old⟩ ?_ ?_
  · refine ⟨(p.trans ⟨rfl, old⟩ : Pu s { s' with heap := h₁, toks := s'.toks + 0 }).same, ⟨_, hns₁, ?_⟩, fun b o q => ?_, fun b o q => ?_, if_pos (.inl rfl), fun q hq => ?_, ?_⟩
    · clear h
      induction xs with
      | nil => trivial
      | cons x xs ih => exact ⟨rfl, ih⟩
    · have q' : (if b = H2.objs.size ∨ b = s'.heap.objs.size ∨ b ∈ wr then none else h₁.get? b) = some o := q
      split at q'
      · cases q'
      · exact q'
    · show (if _ then _ else _) = _
      rw [if_neg]
      · exact old _ _ (p.keep _ _ q)
      · rintro (rfl | rfl | hb)
        · rw [hC'] at q; cases q
        · rw [hD'] at q; cases q
        · rw [hw b hb] at q; cases q
    · rcases List.mem_cons.mp hq with rfl | hq
      · exact ⟨hacc, hDC, if_pos (.inr (.inl rfl))⟩
      · obtain ⟨b, hb, rfl⟩ := List.mem_map.mp hq
        exact ⟨old _ _ (alw b hb), (below _ _ (alw b hb)).1, if_pos (.inr (.inr hb))⟩
    · rw [List.map_cons, e]
      exact List.nodup_cons.mpr ⟨fun hb => (below _ _ (alw _ hb)).2 rfl, nd⟩
  · intro b hb hbw
    have : ∃ o, s'.heap.get? b = some o := (hf b hb hbw).elim (fun ⟨o, q⟩ => ⟨o, p.keep _ _ q⟩) fun ⟨o, q⟩ => ⟨o, fresh_le _ _ q⟩
    obtain ⟨o, q⟩ := this
    refine ⟨o, ?_⟩
    show (if _ then _ else _) = _
    rw [if_neg]
    · exact old _ _ q
    · rintro (rfl | rfl | hb')
      · exact (below _ _ q).1 rfl
      · exact (below _ _ q).2 rfl
      · exact hbw hb'
/-- a turn of a comprehension: from the state behind the targets' stores -/
def CTurn (prog : Program) (w : World) (A : Around) (u : Shared) (C D : Addr) (xs : List Str) (ifs : List Expr) (elt : Expr) (cenv : Env) (J : Array Value → Mem → Prop) (J' : Array Value → Mem → Prop) (ys : Array Value) (vs : List (Option Value)) : Prop :=
  ∀ g r k s, J ys (fr u.heap g) → St u g C xs vs ((D, lobj ys k) :: r) s → ∃ ok, Eb prog w A (tests ifs cenv) s ok ∧
    (ok = true → Ev prog w A (eval elt cenv) s (fun y f => ∀ f', Le (fr u.heap g) f' → Le f f' → J' (ys.push y) f')) ∧ (ok = false → ∀ f', Le (fr u.heap g) f' → J' ys f')
theorem cturn_run {C D : Addr} {ifs : List Expr} {elt : Expr} {J J' : Array Value → Mem → Prop} {ys : Array Value} {k : Nat} {Q : Shared → Prop} (T : CTurn prog w A u C D xs ifs elt env J J' ys vs) (S : St u g C xs vs ((D, lobj ys k) :: r) s) (hJ : J ys (fr u.heap g)) (hz : ys.size ≤ sizeLine)
    (h : ∀ g' ys' k' s', Le g g' → ys'.size ≤ ys.size + 1 → J' ys' (fr u.heap g') → St u g' C xs vs ((D, lobj ys' k') :: r) s' → Q s') :
    wpAny (model prog w) A (tests ifs env) (fun ok s₃ =>
            if ok = true then wpAny (model prog w) A (eval elt env) (fun x s₄ =>
              wpAny (model prog w) A (call (.builtin "list.append") [.ref D, x]) (fun _ s₅ => Q s₅) (fun _ _ => False) s₄) (fun _ _ => False) s₃
            else Q s₃) (fun _ _ => False) s := by
  obtain ⟨ok, ht, h1, h2⟩ := T g r k s hJ S
  refine ht s _ _ (Pu.refl s) fun s₃ p₃ => ?_
  cases ok with
  | false =>
    rw [if_neg Bool.false_ne_true]
    exact h g ys k s₃ (Le.refl _) (Nat.le_succ _) (h2 rfl _ (Le.refl _)) (S.up p₃)
  | true =>
    rw [if_pos rfl]
    refine h1 rfl s₃ _ _ p₃ fun y s₄ p₄ hy => ?_
    obtain ⟨g', l, hg, S₄⟩ := (S.up p₃).grow p₄ [] (fun _ q => nomatch q) .nil
    refine st_append (i := 0) S₄ rfl hz fun k' s₅ S₅ => ?_
    exact h g' (ys.push y) k' s₅ l (by rw [Array.size_push]; exact Nat.le_refl _) (hy _ (fr_up l) (fresh_fr (S.up p₃) fun b o e => hg b o e (fun q => nomatch q))) S₅
/-- what a comprehension gives -/
def isLst (J : Array Value → Mem → Prop) : Value → Mem → Prop := fun v f => ∃ a ys k, v = .ref a ∧ f a = some (lobj ys k) ∧ J ys f
theorem mono_lst {J : Array Value → Mem → Prop} (m : ∀ ys f f', Le f f' → J ys f → J ys f') : Mono (isLst J) := fun _ _ _ l ⟨a, ys, k, e, h, j⟩ => ⟨a, ys, k, e, l _ _ h, m _ _ _ l j⟩
theorem compStart_list {elt target iter : Expr} {ifs : List Expr} {rest : List Comprehension} {scope : Scope} {pos : Pos} {it acc : Value} {R : Result → Shared → Prop}
    (h0 : codeAny (model prog w) A (.compLoop (.ListComp elt (⟨target, iter, ifs, 0⟩ :: rest) scope pos) 0 it acc env) R s)
    (h : ∀ (Q : Value → Shared → Prop) (E : Value → Shared → Prop), Q it s → wpAny (model prog w) A (pyIter it) Q E s) :
    codeAny (model prog w) A (.compStart (.ListComp elt (⟨target, iter, ifs, 0⟩ :: rest) scope pos) 0 it acc env) R s := codeAny_compStart_list h0 (h _ _ h0)
/-- the names of a comprehension's frame -/
structure Ce (scope : Scope) (xs : List Str) : Prop where
  fn : scope.kind = .function
  loc : ∀ x ∈ xs, scope.names.lookup x = some .local
  nd : xs.Nodup
  nodbg : ∀ x ∈ xs, (x == ("__debug__" : Str)) = false
  nocell : ∀ y ∈ scope.names, y.2 ≠ .cell
  names : ∀ y ∈ scope.names, y.2 = .local → scope.names.lookup y.1 = some .local
theorem Ce.en {scope : Scope} {cl : List (Str × Addr)} {C : Addr} (c : Ce scope xs) (hg : env.globals = mainGlobals) (hb : env.builtins = builtinsNs) : En (compEnvC scope cl C env) xs :=
  ⟨c.fn, fun x hx => lookup_relabel_local (c.loc x hx), c.nd, c.nodbg, hg, hb⟩
theorem comp_loop1 {elt iter : Expr} {x : Str} {px : Pos} {ifs : List Expr} {scope : Scope} {pos : Pos} {cl : List (Str × Addr)} {C D I : Addr} {fp wr : List Addr} {n i : Nat} {P : Nat → Value → Prop} {Sx : Nat → Heap → Prop} {k₀ : Nat} {Q : Shared → Prop}
    (J : Nat → Array Value → Mem → Prop) (c : Ce scope xs) (hg : env.globals = mainGlobals) (hb : env.builtins = builtinsNs) (hx : xs[i]? = some x) (W : Walks prog w A I fp wr n P Sx) (al : ∀ i h, Sx i h → ∀ b ∈ wr, (h.get? b).isSome = true) (hn : n ≤ sizeLine)
    (S : St u g C xs (xs.map fun _ => none) ((D, lobj #[] k₀) :: r) s) (hr : r.map (·.1) = wr) (h0 : Sx 0 s.heap) (hf : ∀ b ∈ fp, b ∉ wr → ∃ o, g b = some o) (hJ : J 0 #[] (fr u.heap g))
    (turn : ∀ k v ys, k < n → P k v → CTurn prog w A u C D xs ifs elt (compEnvC scope cl C env) (J k) (J (k + 1)) ys ((xs.map fun _ => none).set i (some v)))
    (done : ∀ g' vs ys k' s', Le g g' → J n ys (fr u.heap g') → St u g' C xs vs [(D, lobj ys k')] s' → Q s') :
    codeAny (model prog w) A (.compStart (.ListComp elt [⟨.Name x px, iter, ifs, 0⟩] scope pos) 0 (.ref I) (.ref D) (compEnvC scope cl C env)) (fun r s' => match r with | .ok _ => Q s' | .error _ => False) s := by
  have en : En (compEnvC scope cl C env) xs := c.en hg hb
  have hset : ∀ vs : List (Option Value), ((∀ j : Nat, j ≠ i → vs[j]? = (xs.map fun _ => (none : Option Value))[j]?) ∧ vs.length = xs.length) → ∀ v, vs.set i (some v) = (xs.map fun _ => none).set i (some v) := fun vs hv v => by
    refine List.ext_getElem? fun j => ?_
    rw [List.getElem?_set, List.getElem?_set]
    split
    · rename_i e; subst e; rw [hv.2, List.length_map]
    · rename_i e; exact hv.1 j (Ne.symm e)
  refine compStart_list (cl_raw (fun m s' => ∃ k g' vs ys k' r, k ≤ n ∧ m = n - k ∧ Le g g' ∧ ys.size ≤ k ∧ ((∀ j : Nat, j ≠ i → vs[j]? = (xs.map fun _ => (none : Option Value))[j]?) ∧ vs.length = xs.length) ∧ St u g' C xs vs ((D, lobj ys k') :: r) s' ∧ r.map (·.1) = wr ∧ Sx k s'.heap ∧ (∀ b ∈ fp, b ∉ wr → ∃ o, g' b = some o) ∧ J k ys (fr u.heap g'))
    ?_ n ⟨0, g, _, #[], k₀, r, Nat.zero_le _, rfl, Le.refl _, Nat.le_refl _, ⟨fun _ _ => rfl, List.length_map ..⟩, S, hr, h0, hf, hJ⟩) fun Q E q => W.self 0 s Q E h0 q
  rintro m s' ⟨k, g', vs, ys, k', r', hk, rfl, l', hys, hvs, S', hr', hS, hf', hJ'⟩
  by_cases hlt : k < n
  · refine W.item k _ _ _ hlt hS fun v h' tk hP hS' hk' => ?_
    obtain ⟨r₂, hr₂, S₂⟩ := St.rewr (ms := [(D, lobj ys k')]) S' (h' := h') (n := tk) (fun b o hb e => hk' b o (hr' ▸ hb) e) (by rw [hr']; exact al _ _ hS')
    refine wpAny_pure (wpAny_assign_Name (st_name en rfl S₂ hx fun s₃ S₃ => ?_))
    rw [hset vs hvs v] at S₃
    have hS₃ : Sx (k + 1) s₃.heap := W.frame _ _ _ hS' (frame_of S₂ S₃ (Le.refl _) (hr₂.trans hr') hf')
    refine cturn_run (turn k v ys hlt hP) S₃ hJ' (by omega) fun g'' ys' k'' s₄ l'' hz hJ'' S₄ => ?_
    exact ⟨n - (k + 1), by omega, k + 1, g'', _, ys', k'', r₂, hlt, rfl, l'.trans l'', by omega, ⟨fun j hj => List.getElem?_set_ne (Ne.symm hj), by rw [List.length_set, List.length_map]⟩, S₄, hr₂.trans hr', W.frame _ _ _ hS₃ (frame_of (ms := [(D, lobj ys k')]) (ms' := [(D, lobj ys' k'')]) S₃ S₄ l'' (hr₂.trans hr') hf'), fun b hb hbw => let ⟨o, h⟩ := hf' b hb hbw; ⟨o, l'' _ _ h⟩, hJ''⟩
  · have hkn : k = n := by omega
    subst hkn
    refine W.done _ _ _ hS fun h' tk hk' => ?_
    exact done g' vs ys k' _ l' hJ' (St.after (ms := [(D, lobj ys k')]) S' fun b o hb e => hk' b o (hr' ▸ hb) e)
theorem comp_loop2 {elt iter : Expr} {x y : Str} {px py pt : Pos} {kt : Nat} {ifs : List Expr} {scope : Scope} {pos : Pos} {cl : List (Str × Addr)} {C D I : Addr} {fp wr : List Addr} {n i i' : Nat} {P : Nat → Value → Value → Prop} {Sx : Nat → Heap → Prop} {Mid : Nat → Addr → Heap → Prop} {k₀ : Nat} {Q : Shared → Prop}
    (J : Nat → Array Value → Mem → Prop) (hh : A.handled = none) (c : Ce scope xs) (hg : env.globals = mainGlobals) (hb : env.builtins = builtinsNs) (hx : xs[i]? = some x) (hy : xs[i']? = some y) (W : WalksU prog w A I fp wr n (fun i vals => ∃ a b, vals = #[a, b] ∧ P i a b) Sx Mid)
    (al : ∀ i h, Sx i h → ∀ b ∈ wr, (h.get? b).isSome = true) (alM : ∀ i T h, Mid i T h → ∀ b ∈ wr, (h.get? b).isSome = true) (hn : n ≤ sizeLine)
    (S : St u g C xs (xs.map fun _ => none) ((D, lobj #[] k₀) :: r) s) (hr : r.map (·.1) = wr) (h0 : Sx 0 s.heap) (hf : ∀ b ∈ fp, b ∉ wr → ∃ o, g b = some o) (hJ : J 0 #[] (fr u.heap g))
    (turn : ∀ k a b ys, k < n → P k a b → CTurn prog w A u C D xs ifs elt (compEnvC scope cl C env) (J k) (J (k + 1)) ys (((xs.map fun _ => none).set i (some a)).set i' (some b)))
    (done : ∀ g' vs ys k' s', Le g g' → J n ys (fr u.heap g') → St u g' C xs vs [(D, lobj ys k')] s' → Q s') :
    codeAny (model prog w) A (.compStart (.ListComp elt [⟨.Tuple [.Name x px, .Name y py] kt pt, iter, ifs, 0⟩] scope pos) 0 (.ref I) (.ref D) (compEnvC scope cl C env)) (fun r s' => match r with | .ok _ => Q s' | .error _ => False) s := by
  have en : En (compEnvC scope cl C env) xs := c.en hg hb
  have hset : ∀ vs : List (Option Value), ((∀ j : Nat, j ≠ i → j ≠ i' → vs[j]? = (xs.map fun _ => (none : Option Value))[j]?) ∧ vs.length = xs.length) → ∀ v v', (vs.set i (some v)).set i' (some v') = ((xs.map fun _ => none).set i (some v)).set i' (some v') := fun vs hv v v' => by
    refine List.ext_getElem? fun j => ?_
    rw [List.getElem?_set, List.getElem?_set, List.getElem?_set, List.getElem?_set]
    simp only [List.length_set, hv.2, List.length_map]
    split
    · rfl
    · split
      · rfl
      · rename_i e1 e2; exact hv.1 j (Ne.symm e2) (Ne.symm e1)
  refine compStart_list (cl_raw (fun m s' => ∃ k g' vs ys k' r, k ≤ n ∧ m = n - k ∧ Le g g' ∧ ys.size ≤ k ∧ ((∀ j : Nat, j ≠ i → j ≠ i' → vs[j]? = (xs.map fun _ => (none : Option Value))[j]?) ∧ vs.length = xs.length) ∧ St u g' C xs vs ((D, lobj ys k') :: r) s' ∧ r.map (·.1) = wr ∧ Sx k s'.heap ∧ (∀ b ∈ fp, b ∉ wr → ∃ o, g' b = some o) ∧ J k ys (fr u.heap g'))
    ?_ n ⟨0, g, _, #[], k₀, r, Nat.zero_le _, rfl, Le.refl _, Nat.le_refl _, ⟨fun _ _ _ => rfl, List.length_map ..⟩, S, hr, h0, hf, hJ⟩) fun Q E q => W.self 0 s Q E h0 q
  rintro m s' ⟨k, g', vs, ys, k', r', hk, rfl, l', hys, hvs, S', hr', hS, hf', hJ'⟩
  by_cases hlt : k < n
  · refine W.item k _ _ _ hlt hS fun T vals h' tk hP hT hM hk' => ?_
    obtain ⟨a, b, rfl, hab⟩ := hP
    obtain ⟨r₁, hr₁, S₁⟩ := St.rewr (ms := [(D, lobj ys k')]) S' (h' := h') (n := tk) (fun b o hb e => hk' b o (hr' ▸ hb) e) (by rw [hr']; exact alM _ _ _ hM)
    refine W.go _ _ _ k T _ _ _ hM fun h₂ hS₂ hk₂ => ?_
    obtain ⟨r₃, hr₃, S₃⟩ := St.rewr (ms := [(D, lobj ys k')]) S₁ (h' := h₂) (n := tk) (fun b o hb e => hk₂ b o (by rw [hr₁, hr'] at hb; exact hb) e) (by rw [hr₁, hr']; exact al _ _ hS₂)
    have hT₂ : IsTup h₂ T #[a, b] := let ⟨o, h1, h2⟩ := hT; ⟨o, hk₂ _ _ (W.apart _ _ _ hM) h1, h2⟩
    refine assign_Tuple_tuple hh hT₂ rfl rfl fun h₄ he₄ => ?_
    have p₄ : Pu { s' with heap := h₂, toks := tk } { s' with heap := h₄, toks := tk } := ⟨rfl, fun b o e => he₄ b o (Nat.ne_of_lt (Heap.lt_size e)) e⟩
    have S₄ := S₃.up p₄
    refine wpAny_bind (wpAny_holding (wpAny_assign_Name (st_name en rfl S₄ hx fun s₅ S₅ => ?_)))
    refine wpAny_bind (wpAny_holding (wpAny_assign_Name (st_name en rfl S₅ hy fun s₆ S₆ => wpAny_pure ?_)))
    have hrr : r₃.map (·.1) = wr := (hr₃.trans hr₁).trans hr'
    rw [hset vs hvs a b] at S₆
    have hS₆ : Sx (k + 1) s₆.heap := W.frame _ _ _ hS₂ (frame_of (ms := [(D, lobj ys k')]) (ms' := [(D, lobj ys k')]) S₃ S₆ (Le.refl _) hrr hf')
    refine cturn_run (turn k a b ys hlt hab) S₆ hJ' (by omega) fun g'' ys' k'' s₇ l'' hz hJ'' S₇ => ?_
    exact ⟨n - (k + 1), by omega, k + 1, g'', _, ys', k'', r₃, hlt, rfl, l'.trans l'', by omega, ⟨fun j hj hj' => by rw [List.getElem?_set_ne (Ne.symm hj'), List.getElem?_set_ne (Ne.symm hj)], by rw [List.length_set, List.length_set, List.length_map]⟩, S₇, hrr, W.frame _ _ _ hS₆ (frame_of (ms := [(D, lobj ys k')]) (ms' := [(D, lobj ys' k'')]) S₆ S₇ l'' hrr hf'), fun b hb hbw => let ⟨o, h⟩ := hf' b hb hbw; ⟨o, l'' _ _ h⟩, hJ''⟩
  · have hkn : k = n := by omega
    subst hkn
    refine W.done _ _ _ hS fun h' tk hk' => ?_
    exact done g' vs ys k' _ l' hJ' (St.after (ms := [(D, lobj ys k')]) S' fun b o hb e => hk' b o (hr' ▸ hb) e)
end
end Mine
namespace Mine
section
variable {prog : Program} {w : World} {A : Around} {env : Env} {s₀ : Shared}
variable {u s s' : Shared} {g : Mem} {L : Addr} {xs : List Str} {vs : List (Option Value)} {ms r : List (Addr × Obj)} {mg mb : Str → Option Value}
theorem comp_all1 {elt iter : Expr} {x : Str} {px : Pos} {ifs : List Expr} {scope : Scope} {pos ipos : Pos} {cl : List (Str × Addr)} {n i : Nat} {P : Nat → Value → Prop} {Q : Value → Shared → Prop} {E : Value → Shared → Prop} {use : Option (Value → Sem Unit)}
    (J : Nat → Array Value → Mem → Prop) (c : Ce scope xs) (hclos : closureFor scope env = pure cl) (hg : env.globals = mainGlobals) (hb : env.builtins = builtinsNs) (hx : xs[i]? = some x) (hsrc : Src prog w A iter env s s.heap.get? n P) (hn : n ≤ sizeLine)
    (h0 : ∀ f, J 0 #[] f)
    (turn : ∀ C D k v ys, k < n → P k v → CTurn prog w A s C D xs ifs elt (compEnvC scope cl C env) (J k) (J (k + 1)) ys ((xs.map fun _ => none).set i (some v)))
    (hpost : ∀ C D ys k s' f, (∃ m, s'.heap.Ns C m) → Pu s s' → s.heap.get? C = none → fresh s.heap s'.heap D = some (lobj ys k) → D ≠ C → (∀ b o, f b = some o → fresh s.heap s'.heap b = some o ∧ b ≠ C) → J n ys f → compPost (model prog w) A E use Q (.ref D) C (.ok .next) s')
    (hs : ∀ x, foldedSetIterable iter env x = pure x := by intro; rfl) :
    wpAny (model prog w) A (comprehension (.ListComp elt [⟨.Name x px, iter, ifs, 0⟩] scope pos) scope env ipos (newList []) false (eval iter env) use) Q E s := by
  refine wpAny_comprehension_free rfl hs hclos c.fn c.names (hsrc s _ _ (Pu.refl s) fun I fp wr Sx s₁ p₁ W al h1 hw nd hf => ?_)
  refine comp_begin (Q := fun acc cenv s₄ => codeAny (model prog w) A (.compStart (.ListComp elt [⟨.Name x px, iter, ifs, 0⟩] scope pos) 0 (.ref I) acc cenv) (compPost (model prog w) A E use Q acc cenv.locals) s₄) (s := s) (fp := fp) (wr := wr) (xs := xs) p₁ c.nocell c.fn hw (al 0 _ h1) nd hf fun D C g r k₀ s₂ hr p₂ S hf₂ => ?_
  have h2 : Sx 0 s₂.heap := W.frame _ _ _ h1 fun b _ o e => p₂.keep b o e
  have hC : s.heap.get? C = none := by
    cases q : s.heap.get? C with
    | none => rfl
    | some o => have := S.uk _ _ q; rw [S.gL] at this; cases this
  refine codeAny_mono (comp_loop1 (C := C) (Q := fun s' => compPost (model prog w) A E use Q (.ref D) C (.ok .next) s') J c hg hb hx W al hn S hr h2 hf₂ (h0 _) (turn C D) fun g' vs ys k' s' l hJ S' => ?_) fun r s' hq => ?_
  · obtain ⟨m, hm, _⟩ := S'.loc
    have hD := S'.own _ (.head _)
    have hDu : s.heap.get? D = none := by
      cases q : s.heap.get? D with
      | none => rfl
      | some o => have := S'.uk _ _ q; rw [hD.2.2] at this; cases this
    exact hpost C D ys k' s' (fr s.heap g') ⟨m, hm⟩ S'.pu hC (fresh_of hDu hD.1) hD.2.1 (fun b o e => ⟨S'.fr_fresh _ _ e, fun q => by have := fr_le _ _ e; rw [q, S'.gL] at this; cases this⟩) hJ
  · cases r with
    | ok f => cases use <;> exact hq
    | error e => exact hq.elim
theorem comp_all2 {elt iter : Expr} {x y : Str} {px py pt : Pos} {kt : Nat} {ifs : List Expr} {scope : Scope} {pos ipos : Pos} {cl : List (Str × Addr)} {n i i' : Nat} {P : Nat → Value → Value → Prop} {Q : Value → Shared → Prop} {E : Value → Shared → Prop} {use : Option (Value → Sem Unit)}
    (J : Nat → Array Value → Mem → Prop) (hh : A.handled = none) (c : Ce scope xs) (hclos : closureFor scope env = pure cl) (hg : env.globals = mainGlobals) (hb : env.builtins = builtinsNs) (hx : xs[i]? = some x) (hy : xs[i']? = some y) (hsrc : Src2 prog w A iter env s s.heap.get? n P) (hn : n ≤ sizeLine)
    (h0 : ∀ f, J 0 #[] f)
    (turn : ∀ C D k a b ys, k < n → P k a b → CTurn prog w A s C D xs ifs elt (compEnvC scope cl C env) (J k) (J (k + 1)) ys (((xs.map fun _ => none).set i (some a)).set i' (some b)))
    (hpost : ∀ C D ys k s' f, (∃ m, s'.heap.Ns C m) → Pu s s' → s.heap.get? C = none → fresh s.heap s'.heap D = some (lobj ys k) → D ≠ C → (∀ b o, f b = some o → fresh s.heap s'.heap b = some o ∧ b ≠ C) → J n ys f → compPost (model prog w) A E use Q (.ref D) C (.ok .next) s')
    (hs : ∀ x, foldedSetIterable iter env x = pure x := by intro; rfl) :
    wpAny (model prog w) A (comprehension (.ListComp elt [⟨.Tuple [.Name x px, .Name y py] kt pt, iter, ifs, 0⟩] scope pos) scope env ipos (newList []) false (eval iter env) use) Q E s := by
  refine wpAny_comprehension_free rfl hs hclos c.fn c.names (hsrc s _ _ (Pu.refl s) fun I fp wr Sx Mid s₁ p₁ W al alM h1 hw nd hf => ?_)
  refine comp_begin (Q := fun acc cenv s₄ => codeAny (model prog w) A (.compStart (.ListComp elt [⟨.Tuple [.Name x px, .Name y py] kt pt, iter, ifs, 0⟩] scope pos) 0 (.ref I) acc cenv) (compPost (model prog w) A E use Q acc cenv.locals) s₄) (s := s) (fp := fp) (wr := wr) (xs := xs) p₁ c.nocell c.fn hw (al 0 _ h1) nd hf fun D C g r k₀ s₂ hr p₂ S hf₂ => ?_
  have h2 : Sx 0 s₂.heap := W.frame _ _ _ h1 fun b _ o e => p₂.keep b o e
  have hC : s.heap.get? C = none := by
    cases q : s.heap.get? C with
    | none => rfl
    | some o => have := S.uk _ _ q; rw [S.gL] at this; cases this
  refine codeAny_mono (comp_loop2 (C := C) (Q := fun s' => compPost (model prog w) A E use Q (.ref D) C (.ok .next) s') J hh c hg hb hx hy W al alM hn S hr h2 hf₂ (h0 _) (turn C D) fun g' vs ys k' s' l hJ S' => ?_) fun r s' hq => ?_
  · obtain ⟨m, hm, _⟩ := S'.loc
    have hD := S'.own _ (.head _)
    have hDu : s.heap.get? D = none := by
      cases q : s.heap.get? D with
      | none => rfl
      | some o => have := S'.uk _ _ q; rw [hD.2.2] at this; cases this
    exact hpost C D ys k' s' (fr s.heap g') ⟨m, hm⟩ S'.pu hC (fresh_of hDu hD.1) hD.2.1 (fun b o e => ⟨S'.fr_fresh _ _ e, fun q => by have := fr_le _ _ e; rw [q, S'.gL] at this; cases this⟩) hJ
  · cases r with
    | ok f => cases use <;> exact hq
    | error e => exact hq.elim
theorem post_none {n : Nat} {J : Nat → Array Value → Mem → Prop} {Q : Value → Shared → Prop} {E : Value → Shared → Prop} (mJ : ∀ ys f f', Le f f' → J n ys f → J n ys f') (k : ∀ v s', Pu s s' → isLst (J n) v (fresh s.heap s'.heap) → Q v s') :
    ∀ C D ys k s' f, (∃ m, s'.heap.Ns C m) → Pu s s' → s.heap.get? C = none → fresh s.heap s'.heap D = some (lobj ys k) → D ≠ C → (∀ b o, f b = some o → fresh s.heap s'.heap b = some o ∧ b ≠ C) → J n ys f → compPost (model prog w) A E none Q (.ref D) C (.ok .next) s' := by
  intro C D ys kk s' f ⟨m, hm⟩ p hC hD hDC hf hJ
  refine ⟨m, hm, fun h' hs' => ?_⟩
  have kp : ∀ b o, b ≠ C → fresh s.heap s'.heap b = some o → fresh s.heap h' b = some o := fun b o q e => fresh_of (fresh_new e) ((hs'.2 b q).trans (fresh_le _ _ e))
  refine k _ _ ⟨?_, fun b o e => (hs'.2 b (fun q => by rw [q, hC] at e; cases e)).trans (p.keep b o e)⟩ ⟨D, ys, kk, rfl, kp _ _ hDC hD, mJ _ _ _ (fun b o e => kp _ _ (hf b o e).2 (hf b o e).1) hJ⟩
  have e := p.same
  show ({ s' with heap := h' } : Shared) = _
  rw [e]
theorem ev_comp1 {elt iter : Expr} {x : Str} {px : Pos} {ifs : List Expr} {scope : Scope} {pos : Pos} {cl : List (Str × Addr)} {n i : Nat} {P : Nat → Value → Prop}
    (J : Nat → Array Value → Mem → Prop) (c : Ce scope xs) (hclos : closureFor scope env = pure cl) (hg : env.globals = mainGlobals) (hb : env.builtins = builtinsNs) (hx : xs[i]? = some x) (hsrc : ∀ s, Pu s₀ s → Src prog w A iter env s s.heap.get? n P) (hn : n ≤ sizeLine)
    (mJ : ∀ ys f f', Le f f' → J n ys f → J n ys f') (h0 : ∀ f, J 0 #[] f)
    (turn : ∀ s C D k v ys, Pu s₀ s → k < n → P k v → CTurn prog w A s C D xs ifs elt (compEnvC scope cl C env) (J k) (J (k + 1)) ys ((xs.map fun _ => none).set i (some v)))
    (hs : ∀ x, foldedSetIterable iter env x = pure x := by intro; rfl) :
    Ev prog w A (eval (.ListComp elt [⟨.Name x px, iter, ifs, 0⟩] scope pos) env) s₀ (isLst (J n)) := fun s Q E p k => by
  show wpAny (model prog w) A (comprehension (.ListComp elt [⟨.Name x px, iter, ifs, 0⟩] scope pos) scope env _ (newList []) false (eval iter env)) Q E s
  exact comp_all1 J c hclos hg hb hx (hsrc s p) hn h0 (fun C D k v ys => turn s C D k v ys p) (post_none mJ k) hs
theorem ev_comp2 {elt iter : Expr} {x y : Str} {px py pt : Pos} {kt : Nat} {ifs : List Expr} {scope : Scope} {pos : Pos} {cl : List (Str × Addr)} {n i i' : Nat} {P : Nat → Value → Value → Prop}
    (J : Nat → Array Value → Mem → Prop) (hh : A.handled = none) (c : Ce scope xs) (hclos : closureFor scope env = pure cl) (hg : env.globals = mainGlobals) (hb : env.builtins = builtinsNs) (hx : xs[i]? = some x) (hy : xs[i']? = some y) (hsrc : ∀ s, Pu s₀ s → Src2 prog w A iter env s s.heap.get? n P) (hn : n ≤ sizeLine)
    (mJ : ∀ ys f f', Le f f' → J n ys f → J n ys f') (h0 : ∀ f, J 0 #[] f)
    (turn : ∀ s C D k a b ys, Pu s₀ s → k < n → P k a b → CTurn prog w A s C D xs ifs elt (compEnvC scope cl C env) (J k) (J (k + 1)) ys (((xs.map fun _ => none).set i (some a)).set i' (some b)))
    (hs : ∀ x, foldedSetIterable iter env x = pure x := by intro; rfl) :
    Ev prog w A (eval (.ListComp elt [⟨.Tuple [.Name x px, .Name y py] kt pt, iter, ifs, 0⟩] scope pos) env) s₀ (isLst (J n)) := fun s Q E p k => by
  show wpAny (model prog w) A (comprehension (.ListComp elt [⟨.Tuple [.Name x px, .Name y py] kt pt, iter, ifs, 0⟩] scope pos) scope env _ (newList []) false (eval iter env)) Q E s
  exact comp_all2 J hh c hclos hg hb hx hy (hsrc s p) hn h0 (fun C D k a b ys => turn s C D k a b ys p) (post_none mJ k) hs
-- y = [..], on one line with the name: the stores are exchanged
theorem post_some {y : Str} {py : Pos} {j n : Nat} {J : Nat → Array Value → Mem → Prop} {Q : Flow → Shared → Prop} {E : Value → Shared → Prop} (en : En env xs) (hL : env.locals = L) (S : St u g L xs vs ms s) (hy : xs[j]? = some y)
    (k : ∀ a ys k g' f s', Le g g' → Le f g' → g' a = some (lobj ys k) → J n ys f → St u g' L xs (vs.set j (some (.ref a))) ms s' → Q .next s') :
    ∀ C D ys k s' f, (∃ m, s'.heap.Ns C m) → Pu s s' → s.heap.get? C = none → fresh s.heap s'.heap D = some (lobj ys k) → D ≠ C → (∀ b o, f b = some o → fresh s.heap s'.heap b = some o ∧ b ≠ C) → J n ys f → compPost (model prog w) A E (some (assign (.Name y py) env)) (fun _ s' => Q .next s') (.ref D) C (.ok .next) s' := by
  intro C D ys kk s' f ⟨m, hm⟩ p hC hD hDC hf hJ
  obtain ⟨oC, es, ep, hoC, hr⟩ := id hm
  obtain ⟨g', l, hg, S'⟩ := S.grow p [(C, oC)] (fun q hq => by rw [List.mem_singleton.mp hq]; exact ⟨hC, hoC⟩) (by simp)
  refine wpAny_assign_Name (st_name en hL S' hy fun s₂ S₂ => ?_)
  have hC₂ := (S₂.own _ (.head _))
  refine ⟨m, ⟨oC, es, ep, hC₂.1, hr⟩, fun h' hs' => ?_⟩
  have S₃ : St u g' L xs (vs.set j (some (.ref D))) ms { s₂ with heap := h' } := (St.after (ms := ms) (r := [(C, oC)]) ⟨S₂.same, S₂.loc, S₂.gk, S₂.uk, S₂.gL, fun q hq => S₂.own q (by rcases List.mem_append.mp hq with h | h; exact .tail _ h; rw [List.mem_singleton.mp h]; exact .head _), by
      have nd : (C :: ms.map (·.1)).Nodup := S₂.nd
      rw [List.map_append]
      have pe : ∀ l : List Addr, (C :: l).Nodup → (l ++ [C]).Nodup := fun l h => (List.Perm.nodup_iff (List.perm_append_comm (l₁ := [C]))).mp h
      exact pe _ nd⟩ (n := s₂.toks) fun b o hb e => (hs'.2 b (fun q => hb (by rw [q]; exact .head _))).trans e)
  exact k D ys kk g' f _ l (fun b o e => hg b o (hf b o e).1 (fun q => (hf b o e).2 (List.mem_singleton.mp q))) (hg D _ hD (fun q => hDC (List.mem_singleton.mp q))) hJ S₃
theorem x_asgC2 {y : Str} {py spos : Pos} {j : Nat} {elt iter : Expr} {x x' : Str} {px px' pt : Pos} {kt : Nat} {ifs : List Expr} {scope : Scope} {pos : Pos} {cl : List (Str × Addr)} {n i i' : Nat} {cxs : List Str} {P : Nat → Value → Value → Prop} {Q : Flow → Shared → Prop} {E : Value → Shared → Prop}
    (J : Nat → Array Value → Mem → Prop) (hh : A.handled = none) (en : En env xs) (hL : env.locals = L) (S : St u g L xs vs ms s) (hy : xs[j]? = some y) (c : Ce scope cxs) (hclos : closureFor scope env = pure cl) (hx : cxs[i]? = some x) (hx' : cxs[i']? = some x') (hsrc : Src2 prog w A iter env s s.heap.get? n P) (hn : n ≤ sizeLine)
    (h0 : ∀ f, J 0 #[] f)
    (turn : ∀ C D k a b ys, k < n → P k a b → CTurn prog w A s C D cxs ifs elt (compEnvC scope cl C env) (J k) (J (k + 1)) ys (((cxs.map fun _ => none).set i (some a)).set i' (some b)))
    (k : ∀ a ys k g' f s', Le g g' → Le f g' → g' a = some (lobj ys k) → J n ys f → St u g' L xs (vs.set j (some (.ref a))) ms s' → Q .next s')
    (hsw : swapsWith (.ListComp elt [⟨.Tuple [.Name x px, .Name x' px'] kt pt, iter, ifs, 0⟩] scope pos) (some (.Name y py)) spos.line env = pure true)
    (hs : ∀ x, foldedSetIterable iter env x = pure x := by intro; rfl) : wpAny (model prog w) A (exec (.Assign [.Name y py] (.ListComp elt [⟨.Tuple [.Name x px, .Name x' px'] kt pt, iter, ifs, 0⟩] scope pos) spos) env) Q E s := by
  rw [exec_Assign_Name_used _ _ _ _ hsw]
  refine wpAny_bind (wpAny_standAt (wpAny_bind ?_))
  show wpAny _ A (do let _ ← comprehension (.ListComp elt [⟨.Tuple [.Name x px, .Name x' px'] kt pt, iter, ifs, 0⟩] scope pos) scope env _ (newList []) false (eval iter env) (some (assign (.Name y py) env))) _ _ s
  refine wpAny_bind (wpAny_mono (comp_all2 (Q := fun _ s' => Q .next s') J hh c hclos en.glb en.blt hx hx' hsrc hn h0 turn (post_some en hL S hy k) hs) (fun _ s' hq => wpAny_pure (wpAny_pure hq)) fun _ _ e => e)
end
end Mine
namespace Mine
section
variable {prog : Program} {w : World} {A : Around} {env : Env} {s₀ : Shared}
variable {u s s' : Shared} {g : Mem} {L : Addr} {xs : List Str} {vs : List (Option Value)} {ms r : List (Addr × Obj)} {mg mb : Str → Option Value}
theorem IsList.up {h h' : Heap} {a : Addr} {ys : Array Value} (x : h.IsList a ys) (k : ∀ b o, h.get? b = some o → h'.get? b = some o) : h'.IsList a ys := let ⟨o, e, r⟩ := x; ⟨o, k _ _ e, r⟩
theorem isList_lobj {h : Heap} {a : Addr} {ys : Array Value} {k : Nat} (e : h.get? a = some (lobj ys k)) : h.IsList a ys := ⟨_, e, rfl, k, rfl⟩
/-- at such a value stands a list of which C holds -/
def LstP (P : Value → Mem → Prop) (C : Array Value → Prop) (s₀ : Shared) : Prop := ∀ v g (s : Shared), Pu s₀ s → Le g s.heap.get? → P v g → ∃ a ys, v = .ref a ∧ s.heap.IsList a ys ∧ C ys
theorem lstVC {a : Addr} {ys : Array Value} {C : Array Value → Prop} (h : s₀.heap.IsList a ys) (c : C ys) : LstP (isV (.ref a)) C s₀ := fun _ _ _ p _ e => ⟨a, ys, e, IsList.up h p.keep, c⟩
theorem lstJ {J : Array Value → Mem → Prop} {C : Array Value → Prop} (c : ∀ ys f, J ys f → C ys) : LstP (isLst J) C s₀ := fun _ _ _ _ l ⟨a, ys, _, e, h, j⟩ => ⟨a, ys, e, isList_lobj (l _ _ h), c _ _ j⟩
-- len
theorem cl_lenL {P : Value → Mem → Prop} {n : Nat} (h : LstP P (fun ys => ys.size = n ∧ n < 2 ^ 62) s₀) : Cl prog w A (.builtin "len") s₀ [P] (isI n) := fun l s Q E g p le ha k => by
  obtain ⟨v, rfl, hv⟩ := ha.one
  obtain ⟨a, ys, rfl, hl, rfl, hz⟩ := h v g s p le hv
  exact len_list hl (by omega) (k _ _ (Pu.tok s _) ⟨_, rfl⟩)
theorem cl_lenB {b : Array UInt8} (h : b.size ≤ 1099511627776) : Cl prog w A (.builtin "len") s₀ [isB b] (isI b.size) := fun l s Q E g p le ha k => by
  obtain ⟨v, rfl, t, rfl⟩ := ha.one
  exact len_bytes h (k _ _ (Pu.tok s _) ⟨_, rfl⟩)
theorem cl_lenS {x : Str} (h : x.length < 2 ^ 62) : Cl prog w A (.builtin "len") s₀ [isS x] (isI x.length) := fun l s Q E g p le ha k => by
  obtain ⟨v, rfl, t, rfl⟩ := ha.one
  exact SBL.len (by omega) (k _ _ (Pu.tok s _) ⟨_, rfl⟩)
theorem cl_abs {a : Int} : Cl prog w A (.builtin "abs") s₀ [isI a] (isI (if a < 0 then -a else a)) := fun l s Q E g p le ha k => by
  obtain ⟨v, rfl, t, rfl⟩ := ha.one
  exact call_abs_int fun u tk => k _ _ (Pu.tok s _) ⟨_, rfl⟩
theorem cl_int {a : Int} : Cl prog w A (.type "int") s₀ [isI a] (isI a) := fun l s Q E g p le ha k => by
  obtain ⟨v, rfl, t, rfl⟩ := ha.one
  exact call_int_int (k _ _ (Pu.refl s) ⟨_, rfl⟩)
theorem cl_chr {a : Int} (h0 : 0 ≤ a) (h1 : a ≤ 1114111) : Cl prog w A (.builtin "chr") s₀ [isI a] (isS ⟨#[a.toNat]⟩) := fun l s Q E g p le ha k => by
  obtain ⟨v, rfl, t, rfl⟩ := ha.one
  exact chr_of_range h0 h1 (k _ _ (Pu.tok s _) ⟨_, rfl⟩)
/-- the ints of a list -/
def Ints (ys : Array Value) (ns : List Int) : Prop := ys.size = ns.length ∧ ∀ (i : Nat) (n : Int), ns[i]? = some n → ∃ t : Tok, ys[i]? = some (Value.int n t)
theorem Ints.get {ys : Array Value} {ns : List Int} (h : Ints ys ns) {i : Nat} {v : Value} (e : ys[i]? = some v) : ∃ t, v = .int (ns.getD i 0) t := by
  have hi : i < ns.length := by rw [← h.1]; exact (Array.getElem?_eq_some_iff.mp e).1
  obtain ⟨t, ht⟩ := h.2 i ns[i] (List.getElem?_eq_getElem hi)
  rw [ht] at e; cases e
  exact ⟨t, by rw [List.getD_eq_getElem?_getD, List.getElem?_eq_getElem hi]; rfl⟩
theorem preSum_eq (ns : List Int) (n : Nat) (h : n ≤ ns.length) : preSum (fun i => ns.getD i 0) n = (ns.take n).sum := by
  induction n with
  | zero => simp [preSum]
  | succ n ih =>
    have hn : n < ns.length := h
    have e : preSum (fun i => ns.getD i 0) (n + 1) = preSum (fun i => ns.getD i 0) n + ns.getD n 0 := by simp [preSum]
    rw [e, ih (Nat.le_of_succ_le h), List.getD_eq_getElem?_getD, List.getElem?_eq_getElem hn]
    have e2 : List.take (n + 1) ns = List.take n ns ++ [ns[n]] := by rw [List.take_add_one, List.getElem?_eq_getElem hn]; rfl
    rw [e2, List.sum_append]; simp
theorem cl_sum {P : Value → Mem → Prop} {n : Int} (hh : A.handled = none) (h : LstP P (fun ys => ∃ ns, Ints ys ns ∧ ns.sum = n) s₀) : Cl prog w A (.builtin "sum") s₀ [P] (isI n) := fun l s Q E g p le ha k => by
  obtain ⟨v, rfl, hv⟩ := ha.one
  obtain ⟨a, ys, rfl, hl, ns, hi, rfl⟩ := h v g s p le hv
  refine call_sum_walkAnyS (wpAny_pyIter_list hl ?_)
  obtain ⟨o, ho, _⟩ := id hl
  have hne : a ≠ s.heap.objs.size := Nat.ne_of_lt (Heap.lt_size ho)
  have hl' := IsList.up hl (fun b o e => Heap.get?_push_of_some { cls := .type "list_iterator", data := .fields #[.ref a, .int 0 0] } e)
  refine ⟨_, _, _, _, _, _, _, fun i => ns.getD i 0, rfl, (Walks.list (prog := prog) (w := w) (A := A.in1) hh s.heap.objs.size a hne ys).toS, ⟨⟨_, Heap.get?_push_size _ rfl, rfl, rfl⟩, hl'⟩, fun b hb => ?_, fun i v hv => hi.get hv, fun s' t' hm => ?_⟩
  · rw [Heap.size_push]
    rcases List.mem_cons.mp hb with rfl | hb
    · exact Nat.lt_succ_self _
    · rw [List.mem_singleton.mp hb]; exact Nat.lt_succ_of_lt (Heap.lt_size ho)
  · refine k _ _ ⟨?_, fun b o e => hm.heap b o (fun hb => ?_) (Heap.get?_push_of_some _ e)⟩ ⟨t', by rw [hi.1, preSum_eq _ _ (Nat.le_refl _), List.take_length]⟩
    · have e1 : s'.gens = s.gens := hm.gens
      have e2 := hm.drawn
      have e3 := hm.os
      obtain ⟨h, g, d, t, o⟩ := s'
      simp only at e1 e2 e3 ⊢
      rw [e1, e2, e3]
    · rw [List.mem_singleton.mp hb] at e; exact absurd (Heap.lt_size e) (Nat.lt_irrefl _)
end
end Mine
namespace Mine
section
variable {prog : Program} {w : World} {A : Around} {env : Env} {s₀ : Shared}
variable {u s s' : Shared} {g : Mem} {L : Addr} {xs : List Str} {vs : List (Option Value)} {ms r : List (Addr × Obj)} {mg mb : Str → Option Value}
theorem pu_push {s : Shared} (o : Obj) (n : Nat) : Pu s { s with heap := s.heap.push o, toks := n } := ⟨rfl, fun _ _ e => Heap.get?_push_of_some _ e⟩
theorem isSome_of {α : Type} {o : Option α} {x : α} (h : o = some x) : o.isSome = true := by rw [h]; rfl
theorem neA {a b : Nat} (h : a ≠ b) : @Ne Addr a b := h
theorem ltA {a b : Nat} (h : @LT.lt Addr _ a b) : a < b := h
-- sources
/-- the iterable's value, a list that stands fast -/
theorem src_list {iter : Expr} {P : Value → Mem → Prop} {ys : Array Value} (hh : A.handled = none) (he : Ev prog w A (eval iter env) s₀ P)
    (hP : ∀ v (s : Shared) f, Pu s₀ s → Le f s.heap.get? → P v f → ∃ a o, v = .ref a ∧ o.cls = .type "list" ∧ (∃ n, o.data = .seq ys n) ∧ (g a = some o ∧ s.heap.get? a = some o ∨ f a = some o)) :
    Src prog w A iter env s₀ g ys.size (fun k v => ys[k]? = some v) := fun s Q E p k => by
  refine he s _ _ p fun v s₁ p₁ hv => ?_
  obtain ⟨a, o, rfl, hc, hd, ho⟩ := hP v s₁ _ (p.trans p₁) fresh_le hv
  have ho₁ : s₁.heap.get? a = some o := ho.elim (fun h => h.2) fun h => fresh_le _ _ h
  have hl : s₁.heap.IsList a ys := ⟨o, ho₁, hc, hd⟩
  have hne : a ≠ s₁.heap.objs.size := Nat.ne_of_lt (Heap.lt_size ho₁)
  refine wpAny_pyIter_list hl ?_
  have p₂ := pu_push (s := s₁) { cls := .type "list_iterator", data := .fields #[.ref a, .int 0 0] } s₁.toks
  refine k _ _ _ _ _ (p₁.trans p₂) (Walks.list hh s₁.heap.objs.size a hne ys) (fun i h hS b hb => ?_) ⟨⟨_, Heap.get?_push_size _ rfl, rfl, rfl⟩, IsList.up hl p₂.keep⟩ (fun b hb => ?_) (by simp) fun b hb hbw => ?_
  · rw [List.mem_singleton.mp hb]; obtain ⟨⟨o, h1, _⟩, _⟩ := hS; exact isSome_of h1
  · rw [List.mem_singleton.mp hb]
    cases q : s.heap.get? s₁.heap.objs.size with
    | none => rfl
    | some o => exact absurd (Heap.lt_size (p₁.keep _ _ q)) (Nat.lt_irrefl _)
  · rcases List.mem_cons.mp hb with rfl | hb
    · exact absurd (.head _) hbw
    · rw [List.mem_singleton.mp hb]
      exact ho.elim (fun h => .inl ⟨o, h.1⟩) fun h => .inr ⟨o, Pu.fresh_le p₂ _ _ h⟩
theorem src_listV {iter : Expr} {a : Addr} {o : Obj} {ys : Array Value} {n : Nat} (hh : A.handled = none) (he : Ev prog w A (eval iter env) s₀ (isV (.ref a))) (hg : g a = some o) (hs : s₀.heap.get? a = some o) (hc : o.cls = .type "list") (hd : o.data = .seq ys n) :
    Src prog w A iter env s₀ g ys.size (fun k v => ys[k]? = some v) := src_list hh he fun _ _ _ p _ hv => ⟨a, o, hv, hc, ⟨n, hd⟩, .inl ⟨hg, p.keep _ _ hs⟩⟩
theorem src_range {iter : Expr} {a b c : Int} (hh : A.handled = none) (hsm : Builtin.Range.small a b c = true) (n : Nat) (hn : Builtin.Range.rangeSize a b c = n)
    (he : Ev prog w A (eval iter env) s₀ (fun v f => ∃ r t u v', v = .ref r ∧ f r = some { cls := .type "range", data := .fields #[.int a t, .int b u, .int c v'] })) :
    Src prog w A iter env s₀ g n (fun k v => isI (a + k * c) v (fun _ => none)) := fun s Q E p k => by
  refine he s _ _ p fun v s₁ p₁ hv => ?_
  obtain ⟨r, t, u, v', rfl, hr⟩ := hv
  refine wpAny_pyIter_range (t := t) (u := u) (v := v') (fresh_le _ _ hr) hsm ?_
  have p₂ := pu_push (s := s₁) { cls := .type "range_iterator", data := .fields #[rawInt a, rawInt (Builtin.Range.rangeSize a b c), rawInt c] } s₁.toks
  refine k _ _ _ _ _ (p₁.trans p₂) (Walks.range hh s₁.heap.objs.size a c n) (fun i h hS b hb => ?_) ?_ (fun b hb => ?_) (by simp) fun b hb hbw => absurd hb hbw
  · rw [List.mem_singleton.mp hb]; exact isSome_of hS
  · have e := Heap.get?_push_size s₁.heap (o := { cls := .type "range_iterator", data := .fields #[rawInt a, rawInt (Builtin.Range.rangeSize a b c), rawInt c] }) rfl
    rw [hn] at e
    show Heap.get? _ _ = _
    rw [show a + ((0 : Nat) : Int) * c = a by simp, show (n : Int) - ((0 : Nat) : Int) = n by simp]
    rw [hn]; exact e
  · rw [List.mem_singleton.mp hb]
    cases q : s.heap.get? s₁.heap.objs.size with
    | none => rfl
    | some o => exact absurd (Heap.lt_size (p₁.keep _ _ q)) (Nat.lt_irrefl _)
def isRange (a b c : Int) : Value → Mem → Prop := fun v f => ∃ r t u v', v = .ref r ∧ f r = some { cls := .type "range", data := .fields #[.int a t, .int b u, .int c v'] }
theorem mono_range {a b c : Int} : Mono (isRange a b c) := fun _ _ _ l ⟨r, t, u, v', e, h⟩ => ⟨r, t, u, v', e, l _ _ h⟩
theorem fresh_push {s : Shared} {o : Obj} (h : o.isFreed = false := by rfl) : fresh s.heap (s.heap.push o) s.heap.objs.size = some o := fresh_of (size_none (Nat.le_refl _)) (Heap.get?_push_size _ h)
theorem cl_range1 {b : Int} : Cl prog w A (.type "range") s₀ [isI b] (isRange 0 b 1) := fun l s Q E g p le ha k => by
  obtain ⟨v, rfl, t, rfl⟩ := ha.one
  exact call_range_1 (k _ _ (pu_push _ _) ⟨_, _, _, _, rfl, fresh_push⟩)
theorem cl_range3 {a b c : Int} (hc : c ≠ 0) (hp : Builtin.divisionGoesByPylong (b - a) c = false) : Cl prog w A (.type "range") s₀ [isI a, isI b, isI c] (isRange a b c) := fun l s Q E g p le ha k => by
  obtain ⟨v, v', v'', rfl, ⟨t, rfl⟩, ⟨t', rfl⟩, t'', rfl⟩ := ha.three
  exact call_range_3 hc (k _ _ (pu_push _ _) ⟨_, _, _, _, rfl, fresh_push⟩) (.inl hp)
/-- for .. in enumerate(e) -/
theorem src_enum {iter : Expr} {np pos : Pos} {e : Expr} {P : Value → Mem → Prop} {ys : Array Value} (hh : A.handled = none) (hf : Ev prog w A (eval (.Name "enumerate" np) env) s₀ (isV (.type "enumerate"))) (he : Ev prog w A (eval e env) s₀ P)
    (hP : ∀ v (s : Shared) f, Pu s₀ s → Le f s.heap.get? → P v f → ∃ a o, v = .ref a ∧ o.cls = .type "list" ∧ (∃ n, o.data = .seq ys n) ∧ (g a = some o ∧ s.heap.get? a = some o ∨ f a = some o))
    (hi : iter = .Call (.Name "enumerate" np) [e] [] pos) (hs : starEach [e] env = [(false, eval e env)] := by rfl) :
    Src2 prog w A iter env s₀ g ys.size (fun k a b => isI (k : Nat) a (fun _ => none) ∧ ys[k]? = some b) := fun s Q E p k => by
  subst hi
  refine wpAny_Call_NameR (hf s _ _ p fun v s₁ p₁ hv => ?_)
  cases hv
  rw [hs]
  refine callWith_type1 (t := eval e env) (he s₁ _ _ (p.trans p₁) fun v s₂ p₂ hv => ?_)
  obtain ⟨a, o, rfl, hc, hd, ho⟩ := hP v s₂ _ ((p.trans p₁).trans p₂) fresh_le hv
  have ho₁ : s₂.heap.get? a = some o := ho.elim (fun h => h.2) fun h => fresh_le _ _ h
  have hl : s₂.heap.IsList a ys := ⟨o, ho₁, hc, hd⟩
  have hlt := Heap.lt_size ho₁
  refine call_enumerate_list hl fun h' hE hI _ hk => ?_
  refine wpAny_pyIter_enum hE ?_
  have p₃ : Pu s₂ { s₂ with heap := h', toks := s₂.toks } := ⟨rfl, hk⟩
  have hnone : ∀ b, s₂.heap.objs.size ≤ b → s.heap.get? b = none := fun b hb => by
    cases q : s.heap.get? b with
    | none => rfl
    | some o => exact absurd (Heap.lt_size ((p₁.trans p₂).keep _ _ q)) (Nat.not_lt.mpr hb)
  have W := WalksT.enumerate (prog := prog) (w := w) hh (s₂.heap.objs.size + 1) s₂.heap.objs.size a (Nat.succ_ne_self _) (Nat.ne_of_lt (Nat.lt_succ_of_lt hlt)) (Nat.ne_of_lt hlt) ys
  refine k _ _ [s₂.heap.objs.size + 1, s₂.heap.objs.size] _ _ _ ((p₁.trans p₂).trans p₃) ⟨W.sub, W.frame, fun i s Q E hi st hQ => W.item i s Q E hi st fun T vals h' tk hP _ hT hm hk => hQ T vals h' tk (by
      obtain ⟨t, x, h1, h2⟩ := hP
      exact ⟨_, _, h2, ⟨t, rfl⟩, h1⟩) hT hm hk, W.go, W.apart, W.done, W.self⟩ (fun i h hS b hb => ?_) (fun i T h hM b hb => ?_) ⟨⟨_, hE⟩, hI, IsList.up hl hk⟩ (fun b hb => ?_) (by simp) fun b hb hbw => ?_
  · obtain ⟨⟨_, h1⟩, ⟨o, h2, _⟩, _⟩ := hS
    rcases List.mem_cons.mp hb with rfl | hb
    · exact isSome_of h1
    · rw [List.mem_singleton.mp hb]; exact isSome_of h2
  · obtain ⟨⟨_, h1⟩, ⟨o, h2, _⟩, _⟩ := hM
    rcases List.mem_cons.mp hb with rfl | hb
    · exact isSome_of h1
    · rw [List.mem_singleton.mp hb]; exact isSome_of h2
  · rcases List.mem_cons.mp hb with rfl | hb
    · exact hnone _ (Nat.le_succ _)
    · rw [List.mem_singleton.mp hb]; exact hnone _ (Nat.le_refl _)
  · have hb' : b = a := by
      rcases List.mem_cons.mp hb with rfl | hb
      · exact absurd (.head _) hbw
      · rcases List.mem_cons.mp hb with rfl | hb
        · exact absurd (.tail _ (.head _)) hbw
        · exact List.mem_singleton.mp hb
    subst hb'
    exact ho.elim (fun h => .inl ⟨o, h.1⟩) fun h => .inr ⟨o, Pu.fresh_le p₃ _ _ (Pu.fresh_le' p₁ _ _ h)⟩
theorem src_enumV {np pos : Pos} {e : Expr} {a : Addr} {o : Obj} {ys : Array Value} {n : Nat} (hh : A.handled = none) (hf : Ev prog w A (eval (.Name "enumerate" np) env) s₀ (isV (.type "enumerate"))) (he : Ev prog w A (eval e env) s₀ (isV (.ref a)))
    (hg : g a = some o) (h0 : s₀.heap.get? a = some o) (hc : o.cls = .type "list") (hd : o.data = .seq ys n) (hs : starEach [e] env = [(false, eval e env)] := by rfl) :
    Src2 prog w A (.Call (.Name "enumerate" np) [e] [] pos) env s₀ g ys.size (fun k a b => isI (k : Nat) a (fun _ => none) ∧ ys[k]? = some b) :=
  src_enum hh hf he (fun _ _ _ p _ hv => ⟨a, o, hv, hc, ⟨n, hd⟩, .inl ⟨hg, p.keep _ _ h0⟩⟩) rfl hs
/-- for .. in zip(e, e') -/
theorem src_zipV {np pos : Pos} {e e' : Expr} {a b : Addr} {o o' : Obj} {ys zs : Array Value} {n n' : Nat} (hh : A.handled = none) (hf : Ev prog w A (eval (.Name "zip" np) env) s₀ (isV (.type "zip"))) (he : Ev prog w A (eval e env) s₀ (isV (.ref a))) (he' : Ev prog w A (eval e' env) s₀ (isV (.ref b)))
    (hg : g a = some o) (h0 : s₀.heap.get? a = some o) (hc : o.cls = .type "list") (hd : o.data = .seq ys n) (hg' : g b = some o') (h0' : s₀.heap.get? b = some o') (hc' : o'.cls = .type "list") (hd' : o'.data = .seq zs n') (hs : starEach [e, e'] env = [eval e env, eval e' env].map fun t => (false, t) := by rfl) :
    Src2 prog w A (.Call (.Name "zip" np) [e, e'] [] pos) env s₀ g (min ys.size zs.size) (fun k x y => ys[k]? = some x ∧ zs[k]? = some y) := fun s Q E p k => by
  refine wpAny_Call_NameR (hf s _ _ p fun v s₁ p₁ hv => ?_)
  cases hv
  refine call_tail (s₀ := s₀) (p.trans p₁) kept_type (ea2 he mono_V he' mono_V) hs fun l s₂ p₂ hl => ?_
  obtain ⟨x, y, rfl, rfl, rfl⟩ := hl.two
  have q₂ := (p.trans p₁).trans p₂
  have ha := q₂.keep _ _ h0
  have hb := q₂.keep _ _ h0'
  have l1 : s₂.heap.IsList a ys := ⟨o, ha, hc, n, hd⟩
  have l2 : s₂.heap.IsList b zs := ⟨o', hb, hc', n', hd'⟩
  have la := ltA (Heap.lt_size ha)
  have lb := ltA (Heap.lt_size hb)
  refine call_zip_2 l1 l2 fun h' hz hTI hTO hi1 hi2 _ hk => ?_
  refine wpAny_pyIter_zip hz ?_
  have p₃ : Pu s₂ { s₂ with heap := h', toks := s₂.toks } := ⟨rfl, hk⟩
  generalize hN : s₂.heap.objs.size = N at *
  have hnone : ∀ b, N ≤ b → s.heap.get? b = none := fun b hb => by
    cases q : s.heap.get? b with
    | none => rfl
    | some o => exact absurd (Heap.lt_size ((p₁.trans p₂).keep _ _ q)) (Nat.not_lt.mpr (by rw [hN]; exact hb))
  have W := WalksT.zip2 (prog := prog) (w := w) hh (N + 4) (N + 2) (N + 3) N (N + 1) a b ⟨neA (by omega), neA (by omega), neA (by omega), neA (by omega), neA (by omega), neA (by omega), neA (by omega), neA (by omega), neA (by omega), neA (by omega), neA (by omega), neA (by omega), neA (by omega), neA (by omega), neA (by omega), neA (by omega), neA (by omega), neA (by omega)⟩ ys zs
  refine k _ _ [N + 4, N + 3, N, N + 1] _ _ _ ((p₁.trans p₂).trans p₃) ⟨W.sub, W.frame, fun i s Q E hi st hQ => W.item i s Q E hi st fun T vals h' tk hP _ hT hm hk => hQ T vals h' tk (by
      obtain ⟨x, y, h1, h2, h3⟩ := hP
      exact ⟨_, _, h3, h1, h2⟩) hT hm hk, W.go, W.apart, W.done, W.self⟩ (fun i h hS b hb => ?_) (fun i T h hM b hb => ?_) ⟨hz, hTI, ⟨_, _, hTO⟩, hi1, hi2, IsList.up l1 hk, IsList.up l2 hk⟩ (fun b hb => ?_) (by simp) fun c hcc hcw => ?_
  · obtain ⟨h1, _, ⟨_, _, h3⟩, ⟨_, h4, _⟩, ⟨_, h5, _⟩, _⟩ := hS
    simp only [List.mem_cons, List.not_mem_nil, or_false] at hb
    rcases hb with rfl | rfl | rfl | rfl
    · exact isSome_of h1
    · exact isSome_of h3
    · exact isSome_of h4
    · exact isSome_of h5
  · obtain ⟨h1, _, ⟨_, _, h3⟩, ⟨_, h4, _⟩, ⟨_, h5, _⟩, _⟩ := hM
    simp only [List.mem_cons, List.not_mem_nil, or_false] at hb
    rcases hb with rfl | rfl | rfl | rfl
    · exact isSome_of h1
    · exact isSome_of h3
    · exact isSome_of h4
    · exact isSome_of h5
  · simp only [List.mem_cons, List.not_mem_nil, or_false] at hb
    rcases hb with rfl | rfl | rfl | rfl <;> exact hnone _ (by omega)
  · simp only [List.mem_cons, List.not_mem_nil, or_false, not_or] at hcc hcw
    rcases hcc with h | h | h | h | h | h | h
    · exact absurd h hcw.1
    · subst h; exact .inr ⟨_, fresh_of (hnone _ (by omega)) hTI⟩
    · exact absurd h hcw.2.1
    · exact absurd h hcw.2.2.1
    · exact absurd h hcw.2.2.2
    · subst h; exact .inl ⟨_, hg⟩
    · subst h; exact .inl ⟨_, hg'⟩
end
end Mine
namespace Mine
section
variable {prog : Program} {w : World} {A : Around} {env : Env} {s₀ : Shared}
variable {u s s' : Shared} {g : Mem} {L : Addr} {xs : List Str} {vs : List (Option Value)} {ms r : List (Addr × Obj)} {mg mb : Str → Option Value}
def Itm (prog : Program) (w : World) (A : Around) (value slice : Expr) (s₀ : Shared) (P₁ P₂ P : Value → Mem → Prop) : Prop :=
  ∀ o i s (Q : Value → Shared → Prop) (E : Value → Shared → Prop) g₁ g₂, Pu s₀ s → Le g₁ s.heap.get? → Le g₂ s.heap.get? → P₁ o g₁ → P₂ i g₂ → (∀ v s', Pu s s' → P v (fresh s.heap s'.heap) → Q v s') → wpAny (model prog w) A (subscriptTail value slice o i) Q E s
theorem ev_item {value slice : Expr} {pos : Pos} {P₁ P₂ P : Value → Mem → Prop} (h₁ : Ev prog w A (eval value env) s₀ P₁) (h₂ : Ev prog w A (eval slice env) s₀ P₂) (m : Mono P) (T : Itm prog w A value slice s₀ P₁ P₂ P) : Ev prog w A (eval (.Subscript value slice pos) env) s₀ P := fun s Q E p k => by
  refine Subscript_ (h₁ s _ _ p fun a s₁ p₁ ha => h₂ s₁ _ _ (p.trans p₁) fun b s₂ p₂ hb => ?_)
  exact T a b s₂ _ _ _ _ ((p.trans p₁).trans p₂) ((Pu.fresh_le p₂).trans fresh_le) fresh_le ha hb fun v s' p' hv => k v s' ((p₁.trans p₂).trans p') (m _ _ _ (Pu.fresh_le' (p₁.trans p₂)) hv)
theorem it_list {value slice : Expr} {P₁ : Value → Mem → Prop} {P : Value → Prop} {k : Int} (h : LstP P₁ (fun ys => ∃ v, ys[k.toNat]? = some v ∧ P v) s₀) (h0 : 0 ≤ k) (h1 : k < 2 ^ 63) (hs : ∀ o i, subscripted slice false o i = operate [o, i] (getItem o i) := by intro _ _; rfl) :
    Itm prog w A value slice s₀ P₁ (isI k) (fun v _ => P v) := fun o i s Q E g₁ g₂ p l₁ l₂ ho hi kk => by
  obtain ⟨a, ys, rfl, hl, v, hv, hP⟩ := h o g₁ s p l₁ ho
  obtain ⟨t, rfl⟩ := hi
  exact tail_any hl.typeIs slot_list_getitem.lookup (wpAny_getItem_list hl h0 h1 hv (kk _ _ (Pu.refl s) hP)) (hs _ _)
/-- at such a value stands a tuple of such items -/
def TupP (P : Value → Mem → Prop) (C : Array Value → Prop) (s₀ : Shared) : Prop := ∀ v g (s : Shared), Pu s₀ s → Le g s.heap.get? → P v g → ∃ a ys, v = .ref a ∧ IsTup s.heap a ys ∧ C ys
theorem it_tup {value slice : Expr} {P₁ : Value → Mem → Prop} {P : Value → Prop} {k : Nat} (h : TupP P₁ (fun ys => ∃ v, ys[k]? = some v ∧ P v) s₀) (h1 : k < 2 ^ 62) (hs : ∀ o i, subscripted slice false o i = operate [o, i] (getItem o i) := by intro _ _; rfl) :
    Itm prog w A value slice s₀ P₁ (isI k) (fun v _ => P v) := fun o i s Q E g₁ g₂ p l₁ l₂ ho hi kk => by
  obtain ⟨a, ys, rfl, hl, v, hv, hP⟩ := h o g₁ s p l₁ ho
  obtain ⟨t, rfl⟩ := hi
  have hj : seqIndex? (k : Int) ys.size = some k := by
    have hk : k < ys.size := (Array.getElem?_eq_some_iff.mp hv).1
    unfold seqIndex?
    simp only
    have e1 : ¬ ((k : Int) < 0) := by omega
    simp only [e1, if_false]
    first
      | (rw [if_pos (by omega)]; simp)
      | simp [hk]
  refine tail_any (show s.TypeIs (.ref a) "tuple" from let ⟨o, ho, hc, _⟩ := hl; ⟨o, ho, hc⟩) F.slot_tuple_getitem.lookup (getItem_tuple hl (by omega) (by omega) hj hv (kk _ _ (Pu.refl s) hP)) (hs _ _)
theorem it_bytes {value slice : Expr} {b : Array UInt8} {k : Int} (hz : b.size ≤ 1099511627776) (h0 : 0 ≤ k) (h1 : k < b.size) (hs : ∀ o i, subscripted slice false o i = operate [o, i] (getItem o i) := by intro _ _; rfl) :
    Itm prog w A value slice s₀ (isB b) (isI k) (isI (b.toList.getD k.toNat 0).toNat) := fun o i s Q E g₁ g₂ p l₁ l₂ ho hi kk => by
  obtain ⟨t, rfl⟩ := ho
  obtain ⟨t', rfl⟩ := hi
  have e : b = b.toList.toArray := by simp
  refine tail_any (typeIs_bytes _ _ _) FB.slot_bytes_getitem.lookup ?_ (hs _ _)
  have hg : wpAny (model prog w) A (getItem (.bytes b.toList.toArray t) (.int k t')) Q E s := getItem_bytes (by simpa using hz) h0 (by simpa using h1) (kk _ _ (Pu.tok s _) ⟨_, rfl⟩)
  rw [← e] at hg; exact hg
-- slices
def EvP (prog : Program) (w : World) (A : Around) (e : Option Expr) (env : Env) (s₀ : Shared) (p : Option Int) : Prop := Ev prog w A (evalPart e env) s₀ (fun v _ => IsPart v p)
theorem ep_none : EvP prog w A none env s₀ none := fun s _ _ _ k => wpAny_pure (k _ _ (Pu.refl s) .none)
theorem ep_some {e : Expr} {a : Int} (h : Ev prog w A (eval e env) s₀ (isI a)) : EvP prog w A (some e) env s₀ (some a) := fun s Q E p k => h s Q E p fun v s' p' ⟨t, e⟩ => k v s' p' (by rw [e]; exact .int a t)
def isSlc (lo hi st : Option Int) : Value → Mem → Prop := fun v f => ∃ a vl vu vs, v = .ref a ∧ IsPart vl lo ∧ IsPart vu hi ∧ IsPart vs st ∧ f a = some { cls := .type "slice", data := .fields #[vl, vu, vs] }
theorem ev_slice {l u st : Option Expr} {p : Pos} {lo hi sp : Option Int} (hl : EvP prog w A l env s₀ lo) (hu : EvP prog w A u env s₀ hi) (hs : EvP prog w A st env s₀ sp) : Ev prog w A (eval (.Slice l u st p) env) s₀ (isSlc lo hi sp) := fun s Q E q k =>
  wpAny_Slice (hl s _ _ q fun vl s₁ p₁ h₁ => hu s₁ _ _ (q.trans p₁) fun vu s₂ p₂ h₂ => hs s₂ _ _ ((q.trans p₁).trans p₂) fun vs s₃ p₃ h₃ =>
    k _ _ (((p₁.trans p₂).trans p₃).trans (pu_push _ _)) ⟨_, vl, vu, vs, rfl, h₁, h₂, h₃, Pu.fresh_le' ((p₁.trans p₂).trans p₃) _ _ fresh_push⟩)
theorem it_listSlice {value : Expr} {l u st : Option Expr} {sp : Pos} {P₁ : Value → Mem → Prop} {lo hi stp : Option Int} {C : Array Value → Prop} (h : LstP P₁ (fun ys => ys.size ≤ sizeLine ∧ C (slicePick ys lo hi stp)) s₀) (h0 : stp ≠ some 0)
    (hs : ∀ o i, ∃ ops, subscripted (.Slice l u st sp) false o i = operate ops (getItem o i) := by intro o i; first | exact ⟨[i, o], rfl⟩ | exact ⟨[o, i], rfl⟩) :
    Itm prog w A value (.Slice l u st sp) s₀ P₁ (isSlc lo hi stp) (isLst fun ys _ => C ys) := fun o i s Q E g₁ g₂ p l₁ l₂ ho hi kk => by
  obtain ⟨a, ys, rfl, hl, hz, hC⟩ := h o g₁ s p l₁ ho
  obtain ⟨b, vl, vu, vs, rfl, q1, q2, q3, hb⟩ := hi
  obtain ⟨ops, hops⟩ := hs (.ref a) (.ref b)
  refine tail_any hl.typeIs slot_list_getitem.lookup (wpAny_getItem_list_slice hl ⟨_, l₂ _ _ hb, rfl, rfl⟩ q1 q2 q3 h0 (kk _ _ (pu_push _ _) ⟨_, _, 0, rfl, fresh_push, hC⟩) hz) hops
theorem part_of {v : Value} {p : Option Int} (h : IsPart v p) : ∃ l : Option (Int × Tok), v = partValue l ∧ l.map (·.1) = p := by
  cases h with
  | none => exact ⟨none, rfl, rfl⟩
  | int k t => exact ⟨some (k, t), rfl, rfl⟩
/-- the signs from lo up to hi -/
def cutStr (x : Str) (lo hi : Nat) : Str := ⟨((x.cps.toList.drop lo).take (hi - lo)).toArray⟩
theorem cutStr_len {x : Str} {a b : Nat} (h : a ≤ b) (h' : b ≤ x.length) : (cutStr x a b).length = b - a := by
  have e : x.length = x.cps.toList.length := by simp [Str.length]
  show (cutStr x a b).cps.size = _
  unfold cutStr
  rw [List.size_toArray, List.length_take, List.length_drop]; omega
theorem it_strSlice {value : Expr} {l u : Option Expr} {sp : Pos} {x : Str} {a b : Nat} (hab : a ≤ b) (hb : b ≤ x.length) (hz : x.length ≤ sizeLine) (hs : ∀ o i, ∃ ops, subscripted (.Slice l u none sp) false o i = operate ops (getItem o i) := by intro o i; exact ⟨[i, o], rfl⟩) :
    Itm prog w A value (.Slice l u none sp) s₀ (isS x) (isSlc (some (a : Int)) (some (b : Int)) none) (isS (cutStr x a b)) := fun o i s Q E g₁ g₂ p l₁ l₂ ho hi kk => by
  obtain ⟨t, rfl⟩ := ho
  obtain ⟨c, vl, vu, vs, rfl, q1, q2, q3, hc⟩ := hi
  obtain ⟨pl, rfl, el⟩ := part_of q1
  obtain ⟨pu, rfl, eu⟩ := part_of q2
  obtain ⟨ps, rfl, es⟩ := part_of q3
  have hps : ps = none := by cases ps with | none => rfl | some x => cases es
  subst hps
  obtain ⟨ops, hops⟩ := hs (.str x t) (.ref c)
  refine tail_any (typeIs_str _ _ _) F.slot_str_getitem.lookup (wpAny_getItem_str_slice (l := pl) (u := pu) (st := none) ⟨_, l₂ _ _ hc, rfl, rfl⟩ rfl ?_) hops
  have e1 : slicePicked x pl pu none = Builtin.Str.strSliceIndices (some (a : Int)) (some (b : Int)) 1 x.length := by unfold slicePicked; rw [el, eu]; rfl
  have e2 := StrLaws.sliced_plain (x := x) hab hb
  unfold sliceMade
  rw [e1]
  split
  · rename_i hw
    have hw' : (Builtin.Str.strSliceIndices (some (a : Int)) (some (b : Int)) 1 x.length).length = x.length := by simpa using hw
    rw [StrLaws.strSliceIndices_plain hab hb, List.length_map, List.length_range] at hw'
    have ha0 : a = 0 := by omega
    have hbl : b = x.length := by omega
    have ex : cutStr x a b = x := by
      unfold cutStr
      subst ha0 hbl
      rw [List.drop_zero, Nat.sub_zero, show x.length = x.cps.toList.length by simp [Str.length], List.take_length]
    exact kk _ _ (Pu.refl s) ⟨t, by rw [ex]⟩
  · refine ⟨?_, kk _ _ (Pu.tok s _) ⟨s.toks, ?_⟩⟩
    · rw [e2]; exact Nat.le_trans (by rw [show (Str.mk ((x.cps.toList.drop a).take (b - a)).toArray) = cutStr x a b from rfl, cutStr_len hab hb]; omega) hz
    · rw [e2]; rfl
theorem it_bytesSlice {value : Expr} {l u : Option Expr} {sp : Pos} {b : Array UInt8} {lo hi : Option Int} (hz : b.size ≤ sizeLine) (hs : ∀ o i, ∃ ops, subscripted (.Slice l u none sp) false o i = operate ops (getItem o i) := by intro o i; exact ⟨[i, o], rfl⟩) :
    Itm prog w A value (.Slice l u none sp) s₀ (isB b) (isSlc lo hi none) (isB (KBy.picked b lo hi)) := fun o i s Q E g₁ g₂ p l₁ l₂ ho hi kk => by
  obtain ⟨t, rfl⟩ := ho
  obtain ⟨c, vl, vu, vs, rfl, q1, q2, q3, hc⟩ := hi
  obtain ⟨ops, hops⟩ := hs (.bytes b t) (.ref c)
  cases q3
  refine tail_any (typeIs_bytes _ _ _) FB.slot_bytes_getitem.lookup (getItem_meets (typeIs_bytes _ _ _) (by decide) FB.slot_bytes_getitem FB.entry_bytes_getitem (FB.args_bytes_getitem_2 _ _) (KBc.meets_slice2 b t _ q1 q2)
    ⟨⟨_, l₂ _ _ hc, rfl, rfl⟩, Nat.le_trans (KBc.size_picked_le b _ _) hz, fun t' k => kk _ _ (Pu.tok s _) ⟨_, rfl⟩⟩) hops
-- texts and bytes glued
theorem ev_addB {a b : Array UInt8} {l r : Expr} {pos : Pos} (h₁ : Ev prog w A (eval l env) s₀ (isB a)) (h₂ : Ev prog w A (eval r env) s₀ (isB b)) (hz : a.size + b.size ≤ 16777216) : Ev prog w A (eval (.BinOp l .Add r pos) env) s₀ (isB (a ++ b)) :=
  ev_bin (fun x y s Q E _ _ p _ _ ⟨_, hx⟩ ⟨_, hy⟩ k => by subst hx hy; exact KBy.add_bytes hz fun t' n => k _ _ (Pu.tok s _) ⟨_, rfl⟩) mono_B h₁ h₂
theorem ev_mulB {b : List UInt8} {n : Int} {l r : Expr} {pos : Pos} (h₁ : Ev prog w A (eval l env) s₀ (isB b.toArray)) (h₂ : Ev prog w A (eval r env) s₀ (isI n)) (hb : b ≠ []) (hlo : -1048576 ≤ n) (hn : n ≤ 1048576) (hs : b.length ≤ 16) :
    Ev prog w A (eval (.BinOp l .Mult r pos) env) s₀ (isB ((List.replicate n.toNat b).flatten).toArray) :=
  ev_bin (fun x y s Q E _ _ p _ _ ⟨_, hx⟩ ⟨_, hy⟩ k => by subst hx hy; exact bytes_mul_any hb hlo hn hs fun t' n => k _ _ (Pu.tok s _) ⟨_, rfl⟩) mono_B h₁ h₂
-- displays
theorem ev_list {elts : List Expr} {pos : Pos} {Ps : List (Value → Mem → Prop)} (ha : EvAll prog w A (evs elts env) s₀ Ps) (hs : starEach elts env = (evs elts env).map fun t => (false, t) := by rfl) (hz : Ps.length ≤ 1000) :
    Ev prog w A (eval (.List elts pos) env) s₀ (isLst fun ys f => AllP Ps ys.toList f) := fun s Q E p k => by
  refine List_ ?_
  rw [hs, backTo_plain]
  refine ha.2 s _ _ p fun l s₁ p₁ hl => ?_
  have hlen : ∀ {Ps : List (Value → Mem → Prop)} {l : List Value} {f : Mem}, AllP Ps l f → l.length = Ps.length := by
    intro Ps
    induction Ps with
    | nil => intro l f h; cases l with | nil => rfl | cons => exact h.elim
    | cons P Ps ih => intro l f h; cases l with | nil => exact h.elim | cons v l => rw [List.length_cons, List.length_cons, ih h.2]
  refine wpAny_newObj_type (k _ _ (p₁.trans (pu_push _ _)) ⟨_, l.toArray, 0, rfl, Pu.fresh_le' p₁ _ _ fresh_push, ?_⟩) ?_
  · show AllP Ps l.toArray.toList _
    have e : l.toArray.toList = l := by simp
    rw [e]; exact AllP.mono ha.1 (Pu.fresh_le (pu_push _ _)) hl
  · show l.toArray.size ≤ sizeLine
    rw [List.size_toArray, hlen hl, sizeLine_eq]; omega
end
end Mine
namespace Mine
section
variable {prog : Program} {w : World} {A : Around} {env : Env} {s₀ : Shared}
variable {u s s' : Shared} {g : Mem} {L : Addr} {xs : List Str} {vs : List (Option Value)} {ms r : List (Addr × Obj)} {mg mb : Str → Option Value}
theorem allP_len : ∀ {Ps : List (Value → Mem → Prop)} {l : List Value} {f : Mem}, AllP Ps l f → l.length = Ps.length
  | [], [], _, _ => rfl
  | _ :: _, _ :: _, _, h => by rw [List.length_cons, List.length_cons, allP_len h.2]
  | [], _ :: _, _, h => h.elim
  | _ :: _, [], _, h => h.elim
abbrev tobj (ys : Array Value) : Obj := { cls := .type "tuple", data := .seq ys }
def isTup (J : Array Value → Mem → Prop) : Value → Mem → Prop := fun v f => ∃ a ys, v = .ref a ∧ f a = some (tobj ys) ∧ J ys f
theorem mono_tup {J : Array Value → Mem → Prop} (m : ∀ ys f f', Le f f' → J ys f → J ys f') : Mono (isTup J) := fun _ _ _ l ⟨a, ys, e, h, j⟩ => ⟨a, ys, e, l _ _ h, m _ _ _ l j⟩
theorem ev_tuple {elts : List Expr} {k : Nat} {pos : Pos} {Ps : List (Value → Mem → Prop)} (ha : EvAll prog w A (evs elts env) s₀ Ps) (hs : starEach elts env = (evs elts env).map fun t => (false, t) := by rfl) (hz : Ps.length ≤ 1000 := by decide) :
    Ev prog w A (eval (.Tuple elts k pos) env) s₀ (isTup fun ys f => AllP Ps ys.toList f) := fun s Q E p k => by
  refine Tuple_ ?_
  rw [hs, backTo_plain]
  refine ha.2 s _ _ p fun l s₁ p₁ hl => ?_
  refine wpAny_newObj_type (k _ _ (p₁.trans (pu_push _ _)) ⟨_, l.toArray, rfl, Pu.fresh_le' p₁ _ _ fresh_push, ?_⟩) ?_
  · show AllP Ps l.toArray.toList _
    have e : l.toArray.toList = l := by simp
    rw [e]; exact AllP.mono ha.1 (Pu.fresh_le (pu_push _ _)) hl
  · show l.toArray.size ≤ sizeLine
    rw [List.size_toArray, allP_len hl, sizeLine_eq]; omega
/-- at such a value stands a plain list of which C holds -/
def LobP (P : Value → Mem → Prop) (C : Array Value → Prop) (s₀ : Shared) : Prop := ∀ v g (s : Shared), Pu s₀ s → Le g s.heap.get? → P v g → ∃ a ys k, v = .ref a ∧ s.heap.get? a = some (lobj ys k) ∧ C ys
theorem lobJ {J : Array Value → Mem → Prop} {C : Array Value → Prop} (c : ∀ ys f, J ys f → C ys) : LobP (isLst J) C s₀ := fun _ _ _ _ l ⟨a, ys, k, e, h, j⟩ => ⟨a, ys, k, e, l _ _ h, c _ _ j⟩
theorem ev_addL {P₁ P₂ : Value → Mem → Prop} {C₁ C₂ : Array Value → Prop} {C : Array Value → Mem → Prop} {l r : Expr} {pos : Pos} (h₁ : Ev prog w A (eval l env) s₀ P₁) (h₂ : Ev prog w A (eval r env) s₀ P₂) (m : ∀ ys f f', Le f f' → C ys f → C ys f')
    (c₁ : LobP P₁ C₁ s₀) (c₂ : LobP P₂ C₂ s₀) (hc : ∀ ys zs, C₁ ys → C₂ zs → ys.size + zs.size ≤ sizeLine ∧ ∀ f, C (ys ++ zs) f) : Ev prog w A (eval (.BinOp l .Add r pos) env) s₀ (isLst C) :=
  ev_bin (fun x y s Q E _ _ p l₁ l₂ hx hy k => by
    obtain ⟨a, ys, k₁, rfl, ha, hya⟩ := c₁ _ _ s p l₁ hx
    obtain ⟨b, zs, k₂, rfl, hb, hzb⟩ := c₂ _ _ s p l₂ hy
    obtain ⟨hz, hC⟩ := hc ys zs hya hzb
    exact P.add_list ha hb (k _ _ (pu_push _ _) ⟨_, _, 0, rfl, fresh_push, hC _⟩) hz) (mono_lst m) h₁ h₂
-- methods
theorem gm_strjoin {v : Value} {s : Shared} {pl : Sem Bool} {Q : Value × List Value → Shared → Prop} {E : Value → Shared → Prop} {x : Str} (h : ∃ t, v = .str x t) (k : Q (.builtin "str.join", [v]) s) : wpAny (model prog w) A (getMethod v "join" pl) Q E s := by
  obtain ⟨t, rfl⟩ := h
  exact getMethod_builtin (typeIs_str _ _ _) F.plainAttrs_str F.slot_str_join F.type_str_join (fun _ e => nomatch e) k
theorem gm_list {name : Str} {id : String} {a : Addr} {ys : Array Value} {n : Nat} {pl : Sem Bool} {Q : Value × List Value → Shared → Prop} {E : Value → Shared → Prop} (slot : Slot "list" name id) (ty : typeOf (.builtin id) = pure (.type "method_descriptor")) (h : s.heap.get? a = some (lobj ys n)) (k : Q (.builtin id, [.ref a]) s) :
    wpAny (model prog w) A (getMethod (.ref a) name pl) Q E s :=
  getMethod_builtin (show s.TypeIs (.ref a) "list" from ⟨_, h, rfl⟩) F.plainAttrs_list slot ty (fun b e => by cases e; exact ⟨_, h, rfl⟩) k
/-- o.append(e) as a statement: what is put on is no object of the call's own -/
theorem x_append {o e : Expr} {apos cpos pos : Pos} {D : Addr} {ys : Array Value} {n i : Nat} {P : Value → Mem → Prop} {Q : Flow → Shared → Prop} {E : Value → Shared → Prop} (S : St u g L xs vs ms s) (ho : Ev prog w A (eval o env) s (isV (.ref D))) (he : Ev prog w A (eval e env) s P) (hi : ms[i]? = some (D, lobj ys n)) (hz : ys.size ≤ sizeLine)
    (k : ∀ v g' f n' s', Le g g' → Le f (fr u.heap g') → P v f → St u g' L xs vs (ms.set i (D, lobj (ys.push v) n')) s' → Q .next s') (hif : interactive env = false) 
    (hE : eval (.Call (.Attribute o "append" apos) [e] [] cpos) env = (do
      let ov ← eval o env
      standAt apos.atName
      let (f, first) ← holding [ov] (getMethod ov "append" (impB o env))
      callWith cpos f first (backTo cpos (starEach [e] env)) []) := by rfl)
    (hs : starEach [e] env = [eval e env].map fun t => (false, t) := by rfl) (hsw : swapsWith (.Call (.Attribute o "append" apos) [e] [] cpos) none pos.line env = pure false := by rfl) :
    wpAny (model prog w) A (exec (.Expr (.Call (.Attribute o "append" apos) [e] [] cpos) pos) env) Q E s := by
  refine wpAny_Expr (MethodCall_  (ho s _ _ (Pu.refl s) fun v s₁ p₁ hv => ?_) hE) hif hsw
  subst hv
  refine gm_list (ys := ys) (n := n) F.slot_list_append F.type_list_append (p₁.keep _ _ (S.own _ (List.mem_of_getElem? hi)).1) ?_
  -- the argument alone, its predicate needs not be monotone
  show wpAny (model prog w) A (callWith cpos (.builtin "list.append") [.ref D] (backTo cpos (starEach [e] env)) []) _ E s₁
  rw [hs, backTo_plain]
  refine Calls.callWith_builtin rfl (Calls.evalArgs_plain (Calls.spliced_cons (he s₁ _ _ p₁ fun v s₂ p₂ hv => Calls.spliced_nil ?_)))
  obtain ⟨g', l, hg, S₂⟩ := (S.up p₁).grow p₂ [] (fun _ q => nomatch q) .nil
  refine st_append S₂ hi hz fun n' s₃ S₃ => ?_
  exact k v g' _ n' s₃ l (fresh_fr (S.up p₁) fun b o e => hg b o e (fun q => nomatch q)) hv S₃
theorem lobj_mapSeq {ys : Array Value} {n : Nat} (f : Array Value → Array Value) : ∃ n', (lobj ys n).mapSeq f = lobj (f ys) n' := ⟨_, rfl⟩
theorem lobj_update {h : Heap} {a : Addr} {ys : Array Value} {n : Nat} (f : Array Value → Array Value) (e : h.get? a = some (lobj ys n)) : ∃ n', (h.update a (Obj.mapSeq f)).get? a = some (lobj (f ys) n') := by
  obtain ⟨n', e'⟩ := lobj_mapSeq (ys := ys) (n := n) f
  exact ⟨n', by rw [Heap.get?_update_self _ e (by rw [e']; rfl), e']⟩
theorem sz_lt {n : Nat} (h : n ≤ sizeLine) : (n : Int) < 2 ^ 63 := by
  have h' : n ≤ 16777216 := by rw [sizeLine_eq] at h; exact h
  clear h
  omega
/-- where an item is put in -/
def ins (ys : Array Value) (p : Nat) (v : Value) : Array Value := (ys.toList.take p ++ v :: ys.toList.drop p).toArray
theorem st_insertI {D : Addr} {ys : Array Value} {n i p : Nat} {x : Int} {v : Value} {t : Tok} {Q : Value → Shared → Prop} {E : Value → Shared → Prop} (S : St u g L xs vs ms s) (hi : ms[i]? = some (D, lobj ys n)) (hx : x = (p : Nat)) (h1 : p ≤ ys.size) (hz : ys.size ≤ sizeLine)
    (h : ∀ n' s', St u g L xs vs (ms.set i (D, lobj (ins ys p v) n')) s' → Q .none s') : wpAny (model prog w) A (call (.builtin "list.insert") [.ref D, .int x t, v]) Q E s := by
  have ho := (S.own _ (List.mem_of_getElem? hi)).1
  have hf : Builtin.List.listFitsIndex x = true := by rw [hx]; exact fitsIndex_of (Int.natCast_nonneg p) (sz_lt (Nat.le_trans h1 hz))
  have hT : s.TypeIs (.ref D) "list" := ⟨_, ho, rfl⟩
  have M := AutoSeq1.list_insert_list_int_val_1 D ys n x t v (by rw [hf]; exact Bool.false_ne_true) hz
  refine call_meets F.slot_list_insert hT F.entry_list_insert (F.args_list_insert_3 _ _ _) M ⟨ho, ?_⟩
  obtain ⟨n', hu⟩ := lobj_update (fun xs => have k := if x < 0 then (x + (xs.size : Int)).toNat else min x.toNat xs.size; (xs.extract 0 k).push v ++ xs.extract k) ho
  have e : (if x < 0 then (x + (ys.size : Int)).toNat else min x.toNat ys.size) = p := by
    rw [if_neg (by omega)]; omega
  have e2 : (ys.extract 0 p).push v ++ ys.extract p = ins ys p v := by
    apply Array.ext'
    unfold ins
    have e3 : List.take (ys.size - p) (List.drop p ys.toList) = List.drop p ys.toList := List.take_of_length_le (by rw [List.length_drop]; simp)
    simp [Array.toList_extract, List.extract, e3]
  refine h n' _ (S.turn (n := s.toks) hi (Heap.SameBut.update ..) (hu.trans ?_))
  show some (lobj ((ys.extract 0 (if x < 0 then (x + (ys.size : Int)).toNat else min x.toNat ys.size)).push v ++ ys.extract (if x < 0 then (x + (ys.size : Int)).toNat else min x.toNat ys.size)) n') = _
  rw [e, e2]
end
end Mine
namespace Mine
section
variable {prog : Program} {w : World} {A : Around} {env : Env} {s₀ : Shared}
variable {u s s' : Shared} {g : Mem} {L : Addr} {xs : List Str} {vs : List (Option Value)} {ms r : List (Addr × Obj)} {mg mb : Str → Option Value}
theorem Loc.load {x : Str} {i : Nat} {v : Value} {Q : Value → Shared → Prop} {E : Value → Shared → Prop} (en : En env xs) (l : Loc s.heap env.locals xs vs) (hx : xs[i]? = some x) (hv : vs[i]? = some (some v)) (k : Q v s) : wpAny (model prog w) A (loadName env x) Q E s := by
  obtain ⟨m, hn, ha⟩ := l
  exact wpAny_loadName_local en.fn (en.loc x (List.mem_of_getElem? hx)) hn (ha.get hx hv) k
/-- x += e and x *= e, ints -/
theorem x_augAdd {x : Str} {px pos : Pos} {e : Expr} {i : Nat} {a b : Int} {t : Tok} {Q : Flow → Shared → Prop} {E : Value → Shared → Prop} (en : En env xs) (hL : env.locals = L) (S : St u g L xs vs ms s) (hx : xs[i]? = some x) (hv : vs[i]? = some (some (.int a t)))
    (he : Ev prog w A (eval e env) s (isI b)) (k : ∀ t s', St u g L xs (vs.set i (some (.int (a + b) t))) ms s' → Q .next s') : wpAny (model prog w) A (exec (.AugAssign (.Name x px) .Add e pos) env) Q E s := by
  refine wpAny_AugAssign_Name (Loc.load en (hL ▸ S.loc) hx hv (he s _ _ (Pu.refl s) fun v s₁ p hv' => ?_))
  obtain ⟨t', rfl⟩ := hv'
  exact AutoIntOps.iadd_0 (st_name en hL ((S.up p).up (Pu.tok s₁ _)) hx fun s' S' => k _ s' S')
theorem x_augMul {x : Str} {px pos : Pos} {e : Expr} {i : Nat} {a b : Int} {t : Tok} {Q : Flow → Shared → Prop} {E : Value → Shared → Prop} (en : En env xs) (hL : env.locals = L) (S : St u g L xs vs ms s) (hx : xs[i]? = some x) (hv : vs[i]? = some (some (.int a t)))
    (he : Ev prog w A (eval e env) s (isI b)) (ok : IntMulOk a b) (k : ∀ t s', St u g L xs (vs.set i (some (.int (a * b) t))) ms s' → Q .next s') : wpAny (model prog w) A (exec (.AugAssign (.Name x px) .Mult e pos) env) Q E s := by
  refine wpAny_AugAssign_Name (Loc.load en (hL ▸ S.loc) hx hv (he s _ _ (Pu.refl s) fun v s₁ p hv' => ?_))
  obtain ⟨t', rfl⟩ := hv'
  exact AutoIntOps.imul_0 (st_name en hL ((S.up p).up (Pu.tok s₁ _)) hx fun s' S' => k _ s' S') ok
/-- two values come as a tuple -/
def isPr (R : Value → Value → List (Addr × Obj) → Mem → Prop) : Value → Mem → Prop := fun v f => ∃ a y1 y2 nw o, v = .ref a ∧ f a = some o ∧ o.cls = .type "tuple" ∧ (∃ n, o.data = .seq #[y1, y2] n) ∧ a ∉ nw.map (·.1) ∧ (nw.map (·.1)).Nodup ∧ (∀ q ∈ nw, f q.1 = some q.2) ∧ R y1 y2 nw f
theorem pr_open {R : Value → Value → List (Addr × Obj) → Mem → Prop} {v : Value} (S : St u g L xs vs ms s) (p : Pu s s') (h : isPr R v (fresh s.heap s'.heap)) : ∃ a y1 y2 nw g', v = .ref a ∧ IsTup s'.heap a #[y1, y2] ∧ Le g g' ∧ (∀ b o, fresh s.heap s'.heap b = some o → b ∉ nw.map (·.1) → g' b = some o) ∧ R y1 y2 nw (fresh s.heap s'.heap) ∧ St u g' L xs vs (nw ++ ms) s' := by
  obtain ⟨a, y1, y2, nw, o, rfl, ha, hc, ⟨n, hd⟩, hna, hnd, hnw, hR⟩ := h
  obtain ⟨g', l, hg, S'⟩ := S.grow p nw (fun q hq => ⟨fresh_new (hnw q hq), fresh_le _ _ (hnw q hq)⟩) hnd
  exact ⟨a, y1, y2, nw, g', rfl, ⟨o, fresh_le _ _ ha, hc, n, hd⟩, l, hg, hR, S'⟩
/-- x, y = e -/
theorem x_unpack {x y : Str} {px py tp pos : Pos} {kt : Nat} {e : Expr} {i j : Nat} {R : Value → Value → List (Addr × Obj) → Mem → Prop} {Q : Flow → Shared → Prop} {E : Value → Shared → Prop} (hh : A.handled = none) (en : En env xs) (hL : env.locals = L) (S : St u g L xs vs ms s) (hx : xs[i]? = some x) (hy : xs[j]? = some y)
    (he : Ev prog w A (eval e env) s (isPr R)) (k : ∀ y1 y2 nw g' f s', Le g g' → (∀ b o, f b = some o → b ∉ nw.map (·.1) → g' b = some o) → R y1 y2 nw f → St u g' L xs ((vs.set i (some y1)).set j (some y2)) (nw ++ ms) s' → Q .next s')
    (hs : swapsWithSole [.Tuple [.Name x px, .Name y py] kt tp] e pos.line env = pure false := by rfl) (hw : swappedStores [.Tuple [.Name x px, .Name y py] kt tp] e env = pure none := by rfl) :
    wpAny (model prog w) A (exec (.Assign [.Tuple [.Name x px, .Name y py] kt tp] e pos) env) Q E s := by
  refine Assign_Tuple (he s _ _ (Pu.refl s) fun v s₁ p hv => ?_) hs hw
  obtain ⟨a, y1, y2, nw, g', rfl, hT, l, hg, hR, S'⟩ := pr_open S p hv
  refine assign_Tuple_tuple hh hT rfl rfl fun h₄ he₄ => ?_
  have p₄ : Pu s₁ { s₁ with heap := h₄, toks := s₁.toks } := ⟨rfl, fun b o e => he₄ b o (Nat.ne_of_lt (Heap.lt_size e)) e⟩
  have S₄ := S'.up p₄
  refine wpAny_bind (wpAny_holding (wpAny_assign_Name (st_name en hL S₄ hx fun s₅ S₅ => ?_)))
  refine wpAny_bind (wpAny_holding (wpAny_assign_Name (st_name en hL S₅ hy fun s₆ S₆ => wpAny_pure ?_)))
  exact k y1 y2 nw g' _ s₆ l hg hR S₆
/-- x, y = e, f : the stores are exchanged -/
theorem x_unpackS {x y : Str} {px py tp pos : Pos} {kt : Nat} {e : Expr} {i j : Nat} {R : Value → Value → List (Addr × Obj) → Mem → Prop} {Q : Flow → Shared → Prop} {E : Value → Shared → Prop} (hh : A.handled = none) (en : En env xs) (hL : env.locals = L) (S : St u g L xs vs ms s) (hx : xs[i]? = some x) (hy : xs[j]? = some y)
    (he : Ev prog w A (eval e env) s (isPr R)) (k : ∀ y1 y2 nw g' f s', Le g g' → (∀ b o, f b = some o → b ∉ nw.map (·.1) → g' b = some o) → R y1 y2 nw f → St u g' L xs ((vs.set j (some y2)).set i (some y1)) (nw ++ ms) s' → Q .next s')
    (hs : swapsWithSole [.Tuple [.Name x px, .Name y py] kt tp] e pos.line env = pure false := by rfl) (hw : swappedStores [.Tuple [.Name x px, .Name y py] kt tp] e env = pure (some [x, y]) := by rfl) :
    wpAny (model prog w) A (exec (.Assign [.Tuple [.Name x px, .Name y py] kt tp] e pos) env) Q E s := by
  refine Assign_Tuple_swapped (names := [x, y]) (he s _ _ (Pu.refl s) fun v s₁ p hv => ?_) hs hw
  obtain ⟨a, y1, y2, nw, g', rfl, hT, l, hg, hR, S'⟩ := pr_open S p hv
  have hT' : s₁.heap.IsTuple a #[y1, y2] := hT
  refine wpAny_unpackItems_tuple (items := #[y1, y2]) hh hT' fun h₄ he₄ => ?_
  have p₄ : Pu s₁ { s₁ with heap := h₄, toks := s₁.toks } := ⟨rfl, fun b o e => he₄ b o (Nat.ne_of_lt (Heap.lt_size e)) e⟩
  have S₄ := S'.up p₄
  show wpAny _ A (assignInOrder [fun v => bindName env y v, fun v => bindName env x v] [y2, y1]) _ _ _
  refine wpAny_bind (wpAny_holding (wpAny_bindName (st_name en hL S₄ hy fun s₅ S₅ => ?_)))
  refine wpAny_bind (wpAny_holding (wpAny_bindName (st_name en hL S₅ hx fun s₆ S₆ => wpAny_pure ?_)))
  exact k y1 y2 nw g' _ s₆ l hg hR S₆
/-- x = e, x a cell's name -/
theorem x_asgCell {x : Str} {px pos : Pos} {e : Expr} {i : Nat} {c : Addr} {o : Obj} {v₀ : Option Value} {P : Value → Prop} {Q : Flow → Shared → Prop} {E : Value → Shared → Prop} (hf : env.scope.kind = .function) (hk : env.kindOf x = some .cell) (hc : env.cells.lookup x = some c) (S : St u g L xs vs ms s) (hi : ms[i]? = some (c, o)) (hd : o.data = .cell v₀)
    (he : Ev prog w A (eval e env) s (fun v _ => P v)) (k : ∀ v o' s', P v → o'.data = .cell (some v) → St u g L xs vs (ms.set i (c, o')) s' → Q .next s')
    (hs : swapsWith e (some (.Name x px)) pos.line env = pure false := by rfl) : wpAny (model prog w) A (exec (.Assign [.Name x px] e pos) env) Q E s :=
  wpAny_Assign_Name (he s _ _ (Pu.refl s) fun v s₁ p hv => by
    have S₁ := S.up p
    refine wpAny_storeName_cell hf hk hc ⟨o, (S₁.own _ (List.mem_of_getElem? hi)).1, hd⟩ fun h' ho' hs' => ?_
    obtain ⟨o', ho', hd'⟩ := ho'
    exact k v o' _ hv hd' (S₁.turn (n := s₁.toks) hi hs' ho')) hs
-- equality of what the lists hold
def Rds (P : Value → Mem → Prop) (d : PyData) (s₀ : Shared) : Prop := ∀ v g (s : Shared), Pu s₀ s → Le g s.heap.get? → P v g → ∃ as, Reads s.heap v d as
theorem c_neD {P₁ P₂ : Value → Mem → Prop} {d e : PyData} {k : Nat} (R : Rm (k + 4) A) (h₁ : Rds P₁ d s₀) (h₂ : Rds P₂ e s₀) (hd : SeqAt.shaped d = true) (he : SeqAt.shaped e = true) : Cmp prog w A .NotEq P₁ P₂ (!PyData.eqv d e) s₀ := fun a b s Q E g₁ g₂ p l₁ l₂ ha hb kk => by
  obtain ⟨as, ra⟩ := h₁ a g₁ s p l₁ ha
  obtain ⟨bs, rb⟩ := h₂ b g₂ s p l₂ hb
  exact SeqAt.compareNe_shaped ra rb hd he (by have := R.units; show A.units + 64 < 9900; omega) (kk s (Pu.refl s))
/-- the text's own call, arguments by place -/
theorem x_insert {o e e' : Expr} {apos cpos pos : Pos} {D : Addr} {ys : Array Value} {n i p : Nat} {P : Value → Prop} {Q : Flow → Shared → Prop} {E : Value → Shared → Prop} (S : St u g L xs vs ms s) (ho : Ev prog w A (eval o env) s (isV (.ref D))) (he : Ev prog w A (eval e env) s (isI p)) (he' : Ev prog w A (eval e' env) s (fun v _ => P v)) (hi : ms[i]? = some (D, lobj ys n)) (h1 : p ≤ ys.size) (hz : ys.size ≤ sizeLine)
    (k : ∀ v n' s', P v → St u g L xs vs (ms.set i (D, lobj (ins ys p v) n')) s' → Q .next s') (hif : interactive env = false) 
    (hE : eval (.Call (.Attribute o "insert" apos) [e, e'] [] cpos) env = (do
      let ov ← eval o env
      standAt apos.atName
      let (f, first) ← holding [ov] (getMethod ov "insert" (impB o env))
      callWith cpos f first (backTo cpos (starEach [e, e'] env)) []) := by rfl)
    (hs : starEach [e, e'] env = [eval e env, eval e' env].map fun t => (false, t) := by rfl) (hsw : swapsWith (.Call (.Attribute o "insert" apos) [e, e'] [] cpos) none pos.line env = pure false := by rfl) :
    wpAny (model prog w) A (exec (.Expr (.Call (.Attribute o "insert" apos) [e, e'] [] cpos) pos) env) Q E s := by
  refine wpAny_Expr (MethodCall_  (ho s _ _ (Pu.refl s) fun v s₁ p₁ hv => ?_) hE) hif hsw
  subst hv
  refine gm_list (ys := ys) (n := n) F.slot_list_insert F.type_list_insert (p₁.keep _ _ (S.own _ (List.mem_of_getElem? hi)).1) ?_
  show wpAny (model prog w) A (callWith cpos (.builtin "list.insert") [.ref D] (backTo cpos (starEach [e, e'] env)) []) _ E s₁
  rw [hs, backTo_plain]
  refine Calls.callWith_builtin rfl (Calls.evalArgs_plain (Calls.spliced_cons (he s₁ _ _ p₁ fun v s₂ p₂ hv => Calls.spliced_cons (he' s₂ _ _ (p₁.trans p₂) fun v' s₃ p₃ hv' => Calls.spliced_nil ?_))))
  obtain ⟨t, rfl⟩ := hv
  exact st_insertI (((S.up p₁).up p₂).up p₃) hi rfl h1 hz fun n' s₄ S₄ => k v' n' s₄ hv' S₄
end
end Mine
namespace Mine
section
variable {prog : Program} {w : World} {A : Around} {env : Env} {s₀ : Shared}
variable {u s s' : Shared} {g : Mem} {L : Addr} {xs : List Str} {vs : List (Option Value)} {ms r : List (Addr × Obj)} {mg mb : Str → Option Value}
variable {α : Type}
/-- the array's values are those that are meant -/
def All2 (P : α → Value → Mem → Prop) (ds : List α) (ys : Array Value) (f : Mem) : Prop := ys.size = ds.length ∧ ∀ (i : Nat) (d : α), ds[i]? = some d → ∃ y, ys[i]? = some y ∧ P d y f
def Lof (P : α → Value → Mem → Prop) (ds : List α) : Value → Mem → Prop := isLst (All2 P ds)
theorem All2.nil {P : α → Value → Mem → Prop} {f : Mem} : All2 P [] #[] f := ⟨rfl, fun i d e => by simp at e⟩
theorem All2.push {P : α → Value → Mem → Prop} {ds : List α} {ys : Array Value} {f : Mem} {d : α} {v : Value} (h : All2 P ds ys f) (hv : P d v f) : All2 P (ds ++ [d]) (ys.push v) f := by
  refine ⟨by rw [Array.size_push, h.1, List.length_append]; rfl, fun i e he => ?_⟩
  rw [Array.getElem?_push]
  rcases Nat.lt_or_ge i ds.length with hi | hi
  · rw [List.getElem?_append_left hi] at he
    rw [if_neg (by rw [h.1]; omega)]; exact h.2 i e he
  · rw [List.getElem?_append_right hi] at he
    have h0 : i - ds.length = 0 := by
      rcases Nat.eq_zero_or_pos (i - ds.length) with q | q
      · exact q
      · rw [List.getElem?_eq_none (by simp only [List.length_cons, List.length_nil]; omega)] at he; cases he
    rw [h0] at he; simp at he
    rw [if_pos (by rw [h.1]; omega)]; exact ⟨v, rfl, he ▸ hv⟩
theorem All2.mono {P : α → Value → Mem → Prop} {ds : List α} {ys : Array Value} {f f' : Mem} (m : ∀ d, Mono (P d)) (l : Le f f') (h : All2 P ds ys f) : All2 P ds ys f' :=
  ⟨h.1, fun i d e => let ⟨y, a, b⟩ := h.2 i d e; ⟨y, a, m d _ _ _ l b⟩⟩
theorem mono_Lof {P : α → Value → Mem → Prop} {ds : List α} (m : ∀ d, Mono (P d)) : Mono (Lof P ds) := mono_lst fun _ _ _ l h => h.mono m l
theorem All2.get {P : α → Value → Mem → Prop} {ds : List α} {ys : Array Value} {f : Mem} (h : All2 P ds ys f) {i : Nat} {v : Value} (e : ys[i]? = some v) : ∃ d, ds[i]? = some d ∧ P d v f := by
  have hi : i < ds.length := by rw [← h.1]; exact (Array.getElem?_eq_some_iff.mp e).1
  obtain ⟨y, a, b⟩ := h.2 i _ (List.getElem?_eq_getElem hi)
  rw [e] at a; cases a
  exact ⟨_, List.getElem?_eq_getElem hi, b⟩
theorem All2.ints {ns : List Int} {ys : Array Value} {f : Mem} (h : All2 (fun n => isI n) ns ys f) : Ints ys ns := ⟨h.1, fun i n e => let ⟨_, a, t, b⟩ := h.2 i n e; ⟨t, b ▸ a⟩⟩
theorem All2.app {P : α → Value → Mem → Prop} {ds es : List α} {ys zs : Array Value} {f : Mem} (h : All2 P ds ys f) (h' : All2 P es zs f) : All2 P (ds ++ es) (ys ++ zs) f := by
  refine ⟨by rw [Array.size_append, h.1, h'.1, List.length_append], fun i e he => ?_⟩
  rw [Array.getElem?_append]
  rcases Nat.lt_or_ge i ds.length with hi | hi
  · rw [List.getElem?_append_left hi] at he
    rw [if_pos (by rw [h.1]; omega)]; exact h.2 i e he
  · rw [List.getElem?_append_right hi] at he
    rw [if_neg (by rw [h.1]; omega), h.1]; exact h'.2 _ e he
/-- read as data -/
def Rdb (P : α → Value → Mem → Prop) (D : α → PyData) : Prop := ∀ d v f (h : Heap), Le f h.get? → P d v f → ∃ as, Reads h v (D d) as
theorem rdb_N : Rdb (fun n : Nat => isI n) (fun n => PyData.int n) := fun _ _ _ _ _ ⟨t, e⟩ => ⟨[], e ▸ Reads.int _ t⟩
theorem readsAll_of {P : α → Value → Mem → Prop} {D : α → PyData} (r : Rdb P D) {f : Mem} {h : Heap} (l : Le f h.get?) : ∀ {ds : List α} {ys : List Value}, ys.length = ds.length → (∀ (i : Nat) d, ds[i]? = some d → ∃ y, ys[i]? = some y ∧ P d y f) → ∃ as, ReadsAll h ys (ds.map D) as
  | [], [], _, _ => ⟨[], .nil⟩
  | d :: ds, y :: ys, e, k => by
    obtain ⟨y', a, b⟩ := k 0 d rfl
    simp at a; subst a
    obtain ⟨as, ha⟩ := r _ _ _ _ l b
    obtain ⟨bs, hb⟩ := readsAll_of r l (ds := ds) (ys := ys) (by simpa using e) fun i d' e' => by
      have := k (i + 1) d' (by simpa using e'); simpa using this
    exact ⟨_, .cons ha hb⟩
  | [], _ :: _, e, _ => by simp at e
  | _ :: _, [], e, _ => by simp at e
theorem rdb_L {P : α → Value → Mem → Prop} {D : α → PyData} (r : Rdb P D) : Rdb (Lof P) (fun ds => .list (ds.map D)) := fun ds v f h l ⟨a, ys, k, e, ho, j⟩ => by
  obtain ⟨as, ha⟩ := readsAll_of r l (ds := ds) (ys := ys.toList) (by simpa using j.1) fun i d e => by
    obtain ⟨y, a, b⟩ := j.2 i d e; exact ⟨y, by simpa using a, b⟩
  rw [e]; exact ⟨_, Reads.list (l _ _ ho) rfl rfl ha⟩
theorem rds_V {P : α → Value → Mem → Prop} {D : α → PyData} {d : α} {v : Value} {f : Mem} (r : Rdb P D) (l : Le f s₀.heap.get?) (h : P d v f) : Rds (isV v) (D d) s₀ := fun v' f' s p _ e => by
  have e' : v' = v := e
  rw [e']; exact r d v f s.heap (fun b o q => p.keep _ _ (l _ _ q)) h
end
end Mine
namespace Mine
section
variable {prog : Program} {w : World} {A : Around} {env : Env} {s₀ : Shared}
variable {u s s' : Shared} {g : Mem} {L : Addr} {xs : List Str} {vs : List (Option Value)} {ms r : List (Addr × Obj)} {mg mb : Str → Option Value}
theorem pr_tup {t : Sem Value} {P₁ P₂ : Value → Mem → Prop} {R : Value → Value → List (Addr × Obj) → Mem → Prop} (h : Ev prog w A t s₀ (isTup fun ys f => AllP [P₁, P₂] ys.toList f))
    (k : ∀ y1 y2 f, P₁ y1 f → P₂ y2 f → ∃ nw, (nw.map (·.1)).Nodup ∧ (∀ q ∈ nw, f q.1 = some q.2 ∧ q.2.cls = .type "list") ∧ R y1 y2 nw f) : Ev prog w A t s₀ (isPr R) := h.imp fun v f ⟨a, ys, e, ha, hp⟩ => by
  obtain ⟨y1, y2, e2, h1, h2⟩ := hp.two
  obtain ⟨nw, nd, hq, hr⟩ := k _ _ _ h1 h2
  have e3 : ys = #[y1, y2] := by rw [← Array.toList_inj, e2]
  refine ⟨a, y1, y2, nw, _, e, ha, rfl, ⟨0, by rw [e3]⟩, fun hm => ?_, nd, fun q hm => (hq q hm).1, hr⟩
  obtain ⟨q, hm', e5⟩ := List.mem_map.mp hm
  have := hq q hm'
  rw [e5, ha] at this
  have e4 := this.1
  injection e4 with e4
  rw [← e4] at this
  exact absurd (show Value.type "tuple" = Value.type "list" from this.2) (by decide)
theorem pr_val {t : Sem Value} {P₁ P₂ : Value → Mem → Prop} (h : Ev prog w A t s₀ (isTup fun ys f => AllP [P₁, P₂] ys.toList f)) : Ev prog w A t s₀ (isPr fun y1 y2 nw f => nw = [] ∧ P₁ y1 f ∧ P₂ y2 f) :=
  pr_tup h fun _ _ _ h1 h2 => ⟨[], .nil, (fun q h => by cases h), rfl, h1, h2⟩
/-- x, y = [], [] -/
theorem ev_tupLL {p₁ p₂ pos : Pos} {k : Nat} : Ev prog w A (eval (.Tuple [.List [] p₁, .List [] p₂] k pos) env) s₀ (isPr fun y1 y2 nw _ => ∃ a b n m, y1 = .ref a ∧ y2 = .ref b ∧ nw = [(a, lobj #[] n), (b, lobj #[] m)]) := fun s Q E p kk => by
  have h0 : ∀ {s : Shared} {pos : Pos} {Q : Value → Shared → Prop} {E : Value → Shared → Prop}, (∀ a n s', Pu s s' → s.heap.get? a = none → s'.heap.get? a = some (lobj #[] n) → Q (.ref a) s') → wpAny (model prog w) A (eval (.List [] pos) env) Q E s := fun {s pos Q E} kk => by
    refine List_ ?_
    refine ea_nil.2 s _ _ (Pu.refl s) fun l s₁ p₁ hl => ?_
    cases l with
    | cons => exact hl.elim
    | nil => exact wpAny_newObj_type (kk _ 0 _ (p₁.trans (pu_push _ _)) (by
        cases q : s.heap.get? s₁.heap.objs.size with
        | none => rfl
        | some o => have := p₁.keep _ _ q; rw [size_none (Nat.le_refl _)] at this; cases this) (Heap.get?_push_size _ rfl)) (Nat.le_of_ble_eq_true rfl)
  refine Tuple_ ?_
  show wpAny _ _ (spliced (backTo pos ([eval (.List [] p₁) env, eval (.List [] p₂) env].map fun t => (false, t)))) _ _ _
  rw [backTo_plain]
  refine Calls.spliced_cons (h0 fun a n s₁ q1 hn h1 => Calls.spliced_cons (h0 fun b m s₂ q2 hn2 h2 => Calls.spliced_nil ?_))
  refine wpAny_newObj_type (kk _ _ ((q1.trans q2).trans (pu_push _ _)) ?_) (Nat.le_of_ble_eq_true rfl)
  have p3 := (q1.trans q2)
  have ea : fresh s.heap (s₂.heap.push (tobj [Value.ref a, Value.ref b].toArray)) a = some (lobj #[] n) := fresh_of hn (Heap.get?_push_of_some _ (q2.keep _ _ h1))
  have eb : fresh s.heap (s₂.heap.push (tobj [Value.ref a, Value.ref b].toArray)) b = some (lobj #[] m) := fresh_of (by
        cases q : s.heap.get? b with
        | none => rfl
        | some o => have := q1.keep _ _ q; rw [hn2] at this; cases this) (Heap.get?_push_of_some _ h2)
  have ne : a ≠ b := fun e => by rw [← e, h1] at hn2; cases hn2
  have hz : s₂.heap.get? s₂.heap.objs.size = none := size_none (Nat.le_refl _)
  refine ⟨_, .ref a, .ref b, [(a, lobj #[] n), (b, lobj #[] m)], tobj [.ref a, .ref b].toArray, rfl, Pu.fresh_le' p3 _ _ fresh_push, rfl, ⟨0, rfl⟩, ?_, ?_, ?_, a, b, n, m, rfl, rfl, rfl⟩
  · intro hm
    rcases List.mem_cons.mp hm with e | hm
    · have e' : s₂.heap.objs.size = a := e
      rw [e', q2.keep _ _ h1] at hz; cases hz
    · have e' : s₂.heap.objs.size = b := by simpa using hm
      rw [e', h2] at hz; cases hz
  · simpa using ne
  · intro q hq
    rcases List.mem_cons.mp hq with e | hq
    · rw [e]; exact ea
    · rw [List.mem_singleton.mp hq]; exact eb
end
open Builtin.Range in
theorem small_of {a b c : Int} {n : Nat} (e : rangeSize a b c = n) (h : n < 1000000) (ha : a.natAbs < 1000000 := by omega) (hb : b.natAbs < 1000000 := by omega) (hc : c.natAbs < 1000000 := by omega) : small a b c = true := by
  have h1 : (n : Int) < 1000000 := by omega
  simp only [small, rangeFitsLong, e, Bool.and_eq_true, decide_eq_true_eq, Bool.or_eq_true]
  repeat' split
  all_goals (try simp only [Bool.and_eq_true, decide_eq_true_eq])
  all_goals refine ⟨?_, ?_⟩
  all_goals omega
theorem size_up {a b : Int} {n : Nat} (h : b = a + n) : Builtin.Range.rangeSize a b 1 = n := by
  unfold Builtin.Range.rangeSize
  rw [if_pos (by decide), Int.ediv_one]
  split <;> omega
theorem le_line {n : Nat} (h : n ≤ 1000000) : n ≤ sizeLine := by rw [sizeLine_eq]; omega
theorem noPy {a b : Int} (h : b.natAbs < 1073741824 := by decide) : Builtin.divisionGoesByPylong a b = false := PyProof.noPylong_small h
end Mine
namespace Mine
section
variable {prog : Program} {w : World} {A : Around} {env : Env} {s₀ : Shared}
theorem eb_int {e : Expr} {a : Int} (h : Ev prog w A (eval e env) s₀ (isI a)) (he : isTrue e env (eval e env) = (do let v ← eval e env; standAt e.pos; holding [v] (truthy v)) := by rfl) : Eb prog w A (isTrue e env (eval e env)) s₀ (a != 0) := fun s Q E p k =>
  isTrue_plain (h s _ _ p fun v s₁ p₁ ⟨t, hv⟩ => by rw [hv]; exact truthy_int (k _ p₁)) he
theorem cl_divmod {a b : Int} (hb : b ≠ 0) (hb' : b.natAbs < 1073741824) : Cl prog w A (.builtin "divmod") s₀ [isI a, isI b] (isTup fun ys f => AllP [isI (a.fdiv b), isI (a.fmod b)] ys.toList f) := fun l s Q E g p le ha k => by
  obtain ⟨_, _, rfl, ⟨t, rfl⟩, ⟨t', rfl⟩⟩ := ha.two
  exact divmod_int hb (k _ _ (pu_push _ _) ⟨_, _, rfl, fresh_push, ⟨⟨_, rfl⟩, ⟨_, rfl⟩, trivial⟩⟩) (.inl (noPy hb'))
end
end Mine
namespace Mine
/-- the codes that may be said to hold a bytearray -/
def badIds : List String := Builtin.Bytes.decodersThatHold ++ ["bytearray.__contains__", "bytearray.__mod__", "bytearray.__rmod__", "_struct.pack_into.held", "bytearray.find.held"]
def cleanC : Code → Bool
  | .builtin id _ => !badIds.contains id
  | _ => true
def Clean (Γ : Ctx) : Prop := cleanC Γ.code = true ∧ ∀ c ∈ Γ.below, cleanC c.1 = true
/-- as wpAny, but from clean stacks alone -/
def wpS {α : Type} (M : Model) (A : Around) (t : Sem α) (Q : α → Shared → Prop) (E : Value → Shared → Prop) (s : Shared) : Prop :=
  ∀ Γ p, Γ.In A → Clean Γ → Sem.wp M Γ t (fun a _ s' => Q a s') (fun e _ s' => E e s') p s
def codeS (M : Model) (A : Around) (c : Code) (R : Result → Shared → Prop) (s : Shared) : Prop := ∀ Γ p, Γ.code = c → Γ.Below A → Clean Γ → wpCode M Γ R p s
section
variable {α β : Type} {M : Model} {A : Around} {E : Value → Shared → Prop} {s : Shared}
theorem S.of {t : Sem α} {Q : α → Shared → Prop} (h : wpAny M A t Q E s) : wpS M A t Q E s := fun Γ p i _ => h Γ p i
theorem S.mono {t : Sem α} {Q Q' : α → Shared → Prop} {E' : Value → Shared → Prop} (h : wpS M A t Q E s) (hQ : ∀ a s, Q a s → Q' a s) (hE : ∀ e s, E e s → E' e s) : wpS M A t Q' E' s :=
  fun Γ p i c => Sem.wp_mono M Γ t (fun a _ s => hQ a s) (fun e _ s => hE e s) p s (h Γ p i c)
theorem S.bind {m : Sem α} {f : α → Sem β} {Q : β → Shared → Prop} (h : wpS M A m (fun a s' => wpS M A (f a) Q E s') E s) : wpS M A (m >>= f) Q E s := fun Γ p i c => by
  rw [Sem.wp_bind']
  exact Sem.wp_mono M Γ m (fun a p' s' h' => h' Γ p' i c) (fun _ _ _ x => x) p s (h Γ p i c)
theorem S.hold {vs : List Value} {m : Sem α} {Q : α → Shared → Prop} (h : wpS M A m Q E s) : wpS M A (holding vs m) Q E s := fun Γ p i c => by rw [Sem.wp_holding]; exact h Γ p i c
theorem S.keep {vs : List Value} {m : Sem α} {Q : α → Shared → Prop} (h : wpS M A m Q E s) : wpS M A (m.keep vs) Q E s := fun Γ p i c => by rw [Sem.wp_keep]; exact h Γ p i c
theorem S.raise {m : Sem α} {k : Value → Sem Unit} {Q : α → Shared → Prop} (h : wpS M A m Q (fun e s' => wpS M A (k e) (fun _ s'' => E e s'') E s') s) : wpS M A (m.onRaise k) Q E s := fun Γ p i c => by
  rw [Sem.wp_onRaise]
  exact Sem.wp_mono M Γ m (fun _ _ _ x => x) (fun e p' s' h' => h' Γ p' i c) p s (h Γ p i c)
theorem Clean.enter {Γ : Ctx} (h : Clean Γ) {c : Code} (hc : cleanC c = true) (hd : Option Value) (p : Pos) : Clean (Γ.enter c hd p) :=
  ⟨hc, fun x hx => by
    rcases List.mem_cons.mp hx with e | hx
    · rw [e]; exact h.1
    · exact h.2 x hx⟩
theorem S.call {f : Value} {l : List Value} {kw : List (Str × Value)} {Q : Value → Shared → Prop}
    (h : codeS M A (.call f ⟨l, kw⟩) (fun r s' => match r with | .ok (.ret v) => Q v s' | .ok _ => False | .error e => E e s') s) : wpS M A (call f l kw) Q E s := fun Γ p i c => by
  show Sem.wp M Γ (runValue (.call f ⟨l, kw⟩)) _ _ p s
  rw [Sem.wp_runValue]
  exact h _ p rfl (i.enter _ none p (by intro x; cases x)) (c.enter rfl none p)
theorem codeS.tree {c : Code} {R : Result → Shared → Prop}
    (h : wpS M (A.under c) (M.den c) (fun fin s' => match fin with | .done f => R (.ok f) s' | .again c' => c'.quiet = true ∧ cleanC c' = true ∧ codeS M A c' R s') (fun e s' => R (.error e) s') s) : codeS M A c R s := fun Γ p e i cl => by
  rw [wpCode_iff_wp, e]
  refine Sem.wp_mono M Γ _ (fun fin p' s' h' => ?_) (fun _ _ _ x => x) p s (h Γ p (e ▸ i.in) cl)
  cases fin with
  | done f => exact h'
  | again c' => exact ⟨h'.1, h'.2.2 (Γ.goto c') p' rfl (i.goto c') ⟨h'.2.1, cl.2⟩⟩
theorem S.stack {Q : List (Code × Pos) → Shared → Prop} (h : ∀ st : List (Code × Pos), (∀ c ∈ st, cleanC c.1 = true) → Q st s) : wpS M A stack Q E s := fun Γ p _ c => by
  show Q ((Γ.code, p) :: Γ.below) s
  refine h _ fun x hx => ?_
  rcases List.mem_cons.mp hx with e | hx
  · rw [e]; exact c.1
  · exact c.2 x hx
end
/-- run t where the stack is clean; elsewhere d -/
def guarded {α : Type} (d : α) (t : Sem α) : Sem α := stack >>= fun st => if (st.all fun c => cleanC c.1) = true then t else pure d
theorem guarded_any {α : Type} {M : Model} {A : Around} {E : Value → Shared → Prop} {s : Shared} {d : α} {t : Sem α} {Q : α → Shared → Prop} (h : wpS M A t Q E s) (hd : Q d s) : wpAny M A (guarded d t) Q E s := fun Γ p i => by
  show Sem.wp M Γ (if ((((Γ.code, p) :: Γ.below).all fun c => cleanC c.1) = true) then t else pure d) _ _ p s
  split
  · rename_i hc
    have hc' := List.all_eq_true.mp hc
    exact h Γ p i ⟨hc' _ (.head _), fun x hx => hc' x (.tail _ hx)⟩
  · exact hd
theorem guarded_out {α : Type} {M : Model} {A : Around} {E : Value → Shared → Prop} {s : Shared} {d : α} {t : Sem α} {Q : α → Shared → Prop} (h : wpAny M A (guarded d t) Q E s) : wpS M A t Q E s := fun Γ p i c => by
  have h1 : Sem.wp M Γ (if ((((Γ.code, p) :: Γ.below).all fun c => cleanC c.1) = true) then t else pure d) _ _ p s := h Γ p i
  rw [if_pos] at h1
  · exact h1
  · refine List.all_eq_true.mpr fun x hx => ?_
    rcases List.mem_cons.mp hx with e | hx
    · rw [e]; exact c.1
    · exact c.2 x hx
/-- in a clean stack the other run may be the junk's: then that is what is known of it -/
theorem guarded_map {α β : Type} {M : Model} {A : Around} {E : Value → Shared → Prop} {s : Shared} {d : α} {e : β} {t : Sem α} {u : Sem β} {Q : α → Shared → Prop} {Q' : β → Shared → Prop} (h : wpAny M A (guarded d t) Q E s)
    (k : wpS M A t Q E s → wpS M A u Q' E s) (hq : Q d s → Q' e s) : wpAny M A (guarded e u) Q' E s := fun Γ p i => by
  show Sem.wp M Γ (if ((((Γ.code, p) :: Γ.below).all fun c => cleanC c.1) = true) then u else pure e) _ _ p s
  have h1 : Sem.wp M Γ (if ((((Γ.code, p) :: Γ.below).all fun c => cleanC c.1) = true) then t else pure d) _ _ p s := h Γ p i
  split
  · rename_i hc
    have hc' := List.all_eq_true.mp hc
    exact k (guarded_out h) Γ p i ⟨hc' _ (.head _), fun x hx => hc' x (.tail _ hx)⟩
  · rename_i hc
    rw [if_neg hc] at h1
    exact hq h1
theorem sched_guarded {prog : Program} {w : World} {n : Nat} {s s' : Shared} {o : Outcome} {d t : Sem Fin} {dd : Fin} (hz : s.asleep)
    (h : schedN (denote table) prog w n (.single s ⟨guarded dd t, .builtin "claim.caller" {}, default, []⟩) = .halted o s') :
    ∃ m, schedN (denote table) prog w m (.single s ⟨t, .builtin "claim.caller" {}, default, []⟩) = .halted o s' := by
  cases n with
  | zero => cases h
  | succ n =>
    have st : step (denote table) prog w s ⟨guarded dd t, .builtin "claim.caller" {}, default, []⟩ = .go s ⟨t, .builtin "claim.caller" {}, default, []⟩ := by
      show Step.go s ⟨(if ([((Code.builtin "claim.caller" {}), (default : Pos))].all fun c => cleanC c.1) = true then t else pure dd), _, _, _⟩ = _
      rw [if_pos (by decide +kernel)]
    rcases sstep_single (denote table) prog w s ⟨guarded dd t, .builtin "claim.caller" {}, default, []⟩ rfl hz with e | e
    · rw [schedN, e, st] at h
      exact ⟨n, h⟩
    · rw [st] at e; cases e
end Mine
namespace Mine
theorem holdsBy_of {c : ClaimW} {st st' : List Value → Thread} {defs kps : List Str} {wr : Bool} (H : c.HoldsOpenBy st' defs kps wr)
    (sim : ∀ (w : World) vs (s : Shared) n o s', s.asleep → schedN (denote table) c.prog w n (.single s (st' vs)) = .halted o s' → ∃ m, schedN (denote table) c.prog w m (.single s (st vs)) = .halted o s')
    (hz : ∀ (w : World) s s₀ s₁, AfterRun (opening c.prog) w s → fenceModules? c.prog s = some s₀ → TopRan c.prog w s₀ s₁ → s₁.asleep) : c.HoldsOpenBy st defs kps wr := by
  obtain ⟨h1, h2, h3⟩ := H
  refine ⟨h1, h2, fun w => ⟨(h3 w).1, fun s hs => ?_⟩⟩
  obtain ⟨s₀, e0, g0, s₁, T, d, r1, r2, call⟩ := (h3 w).2 s hs
  refine ⟨s₀, e0, g0, s₁, T, d, r1, r2, fun args ha hl ord ho => ?_⟩
  obtain ⟨vs, s₂, lay, n, o, s', run, rest⟩ := call args ha hl ord ho
  obtain ⟨m, hm⟩ := sim w vs s₂ n o s' (Shared.asleep_of_life (layAllW_rest _ _ _ lay).2.2.2 (hz w s s₀ s₁ hs e0 T)) run
  exact ⟨vs, s₂, lay, m, o, s', hm, rest⟩
/-- what is asked of the walk: clean stacks alone -/
abbrev WalkC (q : Program) (loose : List Str) (XP : (Str → Option Value) → Heap → Prop) (YP : World → Heap → Prop) (r : RowW) (d : DefRec) (kwd : List (Str × Expr)) : Prop :=
  ∀ (w : World) (s₀ s₁ : Shared) (mg mb : Str → Option Value), Ground q loose r.records XP w s₀ mg mb s₁.heap → YP w s₁.heap → ∀ (a : Addr) (o : Obj) (pm cd doc dV kV : Value), s₁.heap.get? a = some o →
    o.data = .func { docDef d.name d.params d.body d.scope pm cd doc with defaults := dV, kwdefaults := kV } → s₁.heap.CodeRec cd d.name → Dflts mg s₁.heap d.params kwd dV kV → mg d.name = some (.ref a) → s₁.gens = #[] →
    ∀ (args : List WData) (vals : List Value) (as : List Addr), r.claim.pre args = true → WData.layableAll args = true → ReadsAllW r.records (classAt s₀.heap) s₁.heap vals args as → WellAll w.params s₁.heap vals args → (∀ a ∈ as, (a == sysModules) = false) →
      GoodWG r.claim (classAt s₀.heap) (ExcName.means s₀.heap) args s₁ (.ok (.ret (.bool true))) s₁ ∧
      wpS (model r.prog w) callerA (PySem.call (.ref a) vals) (fun v s' => GoodWG r.claim (classAt s₀.heap) (ExcName.means s₀.heap) args s₁ (.ok (.ret v)) s')
        (fun e s' => GoodWG r.claim (classAt s₀.heap) (ExcName.means s₀.heap) args s₁ (.error e) s') s₁
end Mine
namespace Mine.PySem.W
theorem holds_open {r : OpenRow} {q : Program} {loose : List Str} {Xt : Shared → Bool} {XP : (Str → Option Value) → Heap → Prop} {α : Type} {Yf : Shared → α} {Ya : World → α} {YP : World → Heap → Prop} {d : DefRec} {kwd : List (Str × Expr)} {N : Nat}
    (left : LeftO r.prog q loose Xt Yf Ya N) (hY : ∀ w s, Yf s = Ya w → YP w s.heap) (hYk : ∀ w h h', YP w h → (∀ b o, h.get? b = some o → h'.get? b = some o) → YP w h')
    (hX : ∀ s, Xt s = true → XP (s.heap.nsMap mainGlobals) s.heap) (hXk : ∀ mg h h', XP mg h → (∀ b o, h.get? b = some o → h'.get? b = some o) → XP mg h')
    (hdef : defOf q r.name = some (d, kwd)) (hp : r.prog.theDef r.name = some (d.params, d.body, d.scope)) (hk : kwWritten? d.params.kwonlyargs d.params.kw_defaults = some kwd) (hRf : ∀ s, Xt s = true → RecFacts r.records s.heap) (hwr : (!r.writes || r.records.isEmpty) = true)
    (k1 : r.wellSaid = true) (ok : (chainsOk q && opensWell r.prog && (frees r.toRowW && r.within.isEmpty)) = true) (hb : r.prog.bare) (hw : r.toRowW.promised)
    (call : WalkC q loose XP YP r.toRowW d kwd) : r.Holds := by
  refine ⟨k1, hw, holdsBy_of (st' := fun vs => ⟨guarded (.done (.ret (.bool true))) (do match ← nsGet mainNs r.name with
      | some f => do ret (← PySem.call f vs)
      | none => unsupported "claim.caller:no-such-global"), .builtin "claim.caller" {}, default, []⟩)
    (open_anyG (r := r.toRowW) (run := fun f vs => guarded (.bool true) (PySem.call f vs)) (tree := fun vs => guarded (.done (.ret (.bool true))) (do match ← nsGet mainNs r.name with
      | some f => do ret (← PySem.call f vs)
      | none => unsupported "claim.caller:no-such-global")) left hY hYk hX hXk hRf hwr ok hb hw ?_ ?_ ?_) (fun w vs s n o s' z h => sched_guarded (d := ret .none) z h) fun w s s₀ s₁ hs e0 T => ?_⟩
  · intro vs w s mg f Q E hg hf h
    refine guarded_map h (fun hs => S.bind (S.of (wpAny_nsGet hg ?_))) id
    rw [hf]
    exact S.bind (S.mono hs (fun _ _ x => S.of (wpAny_pure x)) fun _ _ x => x)
  · intro w s hg G n hn
    obtain rfl : n = r.name := by split at hn <;> simp_all
    exact pinned_of_view hg G hdef hp hk
  · intro w s₀ s₁ mg mb G Y args vs as hpre hlay L low
    obtain ⟨a, o, pm, cd, doc, dV, kV, h1, h2, h3, h4, h5⟩ := G.fn hdef
    have h := call w s₀ s₁ mg mb G Y a o pm cd doc dV kV h2 h3 h4 h5 (defOf_name hdef ▸ h1) L.gens args vs as hpre hlay L.reads L.well (L.low low)
    exact ⟨.ref a, h1, guarded_any h.2 h.1⟩
  · have hch : chainsOk q = true := (Bool.and_eq_true_iff.mp (Bool.and_eq_true_iff.mp ok).1).1
    obtain ⟨s₀', e1, _, s₁', T', z', _⟩ := (left.behind hX hch w).2 s hs
    have ee : s₀' = s₀ := Option.some.inj (e1.symm.trans e0)
    subst ee
    exact Shared.asleep_of_life (T.2.1.trans T'.2.1.symm) z'
end Mine.PySem.W
namespace Mine
section
variable {prog : Program} {w : World} {A : Around} {env : Env} {s₀ : Shared}
variable {u s s' : Shared} {g : Mem} {L : Addr} {xs : List Str} {vs : List (Option Value)} {ms r : List (Addr × Obj)} {mg mb : Str → Option Value}
/-- Ev, from clean stacks alone -/
def EvS (prog : Program) (w : World) (A : Around) (t : Sem Value) (s₀ : Shared) (P : Value → Mem → Prop) : Prop :=
  ∀ s (Q : Value → Shared → Prop) (E : Value → Shared → Prop), Pu s₀ s → (∀ v s', Pu s s' → P v (fresh s.heap s'.heap) → Q v s') → wpS (model prog w) A t Q E s
theorem EvS.imp {t : Sem Value} {P P' : Value → Mem → Prop} (h : EvS prog w A t s₀ P) (i : ∀ v g, P v g → P' v g) : EvS prog w A t s₀ P' := fun s Q E q k => h s Q E q fun v s' p hp => k v s' p (i v _ hp)
def EvAllS (prog : Program) (w : World) (A : Around) (ts : List (Sem Value)) (s₀ : Shared) (Ps : List (Value → Mem → Prop)) : Prop :=
  (∀ P ∈ Ps, Mono P) ∧ ∀ s (Q : List Value → Shared → Prop) (E : Value → Shared → Prop), Pu s₀ s → (∀ vs s', Pu s s' → AllP Ps vs (fresh s.heap s'.heap) → Q vs s') → wpS (model prog w) A (spliced (ts.map fun t => (false, t))) Q E s
theorem EvAll.toS {ts : List (Sem Value)} {Ps : List (Value → Mem → Prop)} (h : EvAll prog w A ts s₀ Ps) : EvAllS prog w A ts s₀ Ps := ⟨h.1, fun s Q E p k => S.of (h.2 s Q E p k)⟩
theorem splicedS {x : Sem Value} {rest : List (Bool × Sem Value)} {Q : List Value → Shared → Prop} {E : Value → Shared → Prop} {M : Model} (h : wpS M A x (fun v s₁ => wpS M A (spliced rest) (fun vs s₂ => Q (v :: vs) s₂) E s₁) E s) : wpS M A (spliced ((false, x) :: rest)) Q E s := by
  rw [spliced]
  refine S.bind (S.mono h (fun v s₁ h₁ => ?_) fun _ _ x => x)
  simp only [Bool.false_eq_true, if_false]
  exact S.bind (S.of (wpAny_pure (S.bind (S.hold (S.mono h₁ (fun vs s₂ h₂ => S.of (wpAny_pure h₂)) fun _ _ x => x)))))
theorem eaS_cons {t : Sem Value} {ts : List (Sem Value)} {P : Value → Mem → Prop} {Ps : List (Value → Mem → Prop)} (h : EvS prog w A t s₀ P) (m : Mono P) (hs : EvAllS prog w A ts s₀ Ps) : EvAllS prog w A (t :: ts) s₀ (P :: Ps) :=
  ⟨fun P' hP => by
    rcases List.mem_cons.mp hP with e | hP
    · rw [e]; exact m
    · exact hs.1 P' hP, fun s Q E p k => by
    show wpS _ _ (spliced ((false, t) :: ts.map fun t => (false, t))) _ _ _
    refine splicedS (h s _ _ p fun v s₁ p₁ hv => hs.2 s₁ _ _ (p.trans p₁) fun vs s₂ p₂ hvs => ?_)
    exact k _ _ (p₁.trans p₂) ⟨m _ _ _ (Pu.fresh_le p₂) hv, AllP.mono hs.1 (Pu.fresh_le' p₁) hvs⟩⟩
/-- the contract of a call, from clean stacks alone -/
def ClS (prog : Program) (w : World) (A : Around) (f : Value) (s₀ : Shared) (Ps : List (Value → Mem → Prop)) (P : Value → Mem → Prop) : Prop :=
  ∀ l s (Q : Value → Shared → Prop) (E : Value → Shared → Prop) g, Pu s₀ s → Le g s.heap.get? → AllP Ps l g → (∀ v s', Pu s s' → P v (fresh s.heap s'.heap) → Q v s') → wpS (model prog w) A (call f l []) Q E s
theorem Cl.toS {f : Value} {Ps : List (Value → Mem → Prop)} {P : Value → Mem → Prop} (h : Cl prog w A f s₀ Ps P) : ClS prog w A f s₀ Ps P := fun l s Q E g p le ha k => S.of (h l s Q E g p le ha k)
theorem call_tailS {pos : Pos} {f : Value} {first : List Value} {es : List Expr} {t₀ : Sem Value} {ts : List (Sem Value)} {Ps : List (Value → Mem → Prop)} {Q : Value → Shared → Prop} {E : Value → Shared → Prop} (p : Pu s₀ s) (hk : Kept prog w f s₀.heap) (ha : EvAllS prog w A (t₀ :: ts) s₀ Ps)
    (hs : starEach es env = (t₀ :: ts).map fun t => (false, t)) (k : ∀ l s', Pu s s' → AllP Ps l (fresh s.heap s'.heap) → wpS (model prog w) A (call f (first ++ l) []) Q E s') :
    wpS (model prog w) A (callWith pos f first (backTo pos (starEach es env)) []) Q E s := by
  rw [hs, backTo_plain]
  have hp : (((t₀ :: ts).map fun t => (false, t)).any (·.1) || ([] : List (Option Str × Sem Value)).any (·.1.isNone)) = false := by
    rw [List.any_map]; show (List.any _ (fun _ => false) || false) = false
    rw [Bool.or_false, List.any_eq_false]; exact fun _ _ => Bool.false_ne_true
  unfold callWith
  refine S.bind (S.hold ?_)
  unfold evalArgs
  show wpS _ A (spliced ((t₀ :: ts).map fun t => (false, t)) >>= _) _ _ _
  refine S.bind (ha.2 s _ _ p fun l s₁ p₁ hl => ?_)
  refine S.hold ?_
  simp only [List.all_nil, if_true]
  refine S.bind (S.of (wpAny_evalAll_nil (S.bind (S.of (wpAny_pure (S.of (wpAny_pure (S.bind (S.of (wpAny_standAt ?_))))))))))
  obtain ⟨kk, hk', Lk⟩ := hk s₁.heap (p.trans p₁).keep
  simp only [hp]
  refine S.bind (S.of (Lk.here ?_))
  have hcall := k l s₁ p₁ hl
  have tail : ∀ {t : Sem Value}, wpS (model prog w) A t Q E s₁ → wpS (model prog w) A (t >>= fun r => holding [r] point >>= fun _ => pure r) Q E s₁ :=
    fun ht => S.bind (S.mono ht (fun r s₂ hr => S.of (wpAny_bind (wpAny_holding (wpAny_point (wpAny_pure hr))))) fun _ _ x => x)
  have marked (mk : Value) : wpS (model prog w) A (callMarked mk f (first ++ l) []) Q E s₁ := by unfold callMarked; exact S.keep hcall
  rcases hk' with rfl | rfl | rfl <;> dsimp only <;> first | exact tail hcall | (split <;> first | exact tail hcall | exact tail (marked _))
theorem evS_call {x : Str} {np pos : Pos} {f : Value} {e₀ : Expr} {es : List Expr} {Ps : List (Value → Mem → Prop)} {P : Value → Mem → Prop} (hf : Ev prog w A (eval (.Name x np) env) s₀ (isV f)) (hk : Kept prog w f s₀.heap)
    (ha : EvAllS prog w A (eval e₀ env :: evs es env) s₀ Ps) (m : Mono P) (C : ClS prog w A f s₀ Ps P) (hs : starEach (e₀ :: es) env = (eval e₀ env :: evs es env).map fun t => (false, t) := by rfl) : EvS prog w A (eval (.Call (.Name x np) (e₀ :: es) [] pos) env) s₀ P := fun s Q E p k => by
  show wpS _ A (do callWith pos (← eval (.Name x np) env) [] (backTo pos (starEach (e₀ :: es) env)) (backToKw pos (keywordEach [] env))) Q E s
  refine S.bind (S.of (hf s _ _ p fun v s₁ p₁ hv => ?_))
  cases hv
  refine call_tailS (p.trans p₁) hk ha hs fun l s₂ p₂ hl => C l s₂ _ _ _ ((p.trans p₁).trans p₂) fresh_le hl fun v s₃ p₃ hv => ?_
  exact k v s₃ ((p₁.trans p₂).trans p₃) (m _ _ _ (Pu.fresh_le' (p₁.trans p₂)) hv)
theorem xS_cons {st : Stmt} {rest : List Stmt} {Q : Flow → Shared → Prop} {E : Value → Shared → Prop} {M : Model} (h : wpS M A (exec st env) (fun f s' => match f with | .next => wpS M A (execs rest env) Q E s' | f => Q f s') E s) :
    wpS M A (execs (st :: rest) env) Q E s := fun Γ p i c => by
  rw [execs_cons, Sem.wp_bind']
  refine Sem.wp_mono M Γ _ (fun f p' s' h' => ?_) (fun _ _ _ h' => h') _ _ (h Γ p i c)
  cases f <;> first | exact h' Γ p' i c | exact h'
theorem asgS_Name {x : Str} {px : Pos} {e : Expr} {pos : Pos} {Q : Flow → Shared → Prop} {E : Value → Shared → Prop} {M : Model} (h : wpS M A (eval e env) (fun v s₁ => wpAny M A (storeName env x v) (fun _ => Q .next) E s₁) E s)
    (hs : swapsWith e (some (.Name x px)) pos.line env = pure false) : wpS M A (exec (.Assign [.Name x px] e pos) env) Q E s := by
  rw [exec_Assign_Name env x px e pos hs]
  refine S.bind (S.of (wpAny_standAt (S.bind (S.mono h (fun v s₁ h₁ => ?_) fun _ _ x => x))))
  exact S.of (wpAny_bind (wpAny_standAt (wpAny_bind (wpAny_bindName (wpAny_mono h₁ (fun _ _ x => wpAny_pure x) fun _ _ x => x)))))
theorem xS_asg {x : Str} {px pos : Pos} {e : Expr} {i : Nat} {P : Value → Mem → Prop} {Q : Flow → Shared → Prop} {E : Value → Shared → Prop} (en : En env xs) (hL : env.locals = L) (S : St u g L xs vs ms s) (hx : xs[i]? = some x)
    (he : EvS prog w A (eval e env) s P) (k : ∀ (v : Value) (g' f : Mem) (s'' : Shared), Le g g' → Le f g' → P v f → St u g' L xs (vs.set i (some v)) ms s'' → Q .next s'')
    (hs : swapsWith e (some (.Name x px)) pos.line env = pure false := by rfl) : wpS (model prog w) A (exec (.Assign [.Name x px] e pos) env) Q E s :=
  asgS_Name (he s _ _ (Pu.refl s) fun v s₁ p hv => by
    obtain ⟨g', l, hg, S'⟩ := S.grow p [] (fun _ q => nomatch q) .nil
    exact st_name en hL S' hx fun s' S'' => k v g' _ s' l (fun b o e => hg b o e (fun q => nomatch q)) hv S'') hs
theorem xS_asgO {x : Str} {px pos : Pos} {e : Expr} {i : Nat} {P : Addr → Obj → Prop} {Q : Flow → Shared → Prop} {E : Value → Shared → Prop} (en : En env xs) (hL : env.locals = L) (S : St u g L xs vs ms s) (hx : xs[i]? = some x)
    (he : EvS prog w A (eval e env) s (fun v f => ∃ a o, v = .ref a ∧ f a = some o ∧ P a o)) (k : ∀ a o g' s', P a o → Le g g' → St u g' L xs (vs.set i (some (.ref a))) ((a, o) :: ms) s' → Q .next s')
    (hs : swapsWith e (some (.Name x px)) pos.line env = pure false := by rfl) : wpS (model prog w) A (exec (.Assign [.Name x px] e pos) env) Q E s :=
  asgS_Name (he s _ _ (Pu.refl s) fun v s₁ p hv => by
    obtain ⟨a, o, rfl, ha, hP⟩ := hv
    obtain ⟨g', l, _, S'⟩ := S.grow p [(a, o)] (fun q hq => by rw [List.mem_singleton.mp hq]; exact ⟨fresh_new ha, fresh_le _ _ ha⟩) (by simp)
    exact st_name en hL S' hx fun s' S'' => k a o g' s' hP l S'') hs
/-- a def is called: its body, from clean stacks alone -/
theorem codeS_func {body : List Stmt} {R : Result → Shared → Prop} (h : wpS (model prog w) (A.deeper env) (execs body env) (fun f s' => R (.ok (.ret (match f with | .ret v => v | _ => .none))) s') (fun _ _ => False) s) : codeS (model prog w) A (.func body env) R s := by
  refine codeS.tree ?_
  show wpS _ (A.deeper env) (do point; match ← (execs body env).onRaise (leaving env) with | .ret v => ret v | _ => ret .none) _ _ s
  refine S.bind (S.of (wpAny_point (S.bind (S.raise (S.mono h (fun f s' h' => ?_) fun _ _ h' => h'.elim)))))
  cases f <;> exact S.of (wpAny_pure h')
theorem codeS_call {a : Addr} {args : Args} {o : Obj} {fd : FuncData} {body : List Stmt} {R : Result → Shared → Prop} (hroom : A.depth < recursionLimit) (ho : s.heap.get? a = some o) (hd' : o.data = .func fd) (hco : fd.scope.isCoroutine = false) (hgen : fd.scope.isGenerator = false) (hbody : fd.body = .stmts body)
    (hcd : s.heap.CodeRec fd.code fd.qualname)
    (h : wpAny (model prog w) A.in1 (bindArgs fd args) (fun binds s₁ => wpAny (model prog w) A.in1 (newFunctionEnv fd.scope fd.globals fd.closure binds (fd.qualname ++ ".<locals>.") (some a) fd.code none fd.builtins)
      (fun env s₂ => s₂.heap.NoLimit ∧ wpS (model prog w) (A.deeper env) (execs body env) (fun f s' => R (.ok (.ret (match f with | .ret v => v | _ => .none))) s') (fun _ _ => False) s₂) (fun _ _ => False) s₁) (fun _ _ => False) s) :
    codeS (model prog w) A (.call (.ref a) args) R s := by
  refine codeS.tree (S.of ?_)
  show wpAny _ A.in1 (callAny (.ref a) args) _ _ s
  unfold callAny
  refine wpAny_bind (wpAny_load ho ?_)
  obtain ⟨c, oc, vs, tq, hc, hoc, hdc, hq⟩ := hcd
  rw [hc] at h
  simp only [hd', callFunction, hco, hgen, hbody, hc]
  refine wpAny_bind (m := field (.ref c) 1) (wpAny_field hoc hdc hq (wpAny_bind (wpAny_pure ?_)))
  refine wpAny_bind (wpAny_mono h (fun binds s₁ h₁ => wpAny_bind (wpAny_mono h₁ (fun env s₂ h₂ => ?_) fun _ _ x => x.elim)) fun _ _ x => x.elim)
  exact wpAny_bind (wpAny_enterFrame h₂.1 hroom (wpAny_pure ⟨rfl, rfl, codeS_func h₂.2⟩))
theorem fnS_plain {k : Nat} {f : Addr} {name : Str} {params : Arguments} {body : List Stmt} {scope : Scope} {dV kV : Value} {l : List Value} {kw : List (Str × Value)} {binds : List (Str × Value)} {Q : Value → Shared → Prop} {E : Value → Shared → Prop}
    (R : Rm k A) (lim : s.heap.NoLimit) (F : FnAt s.heap f name params body scope dV kV) (hbind : ∀ doc pm an cdv ct, BindsTo s (fnOf name name params body scope dV kV doc pm an cdv ct) ⟨l, kw⟩ binds)
    (hcell : ∀ x ∈ scope.names, x.2 ≠ .cell) (hloc : ∀ x ∈ binds, scope.names.lookup x.1 = some .local) (ha : Agree (fun y => binds.reverse.lookup y) xs vs)
    (h : ∀ L cdv s', St s s.heap.get? L xs vs [] s' → wpS (model prog w) (A.deeper (envOf name scope L f cdv)) (execs body (envOf name scope L f cdv)) (fun fl s' => Q (match fl with | .ret v => v | _ => .none) s') (fun _ _ => False) s')
    (hco : scope.isCoroutine = false := by rfl) (hgen : scope.isGenerator = false := by rfl) (hk : scope.kind = .function := by rfl) : wpS (model prog w) A (call (.ref f) l kw) Q E s := by
  obtain ⟨o, doc, pm, an, cdv, ct, ho, hd, hcd⟩ := F
  refine S.call (codeS_call (fd := fnOf name name params body scope dV kV doc pm an cdv ct) (body := body) R.room ho hd hco hgen rfl hcd (hbind doc pm an cdv ct _ _ _ _ ?_))
  refine wpAny_newFunctionEnv hcell hloc (fun h₀ hn hsb => ?_) hk
  have hk₀ : ∀ b o, s.heap.get? b = some o → h₀.get? b = some o := fun b o e => hsb.extBut b o (Nat.ne_of_lt (Heap.lt_size e)) (Heap.get?_push_of_some _ e)
  exact ⟨lim.fresh _ hsb, h s.heap.objs.size cdv _ ⟨rfl, ⟨_, hn, ha⟩, hk₀, Le.refl _, size_none (Nat.le_refl _), (fun _ h => nomatch h), .nil⟩⟩
end
end Mine
namespace Mine.F
theorem ba_mro : mroOf (.type "bytearray") = pure [.type "bytearray", .type "object"] := by rw [mroOf_type]; kernel_rfl
theorem ba_new : typeLookup (.type "bytearray") "__new__" = pure (some (.builtin "bytearray.__new__")) := by rw [typeLookup_type, builtinLookup_eq_fast]; kernel_rfl
theorem ba_init : Slot "bytearray" "__init__" "bytearray.__init__" :=
  .of (owner := "bytearray") (n := "__init__") (by rw [typeLookup_type, builtinLookup_eq_fast]; kernel_rfl) (by decide +kernel) (by decide +kernel) (by decide +kernel)
    (by first | exact .inl (by decide +kernel) | exact .inr (by decide +kernel)) (by rw [isSubtype_type]; kernel_rfl)
theorem ba_set : Slot "bytearray" "__setitem__" "bytearray.__setitem__" :=
  .of (owner := "bytearray") (n := "__setitem__") (by rw [typeLookup_type, builtinLookup_eq_fast]; kernel_rfl) (by decide +kernel) (by decide +kernel) (by decide +kernel)
    (by first | exact .inl (by decide +kernel) | exact .inr (by decide +kernel)) (by rw [isSubtype_type]; kernel_rfl)
theorem ba_called : TypeCalled "bytearray" "bytearray.__new__" "bytearray.__init__" :=
  ⟨by decide +kernel, by decide +kernel, ⟨_, _, ba_mro⟩, madeBy_type ba_mro ba_new (by decide +kernel), by decide +kernel, by rw [isSubtype_type]; kernel_rfl, ba_init⟩
theorem ba_typeCall (a : Value) : checkTypeCall "bytearray" ⟨[a], []⟩ = pure () := by kernel_rfl
theorem ba_newCall (a : Value) : checkBuiltinCall "bytearray.__new__" ⟨[.type "bytearray", a], []⟩ = pure () := by kernel_rfl
theorem ba_entry_new : entryFor table "bytearray.__new__" = some Builtin.«list.__new__» := entryFor_alias (id' := "list.__new__") (by kernel_rfl) (by decide +kernel) (by decide +kernel) (by kernel_rfl)
theorem ba_entry_init : entryFor table "bytearray.__init__" = some Builtin.«bytearray.__init__» := by first | exact entryFor_of_fast (by kernel_rfl) | exact entryFor_of_tree (by kernel_rfl)
theorem ba_entry_set : entryFor table "bytearray.__setitem__" = some Builtin.«bytearray.__setitem__» := by first | exact entryFor_of_fast (by kernel_rfl) | exact entryFor_of_tree (by kernel_rfl)
theorem ba_plain_new : plainId "bytearray.__new__" = true := by decide +kernel
theorem ba_plain_init : plainId "bytearray.__init__" = true := by decide +kernel
theorem ba_sub : isSubtype (.type "bytearray") (.type "bytearray") = pure true := by rw [isSubtype_type]; kernel_rfl
theorem ba_bind (v : Value) : Builtin.Bytes.bindOptional "bytearray.__init__" "bytearray" ["source", "encoding", "errors"] [v] [] = pure [some v, none, none] := by kernel_rfl
theorem ba_release : typeLookup (.type "bytearray") "__release_buffer__" = pure (some (.builtin "bytearray.__release_buffer__")) := by rw [typeLookup_type, builtinLookup_eq_fast]; kernel_rfl
theorem ba_buffer : typeLookup (.type "bytearray") "__buffer__" = pure (some (.builtin "bytearray.__buffer__")) := by rw [typeLookup_type, builtinLookup_eq_fast]; kernel_rfl
theorem ba_noBytes : typeLookup (.type "bytearray") "__bytes__" = pure none := by rw [typeLookup_type, builtinLookup_eq_fast]; kernel_rfl
theorem ba_noIndex : typeLookup (.type "bytearray") "__index__" = pure none := by rw [typeLookup_type, builtinLookup_eq_fast]; kernel_rfl
theorem ba_clean : (!Builtin.Bytes.decodersThatHold.contains "bytearray.__init__") = true := by decide +kernel
set_option maxRecDepth 1000000 in
set_option maxHeartbeats 4000000 in
theorem ba_owner : ("bytearray.__new__".splitOn ".__new__").headD "" = "bytearray" := by simp +decide [String.splitOn, String.splitOnAux]
theorem ba_args_init (a b : Value) : argsOk "bytearray.__init__" ⟨[a, b], []⟩ := by
  unfold argsOk
  kernel_rfl
theorem ba_args_set (a b c : Value) : argsOk "bytearray.__setitem__" ⟨[a, b, c], []⟩ := by
  unfold argsOk
  kernel_rfl
end Mine.F
namespace Mine
section
variable {prog : Program} {w : World} {A : Around} {E : Value → Shared → Prop} {s : Shared}
theorem codeS_builtin {id : String} {args : Args} {b : Builtin} {R : Result → Shared → Prop} (hb : entryFor table id = some b)
    (h : wpS (model prog w) (A.under (.builtin id args)) (b args) (fun fin s' => match fin with | .done f => R (.ok f) s' | .again c' => c'.quiet = true ∧ cleanC c' = true ∧ codeS (model prog w) A c' R s') (fun e s' => R (.error e) s') s) :
    codeS (model prog w) A (.builtin id args) R s := by
  refine codeS.tree ?_
  show wpS _ _ (match entryFor table id with | some b => b args | none => unsupported ((withoutEnding? id "#data").getD id)) _ _ s
  rw [hb]; exact h
theorem code_ba_new (a : Value) {Q₁ : Value → Shared → Prop}
    (h : Q₁ (.ref s.heap.objs.size) { s with heap := s.heap.push { cls := .type "bytearray", data := .bytearray #[] } }) :
    codeAny (model prog w) A (.call (.builtin "bytearray.__new__") ⟨[.type "bytearray", a], []⟩) (wants Q₁ E) s := by
  refine codeAny_of_tree ?_
  show wpAny _ A.in1 (do checkBuiltinCall "bytearray.__new__" ⟨[.type "bytearray", a], []⟩; again (.builtin "bytearray.__new__" ⟨[.type "bytearray", a], []⟩)) _ _ s
  refine wpAny_bind (wpAny_of_eq (F.ba_newCall a) (wpAny_pure ⟨plainId_quiet F.ba_plain_new _, codeAny_builtin_stack F.ba_entry_new rfl fun p st => ?_⟩))
  rw [Around.under_plainId F.ba_plain_new _]
  have hsub := F.ba_sub
  have hown := F.ba_owner
  obtain ⟨hp, g, d, tk, os⟩ := s
  simp only [hown]
  wp_walk
  exact h
abbrev baO (b : Array UInt8) : Obj := { cls := .type "bytearray", data := .bytearray b }
theorem F.int_index : typeLookup (.type "int") "__index__" = pure (some (.builtin "int.__index__")) := by rw [typeLookup_type, builtinLookup_eq_fast]; kernel_rfl
theorem asStr_int {i : Int} {t : Tok} : asStr? (.int i t) = pure none := rfl
theorem asIndex_int {i : Int} {t : Tok} : asIndex (.int i t) = pure i := rfl
theorem wp_int_index {M : Model} {i : Int} {t : Tok} {Q : Option Value → Shared → Prop} (h : Q (some (.builtin "int.__index__")) s) : wpAny M A (specialOf (.int i t) "__index__") Q E s :=
  wpAny_specialOf (T := "int") (typeIs_int _ _ _) F.int_index h
theorem wp_asIndex_attempt {M : Model} {i : Int} {t : Tok} {Q : Except Value Int → Shared → Prop} (h : Q (.ok i) s) : wpAny M A (asIndex (.int i t)).attempt Q E s :=
  wpAny_attempt (wpAny_of_eq asIndex_int h)
theorem badIds_of {id : String} (h : (!badIds.contains id) = true) : (id == "bytearray.__contains__") = false ∧ (id == "bytearray.__mod__") = false ∧ (id == "bytearray.__rmod__") = false ∧ (id == "_struct.pack_into.held") = false ∧ (id == "bytearray.find.held") = false ∧ Builtin.Bytes.decodersThatHold.contains id = false := by
  unfold badIds at h
  simp only [List.contains_eq_mem, List.mem_append, Bool.not_eq_true', decide_eq_false_iff_not, not_or, List.mem_cons, List.not_mem_nil, or_false] at h
  simp only [beq_eq_false_iff_ne, ne_eq, List.contains_eq_mem, decide_eq_false_iff_not]
  exact ⟨h.2.1, h.2.2.1, h.2.2.2.1, h.2.2.2.2.1, h.2.2.2.2.2, h.1⟩
theorem exportedS {M : Model} {self : Value} {Q : Bool → Shared → Prop} (h : Q false s) : wpS M A (Builtin.Bytes.exported self) Q E s := by
  unfold Builtin.Bytes.exported
  refine S.bind (S.stack fun st hst => S.of (wpAny_pure ?_))
  have any0 : ∀ {f : Code × Pos → Bool}, (∀ c ∈ st, ¬ f c = true) → Q (st.any f) s := fun hf => by rw [List.any_eq_false.mpr hf]; exact h
  refine any0 fun c hc => ?_
  · have hb := hst c hc
    obtain ⟨c, p⟩ := c
    have key : ∀ id args, c = .builtin id args → (id == "bytearray.__contains__") = false ∧ (id == "bytearray.__mod__") = false ∧ (id == "bytearray.__rmod__") = false ∧ (id == "_struct.pack_into.held") = false ∧ (id == "bytearray.find.held") = false ∧ Builtin.Bytes.decodersThatHold.contains id = false := fun id args e => badIds_of (by subst e; exact hb)
    split
    · rename_i heq
      obtain ⟨e, -⟩ := Prod.mk.inj heq
      have := (key _ _ e).1; simp at this
    · rename_i heq
      obtain ⟨e, -⟩ := Prod.mk.inj heq
      have := (key _ _ e).2.1; simp at this
    · rename_i heq
      obtain ⟨e, -⟩ := Prod.mk.inj heq
      have := (key _ _ e).2.2.1; simp at this
    · rename_i heq
      obtain ⟨e, -⟩ := Prod.mk.inj heq
      have := (key _ _ e).2.2.2.1; simp at this
    · rename_i heq
      obtain ⟨e, -⟩ := Prod.mk.inj heq
      have := (key _ _ e).2.2.2.2.1; simp at this
    · rename_i heq
      obtain ⟨e, -⟩ := Prod.mk.inj heq
      rw [(key _ _ e).2.2.2.2.2, Bool.and_false]; exact Bool.false_ne_true
    · exact Bool.false_ne_true
theorem own_ba {M : Model} {v : Value} {Q : Bool → Shared → Prop} (hT : s.TypeIs v "bytearray") (h : Q false s) : wpAny M A (Builtin.Bytes.ownRelease v) Q E s := by
  unfold Builtin.Bytes.ownRelease Builtin.Bytes.slotIsOwn
  refine wpAny_bind (wpAny_bind (wpAny_specialOf hT F.ba_release ?_))
  dsimp only
  have e1 : ("bytearray.__release_buffer__".endsWith ("." ++ "__release_buffer__")) = true := by decide +kernel
  have e2 : "bytearray.__release_buffer__".dropRight ("__release_buffer__".length + 1) = "bytearray" := by decide +kernel
  rw [e1, e2]
  rw [if_neg (by decide)]
  exact wpAny_isInstance hT F.ba_sub (wpAny_pure h)
theorem wp_write {M : Model} {D : Addr} {b : Array UInt8} {f : Array UInt8 → Array UInt8} {Q : Unit → Shared → Prop} (ho : s.heap.get? D = some (baO b)) (hz : (f b).size ≤ sizeLine)
    (k : ∀ h', Heap.SameBut D s.heap h' → h'.get? D = some (baO (f b)) → Q () { s with heap := h' }) : wpAny M A (Builtin.Bytes.write (.ref D) f) Q E s := by
  unfold Builtin.Bytes.write updateBytearray
  refine wpAny_bind (wpAny_load ho ?_)
  show wpAny _ _ (update D (Obj.mapBytearray f) >>= fun _ => lookBehind D) _ _ _
  refine wpAny_bind (wpAny_update ho ?_)
  have h2 : (s.heap.update D (Obj.mapBytearray f)).get? D = some (baO (f b)) := Heap.get?_update_self (Obj.mapBytearray f) ho rfl
  refine wpAny_lookBehind h2 ?_ (k _ (Heap.SameBut.update ..) h2)
  show (if (f b).size > sizeLine then some "bytearray:memory" else none) = none
  rw [if_neg (Nat.not_lt.mpr hz)]
theorem ba_init {n : Nat} {t : Tok} {D : Addr} {Q : Fin → Shared → Prop} (hn : n ≤ 1000000) (ho : s.heap.get? D = some (baO #[]))
    (k : ∀ h', (∀ b o, b ≠ D → s.heap.get? b = some o → h'.get? b = some o) → h'.get? D = some (baO (Array.replicate n 0)) → Q (.done (.ret .none)) { s with heap := h' }) :
    wpS (model prog w) A (Builtin.«bytearray.__init__» ⟨[.ref D, .int n t], []⟩) Q E s := by
  have hT : s.TypeIs (.ref D) "bytearray" := ⟨_, ho, rfl⟩
  unfold Builtin.«bytearray.__init__»
  refine S.bind (S.of (own_ba hT ?_))
  rw [if_neg (by decide)]
  refine S.bind (S.of (wpAny_of_eq (F.ba_bind _) ?_))
  refine S.bind (S.of (wpAny_of_eq (a := ()) rfl ?_))
  refine S.bind (S.of (wpAny_of_eq (a := ()) rfl ?_))
  refine S.bind (S.bind (exportedS ?_))
  show wpS _ _ (Builtin.Bytes.exportsOf (.ref D) >>= fun x => pure (decide (x > 0))) _ _ _
  refine S.of (wpAny_bind ?_)
  unfold Builtin.Bytes.exportsOf
  refine wpAny_bind (wpAny_load ho (wpAny_pure (wpAny_pure ?_)))
  rw [if_neg (by decide)]
  refine S.of (wpAny_bind (wp_write ho (Nat.zero_le _) fun h₁ hb₁ ho₁ => ?_))
  refine wpAny_bind (m := asStr? (Value.int (n : Int) t)) ?_
  rw [asStr_int]
  refine wpAny_pure ?_
  rw [if_neg (by decide)]
  refine wpAny_bind (m := (pure () : Sem Unit)) ?_
  refine wpAny_pure ?_
  refine wpAny_bind (m := specialOf (Value.int (n : Int) t) (Str.ofString "__index__")) ?_
  refine wp_int_index ?_
  refine wpAny_bind (m := (asIndex (Value.int (n : Int) t)).attempt) ?_
  refine wp_asIndex_attempt ?_
  have f1 : (!Builtin.Bytes.fitsIndex (n : Int)) = false := by unfold Builtin.Bytes.fitsIndex; simp; omega
  have f2 : ¬ ((n : Int) < 0) := by omega
  have f3 : ((n : Int) == 2 ^ 63 - 1) = false := by simp; omega
  have f4 : Builtin.Bytes.tooLong (n : Int).toNat = false := by unfold Builtin.Bytes.tooLong; rw [sizeLine_eq]; simp; omega
  show wpAny _ _ (if (!Builtin.Bytes.fitsIndex (n : Int)) = true then _ else _) _ _ _
  rw [if_neg (by rw [f1]; exact Bool.false_ne_true), if_neg f2, if_neg (by rw [f3]; exact Bool.false_ne_true), if_neg (by rw [f4]; exact Bool.false_ne_true)]
  refine wpAny_bind (wpAny_rule ?_)
  by_cases h0 : (n : Int) > 0
  · show wpAny _ _ (if (n : Int) > 0 then _ else _) _ _ _
    rw [if_pos h0]
    refine wpAny_bind (wp_write ho₁ (by rw [Array.size_replicate]; exact le_line (by omega)) fun h₂ hb₂ ho₂ => ?_)
    exact wpAny_pure (k h₂ (fun b o ne e => (hb₂.2 b ne).trans ((hb₁.2 b ne).trans e)) (by simpa using ho₂))
  · show wpAny _ _ (if (n : Int) > 0 then _ else _) _ _ _
    rw [if_neg h0]
    have e0 : n = 0 := by omega
    subst e0
    exact wpAny_pure (k h₁ (fun b o ne e => (hb₁.2 b ne).trans e) ho₁)
theorem ba_call {n : Nat} {t : Tok} {Q : Value → Shared → Prop} (hn : n ≤ 1000000)
    (k : ∀ h', (∀ b o, s.heap.get? b = some o → h'.get? b = some o) → h'.get? s.heap.objs.size = some (baO (Array.replicate n 0)) → Q (.ref s.heap.objs.size) { s with heap := h' }) :
    wpS (model prog w) A (call (.type "bytearray") [.int n t]) Q E s := by
  refine S.call (codeS.tree (S.of ?_))
  show wpAny _ _ (callAny (.type "bytearray") _) _ _ _
  refine wpAny_pure ⟨Code.quiet_builtin _ (by decide +kernel), by show (!badIds.contains "type.__call__") = true; decide +kernel, codeS_builtin F.entry_type_call ?_⟩
  rw [Around.under_plain (weight_type_call_type "bytearray" _ []) rfl]
  have h1 := F.ba_called.notType
  have h2 := F.ba_called.canCreate
  unfold Builtin.«type.__call__»
  simp only [h1, h2, F.ba_typeCall, F.ba_mro, F.ba_called.made, Bool.false_eq_true, if_false, pure_bind, List.isEmpty]
  refine S.bind (S.of (wpAny_holding (wpAny_call (code_ba_new _ ?_))))
  have ho : (s.heap.push (baO #[])).get? s.heap.objs.size = some (baO #[]) := Heap.get?_push_size _ rfl
  have hT : ({ s with heap := s.heap.push (baO #[]) } : Shared).TypeIs (.ref s.heap.objs.size) "bytearray" := ⟨_, ho, rfl⟩
  refine S.bind (S.of (wpAny_isInstance hT F.ba_sub ?_))
  rw [if_neg (by decide)]
  refine S.bind (S.hold ?_)
  unfold callSpecial?
  refine S.bind (S.of (wpAny_specialOf hT F.ba_init.lookup ?_))
  refine S.hold ?_
  rw [F.ba_init.bind]
  refine S.bind (S.of (wpAny_pure ?_))
  refine S.bind ?_
  refine S.call (codeS.tree ?_)
  show wpS _ _ (do checkBuiltinCall "bytearray.__init__" ⟨[.ref s.heap.objs.size, .int n t], []⟩; again (.builtin "bytearray.__init__" ⟨[.ref s.heap.objs.size, .int n t], []⟩)) _ _ _
  refine S.bind (S.of (F.ba_init.check _ _ _ _ _ _ _ _ hT (F.ba_args_init _ _) ?_))
  refine S.of (wpAny_pure ⟨plainId_quiet F.ba_plain_init _, by show (!badIds.contains "bytearray.__init__") = true; decide +kernel, codeS_builtin F.ba_entry_init ?_⟩)
  refine ba_init hn ho fun h' hk hD => ?_
  refine S.of (wpAny_pure ?_)
  refine S.of ?_
  show wpAny _ _ (if (Value.none != Value.none) = true then _ else _) _ _ _
  rw [if_neg (by decide)]
  refine wpAny_pure (k h' (fun b o e => hk b o (Nat.ne_of_lt (Heap.lt_size e)) (Heap.get?_push_of_some _ e)) hD)
theorem clS_ba {s₀ : Shared} {n : Nat} (hn : n ≤ 1000000) : ClS prog w A (.type "bytearray") s₀ [isI n] (fun v f => ∃ a o, v = .ref a ∧ f a = some o ∧ o = baO (Array.replicate n 0)) := fun l s Q E g p le ha k => by
  obtain ⟨_, rfl, ⟨t, rfl⟩⟩ := ha.one
  exact ba_call hn fun h' hk hD => k _ _ ⟨rfl, hk⟩ ⟨_, _, rfl, fresh_of (size_none (Nat.le_refl _)) hD, rfl⟩
end
end Mine
namespace Mine
section
variable {prog : Program} {w : World} {A : Around} {E : Value → Shared → Prop} {s : Shared}
theorem setItem_ba {D : Addr} {b : Array UInt8} {k x : Int} {t u : Tok} {Q : Unit → Shared → Prop} (ho : s.heap.get? D = some (baO b)) (h0 : 0 ≤ k) (h1 : k < b.size) (hx0 : 0 ≤ x) (hx1 : x < 256) (hz : b.size ≤ 1000000)
    (hQ : ∀ h', Heap.SameBut D s.heap h' → h'.get? D = some (baO (b.setIfInBounds k.toNat x.toNat.toUInt8)) → Q () { s with heap := h' }) :
    wpAny (model prog w) A (setItem (.ref D) (.int k t) (.int x u)) Q E s := by
  have hT : s.TypeIs (.ref D) "bytearray" := ⟨_, ho, rfl⟩
  unfold setItem
  try with_reducible refine wpAny_holding ?_
  first | refine wpAny_bind (wpAny_pure ?_) | skip
  refine wpAny_bind (wpAny_sequenceKey hT (by decide) ?_)
  refine wpAny_bind (wpAny_callSpecial?_slot (name := Str.ofString "__setitem__") hT F.ba_set
    (wpAny_call_entry F.ba_set hT F.ba_entry_set ?_ (F.ba_args_set _ _ _)))
  unfold Builtin.«bytearray.__setitem__»
  refine bm_if_false rfl ?_
  show wpAny _ _ (Builtin.Bytes.subscript? (Value.int k t) >>= _) _ _ s
  refine wpAny_bind ?_
  unfold Builtin.Bytes.subscript?
  refine wpAny_bind (m := specialOf (Value.int k t) (Str.ofString "__index__")) ?_
  refine wp_int_index ?_
  refine wpAny_bind (m := asIndex (Value.int k t)) ?_
  rw [asIndex_int]
  refine wpAny_pure ?_
  have f1 : (!Builtin.Bytes.fitsIndex k) = false := by unfold Builtin.Bytes.fitsIndex; simp; omega
  show wpAny _ _ (if (!Builtin.Bytes.fitsIndex k) = true then _ else _) _ _ _
  rw [if_neg (by rw [f1]; exact Bool.false_ne_true)]
  refine wpAny_pure ?_
  refine wpAny_bind (m := Builtin.Bytes.byteValue (Value.int x u)) ?_
  unfold Builtin.Bytes.byteValue
  refine wpAny_bind (m := asIndex (Value.int x u)) ?_
  rw [asIndex_int]
  refine wpAny_pure ?_
  have f2 : (decide (x < 0) || decide (x ≥ 256)) = false := by simp; omega
  show wpAny _ _ (if (decide (x < 0) || decide (x ≥ 256)) = true then _ else _) _ _ _
  rw [if_neg (by rw [f2]; exact Bool.false_ne_true)]
  refine wpAny_pure ?_
  refine wpAny_bind (m := Builtin.Bytes.payload (Value.ref D)) ?_
  unfold Builtin.Bytes.payload Builtin.Bytes.payload?
  refine wpAny_bind (wpAny_bind (wpAny_load ho (wpAny_pure (wpAny_pure ?_))))
  have f3 : seqIndex? k b.size = some k.toNat := by
    unfold seqIndex?
    have e1 : (if k < 0 then k + (b.size : Int) else k) = k := if_neg (by omega)
    have e2 : (decide (0 ≤ k) && decide (k < (b.size : Int))) = true := by simp only [Bool.and_eq_true, decide_eq_true_eq]; exact ⟨h0, h1⟩
    simp only [e1, e2, if_true]
  rw [f3]
  refine wpAny_bind (m := Builtin.Bytes.write (Value.ref D) (·.setIfInBounds k.toNat x.toNat.toUInt8)) ?_
  refine wp_write ho (by rw [Array.size_setIfInBounds]; exact le_line hz) fun h' hs hD => ?_
  exact wpAny_pure ⟨.none, rfl, wpAny_pure (hQ h' hs hD)⟩
theorem pay_ba {M : Model} {D : Addr} {b : Array UInt8} {Q : Array UInt8 → Shared → Prop} (ho : s.heap.get? D = some (baO b)) (h : Q b s) : wpAny M A (Builtin.Bytes.payload (.ref D)) Q E s := by
  unfold Builtin.Bytes.payload Builtin.Bytes.payload?
  exact wpAny_bind (wpAny_bind (wpAny_load ho (wpAny_pure (wpAny_pure h))))
theorem isOwn_ba {M : Model} {v : Value} {Q : Bool → Shared → Prop} (hT : s.TypeIs v "bytearray") (h : Q true s) : wpAny M A (Builtin.Bytes.slotIsOwn v "__buffer__") Q E s := by
  unfold Builtin.Bytes.slotIsOwn
  refine wpAny_bind (wpAny_specialOf hT F.ba_buffer ?_)
  dsimp only
  have e1 : ("bytearray.__buffer__".endsWith ("." ++ "__buffer__")) = true := by decide +kernel
  have e2 : "bytearray.__buffer__".dropRight ("__buffer__".length + 1) = "bytearray" := by decide +kernel
  rw [e1, e2]
  rw [if_neg (by decide)]
  exact wpAny_isInstance hT F.ba_sub h
theorem buffer_ba {M : Model} {id : String} {D : Addr} {b : Array UInt8} {full : Bool} {Q : Option (Array UInt8) → Shared → Prop} (ho : s.heap.get? D = some (baO b)) (h : Q (some b) s) : wpAny M A (Builtin.Bytes.buffer? id (.ref D) full) Q E s := by
  have hT : s.TypeIs (.ref D) "bytearray" := ⟨_, ho, rfl⟩
  unfold Builtin.Bytes.buffer?
  refine wpAny_bind (wpAny_specialOf hT F.ba_buffer ?_)
  refine wpAny_bind (m := Builtin.Bytes.slotIsOwn (.ref D) "__buffer__") (isOwn_ba hT ?_)
  rw [if_neg (by decide)]
  refine wpAny_bind (m := specialOf (.ref D) (Str.ofString "__buffer__")) (wpAny_specialOf hT F.ba_buffer ?_)
  refine wpAny_bind (m := Builtin.Bytes.ownRelease (.ref D)) (own_ba hT ?_)
  rw [if_neg (by decide)]
  exact wpAny_bind (pay_ba ho (wpAny_pure h))
theorem bytes_of_ba {D : Addr} {b : Array UInt8} {Q : Value → Shared → Prop} (ho : s.heap.get? D = some (baO b)) (hz : b.size ≤ 1000000) (hQ : Q (.bytes b s.toks) { s with toks := s.toks + 1 }) : wpAny (model prog w) A (call (.type "bytes") [.ref D]) Q E s := by
  have hT : s.TypeIs (.ref D) "bytearray" := ⟨_, ho, rfl⟩
  refine callType_codes (Q₁ := fun obj s₁ => s₁.TypeIs obj "bytes" ∧ Q obj s₁) PySem.F.bm_called (PySem.F.bm_typeCall _) PySem.F.entry_object_init ?_ fun obj s₁ h₁ => ?_
  · refine codeAny_of_tree ?_
    show wpAny _ A.in1.in1 (do checkBuiltinCall "bytes.__new__" ⟨[.type "bytes", .ref D], []⟩; again (.builtin "bytes.__new__" ⟨[.type "bytes", .ref D], []⟩)) _ _ s
    refine wpAny_bind (wpAny_of_eq (PySem.F.bm_newCall _) (wpAny_pure ⟨plainId_quiet PySem.F.bm_plain _, codeAny_builtin PySem.F.bm_entry ?_⟩))
    rw [Around.under_plainId PySem.F.bm_plain _]
    unfold Builtin.«bytes.__new__»
    refine wpAny_bind (wpAny_of_eq (a := true) rfl ?_)
    refine bm_if_false rfl ?_
    refine wpAny_bind (wpAny_of_eq PySem.F.bm_sub ?_)
    refine bm_if_false rfl ?_
    refine wpAny_bind (wpAny_of_eq (PySem.F.bm_bind _) ?_)
    refine wpAny_bind (wpAny_of_eq (a := ()) rfl ?_)
    refine wpAny_bind (wpAny_of_eq (a := ()) rfl ?_)
    refine bm_if_false rfl ?_
    refine wpAny_bind (wpAny_specialOf hT F.ba_noBytes ?_)
    refine wpAny_bind (wpAny_bind ?_)
    show wpAny _ _ (load D >>= _) _ _ _
    refine wpAny_bind (wpAny_load ho ?_)
    refine wpAny_pure (wpAny_pure ?_)
    refine bm_if_false rfl ?_
    refine wpAny_bind (wpAny_specialOf hT F.ba_noIndex ?_)
    refine bm_if_true rfl ?_
    show wpAny _ _ (Builtin.Bytes.buffer? "bytes.__new__" (.ref D) true >>= _) _ _ _
    refine wpAny_bind (buffer_ba ho ?_)
    refine wpAny_bind (wpAny_rule ?_)
    refine wpAny_bind (wpAny_mkBytes ?_ (le_line hz))
    show wpAny _ _ (if (Value.type "bytes" == Value.type "bytes") = true then _ else _) _ _ _
    refine bm_if_true (by decide) ?_
    first
      | exact wpAny_pure ⟨PySem.W.typeIs_bytes _ _ _, hQ⟩
      | exact wpAny_bind (wpAny_pure (wpAny_pure ⟨PySem.W.typeIs_bytes _ _ _, hQ⟩))
  · exact ⟨h₁.1, PySem.F.args_object_init_2 obj _, object_init_meets PySem.F.bm_called.init.lookup PySem.F.bm_called.made (by decide) prog w A.in1 _ s₁ ⟨h₁.1, rfl, h₁.2⟩⟩
end
end Mine
namespace Mine
theorem F.bj_slot : Slot "bytes" "join" "bytes.join" :=
  .of (owner := "bytes") (n := "join") (by rw [typeLookup_type, builtinLookup_eq_fast]; kernel_rfl) (by decide +kernel) (by decide +kernel) (by decide +kernel)
    (by first | exact .inl (by decide +kernel) | exact .inr (by decide +kernel)) (by rw [isSubtype_type]; kernel_rfl)
theorem F.bj_entry : entryFor table "bytes.join" = some Builtin.«bytes.join» := by first | exact entryFor_of_fast (by kernel_rfl) | exact entryFor_of_tree (by kernel_rfl)
theorem F.bj_args (a b : Value) : argsOk "bytes.join" ⟨[a, b], []⟩ := by unfold argsOk; kernel_rfl
theorem F.bj_type : typeOf (.builtin "bytes.join") = pure (.type "method_descriptor") := by kernel_rfl
theorem F.bj_one (a b : Value) : selfAndOne "bytes.join" ⟨[a, b], []⟩ = pure (a, b) := by kernel_rfl
theorem take_eq {id : String} {b : Array UInt8} {t : Tok} : Builtin.Bytes.takeBufferQuiet? id (.bytes b t) 0 = pure (some (b, none)) := by
  have h : Builtin.Bytes.takeBuffer? id (.bytes b t) 0 = pure (some (b, none)) := by
    unfold Builtin.Bytes.takeBuffer?
    rw [KBy.special_eq KBy.look_buffer]
    simp only [pure_bind]
    rw [KBy.own_buffer]
    have e : (0 == Builtin.Bytes.fullReadOnly) = false := by decide +kernel
    rw [e, KBy.buffer_eq]
    rfl
  unfold Builtin.Bytes.takeBufferQuiet?
  rw [h]; rfl
section
variable {prog : Program} {w : World} {A : Around} {E : Value → Shared → Prop} {s : Shared}
theorem join_go {M : Model} {Q : Unit → Shared → Prop} : ∀ {l : List (Value × Option Value)} {keep : List Value}, (∀ x ∈ l, ∃ b t, x = (Value.bytes b t, none)) → Q () s → wpAny M A (Builtin.Bytes.joinLetGo l keep) Q E s
  | [], _, _, h => wpAny_pure h
  | x :: l, keep, hx, h => by
    obtain ⟨b, t, rfl⟩ := hx x (.head _)
    unfold Builtin.Bytes.joinLetGo
    refine wpAny_bind (wpAny_letGo ?_)
    exact join_go (fun y hy => hx y (.tail _ hy)) h
theorem joined_nil : ∀ (l : List (Array UInt8)) (k : Nat) (acc : Array UInt8), (l.zipIdx k).foldl (fun out x => (if x.2 > 0 then out ++ (#[] : Array UInt8) else out) ++ x.1) acc = l.foldl (· ++ ·) acc
  | [], _, _ => rfl
  | p :: l, k, acc => by
    rw [List.zipIdx_cons, List.foldl_cons, List.foldl_cons, joined_nil l (k + 1)]
    congr 1
    simp
theorem flat_size : ∀ (l : List (Array UInt8)) {acc : Array UInt8}, (l.foldl (· ++ ·) acc).size = l.foldl (fun n p => n + p.size) acc.size
  | [], _ => rfl
  | p :: l, acc => by rw [List.foldl_cons, List.foldl_cons, flat_size l, Array.size_append]
theorem bytes_join {l : Addr} {items : Array Value} {ps : List (Array UInt8)} {t : Tok} {Q : Value → Shared → Prop} (hl : s.heap.IsList l items) (hi : items.size = ps.length) (hp : ∀ (i : Nat) p, ps[i]? = some p → ∃ u, items[i]? = some (Value.bytes p u)) (h2 : 2 ≤ ps.length)
    (hz : (ps.foldl (fun n p => n + p.size) 0) ≤ 1000000) (hQ : ∀ u n, Q (.bytes (ps.foldl (· ++ ·) #[]) u) { s with toks := n }) : wpAny (model prog w) A (call (.builtin "bytes.join") [.bytes #[] t, .ref l]) Q E s := by
  obtain ⟨o, ho, hc, n, hd⟩ := id hl
  have hT : s.TypeIs (.ref l) "list" := hl.typeIs
  refine wpAny_call_entry F.bj_slot (PySem.W.typeIs_bytes _ _ _) F.bj_entry ?_ (F.bj_args _ _)
  unfold Builtin.«bytes.join» Builtin.Bytes.joinM
  show wpAny _ _ (selfAndOne "bytes.join" ⟨[.bytes #[] t, .ref l], []⟩ >>= _) _ _ _
  refine wpAny_bind (wpAny_of_eq (F.bj_one _ _) ?_)
  have it : ∀ {s : Shared} {Q : Option (Array Value) → Shared → Prop}, s.heap.get? l = some o → Q (some items) s → wpAny (model prog w) A.in1 (seqItems? (.ref l)) Q E s := fun ho h => wpAny_seqItems ho hd h
  refine wpAny_bind ?_
  show wpAny _ _ (Builtin.Bytes.joinItems (.ref l)) _ _ _
  unfold Builtin.Bytes.joinItems
  refine wpAny_bind (wpAny_typeOf hT ?_)
  refine wpAny_pure ?_
  refine wpAny_bind (it ho ?_)
  have loop : ∀ (body : Nat → Array (Array UInt8) × List (Value × Option Value) → Sem (ForInStep (Array (Array UInt8) × List (Value × Option Value)))),
      (∀ i p a tk (s : Shared) Q, ps[i]? = some p → (∀ x ∈ tk, ∃ b t, x = (Value.bytes b t, none)) → s.heap.get? l = some o → (∀ u, Q (ForInStep.yield (a.push p, tk ++ [(Value.bytes p u, none)])) s) → wpAny (model prog w) A.in1 (body i (a, tk)) Q E s) →
      ∀ (s : Shared) Q, s.heap.get? l = some o → (∀ tk, (∀ x ∈ tk, ∃ b t, x = (Value.bytes b t, none)) → Q (ps.toArray, tk) s) → wpAny (model prog w) A.in1 (forIn [:items.size] (#[], []) body) Q E s := by
    intro body hb s Q ho hq
    rw [Std.Legacy.Range.forIn_eq_forIn_range']
    have gen : ∀ k i (a : Array (Array UInt8)) tk, i + k = ps.length → a = (ps.take i).toArray → (∀ x ∈ tk, ∃ b t, x = (Value.bytes b t, none)) → wpAny (model prog w) A.in1 (forIn (List.range' i k 1) (a, tk) body) Q E s := by
      intro k
      induction k with
      | zero =>
        intro i a tk hi ha ht
        have : a = ps.toArray := by rw [ha, List.take_of_length_le (by omega)]
        subst this
        exact wpAny_pure (hq tk ht)
      | succ k ih =>
        intro i a tk hi ha ht
        rw [List.range'_succ, List.forIn_cons]
        have hp' : ps[i]? = some (ps[i]'(by omega)) := List.getElem?_eq_getElem (by omega)
        refine wpAny_bind (hb i _ a tk s _ hp' ht ho fun u => ?_)
        refine ih (i + 1) _ _ (by omega) ?_ ?_
        · rw [ha, List.push_toArray, List.take_add_one, hp']; rfl
        · intro x hx
          rcases List.mem_append.mp hx with hx | hx
          · exact ht x hx
          · rw [List.mem_singleton.mp hx]; exact ⟨_, _, rfl⟩
    have := gen ps.length 0 #[] [] (by omega) rfl (fun _ h => by cases h)
    rw [← hi] at this
    simpa [Std.Legacy.Range.size] using this
  obtain ⟨x, y, rest, rfl⟩ : ∃ x y rest, items = ⟨x :: y :: rest⟩ := by
    obtain ⟨li⟩ := items
    match li, hi with
    | [], hi => simp at hi; omega
    | [_], hi => simp at hi; omega
    | x :: y :: rest, _ => exact ⟨x, y, rest, rfl⟩
  refine bm_if_true rfl ?_
  show wpAny _ _ (forIn [:Array.size ⟨x :: y :: rest⟩] (#[], []) _ >>= _) _ _ _
  refine wpAny_bind (loop _ ?_ s _ ho ?_)
  · intro i p a tk s Q hp' ht ho hq
    obtain ⟨u, hu⟩ := hp i p hp'
    refine wpAny_bind (it ho ?_)
    have hany : (tk.any fun x => x.1.onHeap) = false := List.any_eq_false.mpr fun z hz => by obtain ⟨b, t, rfl⟩ := ht z hz; exact Bool.false_ne_true
    have hget : (⟨x :: y :: rest⟩ : Array Value).getD i .none = .bytes p u := by rw [Array.getD_eq_getD_getElem?, hu]; rfl
    show wpAny _ _ (if (Builtin.Bytes.Kind.bytes == Builtin.Bytes.Kind.bytearray || (tk.any fun x => x.1.onHeap)) = true then _ else _) _ _ _
    rw [hany, hget]
    refine bm_if_false rfl ?_
    refine wpAny_bind (wpAny_holding (wpAny_of_eq take_eq ?_))
    refine wpAny_bind (m := seqItems? (.ref l)) (it ho ?_)
    show wpAny _ _ (if (Array.size ⟨x :: y :: rest⟩ != Array.size ⟨x :: y :: rest⟩) = true then _ else _) _ _ _
    refine bm_if_false (by simp) ?_
    exact wpAny_pure (hq u)
  · intro tk ht
    refine wpAny_bind (m := Builtin.Bytes.payload (.bytes #[] t)) (wpAny_pure ?_)
    have hz2 : Builtin.Bytes.tooLong (ps.toArray.foldl (· + ·.size) ((#[] : Array UInt8).size * (ps.toArray.size - 1))) = false := by
      unfold Builtin.Bytes.tooLong
      refine decide_eq_false (Nat.not_lt.mpr ?_)
      have e : ps.toArray.foldl (· + ·.size) ((#[] : Array UInt8).size * (ps.toArray.size - 1)) = ps.foldl (fun n p => n + p.size) 0 := by simp
      rw [e]; exact le_line hz
    show wpAny _ _ (if Builtin.Bytes.tooLong (ps.toArray.foldl (· + ·.size) ((#[] : Array UInt8).size * (ps.toArray.size - 1))) = true then _ else _) _ _ _
    rw [hz2]
    refine bm_if_false rfl ?_
    have hj : Builtin.Bytes.joined #[] ps = ps.foldl (· ++ ·) #[] := joined_nil ps 0 #[]
    have hjz : (ps.foldl (· ++ ·) #[] : Array UInt8).size ≤ sizeLine := by rw [flat_size]; exact le_line hz
    refine wpAny_bind (m := mkBytes (Builtin.Bytes.joined #[] ps.toArray.toList)) (wpAny_mkBytes ?_ (by rw [hj]; exact hjz))
    refine wpAny_bind (wpAny_holding (wpAny_point ?_))
    refine wpAny_bind (join_go ht ?_)
    refine wpAny_pure ⟨_, rfl, ?_⟩
    rw [hj]; exact hQ _ _
end
end Mine
namespace Mine
section
variable {prog : Program} {w : World} {A : Around} {env : Env} {s₀ : Shared}
variable {u s s' : Shared} {g : Mem} {L : Addr} {xs : List Str} {vs : List (Option Value)} {ms r : List (Addr × Obj)} {mg mb : Str → Option Value}
abbrev mem0 : Mem := fun _ => none
theorem strs_of : ∀ {ds : List Str} {l : List Value}, l.length = ds.length → (∀ (i : Nat) d, ds[i]? = some d → ∃ y, l[i]? = some y ∧ ∃ t, y = Value.str d t) → ∃ ps : List (Str × Tok), l = strValues ps ∧ ps.map (·.1) = ds
  | [], [], _, _ => ⟨[], rfl, rfl⟩
  | d :: ds, y :: l, e, k => by
    obtain ⟨y', a, t, b⟩ := k 0 d rfl
    simp at a; subst a; subst b
    obtain ⟨ps, h1, h2⟩ := strs_of (ds := ds) (l := l) (by simpa using e) fun i d' e' => by simpa using k (i + 1) d' (by simpa using e')
    exact ⟨(d, t) :: ps, by rw [h1]; rfl, by rw [List.map_cons, h2]⟩
  | [], _ :: _, e, _ => by simp at e
  | _ :: _, [], e, _ => by simp at e
theorem cl_strjoin {sep : Str} {ds : List Str} {P : Value → Mem → Prop} (hP : LobP P (fun ys => All2 (fun d : Str => isS d) ds ys mem0) s₀) (hz : (ds.map (·.length)).sum + ds.length * sep.length ≤ 1000000) :
    Cl prog w A (.builtin "str.join") s₀ [isS sep, P] (isS (Txt.join sep ds)) := fun l s Q E fg p le ha k => by
  obtain ⟨_, _, rfl, ⟨t, rfl⟩, hp⟩ := ha.two
  obtain ⟨a, ys, n, rfl, hys, hy⟩ := hP _ _ _ p le hp
  obtain ⟨ps, h1, h2⟩ := strs_of (ds := ds) (l := ys.toList) (by simpa using hy.1) fun i d e => by
    obtain ⟨y, a, b⟩ := hy.2 i d e; exact ⟨y, by simpa using a, b⟩
  have e1 : ys = (strValues ps).toArray := by rw [← h1]
  refine SC.join (l := ps) (texts := ds) (by rw [← e1]; exact isList_lobj hys) h2 ?_ fun t' n => k _ _ (Pu.tok s _) ⟨_, rfl⟩
  unfold JoinOk
  rw [StrLaws.joinTotal]
  have : Builtin.Str.tooLong ((ds.map (·.length)).sum + ds.length * sep.length) = false := decide_eq_false (Nat.not_lt.mpr (le_line hz))
  rw [this]; rfl
theorem join0 : ∀ (ds : List Str), Txt.join (Str.ofString "") ds = ⟨(ds.map (·.cps.toList)).flatten.toArray⟩ := by
  intro ds
  show Builtin.Str.glued _ ds = _
  rw [StrLaws.glued_eq_join]
  induction ds with
  | nil => rfl
  | cons x r ih =>
    cases r with
    | nil => show x = _; simp
    | cons y r =>
      show x ++ _ ++ Str.join _ (y :: r) = _
      rw [ih]
      show Str.mk ((x.cps ++ #[]) ++ _) = _
      congr 1
      apply Array.toList_inj.mp
      simp
theorem cl_bytesjoin {ps : List (Array UInt8)} {P : Value → Mem → Prop} (hP : LobP P (fun ys => All2 (fun d : Array UInt8 => isB d) ps ys mem0) s₀) (h2 : 2 ≤ ps.length) (hz : (ps.foldl (fun n p => n + p.size) 0) ≤ 1000000) :
    Cl prog w A (.builtin "bytes.join") s₀ [isB #[], P] (isB (ps.foldl (· ++ ·) #[])) := fun l s Q E fg p le ha k => by
  obtain ⟨_, _, rfl, ⟨t, rfl⟩, hp⟩ := ha.two
  obtain ⟨a, ys, n, rfl, hys, hy⟩ := hP _ _ _ p le hp
  exact bytes_join (isList_lobj hys) hy.1 (fun i d e => let ⟨_, a, t, b⟩ := hy.2 i d e; ⟨t, b ▸ a⟩) h2 hz fun u n => k _ _ (Pu.tok s _) ⟨_, rfl⟩
theorem gm_bytesjoin {v : Value} {s : Shared} {pl : Sem Bool} {Q : Value × List Value → Shared → Prop} {E : Value → Shared → Prop} {x : Array UInt8} (h : ∃ t, v = .bytes x t) (k : Q (.builtin "bytes.join", [v]) s) : wpAny (model prog w) A (getMethod v "join" pl) Q E s := by
  obtain ⟨t, rfl⟩ := h
  exact getMethod_builtin (PySem.W.typeIs_bytes _ _ _) FB.plainAttrs_bytes F.bj_slot F.bj_type (fun _ e => nomatch e) k
/-- bytes(b), b a bytearray -/
theorem cl_bytes {b : Array UInt8} {D : Addr} (ho : s₀.heap.get? D = some (baO b)) (hz : b.size ≤ 1000000) : Cl prog w A (.type "bytes") s₀ [isV (.ref D)] (isB b) := fun l s Q E fg p le ha k => by
  obtain ⟨_, rfl, e⟩ := ha.one
  cases e
  exact bytes_of_ba (p.keep _ _ ho) hz (k _ _ (Pu.tok s _) ⟨_, rfl⟩)
/-- o[i] = e, o a bytearray of the call's own -/
theorem x_setba {o ie e : Expr} {tpos pos : Pos} {D : Addr} {b : Array UInt8} {i : Nat} {k x : Int} {Q : Flow → Shared → Prop} {E : Value → Shared → Prop} (S : St u g L xs vs ms s) (he : Ev prog w A (eval e env) s (isI x)) (ho : Ev prog w A (eval o env) s (isV (.ref D))) (hie : Ev prog w A (eval ie env) s (isI k)) (hi : ms[i]? = some (D, baO b)) (h0 : 0 ≤ k) (h1 : k < b.size) (hx0 : 0 ≤ x) (hx1 : x < 256) (hz : b.size ≤ 1000000)
    (kk : ∀ s', St u g L xs vs (ms.set i (D, baO (b.setIfInBounds k.toNat x.toNat.toUInt8))) s' → Q .next s') (hsw : swapsWith e (some (.Subscript o ie tpos)) pos.line env = pure false := by rfl) :
    wpAny (model prog w) A (exec (.Assign [.Subscript o ie tpos] e pos) env) Q E s :=
  wpAny_Assign_Subscript (he s _ _ (Pu.refl s) fun v s₁ p₁ hv => ho s₁ _ _ p₁ fun v' s₂ p₂ hv' => hie s₂ _ _ (p₁.trans p₂) fun v'' s₃ p₃ hv'' => by
    subst hv'
    obtain ⟨t, rfl⟩ := hv''
    obtain ⟨t', rfl⟩ := hv
    have S' := S.up ((p₁.trans p₂).trans p₃)
    exact setItem_ba (S'.own _ (List.mem_of_getElem? hi)).1 h0 h1 hx0 hx1 hz fun h' hs hD => kk _ (S'.turn (n := s₃.toks) hi hs hD)) hsw
end
end Mine
namespace Mine
section
variable {prog : Program} {w : World} {A : Around} {env : Env} {s₀ : Shared} {α β : Type}
theorem lobVC {a : Addr} {ys : Array Value} {k : Nat} {C : Array Value → Prop} (h : s₀.heap.get? a = some (lobj ys k)) (c : C ys) : LobP (isV (.ref a)) C s₀ := fun _ _ _ p _ e => ⟨a, ys, k, e, p.keep _ _ h, c⟩
theorem All2.map {P : β → Value → Mem → Prop} {g : α → β} {ds : List α} {ys : Array Value} {f : Mem} (h : All2 (fun d => P (g d)) ds ys f) : All2 P (ds.map g) ys f :=
  ⟨by rw [h.1, List.length_map], fun i d e => by
    rw [List.getElem?_map] at e
    obtain ⟨d', h1, rfl⟩ := Option.map_eq_some_iff.mp e
    exact h.2 i d' h1⟩
theorem flat_arr {α : Type} : ∀ (l : List (List α)) (acc : List α), (l.map List.toArray).foldl (· ++ ·) acc.toArray = (acc ++ l.flatten).toArray
  | [], acc => by simp
  | p :: l, acc => by
    rw [List.map_cons, List.foldl_cons, List.append_toArray, flat_arr l (acc ++ p)]
    simp
theorem flat_sum {α : Type} : ∀ (l : List (List α)) (n w : Nat), (∀ x ∈ l, x.length = w) → (l.map List.toArray).foldl (fun n p => n + p.size) n = n + l.length * w
  | [], n, w, _ => by simp
  | p :: l, n, w, h => by
    rw [List.map_cons, List.foldl_cons, flat_sum l _ w (fun x hx => h x (.tail _ hx)), List.length_cons, Nat.succ_mul, List.size_toArray, h p (.head _)]
    omega
theorem rep_flat {α : Type} (n : Nat) (a : α) : (List.replicate n [a]).flatten = List.replicate n a := by
  induction n with
  | zero => rfl
  | succ n ih => rw [List.replicate_succ, List.flatten_cons, ih]; rfl
end
end Mine
namespace Mine
section
variable {prog : Program} {w : World} {A : Around} {env : Env} {s₀ : Shared}
variable {u s s' : Shared} {g : Mem} {L : Addr} {xs : List Str} {vs : List (Option Value)} {ms r : List (Addr × Obj)} {mg mb : Str → Option Value}
/-- the cells stand among the call's own objects -/
def CellsM : List (Str × Addr) → List (Option Value) → List (Addr × Obj) → Prop
  | [], [], [] => True
  | (_, c) :: cs, v :: cv, (a, o) :: ms => a = c ∧ o.data = .cell v ∧ CellsM cs cv ms
  | _, _, _ => False
theorem CellsM.nil {ms : List (Addr × Obj)} (h : CellsM [] [] ms) : ms = [] := by
  cases ms with
  | nil => rfl
  | cons => exact h.elim
theorem CellsM.cons {n : Str} {c : Addr} {cs : List (Str × Addr)} {v : Option Value} {cv : List (Option Value)} {ms : List (Addr × Obj)} (h : CellsM ((n, c) :: cs) (v :: cv) ms) : ∃ o ms', ms = (c, o) :: ms' ∧ o.data = .cell v ∧ CellsM cs cv ms' := by
  cases ms with
  | nil => exact h.elim
  | cons q ms => obtain ⟨a, o⟩ := q; obtain ⟨e, hd, h'⟩ := h; subst e; exact ⟨o, ms, rfl, hd, h'⟩
def envC (name : Str) (scope : Scope) (L a : Addr) (cd : Value) (cs : List (Str × Addr)) : Env :=
  { scope := scope, locals := L, globals := mainGlobals, cells := cs, qual := name ++ ".<locals>.", func := some a, code := cd, frame := some L, builtins := builtinsNs }
theorem cellsM_of {h : Heap} : ∀ {cs : List (Str × Addr)} {cv : List (Option Value)}, cv.length = cs.length → (∀ (i : Nat) n c v, cs[i]? = some (n, c) → cv[i]? = some v → h.IsCell c v) → ∃ ms, CellsM cs cv ms ∧ ms.map (·.1) = cs.map (·.2) ∧ ∀ q ∈ ms, h.get? q.1 = some q.2
  | [], [], _, _ => ⟨[], trivial, rfl, fun _ h => nomatch h⟩
  | (n, c) :: cs, v :: cv, e, k => by
    obtain ⟨o, ho, hd⟩ := k 0 n c v rfl rfl
    obtain ⟨ms, h1, h2, h3⟩ := cellsM_of (cs := cs) (cv := cv) (by simpa using e) fun i n' c' v' e1 e2 => k (i + 1) n' c' v' (by simpa using e1) (by simpa using e2)
    refine ⟨(c, o) :: ms, ⟨rfl, hd, h1⟩, by rw [List.map_cons, List.map_cons, h2], fun q hq => ?_⟩
    rcases List.mem_cons.mp hq with e | hq
    · rw [e]; exact ho
    · exact h3 q hq
  | [], _ :: _, e, _ => by simp at e
  | _ :: _, [], e, _ => by simp at e
theorem env_cells {s s₁ : Shared} {L : Addr} {m cm : Str → Option Value} {cs : List (Str × Addr)} {cv : List (Option Value)} (x : InCallC s L m cs cm s₁) (ha : Agree m xs vs) (hcv : cv = cs.map fun y => cm y.1) (hnd : (cs.map (·.1)).Nodup) :
    ∃ ms, CellsM cs cv ms ∧ St s s.heap.get? L xs vs ms s₁ := by
  obtain ⟨ms, h1, h2, h3⟩ := cellsM_of (h := s₁.heap) (cs := cs) (cv := cv) (by rw [hcv, List.length_map]) fun i n c v e1 e2 => by
    rw [hcv, List.getElem?_map, e1] at e2
    have e3 : cm n = v := by simpa using e2
    rw [← e3]
    refine x.cell n c ?_
    have hm := List.mem_of_getElem? e1
    clear e1 e2 e3 hcv x ha
    induction cs with
    | nil => exact nomatch hm
    | cons y cs ih =>
      obtain ⟨n', c'⟩ := y
      rcases List.mem_cons.mp hm with e | hm
      · cases e; simp
      · have hne : n ≠ n' := fun e => (List.nodup_cons.mp hnd).1 (e ▸ List.mem_map.mpr ⟨_, hm, rfl⟩)
        rw [List.lookup_cons, show (n == n') = false from beq_false_of_ne hne]
        exact ih (List.nodup_cons.mp hnd).2 hm
  refine ⟨ms, h1, ?_⟩
  obtain ⟨h, tk, rfl⟩ := x.toInCall.same
  refine ⟨rfl, ⟨m, x.toInCall.ns, ha⟩, x.toInCall.keep, Le.refl _, size_none x.toInCall.fresh, fun q hq => ?_, ?_⟩
  · have hc : q.1 ∈ cs.map (·.2) := h2 ▸ List.mem_map.mpr ⟨q, hq, rfl⟩
    obtain ⟨y, hy, e⟩ := List.mem_map.mp hc
    have hlt := x.above y.1 y.2 hy
    rw [e] at hlt
    refine ⟨h3 q hq, fun e' => ?_, size_none (Nat.le_trans x.toInCall.fresh (Nat.le_of_lt hlt))⟩
    rw [e'] at hlt; exact Nat.lt_irrefl _ hlt
  · rw [h2]
    exact List.pairwise_map.mpr x.apart
/-- a def with cells -/
theorem fn_cells {k : Nat} {f : Addr} {name : Str} {params : Arguments} {body : List Stmt} {scope : Scope} {dV kV : Value} {l : List Value} {kw : List (Str × Value)} {binds : List (Str × Value)} {Q : Value → Shared → Prop} {E : Value → Shared → Prop} (cs : Nat → List (Str × Addr)) {cv : List (Option Value)}
    (R : Rm k A) (lim : s.heap.NoLimit) (F : FnAt s.heap f name params body scope dV kV) (hbind : ∀ doc pm an cdv ct, BindsTo s (fnOf name name params body scope dV kV doc pm an cdv ct) ⟨l, kw⟩ binds)
    (hcs : ∀ n, cellsFrom n scope.names [] = cs n) (hkind : ∀ n, ∀ x ∈ binds, scope.names.lookup x.1 = some .local ∨ (scope.names.lookup x.1 = some .cell ∧ ((cs n).lookup x.1).isSome = true))
    (ha : Agree (bindL (fun x => scope.names.lookup x) binds fun _ => none) xs vs) (hcv : ∀ n, (cs n).map (fun y => bindC (fun x => scope.names.lookup x) binds (fun _ => none) y.1) = cv) (hnd : ∀ n, ((cs n).map (·.1)).Nodup)
    (h : ∀ L cdv ms s', CellsM (cs (L + 1)) cv ms → St s s.heap.get? L xs vs ms s' → wpAny (model prog w) (A.deeper (envC name scope L f cdv (cs (L + 1)))) (execs body (envC name scope L f cdv (cs (L + 1)))) (fun fl s' => Pu s s' ∧ Q (match fl with | .ret v => v | _ => .none) s') (fun _ _ => False) s')
    (hco : scope.isCoroutine = false := by rfl) (hgen : scope.isGenerator = false := by rfl) (hk : scope.kind = .function := by rfl) : wpAny (model prog w) A (call (.ref f) l kw) Q E s := by
  obtain ⟨o, doc, pm, an, cdv, ct, ho, hd, hcd⟩ := F
  refine wpAny_call (codeAny_call_function (fd := fnOf name name params body scope dV kV doc pm an cdv ct) (body := body) R.room ho hd hco hgen rfl hcd (hbind doc pm an cdv ct _ _ _ _ ?_))
  refine wpAny_newFunctionEnv_cells hk (fun x hx => by rw [show (fnOf name name params body scope dV kV doc pm an cdv ct).scope = scope from rfl, hcs]; exact hkind _ x hx) fun env he s₁ x => ?_
  have he' : env = envC name scope s.heap.objs.size f cdv (cs (s.heap.objs.size + 1)) := by rw [he, ← hcs]; rfl
  subst he'
  obtain ⟨ms, hM, S⟩ := env_cells (xs := xs) (vs := vs) (cv := cv) x ha (hcv _).symm (hnd _)
  refine ⟨lim.keeps x.toInCall.keep, codeAny_func ?_⟩
  exact wpAny_mono (h _ cdv ms s₁ hM S) (fun fl s' hq => hq.2) fun _ _ x => x.elim
theorem fnS_cells {k : Nat} {f : Addr} {name : Str} {params : Arguments} {body : List Stmt} {scope : Scope} {dV kV : Value} {l : List Value} {kw : List (Str × Value)} {binds : List (Str × Value)} {Q : Value → Shared → Prop} {E : Value → Shared → Prop} (cs : Nat → List (Str × Addr)) {cv : List (Option Value)}
    (R : Rm k A) (lim : s.heap.NoLimit) (F : FnAt s.heap f name params body scope dV kV) (hbind : ∀ doc pm an cdv ct, BindsTo s (fnOf name name params body scope dV kV doc pm an cdv ct) ⟨l, kw⟩ binds)
    (hcs : ∀ n, cellsFrom n scope.names [] = cs n) (hkind : ∀ n, ∀ x ∈ binds, scope.names.lookup x.1 = some .local ∨ (scope.names.lookup x.1 = some .cell ∧ ((cs n).lookup x.1).isSome = true))
    (ha : Agree (bindL (fun x => scope.names.lookup x) binds fun _ => none) xs vs) (hcv : ∀ n, (cs n).map (fun y => bindC (fun x => scope.names.lookup x) binds (fun _ => none) y.1) = cv) (hnd : ∀ n, ((cs n).map (·.1)).Nodup)
    (h : ∀ L cdv ms s', CellsM (cs (L + 1)) cv ms → St s s.heap.get? L xs vs ms s' → wpS (model prog w) (A.deeper (envC name scope L f cdv (cs (L + 1)))) (execs body (envC name scope L f cdv (cs (L + 1)))) (fun fl s' => Q (match fl with | .ret v => v | _ => .none) s') (fun _ _ => False) s')
    (hco : scope.isCoroutine = false := by rfl) (hgen : scope.isGenerator = false := by rfl) (hk : scope.kind = .function := by rfl) : wpS (model prog w) A (call (.ref f) l kw) Q E s := by
  obtain ⟨o, doc, pm, an, cdv, ct, ho, hd, hcd⟩ := F
  refine S.call (codeS_call (fd := fnOf name name params body scope dV kV doc pm an cdv ct) (body := body) R.room ho hd hco hgen rfl hcd (hbind doc pm an cdv ct _ _ _ _ ?_))
  refine wpAny_newFunctionEnv_cells hk (fun x hx => by rw [show (fnOf name name params body scope dV kV doc pm an cdv ct).scope = scope from rfl, hcs]; exact hkind _ x hx) fun env he s₁ x => ?_
  have he' : env = envC name scope s.heap.objs.size f cdv (cs (s.heap.objs.size + 1)) := by rw [he, ← hcs]; rfl
  subst he'
  obtain ⟨ms, hM, S⟩ := env_cells (xs := xs) (vs := vs) (cv := cv) x ha (hcv _).symm (hnd _)
  exact ⟨lim.keeps x.toInCall.keep, h _ cdv ms s₁ hM S⟩
end
end Mine
namespace Mine
section
variable {α : Type} {P : α → Value → Mem → Prop} {M M' : List (Addr × Obj)} {tA sA D : Addr} {ras sas : List Addr}
variable {T : List (List Str)} {U : List (List Nat)} {r : List (Addr × Obj)}
end
end Mine
namespace Mine
section
variable {prog : Program} {w : World} {A : Around} {env : Env} {s₀ : Shared}
variable {u s s' : Shared} {g : Mem} {L : Addr} {xs : List Str} {vs : List (Option Value)} {ms r : List (Addr × Obj)} {mg mb : Str → Option Value}
/-- for x in .., x a cell's name -/
theorem x_for1C {x : Str} {px pos : Pos} {iter : Expr} {body : List Stmt} {i n : Nat} {c : Addr} {P : Nat → Value → Prop} {Q : Flow → Shared → Prop} {E : Value → Shared → Prop} (J : Nat → Mem → List (Option Value) → List (Addr × Obj) → Prop)
    (hf : env.scope.kind = .function) (hk : env.kindOf x = some .cell) (hc : env.cells.lookup x = some c) (S : St u g L xs vs ms s) (hI : Src prog w A iter env s g n P) (h0 : ∀ g', Le g g' → J 0 g' vs ms) (hcell : ∀ k g vs ms, J k g vs ms → ∃ o v₀, ms[i]? = some (c, o) ∧ o.data = .cell v₀)
    (turn : ∀ k v o' g' vs' ms' r s', k < n → P k v → Le g g' → J k g' vs' ms' → o'.data = .cell (some v) → St u g' L xs vs' (ms'.set i (c, o') ++ r) s' → wpAny (model prog w) A (execs body env) (Turn u L xs g' r (J (k + 1)) Q) (fun _ _ => False) s')
    (done : ∀ g' vs' ms' s', Le g g' → J n g' vs' ms' → St u g' L xs vs' ms' s' → Q .next s')
    (hs : ∀ x, foldedSetIterable iter env x = pure x := by intro; rfl) : wpAny (model prog w) A (exec (.For (.Name x px) iter body [] pos) env) Q E s := by
  refine wpAny_For (hI s _ _ (Pu.refl s) fun I fp wr Sx s₁ p W al h1 hw nd hf => ?_) hs
  obtain ⟨g₁, r₁, hr₁, l₁, S₁, hf₁⟩ := S.into p hw (al 0 _ h1) nd hf
  refine codeAny_forLoop (fun m s' => ∃ k g' vs' ms' r, k ≤ n ∧ m = n - k ∧ Le g g' ∧ St u g' L xs vs' (ms' ++ r) s' ∧ r.map (·.1) = wr ∧ Sx k s'.heap ∧ (∀ b ∈ fp, b ∉ wr → ∃ o, g' b = some o) ∧ J k g' vs' ms') ?_ n ⟨0, g₁, vs, ms, r₁, Nat.zero_le _, rfl, l₁, S₁, hr₁, h1, hf₁, h0 g₁ l₁⟩
  rintro m s' ⟨k, g', vs', ms', r, hk', rfl, l', S', hr, hS, hf', hJ⟩
  by_cases hlt : k < n
  · refine W.item k _ _ _ hlt hS fun v h' tk hP hS' hk' => ?_
    obtain ⟨r', hr', S₂⟩ := S'.rewr (h' := h') (n := tk) (fun b o hb e => hk' b o (hr ▸ hb) e) (by rw [hr]; exact al _ _ hS')
    obtain ⟨o, v₀, hi, hd⟩ := hcell _ _ _ _ hJ
    have hlt' := (List.getElem?_eq_some_iff.mp hi).1
    have hi' : (ms' ++ r')[i]? = some (c, o) := by rw [List.getElem?_append_left hlt']; exact hi
    refine wpAny_assign_Name (wpAny_storeName_cell ‹_› hk hc ⟨o, (S₂.own _ (List.mem_of_getElem? hi')).1, hd⟩ fun h₃ ho₃ hs₃ => ?_)
    obtain ⟨o', ho', hd'⟩ := ho₃
    have S₃ := S₂.turn (n := tk) hi' hs₃ ho'
    rw [List.set_append_left _ _ hlt'] at S₃
    refine wpAny_mono (turn k v o' g' vs' ms' r' _ hlt hP l' hJ hd' S₃) (fun f s₄ hT => ?_) fun _ _ x => x.elim
    have hS₃ := W.frame _ _ _ hS' (frame_of S₂ S₃ (Le.refl _) (hr'.trans hr) hf')
    have fin : (∃ g'' vs'' ms'', Le g' g'' ∧ St u g'' L xs vs'' (ms'' ++ r') s₄ ∧ J (k + 1) g'' vs'' ms'') → ∃ m, m < n - k ∧ ∃ k g' vs' ms' r, k ≤ n ∧ m = n - k ∧ Le g g' ∧ St u g' L xs vs' (ms' ++ r) s₄ ∧ r.map (·.1) = wr ∧ Sx k s₄.heap ∧ (∀ b ∈ fp, b ∉ wr → ∃ o, g' b = some o) ∧ J k g' vs' ms' := by
      rintro ⟨g'', vs'', ms'', l'', S₄, hJ'⟩
      exact ⟨n - (k + 1), by omega, k + 1, g'', vs'', ms'', r', hlt, rfl, l'.trans l'', S₄, hr'.trans hr, W.frame _ _ _ hS₃ (frame_of S₃ S₄ l'' (hr'.trans hr) hf'), fun b hb hbw => let ⟨o, h⟩ := hf' b hb hbw; ⟨o, l'' _ _ h⟩, hJ'⟩
    cases f with
    | next => exact fin hT
    | cont => exact fin hT
    | brk => exact hT.elim
    | ret v => exact hT
  · have hkn : k = n := by omega
    subst hkn
    refine W.done _ _ _ hS fun h' tk hk' => ?_
    have S₂ : St u g' L xs vs' ms' { s' with heap := h', toks := tk } := S'.after fun b o hb e => hk' b o (hr ▸ hb) e
    exact wpAny_execs_nil (done g' vs' ms' _ l' hJ S₂)
end
end Mine
namespace Mine
section
variable {prog : Program} {w : World} {A : Around} {env : Env} {s₀ : Shared}
variable {u s s' : Shared} {g : Mem} {L : Addr} {xs : List Str} {vs : List (Option Value)} {ms r : List (Addr × Obj)} {mg mb : Str → Option Value}
end
end Mine
namespace Mine
section
variable {prog : Program} {w : World} {A : Around} {env : Env} {s₀ : Shared} {α : Type} {xs : List Str}
theorem take_succ' {l : List α} {k : Nat} {x : α} (h : l[k]? = some x) : l.take (k + 1) = l.take k ++ [x] := by rw [List.take_add_one, h]; rfl
theorem cturn_of {u : Shared} {C D : Addr} {elt : Expr} {cenv : Env} {PP : α → Value → Mem → Prop} (m : ∀ d, Mono (PP d)) {ds : List α} {k : Nat} {d : α} {ys : Array Value} {vs : List (Option Value)} (hd : ds[k]? = some d)
    (el : ∀ g r kk st, St u g C xs vs ((D, lobj ys kk) :: r) st → Ev prog w A (eval elt cenv) st (PP d)) : CTurn prog w A u C D xs [] elt cenv (All2 PP (ds.take k)) (All2 PP (ds.take (k + 1))) ys vs := fun g r kk st hJ S =>
  ⟨true, eb_nil, fun _ => (el g r kk st S).imp fun y f hy f' l1 l2 => by rw [take_succ' hd]; exact (hJ.mono m l1).push (m _ _ _ _ l2 hy), fun h => by cases h⟩
/-- [elt for x in iter], one item a turn -/
theorem ev_comp1L {elt iter : Expr} {x : Str} {px : Pos} {scope : Scope} {pos : Pos} {cl : List (Str × Addr)} {i n : Nat} {P : Nat → Value → Prop} {PP : α → Value → Mem → Prop} (ds : List α) (m : ∀ d, Mono (PP d)) (c : Ce scope xs) (hclos : closureFor scope env = pure cl) (hg : env.globals = mainGlobals) (hb : env.builtins = builtinsNs)
    (hx : xs[i]? = some x) (hl : n = ds.length) (hsrc : ∀ s, Pu s₀ s → Src prog w A iter env s s.heap.get? n P) (hn : ds.length ≤ 1000000)
    (el : ∀ s C D k v ys d g r kk st, Pu s₀ s → P k v → ds[k]? = some d → En (compEnvC scope cl C env) xs → St s g C xs ((xs.map fun _ => none).set i (some v)) ((D, lobj ys kk) :: r) st → Pu s₀ st → Ev prog w A (eval elt (compEnvC scope cl C env)) st (PP d))
    (hs : ∀ x, foldedSetIterable iter env x = pure x := by intro; rfl) : Ev prog w A (eval (.ListComp elt [⟨.Name x px, iter, [], 0⟩] scope pos) env) s₀ (Lof PP ds) := by
  subst hl
  refine Ev.imp (ev_comp1 (P := P) (fun k => All2 PP (ds.take k)) c hclos hg hb hx hsrc (le_line hn) (fun ys f f' l h => h.mono m l) (fun f => All2.nil) (fun s C D k v ys p hk hv => ?_) hs) fun v f h => by rw [List.take_length] at h; exact h
  exact cturn_of m (List.getElem?_eq_getElem hk) fun g r kk st S => el s C D k v ys _ g r kk st p hv (List.getElem?_eq_getElem hk) (c.en hg hb) S (p.trans S.pu)
theorem ev_comp2L {elt iter : Expr} {x y : Str} {px py pt : Pos} {kt : Nat} {scope : Scope} {pos : Pos} {cl : List (Str × Addr)} {i i' n : Nat} {P : Nat → Value → Value → Prop} {PP : α → Value → Mem → Prop} (ds : List α) (m : ∀ d, Mono (PP d)) (hh : A.handled = none) (c : Ce scope xs) (hclos : closureFor scope env = pure cl) (hg : env.globals = mainGlobals) (hb : env.builtins = builtinsNs)
    (hx : xs[i]? = some x) (hy : xs[i']? = some y) (hl : n = ds.length) (hsrc : ∀ s, Pu s₀ s → Src2 prog w A iter env s s.heap.get? n P) (hn : ds.length ≤ 1000000)
    (el : ∀ s C D k a b ys d g r kk st, Pu s₀ s → P k a b → ds[k]? = some d → En (compEnvC scope cl C env) xs → St s g C xs (((xs.map fun _ => none).set i (some a)).set i' (some b)) ((D, lobj ys kk) :: r) st → Pu s₀ st → Ev prog w A (eval elt (compEnvC scope cl C env)) st (PP d))
    (hs : ∀ x, foldedSetIterable iter env x = pure x := by intro; rfl) : Ev prog w A (eval (.ListComp elt [⟨.Tuple [.Name x px, .Name y py] kt pt, iter, [], 0⟩] scope pos) env) s₀ (Lof PP ds) := by
  subst hl
  refine Ev.imp (ev_comp2 (P := P) (fun k => All2 PP (ds.take k)) hh c hclos hg hb hx hy hsrc (le_line hn) (fun ys f f' l h => h.mono m l) (fun f => All2.nil) (fun s C D k a b ys p hk hv => ?_) hs) fun v f h => by rw [List.take_length] at h; exact h
  exact cturn_of m (List.getElem?_eq_getElem hk) fun g r kk st S => el s C D k a b ys _ g r kk st p hv (List.getElem?_eq_getElem hk) (c.en hg hb) S (p.trans S.pu)
end
end Mine
namespace Mine
section
variable {prog : Program} {w : World} {A : Around} {env : Env} {s₀ : Shared} {α : Type} {xs : List Str}
variable {u s s' : Shared} {g : Mem} {L : Addr} {vs : List (Option Value)} {ms r : List (Addr × Obj)}
end
end Mine
namespace Mine
section
variable {prog : Program} {w : World} {A : Around} {env : Env} {s₀ : Shared}
variable {u s s' : Shared} {g : Mem} {L : Addr} {xs : List Str} {vs : List (Option Value)} {ms r : List (Addr × Obj)} {mg mb : Str → Option Value} {α : Type}
/-- enumerate over a list that the expression makes: R k: the k-th item -/
theorem src_enumJ {iter : Expr} {np pos : Pos} {e : Expr} {P : Value → Mem → Prop} {n : Nat} {R : Nat → Value → Prop} (hh : A.handled = none) (hf : Ev prog w A (eval (.Name "enumerate" np) env) s₀ (isV (.type "enumerate"))) (he : Ev prog w A (eval e env) s₀ P)
    (hP : ∀ v (s : Shared) f, Pu s₀ s → Le f s.heap.get? → P v f → ∃ a o ys, v = .ref a ∧ o.cls = .type "list" ∧ (∃ n, o.data = .seq ys n) ∧ ys.size = n ∧ (∀ (k : Nat) b, ys[k]? = some b → R k b) ∧ (g a = some o ∧ s.heap.get? a = some o ∨ f a = some o))
    (hi : iter = .Call (.Name "enumerate" np) [e] [] pos) (hs : starEach [e] env = [(false, eval e env)] := by rfl) :
    Src2 prog w A iter env s₀ g n (fun k a b => isI (k : Nat) a (fun _ => none) ∧ R k b) := fun s Q E p k => by
  subst hi
  refine wpAny_Call_NameR (hf s _ _ p fun v s₁ p₁ hv => ?_)
  cases hv
  rw [hs]
  refine callWith_type1 (t := eval e env) (he s₁ _ _ (p.trans p₁) fun v s₂ p₂ hv => ?_)
  obtain ⟨a, o, ys, rfl, hc, hd, rfl, hR, ho⟩ := hP v s₂ _ ((p.trans p₁).trans p₂) fresh_le hv
  have ho₁ : s₂.heap.get? a = some o := ho.elim (fun h => h.2) fun h => fresh_le _ _ h
  have hl : s₂.heap.IsList a ys := ⟨o, ho₁, hc, hd⟩
  have hlt := Heap.lt_size ho₁
  refine call_enumerate_list hl fun h' hE hI _ hk => ?_
  refine wpAny_pyIter_enum hE ?_
  have p₃ : Pu s₂ { s₂ with heap := h', toks := s₂.toks } := ⟨rfl, hk⟩
  have hnone : ∀ b, s₂.heap.objs.size ≤ b → s.heap.get? b = none := fun b hb => by
    cases q : s.heap.get? b with
    | none => rfl
    | some o => exact absurd (Heap.lt_size ((p₁.trans p₂).keep _ _ q)) (Nat.not_lt.mpr hb)
  have W := WalksT.enumerate (prog := prog) (w := w) hh (s₂.heap.objs.size + 1) s₂.heap.objs.size a (Nat.succ_ne_self _) (Nat.ne_of_lt (Nat.lt_succ_of_lt hlt)) (Nat.ne_of_lt hlt) ys
  refine k _ _ [s₂.heap.objs.size + 1, s₂.heap.objs.size] _ _ _ ((p₁.trans p₂).trans p₃) ⟨W.sub, W.frame, fun i s Q E hi st hQ => W.item i s Q E hi st fun T vals h' tk hP _ hT hm hk => hQ T vals h' tk (by
      obtain ⟨t, x, h1, h2⟩ := hP
      exact ⟨_, _, h2, ⟨t, rfl⟩, hR _ _ h1⟩) hT hm hk, W.go, W.apart, W.done, W.self⟩ (fun i h hS b hb => ?_) (fun i T h hM b hb => ?_) ⟨⟨_, hE⟩, hI, IsList.up hl hk⟩ (fun b hb => ?_) (by simp) fun b hb hbw => ?_
  · obtain ⟨⟨_, h1⟩, ⟨o, h2, _⟩, _⟩ := hS
    rcases List.mem_cons.mp hb with rfl | hb
    · exact isSome_of h1
    · rw [List.mem_singleton.mp hb]; exact isSome_of h2
  · obtain ⟨⟨_, h1⟩, ⟨o, h2, _⟩, _⟩ := hM
    rcases List.mem_cons.mp hb with rfl | hb
    · exact isSome_of h1
    · rw [List.mem_singleton.mp hb]; exact isSome_of h2
  · rcases List.mem_cons.mp hb with rfl | hb
    · exact hnone _ (Nat.le_succ _)
    · rw [List.mem_singleton.mp hb]; exact hnone _ (Nat.le_refl _)
  · have hb' : b = a := by
      rcases List.mem_cons.mp hb with rfl | hb
      · exact absurd (.head _) hbw
      · rcases List.mem_cons.mp hb with rfl | hb
        · exact absurd (.tail _ (.head _)) hbw
        · exact List.mem_singleton.mp hb
    subst hb'
    exact ho.elim (fun h => .inl ⟨o, h.1⟩) fun h => .inr ⟨o, Pu.fresh_le p₃ _ _ (Pu.fresh_le' p₁ _ _ h)⟩
/-- a list display as a source of enumerate -/
theorem enumJ_lof {ds : List α} {PP : α → Value → Mem → Prop} {P : Value → Mem → Prop} (h : ∀ v f, P v f → Lof PP ds v f) : ∀ v (s : Shared) f, Pu s₀ s → Le f s.heap.get? → P v f → ∃ a o ys, v = .ref a ∧ o.cls = .type "list" ∧ (∃ n, o.data = .seq ys n) ∧ ys.size = ds.length ∧ (∀ (k : Nat) b, ys[k]? = some b → ∃ d f, ds[k]? = some d ∧ PP d b f) ∧ (g a = some o ∧ s.heap.get? a = some o ∨ f a = some o) := fun v s f _ _ hv => by
  obtain ⟨a, ys, k, e, ho, hy⟩ := h v f hv
  exact ⟨a, _, ys, e, rfl, ⟨k, rfl⟩, hy.1, fun i b hb => let ⟨d, h1, h2⟩ := hy.get hb; ⟨d, f, h1, h2⟩, .inr ho⟩
theorem eb_or {e₁ e₂ : Expr} {pos : Pos} {whole : Sem Value} {x y : Bool} (h₁ : Eb prog w A (isTrue e₁ env (eval e₁ env)) s₀ x) (h₂ : x = false → Eb prog w A (isTrue e₂ env (eval e₂ env)) s₀ y) : Eb prog w A (isTrue (.BoolOp .Or [e₁, e₂] pos) env whole) s₀ (x || y) := fun s Q E p k => by
  refine isTrue_or (h₁ s _ _ p fun s₁ p₁ => ?_)
  cases x with
  | true => exact k _ p₁
  | false =>
    rw [if_neg Bool.false_ne_true]
    refine isTrue_or (h₂ rfl s₁ _ _ (p.trans p₁) fun s₂ p₂ => ?_)
    cases y with
    | true => exact k _ (p₁.trans p₂)
    | false => rw [if_neg Bool.false_ne_true]; exact isTrue_or_nil (k _ (p₁.trans p₂))
theorem All2.pick {P : α → Value → Mem → Prop} {ds : List α} {ys : Array Value} {f : Mem} (h : All2 P ds ys f) : ∀ I : List Nat, All2 P (I.filterMap (ds[·]?)) (I.filterMap (ys[·]?)).toArray f
  | [] => All2.nil
  | i :: I => by
    have ih := All2.pick h I
    cases e : ds[i]? with
    | none =>
      have e' : ys[i]? = none := by
        have := List.getElem?_eq_none_iff.mp e
        exact Array.getElem?_eq_none (by rw [h.1]; exact this)
      rw [List.filterMap_cons, List.filterMap_cons, e, e']; exact ih
    | some d =>
      obtain ⟨y, e', hy⟩ := h.2 i d e
      rw [List.filterMap_cons, List.filterMap_cons, e, e']
      have h1 : All2 P [d] #[y] f := by
        have := All2.push (All2.nil (P := P) (f := f)) hy
        exact this
      have := h1.app ih
      have e2 : (y :: I.filterMap (ys[·]?)).toArray = #[y] ++ (I.filterMap (ys[·]?)).toArray := by simp
      show All2 P (d :: I.filterMap (ds[·]?)) (y :: I.filterMap (ys[·]?)).toArray f
      rw [e2]
      exact this
/-- what a slice of a list takes -/
def picks (ns : List α) (lo hi st : Option Int) : List α := (sliceRange (sliceBounds lo hi st ns.length).1 (sliceBounds lo hi st ns.length).2.1 (sliceBounds lo hi st ns.length).2.2).filterMap (ns[·]?)
theorem All2.slice {P : α → Value → Mem → Prop} {ds : List α} {ys : Array Value} {f : Mem} (h : All2 P ds ys f) (lo hi st : Option Int) : All2 P (picks ds lo hi st) (slicePick ys lo hi st) f := by
  unfold picks slicePick
  rw [h.1]
  exact h.pick _
-- what is built of lists of ints or texts
theorem lay_flat {D : α → PyData} (h2 : ∀ d, (D d).depth = 0) : ∀ l : List α, (∀ d ∈ l, (D d).canLay0 = true) → PyData.canLayAll0 (l.map D) = true ∧ PyData.depthAll (l.map D) = 0
  | [], _ => ⟨rfl, rfl⟩
  | d :: l, h1 => by
    have ih := lay_flat h2 l fun d hd => h1 d (.tail _ hd)
    rw [List.map_cons]
    exact ⟨by rw [PyData.canLayAll0, h1 d (.head _), ih.1]; rfl, by rw [PyData.depthAll, h2, ih.2]; rfl⟩
theorem shaped_one {D : α → PyData} (h2 : ∀ d, (D d).depth = 0) {l : List α} (h1 : ∀ d ∈ l, (D d).canLay0 = true) : SeqAt.shaped (.list (l.map D)) = true := by
  have h := lay_flat h2 l h1
  unfold SeqAt.shaped
  rw [PyData.canLay0, h.1, PyData.depth, h.2]
  rfl
theorem eqv_shaped {d : PyData} (h : SeqAt.shaped d = true) : PyData.eqv d d = true := SeqAt.eqv_refl d (SeqAt.canLay_of_shaped h)
end
end Mine
namespace Mine
section
variable {prog : Program} {w : World} {A : Around} {env : Env}
variable {u s s' : Shared} {g : Mem} {L : Addr} {xs : List Str} {vs : List (Option Value)} {ms r : List (Addr × Obj)} {α : Type}
abbrev comp22 (elt t0 i0 t1 i1 : Expr) (scope : Scope) (pos : Pos) : Expr := .ListComp elt [⟨t0, i0, [], 0⟩, ⟨t1, i1, [], 0⟩] scope pos
theorem compTurn_out (elt t0 i0 t1 i1 : Expr) (scope : Scope) (pos : Pos) (it acc : Value) (env : Env) : compTurn (comp22 elt t0 i0 t1 i1 scope pos) 0 it acc env = (do
      standAt i0.pos
      match ← pyNext it with
      | none => pure (.done .next)
      | some v =>
        letOwnedTupleGo t0 it v
        assign t0 env v
        let x ← eval i1 env
        standAt i1.pos
        let x ← foldedSetIterable i1 env x
        let _ ← runOwn (.compStart (comp22 elt t0 i0 t1 i1 scope pos) 1 (← holding [x] (pyIter x)) acc env) env
        again (.compLoop (comp22 elt t0 i0 t1 i1 scope pos) 0 it acc env)) := rfl
theorem compTurn_in (elt t0 i0 t1 i1 : Expr) (scope : Scope) (pos : Pos) (it acc : Value) (env : Env) : compTurn (comp22 elt t0 i0 t1 i1 scope pos) 1 it acc env = (do
      standAt i1.pos
      match ← pyNext it with
      | none => pure (.done .next)
      | some v =>
        letOwnedTupleGo t1 it v
        assign t1 env v
        (do let _ ← call (.builtin "list.append") [acc, ← eval elt env])
        again (.compLoop (comp22 elt t0 i0 t1 i1 scope pos) 1 it acc env)) := rfl
theorem nf {α : Type} {t : Sem α} {Q : α → Shared → Prop} {E : Value → Shared → Prop} {s : Shared} (h : wpAny (model prog w) A t Q (fun _ _ => False) s) : wpAny (model prog w) A t Q E s := wpAny_mono h (fun _ _ x => x) fun _ _ x => x.elim
theorem start22 {elt t0 i0 t1 i1 : Expr} {scope : Scope} {pos : Pos} {it acc : Value} {R : Result → Shared → Prop} {d : Nat} (hd : d = 0 ∨ d = 1)
    (h0 : codeAny (model prog w) A (.compLoop (comp22 elt t0 i0 t1 i1 scope pos) d it acc env) R s)
    (h : wpAny (model prog w) A (pyIter it) (fun it' s' => codeAny (model prog w) A (.compLoop (comp22 elt t0 i0 t1 i1 scope pos) d it' acc env) R s') (fun _ _ => False) s) :
    codeAny (model prog w) A (.compStart (comp22 elt t0 i0 t1 i1 scope pos) d it acc env) R s := by
  refine codeAny_of_tree ?_
  show wpAny _ _ ((compStart (comp22 elt t0 i0 t1 i1 scope pos) d it acc env).onRaise (fun x => do noteFrame x env; standAt theWindowsPlace)) _ _ s
  refine wpAny_notedAt ?_
  unfold compStart
  rcases hd with rfl | rfl <;>
  · show wpAny _ _ (ask >>= _) _ _ s
    refine wpAny_bind (wpAny_askSetting (wpAny_ite ?_))
    split
    · first
      | exact wpAny_bind (wpAny_pure (wpAny_pure (And.intro rfl h0)))
      | exact wpAny_pure (And.intro rfl h0)
    · refine wpAny_bind (wpAny_rule ?_)
      first
      | exact wpAny_bind (wpAny_standAt (wpAny_bind (nf (wpAny_mono h (fun it' s' h' => wpAny_pure (And.intro rfl h')) fun _ _ x => x))))
      | (show wpAny _ _ (standAt _ >>= _) _ _ s
         exact wpAny_bind (wpAny_standAt (wpAny_bind (nf (wpAny_mono h (fun it' s' h' => wpAny_pure (And.intro rfl h')) fun _ _ x => x)))))
theorem raw_in {elt t0 i0 t1 i1 : Expr} {scope : Scope} {pos : Pos} {it acc : Value} {R : Result → Shared → Prop} (I : Nat → Shared → Prop)
    (turn : ∀ n s, I n s → wpAny (model prog w) A (pyNext it) (fun r s₁ => match r with
      | none => R (.ok .next) s₁
      | some v => wpAny (model prog w) A (letOwnedTupleGo t1 it v) (fun _ s₁' => wpAny (model prog w) A (assign t1 env v) (fun _ s₂ =>
          wpAny (model prog w) A (eval elt env) (fun x s₄ =>
              wpAny (model prog w) A (call (.builtin "list.append") [acc, x]) (fun _ s₅ => ∃ m, m < n ∧ I m s₅) (fun _ _ => False) s₄) (fun _ _ => False) s₂) (fun _ _ => False) s₁') (fun _ _ => False) s₁) (fun _ _ => False) s)
    (n : Nat) (h : I n s) : codeAny (model prog w) A (.compLoop (comp22 elt t0 i0 t1 i1 scope pos) 1 it acc env) R s := by
  refine codeAny_loop rfl I (fun n s hI => ?_) n h
  show wpAny _ A ((compTurn (comp22 elt t0 i0 t1 i1 scope pos) 1 it acc env).onRaise (fun x => do noteFrame x env; theTreesLotGoes x)) _ _ s
  refine wpAny_noted ?_
  rw [compTurn_in]
  refine wpAny_bind (wpAny_standAt (wpAny_bind (nf (wpAny_mono (turn n s hI) (fun r s₁ h₁ => ?_) fun _ _ h' => h'))))
  cases r with
  | none => exact wpAny_pure h₁
  | some v =>
    refine wpAny_bind (nf (wpAny_mono h₁ (fun _ s₁' h₁' => ?_) fun _ _ h' => h'))
    refine wpAny_bind (nf (wpAny_mono h₁' (fun _ s₂ h₂ => ?_) fun _ _ h' => h'))
    exact wpAny_bind (wpAny_bind (nf (wpAny_mono h₂ (fun x s₄ h₄ => wpAny_bind (nf (wpAny_mono h₄ (fun _ s₅ h₅ => wpAny_pure (wpAny_pure ⟨rfl, h₅⟩)) fun _ _ h' => h'))) fun _ _ h' => h')))
theorem raw_out {elt t0 i0 t1 i1 : Expr} {scope : Scope} {pos : Pos} {it acc : Value} {R : Result → Shared → Prop} (I : Nat → Shared → Prop)
    (turn : ∀ n s, I n s → wpAny (model prog w) A (pyNext it) (fun r s₁ => match r with
      | none => R (.ok .next) s₁
      | some v => wpAny (model prog w) A (letOwnedTupleGo t0 it v) (fun _ s₁' => wpAny (model prog w) A (assign t0 env v) (fun _ s₂ =>
          wpAny (model prog w) A (eval i1 env) (fun x s₃ => wpAny (model prog w) A (pyIter x) (fun it1 s₄ =>
              codeAny (model prog w) A (.compStart (comp22 elt t0 i0 t1 i1 scope pos) 1 it1 acc env) (fun r s₅ => match r with | .ok _ => ∃ m, m < n ∧ I m s₅ | .error _ => False) s₄) (fun _ _ => False) s₃) (fun _ _ => False) s₂) (fun _ _ => False) s₁') (fun _ _ => False) s₁) (fun _ _ => False) s)
    (n : Nat) (h : I n s) (hs : ∀ x, foldedSetIterable i1 env x = pure x) : codeAny (model prog w) A (.compLoop (comp22 elt t0 i0 t1 i1 scope pos) 0 it acc env) R s := by
  refine codeAny_loop rfl I (fun n s hI => ?_) n h
  show wpAny _ A ((compTurn (comp22 elt t0 i0 t1 i1 scope pos) 0 it acc env).onRaise (fun x => do noteFrame x env; theTreesLotGoes x)) _ _ s
  refine wpAny_noted ?_
  rw [compTurn_out]
  refine wpAny_bind (wpAny_standAt (wpAny_bind (nf (wpAny_mono (turn n s hI) (fun r s₁ h₁ => ?_) fun _ _ h' => h'))))
  cases r with
  | none => exact wpAny_pure h₁
  | some v =>
    refine wpAny_bind (nf (wpAny_mono h₁ (fun _ s₁' h₁' => ?_) fun _ _ h' => h'))
    refine wpAny_bind (nf (wpAny_mono h₁' (fun _ s₂ h₂ => ?_) fun _ _ h' => h'))
    refine wpAny_bind (nf (wpAny_mono h₂ (fun x s₃ h₃ => wpAny_bind (wpAny_standAt ?_)) fun _ _ h' => h'))
    rw [hs]
    refine wpAny_bind (wpAny_pure (wpAny_bind (wpAny_holding (nf (wpAny_mono h₃ (fun it1 s₄ h₄ => ?_) fun _ _ h' => h')))))
    refine wpAny_bind (wpAny_runOwn (codeAny_mono h₄ fun r s₅ h₅ => ?_))
    cases r with
    | ok f => exact wpAny_pure ⟨rfl, h₅⟩
    | error e => exact h₅.elim
end
end Mine
namespace Mine
section
variable {prog : Program} {w : World} {A : Around} {env : Env} {s₀ : Shared}
variable {u s s' : Shared} {g : Mem} {L : Addr} {xs : List Str} {vs : List (Option Value)} {ms r : List (Addr × Obj)} {mg mb : Str → Option Value} {α β : Type}
/-- a tuple of two -/
def isTp (P1 P2 : α → Value → Mem → Prop) (d : α) : Value → Mem → Prop := fun v f => ∃ T a b, v = .ref T ∧ f T = some (tobj #[a, b]) ∧ P1 d a f ∧ P2 d b f
theorem mono_tp {P1 P2 : α → Value → Mem → Prop} (m1 : ∀ d, Mono (P1 d)) (m2 : ∀ d, Mono (P2 d)) (d : α) : Mono (isTp P1 P2 d) := fun _ _ _ l ⟨T, a, b, e, h, h1, h2⟩ => ⟨T, a, b, e, l _ _ h, m1 d _ _ _ l h1, m2 d _ _ _ l h2⟩
theorem tp_of {P1 P2 : α → Value → Mem → Prop} {d : α} {v : Value} {f : Mem} (h : isTup (fun ys f => AllP [P1 d, P2 d] ys.toList f) v f) : isTp P1 P2 d v f := by
  obtain ⟨a, ys, e, ha, hp⟩ := h
  obtain ⟨y1, y2, e2, h1, h2⟩ := AllP.two hp
  have e3 : ys = #[y1, y2] := by rw [← Array.toList_inj, e2]
  exact ⟨a, y1, y2, e, by rw [← e3]; exact ha, h1, h2⟩
/-- for .. in a list of tuples of two -/
theorem src_tups {iter : Expr} {a : Addr} {ys : Array Value} {n : Nat} {ps : List α} {P1 P2 : α → Value → Mem → Prop} {f : Mem} (hh : A.handled = none) (he : Ev prog w A (eval iter env) s₀ (isV (.ref a))) (hg : g a = some (lobj ys n)) (h0 : s₀.heap.get? a = some (lobj ys n))
    (hp : All2 (isTp P1 P2) ps ys f) (lg : Le f g) (lh : Le f s₀.heap.get?) : Src2 prog w A iter env s₀ g ys.size (fun k x y => ∃ d, ps[k]? = some d ∧ P1 d x f ∧ P2 d y f) := fun s Q E p k => by
  refine he s _ _ p fun v s₁ p₁ hv => ?_
  cases hv
  have ho₁ := (p.trans p₁).keep _ _ h0
  have hl : s₁.heap.IsList a ys := isList_lobj ho₁
  have hne : a ≠ s₁.heap.objs.size := Nat.ne_of_lt (Heap.lt_size ho₁)
  refine wpAny_pyIter_list hl ?_
  have p₂ := pu_push (s := s₁) { cls := .type "list_iterator", data := .fields #[.ref a, .int 0 0] } s₁.toks
  have key : ∀ j, ∃ T t t', j < ys.size → ys[j]? = some (.ref T) ∧ f T = some (tobj #[t, t']) ∧ ∃ d, ps[j]? = some d ∧ P1 d t f ∧ P2 d t' f := fun j => by
    by_cases hj : j < ys.size
    · have hj' : j < ps.length := by rw [← hp.1]; exact hj
      obtain ⟨y, hy, T, t, t', rfl, hT, h1, h2⟩ := hp.2 j _ (List.getElem?_eq_getElem hj')
      exact ⟨T, t, t', fun _ => ⟨hy, hT, _, List.getElem?_eq_getElem hj', h1, h2⟩⟩
    · exact ⟨0, .none, .none, fun h => absurd h hj⟩
  obtain ⟨Ts, key⟩ := Classical.skolem.mp key
  obtain ⟨t1, key⟩ := Classical.skolem.mp key
  obtain ⟨t2, hT⟩ := Classical.skolem.mp key
  have W := WalksU.listOfTuples (prog := prog) (w := w) hh s₁.heap.objs.size a hne ys Ts (fun j => #[t1 j, t2 j]) (fun j hj => (hT j hj).1) fun j hj => Nat.ne_of_lt (Heap.lt_size ((p.trans p₁).keep _ _ (lh _ _ (hT j hj).2.1)))
  refine k _ _ _ _ _ _ (p₁.trans p₂) ⟨W.sub, W.frame, fun i s Q E hi st hQ => W.item i s Q E hi st fun T vals h' tk hv h1 h2 h3 => hQ T vals h' tk ⟨_, _, hv, (hT i hi).2.2⟩ h1 h2 h3, W.go, W.apart, W.done, W.self⟩ (fun i h hS b hb => ?_) (fun i T h hS b hb => ?_) ⟨⟨_, Heap.get?_push_size _ rfl, rfl, rfl⟩, IsList.up hl p₂.keep, fun j hj => ?_⟩ (fun b hb => ?_) (by simp) fun b hb hbw => ?_
  · rw [List.mem_singleton.mp hb]; obtain ⟨⟨o, h1, _⟩, _⟩ := hS; exact isSome_of h1
  · rw [List.mem_singleton.mp hb]; obtain ⟨_, ⟨o, h1, _⟩, _⟩ := hS; exact isSome_of h1
  · exact ⟨_, p₂.keep _ _ ((p.trans p₁).keep _ _ (lh _ _ (hT j hj).2.1)), rfl, 0, rfl⟩
  · rw [List.mem_singleton.mp hb]
    cases q : s.heap.get? s₁.heap.objs.size with
    | none => rfl
    | some o => exact absurd (Heap.lt_size (p₁.keep _ _ q)) (Nat.lt_irrefl _)
  · rcases List.mem_cons.mp hb with rfl | hb
    · exact absurd (.head _) hbw
    · rcases List.mem_cons.mp hb with rfl | hb
      · exact .inl ⟨_, hg⟩
      · obtain ⟨j, hj, rfl⟩ := List.mem_map.mp hb
        exact .inl ⟨_, lg _ _ (hT j (List.mem_range.mp hj)).2.1⟩
theorem emit_run {C D : Addr} {elt : Expr} {J' : Array Value → Mem → Prop} {ys : Array Value} {k : Nat} {Q : Shared → Prop} (S : St u g C xs vs ((D, lobj ys k) :: r) s) (hz : ys.size ≤ sizeLine)
    (he : Ev prog w A (eval elt env) s (fun y f => ∀ f', Le (fr u.heap g) f' → Le f f' → J' (ys.push y) f'))
    (h : ∀ g' y k' s', Le g g' → J' (ys.push y) (fr u.heap g') → St u g' C xs vs ((D, lobj (ys.push y) k') :: r) s' → Q s') :
    wpAny (model prog w) A (eval elt env) (fun x s₄ => wpAny (model prog w) A (call (.builtin "list.append") [.ref D, x]) (fun _ s₅ => Q s₅) (fun _ _ => False) s₄) (fun _ _ => False) s := by
  refine he s _ _ (Pu.refl s) fun y s₄ p₄ hy => ?_
  obtain ⟨g', l, hg, S₄⟩ := S.grow p₄ [] (fun _ q => nomatch q) .nil
  refine st_append (i := 0) S₄ rfl hz fun k' s₅ S₅ => ?_
  exact h g' y k' s₅ l (hy _ (fr_up l) (fresh_fr S fun b o e => hg b o e (fun q => nomatch q))) S₅
theorem St.new (S : St u g L xs vs ms s) {h' : Heap} {b : Addr} {o : Obj} (e : fresh s.heap h' b = some o) : u.heap.get? b = none := by
  cases q : u.heap.get? b with
  | none => rfl
  | some x => have := S.ukeep _ _ q; rw [fresh_new e] at this; cases this
/-- x = e: what the value leans on is new -/
theorem x_asgF {x : Str} {px pos : Pos} {e : Expr} {i : Nat} {P : Value → Mem → Prop} {Q : Flow → Shared → Prop} {E : Value → Shared → Prop} (en : En env xs) (hL : env.locals = L) (S : St u g L xs vs ms s) (hx : xs[i]? = some x)
    (he : Ev prog w A (eval e env) s P) (k : ∀ (v : Value) (g' f : Mem) (s'' : Shared), Le g g' → Le f (fr u.heap g') → P v f → St u g' L xs (vs.set i (some v)) ms s'' → Q .next s'')
    (hs : swapsWith e (some (.Name x px)) pos.line env = pure false := by rfl) : wpAny (model prog w) A (exec (.Assign [.Name x px] e pos) env) Q E s :=
  wpAny_Assign_Name (he s _ _ (Pu.refl s) fun v s₁ p hv => by
    obtain ⟨g', l, hf, S'⟩ := S.grow p [] (fun _ h => nomatch h) .nil
    exact st_name en hL S' hx fun s' S'' => k v g' _ s' l (fun b o e => fr_of (S.new e) (hf b o e (fun h => nomatch h))) hv S'') hs
theorem post_someF {y : Str} {py : Pos} {j n : Nat} {J : Nat → Array Value → Mem → Prop} {Q : Flow → Shared → Prop} {E : Value → Shared → Prop} (en : En env xs) (hL : env.locals = L) (S : St u g L xs vs ms s) (hy : xs[j]? = some y)
    (k : ∀ a ys k g' f s', Le g g' → Le f (fr u.heap g') → fr u.heap g' a = some (lobj ys k) → J n ys f → St u g' L xs (vs.set j (some (.ref a))) ms s' → Q .next s') :
    ∀ C D ys k s' f, (∃ m, s'.heap.Ns C m) → Pu s s' → s.heap.get? C = none → fresh s.heap s'.heap D = some (lobj ys k) → D ≠ C → (∀ b o, f b = some o → fresh s.heap s'.heap b = some o ∧ b ≠ C) → J n ys f → compPost (model prog w) A E (some (assign (.Name y py) env)) (fun _ s' => Q .next s') (.ref D) C (.ok .next) s' := by
  intro C D ys kk s' f ⟨m, hm⟩ p hC hD hDC hf hJ
  obtain ⟨oC, es, ep, hoC, hr⟩ := id hm
  obtain ⟨g', l, hg, S'⟩ := S.grow p [(C, oC)] (fun q hq => by rw [List.mem_singleton.mp hq]; exact ⟨hC, hoC⟩) (by simp)
  refine wpAny_assign_Name (st_name en hL S' hy fun s₂ S₂ => ?_)
  have hC₂ := (S₂.own _ (.head _))
  refine ⟨m, ⟨oC, es, ep, hC₂.1, hr⟩, fun h' hs' => ?_⟩
  have S₃ : St u g' L xs (vs.set j (some (.ref D))) ms { s₂ with heap := h' } := (St.after (ms := ms) (r := [(C, oC)]) ⟨S₂.same, S₂.loc, S₂.gk, S₂.uk, S₂.gL, fun q hq => S₂.own q (by rcases List.mem_append.mp hq with h | h; exact .tail _ h; rw [List.mem_singleton.mp h]; exact .head _), by
      have nd : (C :: ms.map (·.1)).Nodup := S₂.nd
      rw [List.map_append]
      have pe : ∀ l : List Addr, (C :: l).Nodup → (l ++ [C]).Nodup := fun l h => (List.Perm.nodup_iff (List.perm_append_comm (l₁ := [C]))).mp h
      exact pe _ nd⟩ (n := s₂.toks) fun b o hb e => (hs'.2 b (fun q => hb (by rw [q]; exact .head _))).trans e)
  exact k D ys kk g' f _ l (fun b o e => fr_of (S.new (hf b o e).1) (hg b o (hf b o e).1 (fun q => (hf b o e).2 (List.mem_singleton.mp q)))) (fr_of (S.new hD) (hg D _ hD (fun q => hDC (List.mem_singleton.mp q)))) hJ S₃
/-- the inner loop of a comprehension of two -/
inductive In22 (u : Shared) (C D : Addr) (xs : List Str) (a b : Value) (J : Nat → Array Value → Mem → Prop) (r₀ : List (Addr × Obj)) (fp wr : List Addr) (Sx : Nat → Heap → Prop) (g : Mem) (z m mm : Nat) (s' : Shared) : Prop where
  | mk (l : Nat) (g' : Mem) (v2 v3 : Option Value) (ys : Array Value) (k' : Nat) (r : List (Addr × Obj)) : l ≤ m → mm = m - l → Le g g' → ys.size ≤ z + l → St u g' C xs [some a, some b, v2, v3] ((D, lobj ys k') :: r₀ ++ r) s' → r.map (·.1) = wr → Sx l s'.heap → (∀ b ∈ fp, b ∉ wr → ∃ o, g' b = some o) → J l ys (fr u.heap g') → In22 u C D xs a b J r₀ fp wr Sx g z m mm s'
theorem in_loop {x0 x1 x2 x3 : Str} {px py pt : Pos} {kt : Nat} {elt t0 i0 i1 : Expr} {scope : Scope} {pos : Pos} {cl : List (Str × Addr)} {C D : Addr} {m k₀ : Nat} {a b : Value} {v2 v3 : Option Value} {P' : Nat → Value → Value → Prop} {ys₀ : Array Value} {r₀ : List (Addr × Obj)} {Q : Shared → Prop}
    (J : Nat → Array Value → Mem → Prop) (hh : A.handled = none) (c : Ce scope [x0, x1, x2, x3]) (hg : env.globals = mainGlobals) (hb : env.builtins = builtinsNs)
    (S : St u g C [x0, x1, x2, x3] [some a, some b, v2, v3] ((D, lobj ys₀ k₀) :: r₀) s) (hsrc : Src2 prog w A i1 (compEnvC scope cl C env) s g m P') (hJ : J 0 ys₀ (fr u.heap g)) (mJ : ∀ ys f f', Le f f' → J 0 ys f → J 0 ys f') (hz : ys₀.size + m ≤ sizeLine)
    (el : ∀ l c d ys g' r kk st, l < m → P' l c d → Le g g' → J l ys (fr u.heap g') → St u g' C [x0, x1, x2, x3] [some a, some b, some c, some d] ((D, lobj ys kk) :: r) st → Ev prog w A (eval elt (compEnvC scope cl C env)) st (fun y f => ∀ f', Le (fr u.heap g') f' → Le f f' → J (l + 1) (ys.push y) f'))
    (done : ∀ g' v2 v3 ys k' s', Le g g' → ys.size ≤ ys₀.size + m → J m ys (fr u.heap g') → St u g' C [x0, x1, x2, x3] [some a, some b, v2, v3] ((D, lobj ys k') :: r₀) s' → Q s') :
    wpAny (model prog w) A (eval i1 (compEnvC scope cl C env)) (fun x s₁ => wpAny (model prog w) A (pyIter x) (fun it s₂ =>
      codeAny (model prog w) A (.compStart (comp22 elt t0 i0 (.Tuple [.Name x2 px, .Name x3 py] kt pt) i1 scope pos) 1 it (.ref D) (compEnvC scope cl C env)) (fun r s' => match r with | .ok _ => Q s' | .error _ => False) s₂) (fun _ _ => False) s₁) (fun _ _ => False) s := by
  have en : En (compEnvC scope cl C env) [x0, x1, x2, x3] := c.en hg hb
  refine hsrc s _ _ (Pu.refl s) fun I fp wr Sx Mid s₁ p W al alM h1 hw nd hf => ?_
  obtain ⟨g₁, r₁, hr₁, l₁, S₁, hf₁⟩ := S.into p hw (al 0 _ h1) nd hf
  have hloop : codeAny (model prog w) A (.compLoop (comp22 elt t0 i0 (.Tuple [.Name x2 px, .Name x3 py] kt pt) i1 scope pos) 1 (.ref I) (.ref D) (compEnvC scope cl C env)) (fun r s' => match r with | .ok _ => Q s' | .error _ => False) s₁ := by
    refine raw_in (fun mm s' => In22 u C D [x0, x1, x2, x3] a b J r₀ fp wr Sx g ys₀.size m mm s') ?_ m ⟨0, g₁, v2, v3, ys₀, k₀, r₁, Nat.zero_le _, rfl, l₁, Nat.le_refl _, S₁, hr₁, h1, hf₁, ?_⟩
    · rintro mm s' ⟨l, g', v2, v3, ys, k', r', hk, rfl, l', hys, S', hr', hS, hf', hJ'⟩
      by_cases hlt : l < m
      · refine W.item l _ _ _ hlt hS fun T vals h' tk hP hT hM hk' => ?_
        obtain ⟨c', d', rfl, hab⟩ := hP
        obtain ⟨r₂, hr₂, S₂⟩ := St.rewr (ms := (D, lobj ys k') :: r₀) S' (h' := h') (n := tk) (fun b o hb e => hk' b o (hr' ▸ hb) e) (by rw [hr']; exact alM _ _ _ hM)
        refine W.go _ _ _ l T _ _ _ hM fun h₂ hS₂ hk₂ => ?_
        obtain ⟨r₃, hr₃, S₃⟩ := St.rewr (ms := (D, lobj ys k') :: r₀) S₂ (h' := h₂) (n := tk) (fun b o hb e => hk₂ b o (by rw [hr₂, hr'] at hb; exact hb) e) (by rw [hr₂, hr']; exact al _ _ hS₂)
        have hT₂ : IsTup h₂ T #[c', d'] := let ⟨o, h1, h2⟩ := hT; ⟨o, hk₂ _ _ (W.apart _ _ _ hM) h1, h2⟩
        refine assign_Tuple_tuple hh hT₂ rfl rfl fun h₄ he₄ => ?_
        have p₄ : Pu { s' with heap := h₂, toks := tk } { s' with heap := h₄, toks := tk } := ⟨rfl, fun b o e => he₄ b o (Nat.ne_of_lt (Heap.lt_size e)) e⟩
        have S₄ := S₃.up p₄
        refine wpAny_bind (wpAny_holding (wpAny_assign_Name (st_name (i := 2) en rfl S₄ rfl fun s₅ S₅ => ?_)))
        refine wpAny_bind (wpAny_holding (wpAny_assign_Name (st_name (i := 3) en rfl S₅ rfl fun s₆ S₆ => wpAny_pure ?_)))
        have hrr : r₃.map (·.1) = wr := (hr₃.trans hr₂).trans hr'
        have hS₆ : Sx (l + 1) s₆.heap := W.frame _ _ _ hS₂ (frame_of (ms := (D, lobj ys k') :: r₀) (ms' := (D, lobj ys k') :: r₀) S₃ S₆ (Le.refl _) hrr hf')
        have S₆ : St u g' C [x0, x1, x2, x3] [some a, some b, some c', some d'] ((D, lobj ys k') :: (r₀ ++ r₃)) s₆ := S₆
        refine emit_run (J' := J (l + 1)) S₆ (by omega) (el l c' d' ys g' _ k' s₆ hlt hab l' hJ' S₆) fun g'' y k'' s₇ l'' hJ'' S₇ => ?_
        refine ⟨m - (l + 1), by omega, l + 1, g'', _, _, ys.push y, k'', r₃, hlt, rfl, l'.trans l'', by rw [Array.size_push]; omega, S₇, hrr, ?_, fun b hb hbw => let ⟨o, h⟩ := hf' b hb hbw; ⟨o, l'' _ _ h⟩, hJ''⟩
        exact W.frame _ _ _ hS₆ (frame_of (ms := (D, lobj ys k') :: r₀) (ms' := (D, lobj (ys.push y) k'') :: r₀) S₆ S₇ l'' hrr hf')
      · have hkn : l = m := by omega
        subst hkn
        refine W.done _ _ _ hS fun h' tk hk' => ?_
        exact done g' v2 v3 ys k' _ l' hys hJ' (St.after (ms := (D, lobj ys k') :: r₀) S' fun b o hb e => hk' b o (hr' ▸ hb) e)
    · exact mJ _ _ _ (fr_up l₁) hJ
  exact start22 (.inr rfl) hloop (W.self 0 _ _ _ h1 hloop)
inductive Out22 (u : Shared) (C D : Addr) (xs : List Str) (PP : β → Value → Mem → Prop) (out : List β) (m : Nat) (fp wr : List Addr) (Sx : Nat → Heap → Prop) (g : Mem) (n mm : Nat) (s' : Shared) : Prop where
  | mk (k : Nat) (g' : Mem) (v0 v1 v2 v3 : Option Value) (ys : Array Value) (k' : Nat) (r : List (Addr × Obj)) : k ≤ n → mm = n - k → Le g g' → St u g' C xs [v0, v1, v2, v3] ((D, lobj ys k') :: r) s' → r.map (·.1) = wr → Sx k s'.heap → (∀ b ∈ fp, b ∉ wr → ∃ o, g' b = some o) → All2 PP (out.take (k * m)) ys (fr u.heap g') → Out22 u C D xs PP out m fp wr Sx g n mm s'
theorem comp22_loop {x0 x1 x2 x3 : Str} {p0 p1 p2 px py pt : Pos} {k0 kt : Nat} {elt i0 i1 : Expr} {scope : Scope} {pos : Pos} {cl : List (Str × Addr)} {C D I : Addr} {fp wr : List Addr} {n m k₀ : Nat} {P P' : Nat → Value → Value → Prop} {Sx : Nat → Heap → Prop} {Mid : Nat → Addr → Heap → Prop} {PP : β → Value → Mem → Prop} {Q : Shared → Prop}
    (out : List β) (mP : ∀ d, Mono (PP d)) (hh : A.handled = none) (c : Ce scope [x0, x1, x2, x3]) (hg : env.globals = mainGlobals) (hb : env.builtins = builtinsNs) (W : WalksU prog w A I fp wr n (fun i vals => ∃ a b, vals = #[a, b] ∧ P i a b) Sx Mid)
    (al : ∀ i h, Sx i h → ∀ b ∈ wr, (h.get? b).isSome = true) (alM : ∀ i T h, Mid i T h → ∀ b ∈ wr, (h.get? b).isSome = true)
    (S : St u g C [x0, x1, x2, x3] [none, none, none, none] ((D, lobj #[] k₀) :: r) s) (hr : r.map (·.1) = wr) (h0 : Sx 0 s.heap) (hf : ∀ b ∈ fp, b ∉ wr → ∃ o, g b = some o)
    (hlen : out.length = n * m) (hz : n * m ≤ 1000000)
    (hsrc : ∀ k a b g' vs ms st, k < n → P k a b → St u g' C [x0, x1, x2, x3] vs ms st → Src2 prog w A i1 (compEnvC scope cl C env) st g' m P')
    (el : ∀ k l a b c d ys o g' r kk st, P k a b → P' l c d → out[k * m + l]? = some o → St u g' C [x0, x1, x2, x3] [some a, some b, some c, some d] ((D, lobj ys kk) :: r) st → Ev prog w A (eval elt (compEnvC scope cl C env)) st (PP o))
    (done : ∀ g' vs ys k' s', Le g g' → All2 PP out ys (fr u.heap g') → St u g' C [x0, x1, x2, x3] vs [(D, lobj ys k')] s' → Q s')
    (hs : ∀ x, foldedSetIterable i1 (compEnvC scope cl C env) x = pure x) :
    codeAny (model prog w) A (.compStart (comp22 elt (.Tuple [.Name x0 p0, .Name x1 p1] k0 p2) i0 (.Tuple [.Name x2 px, .Name x3 py] kt pt) i1 scope pos) 0 (.ref I) (.ref D) (compEnvC scope cl C env)) (fun r s' => match r with | .ok _ => Q s' | .error _ => False) s := by
  have en : En (compEnvC scope cl C env) [x0, x1, x2, x3] := c.en hg hb
  have hloop : codeAny (model prog w) A (.compLoop (comp22 elt (.Tuple [.Name x0 p0, .Name x1 p1] k0 p2) i0 (.Tuple [.Name x2 px, .Name x3 py] kt pt) i1 scope pos) 0 (.ref I) (.ref D) (compEnvC scope cl C env)) (fun r s' => match r with | .ok _ => Q s' | .error _ => False) s := by
    refine raw_out (fun mm s' => Out22 u C D [x0, x1, x2, x3] PP out m fp wr Sx g n mm s') ?_ n ⟨0, g, none, none, none, none, #[], k₀, r, Nat.zero_le _, rfl, Le.refl _, S, hr, h0, hf, by rw [Nat.zero_mul]; exact All2.nil⟩ hs
    rintro mm s' ⟨k, g', v0, v1, v2, v3, ys, k', r', hk, rfl, l', S', hr', hS, hf', hJ'⟩
    by_cases hlt : k < n
    · refine W.item k _ _ _ hlt hS fun T vals h' tk hP hT hM hk' => ?_
      obtain ⟨a, b, rfl, hab⟩ := hP
      obtain ⟨r₁, hr₁, S₁⟩ := St.rewr (ms := [(D, lobj ys k')]) S' (h' := h') (n := tk) (fun b o hb e => hk' b o (hr' ▸ hb) e) (by rw [hr']; exact alM _ _ _ hM)
      refine W.go _ _ _ k T _ _ _ hM fun h₂ hS₂ hk₂ => ?_
      obtain ⟨r₃, hr₃, S₃⟩ := St.rewr (ms := [(D, lobj ys k')]) S₁ (h' := h₂) (n := tk) (fun b o hb e => hk₂ b o (by rw [hr₁, hr'] at hb; exact hb) e) (by rw [hr₁, hr']; exact al _ _ hS₂)
      have hT₂ : IsTup h₂ T #[a, b] := let ⟨o, h1, h2⟩ := hT; ⟨o, hk₂ _ _ (W.apart _ _ _ hM) h1, h2⟩
      refine assign_Tuple_tuple hh hT₂ rfl rfl fun h₄ he₄ => ?_
      have p₄ : Pu { s' with heap := h₂, toks := tk } { s' with heap := h₄, toks := tk } := ⟨rfl, fun b o e => he₄ b o (Nat.ne_of_lt (Heap.lt_size e)) e⟩
      have S₄ := S₃.up p₄
      refine wpAny_bind (wpAny_holding (wpAny_assign_Name (st_name (i := 0) en rfl S₄ rfl fun s₅ S₅ => ?_)))
      refine wpAny_bind (wpAny_holding (wpAny_assign_Name (st_name (i := 1) en rfl S₅ rfl fun s₆ S₆ => wpAny_pure ?_)))
      have hrr : r₃.map (·.1) = wr := (hr₃.trans hr₁).trans hr'
      have hS₆ : Sx (k + 1) s₆.heap := W.frame _ _ _ hS₂ (frame_of (ms := [(D, lobj ys k')]) (ms' := [(D, lobj ys k')]) S₃ S₆ (Le.refl _) hrr hf')
      have S₆ : St u g' C [x0, x1, x2, x3] [some a, some b, v2, v3] ((D, lobj ys k') :: r₃) s₆ := S₆
      have hkm : (k + 1) * m ≤ n * m := Nat.mul_le_mul_right _ hlt
      rw [Nat.succ_mul] at hkm
      have hys : ys.size = k * m := by rw [hJ'.1, List.length_take]; omega
      refine in_loop (fun l ys f => All2 PP (out.take (k * m + l)) ys f) hh c hg hb S₆ (hsrc k a b _ _ _ _ hlt hab S₆) hJ' (fun _ _ _ l h => h.mono mP l) (le_line (by omega)) (fun l c d ys g'' r kk st hl hP' lg hJ St' => ?_) fun g'' w2 w3 ys' k'' s₇ l'' hz' hJ'' S₇ => ?_
      · have hlo : k * m + l < out.length := by rw [hlen]; omega
        refine (el k l a b c d ys _ g'' r kk st hab hP' (List.getElem?_eq_getElem hlo) St').imp fun y f hy f' l1 l2 => ?_
        show All2 PP (out.take (k * m + l + 1)) _ f'
        rw [take_succ' (List.getElem?_eq_getElem hlo)]
        exact (hJ.mono mP l1).push (mP _ _ _ _ l2 hy)
      · refine ⟨n - (k + 1), by omega, k + 1, g'', _, _, _, _, ys', k'', r₃, hlt, rfl, l'.trans l'', S₇, hrr, ?_, fun b hb hbw => let ⟨o, h⟩ := hf' b hb hbw; ⟨o, l'' _ _ h⟩, by rw [Nat.succ_mul]; exact hJ''⟩
        exact W.frame _ _ _ hS₆ (frame_of (ms := [(D, lobj ys k')]) (ms' := [(D, lobj ys' k'')]) S₆ S₇ l'' hrr hf')
    · have hkn : k = n := by omega
      subst hkn
      refine W.done _ _ _ hS fun h' tk hk' => ?_
      refine done g' _ ys k' _ l' (by rw [← hlen, List.take_length] at hJ'; exact hJ') (St.after (ms := [(D, lobj ys k')]) S' fun b o hb e => hk' b o (hr' ▸ hb) e)
  exact start22 (.inl rfl) hloop (W.self 0 _ _ _ h0 hloop)
/-- y = [elt for a, b in i0 for c, d in i1], on one line with the name -/
theorem x_asgC22 {y : Str} {py' spos : Pos} {j : Nat} {x0 x1 x2 x3 : Str} {p0 p1 p2 px py pt : Pos} {k0 kt : Nat} {elt i0 i1 : Expr} {scope : Scope} {pos : Pos} {cl : List (Str × Addr)} {n m : Nat} {P P' : Nat → Value → Value → Prop} {PP : β → Value → Mem → Prop} {Q : Flow → Shared → Prop} {E : Value → Shared → Prop}
    (out : List β) (mP : ∀ d, Mono (PP d)) (hh : A.handled = none) (en : En env xs) (hL : env.locals = L) (S : St u g L xs vs ms s) (hy : xs[j]? = some y) (c : Ce scope [x0, x1, x2, x3]) (hclos : closureFor scope env = pure cl) (hsrc : Src2 prog w A i0 env s s.heap.get? n P)
    (hlen : out.length = n * m) (hz : n * m ≤ 1000000)
    (hsrc' : ∀ C k a b g' vs ms st, k < n → P k a b → St s g' C [x0, x1, x2, x3] vs ms st → Src2 prog w A i1 (compEnvC scope cl C env) st g' m P')
    (el : ∀ C D k l a b c d ys o g' r kk st, P k a b → P' l c d → out[k * m + l]? = some o → St s g' C [x0, x1, x2, x3] [some a, some b, some c, some d] ((D, lobj ys kk) :: r) st → Ev prog w A (eval elt (compEnvC scope cl C env)) st (PP o))
    (k : ∀ a ys k g' f s', Le g g' → Le f (fr u.heap g') → fr u.heap g' a = some (lobj ys k) → All2 PP out ys f → St u g' L xs (vs.set j (some (.ref a))) ms s' → Q .next s')
    (hsw : swapsWith (comp22 elt (.Tuple [.Name x0 p0, .Name x1 p1] k0 p2) i0 (.Tuple [.Name x2 px, .Name x3 py] kt pt) i1 scope pos) (some (.Name y py')) spos.line env = pure true)
    (hs : ∀ x, foldedSetIterable i0 env x = pure x := by intro; rfl) (hs' : ∀ C x, foldedSetIterable i1 (compEnvC scope cl C env) x = pure x := by intro _ _; rfl) :
    wpAny (model prog w) A (exec (.Assign [.Name y py'] (comp22 elt (.Tuple [.Name x0 p0, .Name x1 p1] k0 p2) i0 (.Tuple [.Name x2 px, .Name x3 py] kt pt) i1 scope pos) spos) env) Q E s := by
  rw [exec_Assign_Name_used _ _ _ _ hsw]
  refine wpAny_bind (wpAny_standAt (wpAny_bind ?_))
  show wpAny _ A (do let _ ← comprehension (comp22 elt (.Tuple [.Name x0 p0, .Name x1 p1] k0 p2) i0 (.Tuple [.Name x2 px, .Name x3 py] kt pt) i1 scope pos) scope env _ (newList []) false (eval i0 env) (some (assign (.Name y py') env))) _ _ s
  refine wpAny_bind (wpAny_mono (Q := fun _ s' => Q .next s') ?_ (fun _ s' hq => wpAny_pure (wpAny_pure hq)) fun _ _ e => e)
  refine wpAny_comprehension_free rfl hs hclos c.fn c.names (hsrc s _ _ (Pu.refl s) fun I fp wr Sx Mid s₁ p₁ W al alM h1 hw nd hf => ?_)
  refine comp_begin (Q := fun acc cenv s₄ => codeAny (model prog w) A (.compStart (comp22 elt (.Tuple [.Name x0 p0, .Name x1 p1] k0 p2) i0 (.Tuple [.Name x2 px, .Name x3 py] kt pt) i1 scope pos) 0 (.ref I) acc cenv) (compPost (model prog w) A E (some (assign (.Name y py') env)) (fun _ s' => Q .next s') acc cenv.locals) s₄) (s := s) (fp := fp) (wr := wr) (xs := [x0, x1, x2, x3]) p₁ c.nocell c.fn hw (al 0 _ h1) nd hf fun D C g₂ r k₀ s₂ hr p₂ S₂ hf₂ => ?_
  have h2 : Sx 0 s₂.heap := W.frame _ _ _ h1 fun b _ o e => p₂.keep b o e
  have hC : s.heap.get? C = none := by
    cases q : s.heap.get? C with
    | none => rfl
    | some o => have := S₂.uk _ _ q; rw [S₂.gL] at this; cases this
  refine codeAny_mono (comp22_loop (C := C) (Q := fun s' => compPost (model prog w) A E (some (assign (.Name y py') env)) (fun _ s' => Q .next s') (.ref D) C (.ok .next) s') out mP hh c en.glb en.blt W al alM S₂ hr h2 hf₂ hlen hz (hsrc' C) (el C D) (fun g' vs' ys k' s' l hJ S' => ?_) (hs' C)) fun r s' hq => ?_
  · obtain ⟨m', hm, _⟩ := S'.loc
    have hD := S'.own _ (.head _)
    have hDu : s.heap.get? D = none := by
      cases q : s.heap.get? D with
      | none => rfl
      | some o => have := S'.uk _ _ q; rw [hD.2.2] at this; cases this
    exact post_someF (J := fun _ ys f => All2 PP out ys f) (n := 0) en hL S hy k C D ys k' s' (fr s.heap g') ⟨m', hm⟩ S'.pu hC (fresh_of hDu hD.1) hD.2.1 (fun b o e => ⟨S'.fr_fresh _ _ e, fun q => by have := fr_le _ _ e; rw [q, S'.gL] at this; cases this⟩) hJ
  · cases r with
    | ok f => exact hq
    | error e => exact hq.elim
end
end Mine
namespace Mine
section
variable {prog : Program} {w : World} {A : Around} {env : Env} {s₀ : Shared}
variable {u s s' : Shared} {g : Mem} {L : Addr} {xs : List Str} {vs : List (Option Value)} {ms r : List (Addr × Obj)} {mg mb : Str → Option Value} {α : Type}
theorem comp_all1G {elt iter : Expr} {first : Sem Value} {x : Str} {px : Pos} {ifs : List Expr} {scope : Scope} {pos ipos : Pos} {cl : List (Str × Addr)} {n i : Nat} {P : Nat → Value → Prop} {Q : Value → Shared → Prop} {E : Value → Shared → Prop} {use : Option (Value → Sem Unit)}
    (J : Nat → Array Value → Mem → Prop) (c : Ce scope xs) (hclos : closureFor scope env = pure cl) (hg : env.globals = mainGlobals) (hb : env.builtins = builtinsNs) (hx : xs[i]? = some x) (hsrc : ∀ (Q : Value → Shared → Prop) (E : Value → Shared → Prop), (∀ I fp wr Sx s', Pu s s' → Walks prog w A I fp wr n P Sx → (∀ i h, Sx i h → ∀ b ∈ wr, (h.get? b).isSome = true) → Sx 0 s'.heap → (∀ b ∈ wr, s.heap.get? b = none) → wr.Nodup → (∀ b ∈ fp, b ∉ wr → (∃ o, s.heap.get? b = some o) ∨ (∃ o, fresh s.heap s'.heap b = some o)) → Q (.ref I) s') → wpAny (model prog w) A first (fun x s₁ => wpAny (model prog w) A (pyIter x) Q E s₁) E s) (hn : n ≤ sizeLine)
    (h0 : ∀ f, J 0 #[] f)
    (turn : ∀ C D k v ys, k < n → P k v → CTurn prog w A s C D xs ifs elt (compEnvC scope cl C env) (J k) (J (k + 1)) ys ((xs.map fun _ => none).set i (some v)))
    (hpost : ∀ C D ys k s' f, (∃ m, s'.heap.Ns C m) → Pu s s' → s.heap.get? C = none → fresh s.heap s'.heap D = some (lobj ys k) → D ≠ C → (∀ b o, f b = some o → fresh s.heap s'.heap b = some o ∧ b ≠ C) → J n ys f → compPost (model prog w) A E use Q (.ref D) C (.ok .next) s')
    (hs : ∀ x, foldedSetIterable iter env x = pure x := by intro; rfl) :
    wpAny (model prog w) A (comprehension (.ListComp elt [⟨.Name x px, iter, ifs, 0⟩] scope pos) scope env ipos (newList []) false first use) Q E s := by
  refine wpAny_comprehension_free rfl hs hclos c.fn c.names (hsrc _ _ fun I fp wr Sx s₁ p₁ W al h1 hw nd hf => ?_)
  refine comp_begin (Q := fun acc cenv s₄ => codeAny (model prog w) A (.compStart (.ListComp elt [⟨.Name x px, iter, ifs, 0⟩] scope pos) 0 (.ref I) acc cenv) (compPost (model prog w) A E use Q acc cenv.locals) s₄) (s := s) (fp := fp) (wr := wr) (xs := xs) p₁ c.nocell c.fn hw (al 0 _ h1) nd hf fun D C g r k₀ s₂ hr p₂ S hf₂ => ?_
  have h2 : Sx 0 s₂.heap := W.frame _ _ _ h1 fun b _ o e => p₂.keep b o e
  have hC : s.heap.get? C = none := by
    cases q : s.heap.get? C with
    | none => rfl
    | some o => have := S.uk _ _ q; rw [S.gL] at this; cases this
  refine codeAny_mono (comp_loop1 (C := C) (Q := fun s' => compPost (model prog w) A E use Q (.ref D) C (.ok .next) s') J c hg hb hx W al hn S hr h2 hf₂ (h0 _) (turn C D) fun g' vs ys k' s' l hJ S' => ?_) fun r s' hq => ?_
  · obtain ⟨m, hm, _⟩ := S'.loc
    have hD := S'.own _ (.head _)
    have hDu : s.heap.get? D = none := by
      cases q : s.heap.get? D with
      | none => rfl
      | some o => have := S'.uk _ _ q; rw [hD.2.2] at this; cases this
    exact hpost C D ys k' s' (fr s.heap g') ⟨m, hm⟩ S'.pu hC (fresh_of hDu hD.1) hD.2.1 (fun b o e => ⟨S'.fr_fresh _ _ e, fun q => by have := fr_le _ _ e; rw [q, S'.gL] at this; cases this⟩) hJ
  · cases r with
    | ok f => cases use <;> exact hq
    | error e => exact hq.elim
theorem comp_first {e : Expr} {scope : Scope} {ipos : Pos} {newAcc first : Sem Value} {b : Bool} {use : Option (Value → Sem Unit)} : comprehension e scope env ipos newAcc b first use = first >>= fun x => comprehension e scope env ipos newAcc b (pure x) use := by
  unfold comprehension
  simp only [pure_bind]
theorem evS_compB {elt iter : Expr} {x : Str} {px : Pos} {ifs : List Expr} {scope : Scope} {pos : Pos} {cl : List (Str × Addr)} {b : Array UInt8} {i : Nat}
    (J : Nat → Array Value → Mem → Prop) (hh : A.handled = none) (c : Ce scope xs) (hclos : closureFor scope env = pure cl) (hg : env.globals = mainGlobals) (hb : env.builtins = builtinsNs) (hx : xs[i]? = some x) (hit : EvS prog w A (eval iter env) s₀ (isB b)) (hn : b.size ≤ sizeLine)
    (mJ : ∀ ys f f', Le f f' → J b.size ys f → J b.size ys f') (h0 : ∀ f, J 0 #[] f)
    (turn : ∀ s C D k v ys, Pu s₀ s → k < b.size → (∃ c u, b[k]? = some c ∧ v = Value.int (c.toNat : Int) u) → CTurn prog w A s C D xs ifs elt (compEnvC scope cl C env) (J k) (J (k + 1)) ys ((xs.map fun _ => none).set i (some v)))
    (hs : ∀ x, foldedSetIterable iter env x = pure x := by intro; rfl) :
    EvS prog w A (eval (.ListComp elt [⟨.Name x px, iter, ifs, 0⟩] scope pos) env) s₀ (isLst (J b.size)) := fun s Q E p k => by
  show wpS (model prog w) A (comprehension (.ListComp elt [⟨.Name x px, iter, ifs, 0⟩] scope pos) scope env _ (newList []) false (eval iter env)) Q E s
  rw [comp_first]
  refine S.bind (hit s _ _ p fun v s₁ p₁ hv => S.of ?_)
  obtain ⟨t, rfl⟩ := hv
  refine comp_all1G (first := pure (Value.bytes b t)) J c hclos hg hb hx (P := fun k v => ∃ c u, b[k]? = some c ∧ v = .int (c.toNat : Int) u) (n := b.size) (fun Q E kk => wpAny_pure (KBw.pyIter_bytes ?_)) hn h0 (fun C D k v ys => turn s₁ C D k v ys (p.trans p₁)) (post_none mJ fun v s' p' hv => k v s' (p₁.trans p') ?_) hs
  · have p₂ := pu_push (s := s₁) { cls := .type "bytes_iterator", data := .fields #[.bytes b t, .int 0 0] } s₁.toks
    refine kk _ _ _ _ _ p₂ (KBw.walks hh s₁.heap.objs.size b t) (fun i h hS b hb => ?_) ⟨_, Heap.get?_push_size _ rfl, rfl, rfl⟩ (fun b hb => ?_) (by simp) fun b hb hbw => absurd hb hbw
    · rw [List.mem_singleton.mp hb]; obtain ⟨o, ho, _⟩ := hS; exact isSome_of ho
    · rw [List.mem_singleton.mp hb]; exact size_none (Nat.le_refl _)
  · obtain ⟨a, ys, q, e, ha, hJ⟩ := hv
    exact ⟨a, ys, q, e, Pu.fresh_le' p₁ _ _ ha, mJ _ _ _ (Pu.fresh_le' p₁) hJ⟩
/-- o.name(es), o no object, the arguments from clean stacks -/
theorem evS_meth {o : Expr} {name : Str} {apos pos : Pos} {f : Value} {e₀ : Expr} {es : List Expr} {P₀ : Value → Prop} {Ps : List (Value → Mem → Prop)} {P : Value → Mem → Prop} (ho : Ev prog w A (eval o env) s₀ (fun v _ => P₀ v))
    (hg : ∀ v s (Q : Value × List Value → Shared → Prop) (E : Value → Shared → Prop), P₀ v → Pu s₀ s → Q (f, [v]) s → wpAny (model prog w) A (getMethod v name (impB o env)) Q E s) (hk : Kept prog w f s₀.heap)
    (ha : EvAllS prog w A (eval e₀ env :: evs es env) s₀ Ps) (m : Mono P) (C : ClS prog w A f s₀ ((fun v _ => P₀ v) :: Ps) P) (hs : starEach (e₀ :: es) env = (eval e₀ env :: evs es env).map fun t => (false, t) := by rfl)
    (he : eval (.Call (.Attribute o name apos) (e₀ :: es) [] pos) env = (do
      let ov ← eval o env
      standAt apos.atName
      let (f, first) ← holding [ov] (getMethod ov name (impB o env))
      callWith pos f first (backTo pos (starEach (e₀ :: es) env)) []) := by rfl) : EvS prog w A (eval (.Call (.Attribute o name apos) (e₀ :: es) [] pos) env) s₀ P := fun s Q E p k => by
  rw [he]
  refine S.bind (S.of (ho s _ _ p fun v s₁ p₁ hv => S.bind (S.of (wpAny_standAt (S.bind (S.of (wpAny_holding (hg v s₁ _ _ hv (p.trans p₁) ?_))))))))
  refine call_tailS (p.trans p₁) hk ha hs fun l s₂ p₂ hl => C (v :: l) s₂ _ _ _ ((p.trans p₁).trans p₂) fresh_le ⟨hv, hl⟩ fun v s₃ p₃ hv => ?_
  exact k v s₃ ((p₁.trans p₂).trans p₃) (m _ _ _ (Pu.fresh_le' (p₁.trans p₂)) hv)
theorem xS_asgCell {x : Str} {px pos : Pos} {e : Expr} {i : Nat} {c : Addr} {o : Obj} {v₀ : Option Value} {P : Value → Prop} {Q : Flow → Shared → Prop} {E : Value → Shared → Prop} (hf : env.scope.kind = .function) (hk : env.kindOf x = some .cell) (hc : env.cells.lookup x = some c) (S : St u g L xs vs ms s) (hi : ms[i]? = some (c, o)) (hd : o.data = .cell v₀)
    (he : EvS prog w A (eval e env) s (fun v _ => P v)) (k : ∀ v o' s', P v → o'.data = .cell (some v) → St u g L xs vs (ms.set i (c, o')) s' → Q .next s')
    (hs : swapsWith e (some (.Name x px)) pos.line env = pure false := by rfl) : wpS (model prog w) A (exec (.Assign [.Name x px] e pos) env) Q E s :=
  asgS_Name (he s _ _ (Pu.refl s) fun v s₁ p hv => by
    have S₁ := S.up p
    refine wpAny_storeName_cell hf hk hc ⟨o, (S₁.own _ (List.mem_of_getElem? hi)).1, hd⟩ fun h' ho' hs' => ?_
    obtain ⟨o', ho', hd'⟩ := ho'
    exact k v o' _ hv hd' (S₁.turn (n := s₁.toks) hi hs' ho')) hs
end
end Mine
namespace Mine
section
variable {prog : Program} {w : World} {A : Around} {env : Env} {s₀ : Shared}
variable {u s s' : Shared} {g : Mem} {L : Addr} {xs : List Str} {vs : List (Option Value)} {ms r : List (Addr × Obj)} {mg mb : Str → Option Value} {α : Type}
theorem set_keys {ms : List (Addr × Obj)} {i : Nat} {P : Addr} {o o' : Obj} (hi : ms[i]? = some (P, o)) : (ms.set i (P, o')).map (·.1) = ms.map (·.1) := by
  refine List.ext_getElem? fun j => ?_
  rw [List.getElem?_map, List.getElem?_map, List.getElem?_set]
  split
  · rename_i e1; subst e1
    rw [List.getElem?_eq_some_iff.mp hi |>.1 |> fun h => if_pos h, hi]; rfl
  · rfl
/-- an own object is turned, others are added -/
theorem St.turnGrow (S : St u g L xs vs ms s) {i : Nat} {P : Addr} {o o' : Obj} {h₂ : Heap} {tk : Nat} (hi : ms[i]? = some (P, o)) (k : ∀ b x, b ≠ P → s.heap.get? b = some x → h₂.get? b = some x) (ho' : h₂.get? P = some o') :
    ∃ g', Le g g' ∧ (∀ b x, s.heap.get? b = none → h₂.get? b = some x → g' b = some x) ∧ St u g' L xs vs (ms.set i (P, o')) { s with heap := h₂, toks := tk } := by
  have hm := List.mem_of_getElem? hi
  have hP := S.own _ hm
  have hkeys := set_keys (o' := o') hi
  refine ⟨fun b => if b = L ∨ b ∈ ms.map (·.1) then none else h₂.get? b, fun b x e => ?_, fun b x e e' => ?_, ?_, ?_, fun b x e => ?_, fun b x e => ?_, if_pos (.inl rfl), fun q hq => ?_, by rw [hkeys]; exact S.nd⟩
  · have hL : b ≠ L := fun q => by rw [q, S.gL] at e; cases e
    have hb : b ∉ ms.map (·.1) := fun q => by
      obtain ⟨r, hr, rfl⟩ := List.mem_map.mp q
      rw [(S.own r hr).2.2] at e; cases e
    show (if _ then _ else _) = _
    rw [if_neg (by rintro (q | q); exact hL q; exact hb q)]
    exact k b x (fun q => hb (by rw [q]; exact List.mem_map_of_mem (f := (·.1)) hm)) (S.gk _ _ e)
  · have hL : b ≠ L := fun q => by
      obtain ⟨m, ⟨o1, _, _, hh, _⟩, _⟩ := S.loc
      rw [← q, e] at hh; cases hh
    have hb : b ∉ ms.map (·.1) := fun q => by
      obtain ⟨r, hr, rfl⟩ := List.mem_map.mp q
      rw [(S.own r hr).1] at e; cases e
    show (if _ then _ else _) = _
    rw [if_neg (by rintro (q | q); exact hL q; exact hb q)]
    exact e'
  · have e := S.same
    show ({ s with heap := h₂, toks := tk } : Shared) = _
    rw [e]
  · obtain ⟨m, hn, ha⟩ := S.loc
    exact ⟨m, hn.at' fun o1 e => k _ _ (Ne.symm hP.2.1) e, ha⟩
  · have e' : (if b = L ∨ b ∈ ms.map (·.1) then none else h₂.get? b) = some x := e
    split at e'
    · cases e'
    · exact e'
  · have e1 := S.uk _ _ e
    have hL : b ≠ L := fun q => by rw [q, S.gL] at e1; cases e1
    have hb : b ∉ ms.map (·.1) := fun q => by
      obtain ⟨r, hr, rfl⟩ := List.mem_map.mp q
      rw [(S.own r hr).2.2] at e1; cases e1
    show (if _ then _ else _) = _
    rw [if_neg (by rintro (q | q); exact hL q; exact hb q)]
    exact k b x (fun q => hb (by rw [q]; exact List.mem_map_of_mem (f := (·.1)) hm)) (S.gk _ _ e1)
  · have hqk : q.1 ∈ ms.map (·.1) := by rw [← hkeys]; exact List.mem_map_of_mem (f := (·.1)) hq
    have hqL : q.1 ≠ L := by
      obtain ⟨r, hr, e⟩ := List.mem_map.mp hqk
      rw [← e]; exact (S.own r hr).2.1
    refine ⟨?_, hqL, if_pos (.inr hqk)⟩
    obtain ⟨j, hj⟩ := List.getElem?_of_mem hq
    rw [List.getElem?_set] at hj
    split at hj
    · rename_i e1
      split at hj
      · cases hj; exact ho'
      · cases hj
    · rename_i e1
      have h1 := S.own q (List.mem_of_getElem? hj)
      refine k _ _ (fun e => e1 ?_) h1.1
      have e2 : (ms.map (·.1))[j]? = some P := by rw [List.getElem?_map, hj, ← e]; rfl
      have e3 : (ms.map (·.1))[i]? = some P := by rw [List.getElem?_map, hi]; rfl
      exact (List.getElem?_inj (by rw [List.length_map]; exact (List.getElem?_eq_some_iff.mp hi).1) S.nd).mp (e3.trans e2.symm)
/-- a table is hidden from the call's first heap: it is the call's own from here on -/
abbrev hid (s : Shared) (P : Addr) : Shared := { s with heap := hideAll s.heap [P] }
theorem St.hide {o : Obj} {P : Addr} (S : St u u.heap.get? L xs vs ms s) (ho : u.heap.get? P = some o) : St (hid u P) (hid u P).heap.get? L xs vs (ms ++ [(P, o)]) s := by
  have hPs := S.ukeep _ _ ho
  have hgL : u.heap.get? L = none := S.gL
  have hPL : P ≠ L := fun q => by rw [q, hgL] at ho; cases ho
  refine ⟨?_, S.loc, fun b x e => S.ukeep _ _ (of_hideAll _ e), Le.refl _, ?_, fun q hq => ?_, ?_⟩
  · have e := S.same
    show s = ({ u with heap := s.heap, toks := s.toks } : Shared)
    exact e
  · cases q : (hid u P).heap.get? L with
    | none => rfl
    | some x => rw [of_hideAll _ q] at hgL; cases hgL
  · rcases List.mem_append.mp hq with h | h
    · refine ⟨(S.own q h).1, (S.own q h).2.1, ?_⟩
      cases e : (hid u P).heap.get? q.1 with
      | none => rfl
      | some x => have := (S.own q h).2.2; rw [of_hideAll _ e] at this; cases this
    · rw [List.mem_singleton.mp h]
      exact ⟨hPs, hPL, hideAll_none _ (.head _)⟩
  · rw [List.map_append, List.nodup_append]
    refine ⟨S.nd, by simp, fun a ha b hb e => ?_⟩
    obtain ⟨q, hq, rfl⟩ := List.mem_map.mp ha
    have hb' : b = P := by simpa using hb
    have := (S.own q hq).2.2
    rw [e, hb', ho] at this; cases this
/-- the table: at most the lambda's code stands there -/
structure TabOk (pos : Pos) (qual : Str) (ps : Array Value) (g : Mem) : Prop where
  t : TriplesOk ps.toList
  c : ∀ cv, codeAmong pos ps.toList = some cv → ∃ c oc vs t, cv = .ref c ∧ g c = some oc ∧ oc.data = .fields vs ∧ vs[1]? = some (.str qual t)
theorem TabOk.up {pos : Pos} {qual : Str} {ps : Array Value} {g g' : Mem} (h : TabOk pos qual ps g) (l : Le g g') : TabOk pos qual ps g' := ⟨h.t, fun cv e => let ⟨c, oc, vs, t, a, b, r⟩ := h.c cv e; ⟨c, oc, vs, t, a, l _ _ b, r⟩⟩
theorem TabOk.nil {pos : Pos} {qual : Str} {g : Mem} : TabOk pos qual #[] g := ⟨trivial, fun _ e => by cases e⟩
/-- a function made of a lambda -/
structure LamAt (g : Mem) (f : Addr) (qual : Str) (params : Arguments) (body : Expr) (scope : Scope) (clos : List (Str × Addr)) : Prop where
  fn : ∃ pm cdv ctv, g f = some { cls := .type "function", data := .func (kla_fn "<lambda>" qual params body scope clos pm cdv ctv) } ∧ ∃ c oc vs t, cdv = .ref c ∧ g c = some oc ∧ oc.data = .fields vs ∧ vs[1]? = some (.str qual t)
theorem ev_lam {params : Arguments} {body : Expr} {scope : Scope} {pos : Pos} {i : Nat} {P c : Addr} {ps : Array Value} {clos : List (Str × Addr)} {Q : Value → Shared → Prop} {E : Value → Shared → Prop} (S : St u g L xs vs ms s) (hi : ms[i]? = some (P, tabObj ps)) (hT : TabOk pos (env.qual ++ "<lambda>") ps g)
    (hcl : closureFor scope env = pure clos) (hge : env.globals = mainGlobals) (hg : u.heap.Ns mainGlobals mg) (hcode : env.code = .ref c) (C : CodeHd u.heap c P) (hb : u.heap.BuiltinsAt mg P) (hgP : mainGlobals ≠ P)
    (k : ∀ lam g' ps' s', Le g g' → TabOk pos (env.qual ++ "<lambda>") ps' g' → LamAt g' lam (env.qual ++ "<lambda>") params body scope clos → St u g' L xs vs (ms.set i (P, tabObj ps')) s' → Q (.ref lam) s')
    (hdef : defaultsOf params env = ([], []) := by rfl) : wpAny (model prog w) A (eval (.Lambda params body scope pos) env) Q E s := by
  have hPs := (S.own _ (List.mem_of_getElem? hi)).1
  have hb' : s.heap.BuiltinsAt mg P := by
    obtain ⟨bm, o, e1, e2, e3, e4, e5, e6⟩ := hb
    exact ⟨bm, o, e1, e2, e3, e4, S.ukeep _ _ e5, e6⟩
  refine kla_eval hdef ?_
  cases hc : codeAmong pos ps.toList with
  | none =>
    refine kla_makeFunction hcl hge (hg.keeps S.ukeep) hcode (C.keeps S.ukeep) hPs hT.t hc hgP hb' fun c' ctv h' tk hx hge' hlt hrec htab => ?_
    have htab2 := Heap.get?_push_of_some (kla_obj "<lambda>" (env.qual ++ "<lambda>") params body scope clos ((mg "__name__").getD .none) c' ctv) htab
    obtain ⟨g', l, hn, S'⟩ := S.turnGrow (tk := tk) hi (fun b x hbP e => Heap.get?_push_of_some _ (hx b x hbP e)) htab2
    obtain ⟨c₂, oc, vs', t, e2, hoc, hd, hv⟩ := hrec
    cases e2
    have hcn : g' c' = some oc := hn c' oc (size_none hge') (Heap.get?_push_of_some _ hoc)
    have hfn := hn h'.objs.size _ (size_none (Nat.le_trans hge' (Nat.le_of_lt hlt))) (Heap.get?_push_size _ rfl)
    refine k h'.objs.size g' _ _ l ⟨?_, fun cv e => ?_⟩ ⟨_, _, _, hfn, c', oc, vs', t, rfl, hcn, hd, hv⟩ S'
    · rw [Array.toList_append]; exact TriplesOk_snoc _ _ _ _ hT.t
    · rw [Array.toList_append] at e
      have e3 := codeAmong_snoc (pos := pos) (c := .ref c') ps.toList hT.t hc
      have e4 : some cv = some (.ref c') := e.symm.trans e3
      cases e4
      exact ⟨c', oc, vs', t, rfl, hcn, hd, hv⟩
  | some cv =>
    obtain ⟨c', oc, vs', t, rfl, hoc, hd, hv⟩ := hT.c cv hc
    refine kla_makeFunctionHit hcl hge (hg.keeps S.ukeep) hcode (C.keeps S.ukeep) hPs hT.t hc hb' fun ctv h' tk hk hsz => ?_
    obtain ⟨g', l, hn, S'⟩ := S.turnGrow (tk := tk) hi (fun b x _ e => Heap.get?_push_of_some { cls := .type "function", data := .func (kla_fn "<lambda>" (env.qual ++ "<lambda>") params body scope clos ((mg "__name__").getD .none) (.ref c') ctv) } (hk b x e)) (Heap.get?_push_of_some _ (hk _ _ hPs))
    have hfn := hn h'.objs.size _ (size_none hsz) (Heap.get?_push_size _ rfl)
    exact k h'.objs.size g' ps _ l (hT.up l) ⟨_, _, _, hfn, c', oc, vs', t, rfl, l _ _ hoc, hd, hv⟩ S'
end
end Mine
namespace Mine
section
variable {prog : Program} {w : World} {A : Around} {env : Env} {s₀ : Shared}
variable {u s s' : Shared} {g : Mem} {L : Addr} {xs : List Str} {vs : List (Option Value)} {ms r : List (Addr × Obj)} {mg mb : Str → Option Value} {α : Type}
/-- the text's def stands at f, its code at c -/
def FnAtC (h : Heap) (f : Addr) (name : Str) (params : Arguments) (body : List Stmt) (scope : Scope) (dV kV : Value) (c : Addr) : Prop :=
  ∃ o doc pm an ct, h.get? f = some o ∧ o.data = .func (fnOf name name params body scope dV kV doc pm an (.ref c) ct) ∧ h.CodeRec (.ref c) name
theorem FnAtC.keeps {h h' : Heap} {f : Addr} {name : Str} {params : Arguments} {body : List Stmt} {scope : Scope} {dV kV : Value} {c : Addr} (F : FnAtC h f name params body scope dV kV c) (k : ∀ b o, h.get? b = some o → h'.get? b = some o) : FnAtC h' f name params body scope dV kV c :=
  let ⟨o, doc, pm, an, ct, a, b, e⟩ := F; ⟨o, doc, pm, an, ct, k _ _ a, b, e.keeps k⟩
theorem FnAtC.kept {h : Heap} {f : Addr} {name : Str} {params : Arguments} {body : List Stmt} {scope : Scope} {dV kV : Value} {c : Addr} (F : FnAtC h f name params body scope dV kV c) : Kept prog w (.ref f) h :=
  let ⟨_, _, _, _, _, a, b, _⟩ := F; kept_func a b
/-- a def with cells, its code known: the body may turn its table -/
theorem fnX_cells {k : Nat} {f c : Addr} {name : Str} {params : Arguments} {body : List Stmt} {scope : Scope} {dV kV : Value} {l : List Value} {kw : List (Str × Value)} {binds : List (Str × Value)} {Q : Value → Shared → Prop} {E : Value → Shared → Prop} (cs : Nat → List (Str × Addr)) {cv : List (Option Value)}
    (R : Rm k A) (lim : s.heap.NoLimit) (F : FnAtC s.heap f name params body scope dV kV c) (hbind : ∀ doc pm an cdv ct, BindsTo s (fnOf name name params body scope dV kV doc pm an cdv ct) ⟨l, kw⟩ binds)
    (hcs : ∀ n, cellsFrom n scope.names [] = cs n) (hkind : ∀ n, ∀ x ∈ binds, scope.names.lookup x.1 = some .local ∨ (scope.names.lookup x.1 = some .cell ∧ ((cs n).lookup x.1).isSome = true))
    (ha : Agree (bindL (fun x => scope.names.lookup x) binds fun _ => none) xs vs) (hcv : ∀ n, (cs n).map (fun y => bindC (fun x => scope.names.lookup x) binds (fun _ => none) y.1) = cv) (hnd : ∀ n, ((cs n).map (·.1)).Nodup)
    (h : ∀ L ms s', CellsM (cs (L + 1)) cv ms → St s s.heap.get? L xs vs ms s' → wpAny (model prog w) (A.deeper (envC name scope L f (.ref c) (cs (L + 1)))) (execs body (envC name scope L f (.ref c) (cs (L + 1)))) (fun fl s' => Q (match fl with | .ret v => v | _ => .none) s') (fun _ _ => False) s')
    (hco : scope.isCoroutine = false := by rfl) (hgen : scope.isGenerator = false := by rfl) (hk : scope.kind = .function := by rfl) : wpAny (model prog w) A (call (.ref f) l kw) Q E s := by
  obtain ⟨o, doc, pm, an, ct, ho, hd, hcd⟩ := F
  refine wpAny_call (codeAny_call_function (fd := fnOf name name params body scope dV kV doc pm an (.ref c) ct) (body := body) R.room ho hd hco hgen rfl hcd (hbind doc pm an (.ref c) ct _ _ _ _ ?_))
  refine wpAny_newFunctionEnv_cells hk (fun x hx => by rw [show (fnOf name name params body scope dV kV doc pm an (.ref c) ct).scope = scope from rfl, hcs]; exact hkind _ x hx) fun env he s₁ x => ?_
  have he' : env = envC name scope s.heap.objs.size f (.ref c) (cs (s.heap.objs.size + 1)) := by rw [he, ← hcs]; rfl
  subst he'
  obtain ⟨ms, hM, S⟩ := env_cells (xs := xs) (vs := vs) (cv := cv) x ha (hcv _).symm (hnd _)
  refine ⟨lim.keeps x.toInCall.keep, codeAny_func ?_⟩
  exact wpAny_mono (h _ ms s₁ hM S) (fun fl s' hq => hq) fun _ _ x => x.elim
/-- a call of a lambda -/
theorem lam_call {k : Nat} {f : Addr} {qual : Str} {params : Arguments} {body : Expr} {scope : Scope} {clos : List (Str × Addr)} {l : List Value} {kw : List (Str × Value)} {binds : List (Str × Value)} {Q : Value → Shared → Prop} {E : Value → Shared → Prop}
    (R : Rm k A) (lim : s.heap.NoLimit) (La : LamAt g f qual params body scope clos) (lg : Le g s.heap.get?) (hbind : ∀ pm cdv ct, bindArgs (kla_fn "<lambda>" qual params body scope clos pm cdv ct) ⟨l, kw⟩ = pure binds)
    (hcell : ∀ x ∈ scope.names, x.2 ≠ .cell) (hloc : ∀ x ∈ binds, scope.names.lookup x.1 = some .local) (ha : Agree (fun y => binds.reverse.lookup y) xs vs)
    (h : ∀ L cdv s', St s s.heap.get? L xs vs [] s' → wpAny (model prog w) (A.deeper (envC qual scope L f cdv clos)) (eval body (envC qual scope L f cdv clos)) (fun v s' => Q v s') (fun _ _ => False) s')
    (hco : scope.isCoroutine = false := by rfl) (hgen : scope.isGenerator = false := by rfl) (hk : scope.kind = .function := by rfl) : wpAny (model prog w) A (call (.ref f) l kw) Q E s := by
  obtain ⟨pm, cdv, ctv, hf, c, oc, vs', t, rfl, hoc, hd, hv⟩ := La.fn
  refine wpAny_call (kla_callFunE R.room (lg _ _ hf) rfl hco hgen rfl ⟨c, oc, vs', t, rfl, lg _ _ hoc, hd, hv⟩ ?_)
  rw [hbind]
  refine wpAny_pure (wpAny_newFunctionEnv hcell hloc (fun h₁ hns hsb => ⟨lim.fresh _ hsb, ?_⟩) hk)
  have hk₀ : ∀ b o, s.heap.get? b = some o → h₁.get? b = some o := fun b o e => hsb.extBut b o (Nat.ne_of_lt (Heap.lt_size e)) (Heap.get?_push_of_some _ e)
  refine kla_codeExpr (env := envC qual scope s.heap.objs.size f (.ref c) clos) (wpAny_mono (h s.heap.objs.size (.ref c) _ ⟨rfl, ⟨_, hns, ha⟩, hk₀, Le.refl _, size_none (Nat.le_refl _), (fun _ h => nomatch h), .nil⟩) (fun v s' hq => hq) fun _ _ x => x.elim)
/-- f(e1, e2, k=..), the keyword's value last -/
theorem call_kw1 {x : Str} {np pos kp : Pos} {f : Value} {e₁ e₂ kv : Expr} {kn : Str} {Ps : List (Value → Mem → Prop)} {Q : Value → Shared → Prop} {E : Value → Shared → Prop} (hf : Ev prog w A (eval (.Name x np) env) s (isV f))
    (ha : EvAll prog w A [eval e₁ env, eval e₂ env] s Ps) (hkv : ∀ l s₁, Pu s s₁ → AllP Ps l (fresh s.heap s₁.heap) → wpAny (model prog w) A (eval kv env) (fun v s₂ => Kept prog w f s₂.heap ∧ wpAny (model prog w) A (call f l [(kn, v)]) Q E s₂) E s₁)
    (hs : starEach [e₁, e₂] env = [eval e₁ env, eval e₂ env].map fun t => (false, t) := by rfl) : wpAny (model prog w) A (eval (.Call (.Name x np) [e₁, e₂] [⟨some kn, kv, kp⟩] pos) env) Q E s := by
  show wpAny _ A (do callWith pos (← eval (.Name x np) env) [] (backTo pos (starEach [e₁, e₂] env)) (backToKw pos (keywordEach [⟨some kn, kv, kp⟩] env))) Q E s
  refine wpAny_bind (hf s _ _ (Pu.refl s) fun v s₁ p₁ hv => ?_)
  cases hv
  rw [hs, backTo_plain]
  refine callWith_of (P := fun h => Kept prog w f h) rfl (fun h q => q h (fun _ _ e => e)) (evalArgs_kw rfl (ha.2 s₁ _ _ p₁ fun l s₂ p₂ hl => ?_))
  have hl' : AllP Ps l (fresh s.heap s₂.heap) := AllP.mono ha.1 (Pu.fresh_le' p₁) hl
  show wpAny _ A (do let v ← (do let v ← eval kv env; standAt pos; pure v); return v :: (← holding [v] (evalAll []))) _ _ s₂
  refine wpAny_bind (wpAny_bind (wpAny_mono (hkv l s₂ (p₁.trans p₂) hl') (fun v s₃ h₃ => wpAny_bind (wpAny_standAt (wpAny_pure (wpAny_bind (wpAny_holding (wpAny_pure (wpAny_pure ?_)))))) ) fun _ _ e => e))
  exact h₃
end
end Mine
namespace Mine
/-- all but a table stands as it stood -/
structure PuX (P : Addr) (s s' : Shared) : Prop where
  same : s' = { s with heap := s'.heap, toks := s'.toks }
  keep : ∀ b o, b ≠ P → s.heap.get? b = some o → s'.heap.get? b = some o
  tab : ∃ ps, s'.heap.get? P = some (tabObj ps)
section
variable {prog : Program} {w : World} {A : Around} {env : Env} {s₀ : Shared}
variable {u s s' : Shared} {g : Mem} {L : Addr} {xs : List Str} {vs : List (Option Value)} {ms r : List (Addr × Obj)} {mg mb : Str → Option Value} {α : Type}
/-- an item of a list that the expression makes, its memory kept -/
theorem ev_itemL {value slice : Expr} {pos : Pos} {PP : α → Value → Mem → Prop} {ds : List α} {d : α} {k : Int} (h₁ : Ev prog w A (eval value env) s₀ (Lof PP ds)) (h₂ : Ev prog w A (eval slice env) s₀ (isI k)) (m : ∀ d, Mono (PP d)) (hd : ds[k.toNat]? = some d) (h0 : 0 ≤ k) (h1 : k < 2 ^ 63)
    (hs : ∀ o i, subscripted slice false o i = operate [o, i] (getItem o i) := by intro _ _; rfl) : Ev prog w A (eval (.Subscript value slice pos) env) s₀ (PP d) := fun s Q E p k' => by
  refine Subscript_ (h₁ s _ _ p fun a s₁ p₁ ha => h₂ s₁ _ _ (p.trans p₁) fun b s₂ p₂ hb => ?_)
  obtain ⟨a, ys, n, rfl, ho, hy⟩ := ha
  obtain ⟨t, rfl⟩ := hb
  obtain ⟨v, hv, hP⟩ := hy.2 _ d hd
  have hl : s₂.heap.IsList a ys := isList_lobj (p₂.keep _ _ (Mine.fresh_le _ _ ho))
  exact tail_any hl.typeIs slot_list_getitem.lookup (wpAny_getItem_list hl h0 h1 hv (k' _ _ (p₁.trans p₂) (m d _ _ _ (Pu.fresh_le p₂) hP))) (hs _ _)
/-- x = e, x a cell's name: the value's memory kept -/
theorem x_asgCellM {x : Str} {px pos : Pos} {e : Expr} {i : Nat} {c : Addr} {o : Obj} {v₀ : Option Value} {P : Value → Mem → Prop} {Q : Flow → Shared → Prop} {E : Value → Shared → Prop} (hf : env.scope.kind = .function) (hk : env.kindOf x = some .cell) (hc : env.cells.lookup x = some c) (S : St u g L xs vs ms s) (hi : ms[i]? = some (c, o)) (hd : o.data = .cell v₀)
    (he : Ev prog w A (eval e env) s P) (k : ∀ v o' g' f s', Le g g' → Le f g' → P v f → o'.data = .cell (some v) → St u g' L xs vs (ms.set i (c, o')) s' → Q .next s')
    (hs : swapsWith e (some (.Name x px)) pos.line env = pure false := by rfl) : wpAny (model prog w) A (exec (.Assign [.Name x px] e pos) env) Q E s :=
  wpAny_Assign_Name (he s _ _ (Pu.refl s) fun v s₁ p hv => by
    obtain ⟨g', l, hg, S₁⟩ := S.grow p [] (fun _ h => nomatch h) .nil
    have S₁ : St u g' L xs vs ms s₁ := S₁
    refine wpAny_storeName_cell hf hk hc ⟨o, (S₁.own _ (List.mem_of_getElem? hi)).1, hd⟩ fun h' ho' hs' => ?_
    obtain ⟨o', ho', hd'⟩ := ho'
    exact k v o' g' _ _ l (fun b o e => hg b o e (fun h => nomatch h)) hv hd' (S₁.turn (n := s₁.toks) hi hs' ho')) hs
/-- x, y = f(e), f turns a table -/
theorem x_unpackX {x y fx : Str} {px py tp pos np cpos : Pos} {kt : Nat} {e : Expr} {f : Value} {i j ip : Nat} {P : Addr} {o : Obj} {Pa P1 P2 : Value → Mem → Prop} {Q : Flow → Shared → Prop} {E : Value → Shared → Prop} (hh : A.handled = none) (en : En env xs) (hL : env.locals = L) (S : St u g L xs vs ms s) (hi : ms[ip]? = some (P, o)) (hx : xs[i]? = some x) (hy : xs[j]? = some y)
    (hf : Ev prog w A (eval (.Name fx np) env) s (isV f)) (hk : Kept prog w f s.heap) (ha : Ev prog w A (eval e env) s Pa) (ma : Mono Pa)
    (C : ∀ v s₁ (Q : Value → Shared → Prop) (E : Value → Shared → Prop), Pu s s₁ → Pa v (fresh s.heap s₁.heap) → (∀ v s', PuX P s₁ s' → isTup (fun ys f => AllP [P1, P2] ys.toList f) v (fresh s₁.heap s'.heap) → Q v s') → wpAny (model prog w) A (call f [v] []) Q E s₁)
    (m1 : Mono P1) (m2 : Mono P2) (k : ∀ y1 y2 g' ps s', Le g g' → P1 y1 g' → P2 y2 g' → St u g' L xs ((vs.set i (some y1)).set j (some y2)) (ms.set ip (P, tabObj ps)) s' → Q .next s')
    (hs : swapsWithSole [.Tuple [.Name x px, .Name y py] kt tp] (.Call (.Name fx np) [e] [] cpos) pos.line env = pure false := by rfl) (hw : swappedStores [.Tuple [.Name x px, .Name y py] kt tp] (.Call (.Name fx np) [e] [] cpos) env = pure none := by rfl)
    (hse : starEach [e] env = [eval e env].map fun t => (false, t) := by rfl) :
    wpAny (model prog w) A (exec (.Assign [.Tuple [.Name x px, .Name y py] kt tp] (.Call (.Name fx np) [e] [] cpos) pos) env) Q E s := by
  refine Assign_Tuple (wpAny_Call_NameR (hf s _ _ (Pu.refl s) fun v s₁ p₁ hv => ?_)) hs hw
  cases hv
  refine call_tail (s₀ := s) p₁ hk (ea1 ha ma) hse fun l s₂ p₂ hl => ?_
  obtain ⟨a0, rfl, ha0⟩ := AllP.one hl
  refine C a0 s₂ _ _ (p₁.trans p₂) (ma _ _ _ (Pu.fresh_le' p₁) ha0) fun v s₃ x₃ hv => ?_
  obtain ⟨a, ys, rfl, hT, hys⟩ := hv
  obtain ⟨y1, y2, e2, hP1, hP2⟩ := AllP.two hys
  have e3 : ys = #[y1, y2] := by rw [← Array.toList_inj, e2]
  subst e3
  have S₂ := S.up (p₁.trans p₂)
  obtain ⟨ps, hps⟩ := x₃.tab
  obtain ⟨g', l, hn, S₃⟩ := S₂.turnGrow (tk := s₃.toks) hi x₃.keep hps
  have es : ({ s₂ with heap := s₃.heap, toks := s₃.toks } : Shared) = s₃ := x₃.same.symm
  rw [es] at S₃
  have lf : Le (fresh s₂.heap s₃.heap) g' := fun b o e => hn b o (fresh_new e) (Mine.fresh_le _ _ e)
  have hTs : IsTup s₃.heap a #[y1, y2] := ⟨_, Mine.fresh_le _ _ hT, rfl, 0, rfl⟩
  refine assign_Tuple_tuple hh hTs rfl rfl fun h₄ he₄ => ?_
  have p₄ : Pu s₃ { s₃ with heap := h₄, toks := s₃.toks } := ⟨rfl, fun b o e => he₄ b o (Nat.ne_of_lt (Heap.lt_size e)) e⟩
  have S₄ := S₃.up p₄
  refine wpAny_bind (wpAny_holding (wpAny_assign_Name (st_name en hL S₄ hx fun s₅ S₅ => ?_)))
  refine wpAny_bind (wpAny_holding (wpAny_assign_Name (st_name en hL S₅ hy fun s₆ S₆ => wpAny_pure ?_)))
  exact k y1 y2 g' ps s₆ l (m1 _ _ _ lf hP1) (m2 _ _ _ lf hP2) S₆
end
end Mine
namespace Mine
def stm (p : Program) (k : Nat) : Stmt := p.main.body[k]?.getD (.Pass default)
def fnName : Stmt → Str | .FunctionDef n .. => n | _ => ""
def fnPar : Stmt → Arguments | .FunctionDef _ a .. => a | _ => default
def fnBody : Stmt → List Stmt | .FunctionDef _ _ b .. => b | _ => []
def fnScope : Stmt → Scope | .FunctionDef _ _ _ _ _ _ sc .. => sc | _ => default
def Fd (h : Heap) (mg : Str → Option Value) (d : Stmt) (f : Addr) (dV kV : Value) : Prop := mg (fnName d) = some (.ref f) ∧ FnAt h f (fnName d) (fnPar d) (fnBody d) (fnScope d) dV kV
theorem en_of {name : Str} {scope : Scope} {L f : Addr} {cdv : Value} {xs : List Str} (h1 : scope.kind = .function := by rfl) (h2 : (xs.all fun x => scope.names.lookup x == some .local) = true := by decide +kernel) (h3 : xs.Nodup := by decide +kernel)
    (h4 : (xs.all fun x => !(x == ("__debug__" : Str))) = true := by decide +kernel) : En (envOf name scope L f cdv) xs :=
  ⟨h1, fun x hx => by show List.lookup x scope.names = _; simpa using List.all_eq_true.mp h2 x hx, h3, fun x hx => by simpa using List.all_eq_true.mp h4 x hx, rfl, rfl⟩
/-- the letter behind so many turns -/
def ltr (draw apart : Int) : Nat → Int
  | 0 => -apart
  | k + 1 => ltr draw apart k + (apart + (draw.fdiv (4 ^ k)).fmod 4)
def ltrs (draw apart : Int) (n : Nat) : List Int := (List.range n).map fun k => ltr draw apart (k + 1)
theorem ltrs_succ {draw apart : Int} {n : Nat} : ltrs draw apart (n + 1) = ltrs draw apart n ++ [ltr draw apart (n + 1)] := by
  unfold ltrs; rw [List.range_succ, List.map_append]; rfl
end Mine
namespace Mine
/-- the place that halving finds -/
def bis (up : Nat → Bool) : Nat → Nat → Nat → Nat
  | 0, lo, _ => lo
  | f + 1, lo, hi => if lo < hi then (if up ((lo + hi) / 2) then bis up f lo ((lo + hi) / 2) else bis up f ((lo + hi) / 2 + 1) hi) else lo
theorem bis_end {up : Nat → Bool} : ∀ {f lo hi : Nat}, ¬ lo < hi → bis up f lo hi = lo
  | 0, _, _, _ => rfl
  | f + 1, lo, hi, h => by unfold bis; rw [if_neg h]
def ltS (a b : Str) : Bool := decide (a.cps.toList < b.cps.toList)
theorem bis_le {up : Nat → Bool} : ∀ {f lo hi : Nat}, lo ≤ hi → bis up f lo hi ≤ hi
  | 0, _, _, h => h
  | f + 1, lo, hi, h => by
    unfold bis; split
    · split
      · exact Nat.le_trans (bis_le (by omega)) (by omega)
      · exact bis_le (by omega)
    · exact h
abbrev d_bisR : Stmt := stm PySem.Challenge.pw_wn0038_02 3
abbrev d_bisL : Stmt := stm PySem.Challenge.pw_wn0038_02 4
def xs_bis : List Str := ["a", "x", "lo", "hi", "key", "mid"]
/-- the defaults of bisect -/
structure Bd (h : Heap) (dV kV : Value) : Prop where
  d : ∃ T o n t, dV = .ref T ∧ h.get? T = some o ∧ o.data = .seq #[.int 0 t, .none] n
  k : ∃ D m, kV = .ref D ∧ h.Ns D m ∧ m "key" = some .none
theorem Bd.keeps {h h' : Heap} {dV kV : Value} (x : Bd h dV kV) (k : ∀ b o, h.get? b = some o → h'.get? b = some o) : Bd h' dV kV :=
  ⟨let ⟨T, o, n, t, a, b, c⟩ := x.d; ⟨T, o, n, t, a, k _ _ b, c⟩, let ⟨D, m, a, b, c⟩ := x.k; ⟨D, m, a, b.keeps k, c⟩⟩
end Mine
namespace Mine
/-- the letters that tell a number to the base 16 -/
def ap : Nat → Nat → List UInt8
  | 0, _ => []
  | f + 1, n => if n = 0 then [] else ap f (n / 16) ++ [UInt8.ofNat (65 + n % 16)]
def apLet : Array UInt8 := #[65, 66, 67, 68, 69, 70, 71, 72, 73, 74, 75, 76, 77, 78, 79, 80]
theorem ap_pick : ∀ m : Fin 16, KBy.picked apLet (some (m.val : Int)) (some ((m.val : Int) + 1)) = #[UInt8.ofNat (65 + m.val)] := by decide +kernel
theorem ap_len : ∀ (f n : Nat), (ap f n).length ≤ f
  | 0, _ => Nat.le_refl _
  | f + 1, n => by
    unfold ap; split
    · exact Nat.zero_le _
    · rw [List.length_append]; have := ap_len f (n / 16); simp; exact this
abbrev d_ap : Stmt := stm PySem.Challenge.pw_wn0038_02 6
def xs_ap : List Str := ["num", "val", "AP", "mod"]
section
variable {prog : Program} {w : World} {A : Around} {s₀ : Shared} {mg mb : Str → Option Value}
set_option maxHeartbeats 4000000 in
theorem ap_spec {f : Addr} {m : Int} {F j : Nat} (hn : m.natAbs < 16 ^ F) (hF : F ≤ 1000) (R : Rm (j + 1) A) (G : GL mg mb s₀.heap) (Fd : Fd s₀.heap mg d_ap f .none .none) (hr1 : mg "abs" = none ∧ mb "abs" = some (.builtin "abs")) (hr2 : mg "int" = none ∧ mb "int" = some (.type "int"))
    (hr3 : mg "divmod" = none ∧ mb "divmod" = some (.builtin "divmod")) : Cl prog w A (.ref f) s₀ [isI m] (isB (ap F m.natAbs).toArray) := fun l s Q E fg p le ha k => by
  obtain ⟨_, rfl, ⟨t1, rfl⟩⟩ := ha.one
  have G := G.keeps p.keep
  refine fn_plain (xs := xs_ap) (vs := [some (.int m t1), none, none, none]) R G.lim (Fd.2.keeps p.keep) (binds := [("num", .int m t1)]) (fun _ _ _ _ _ => BindsTo.of_eq rfl) (by decide +kernel) (by intro x hx; simp at hx; rcases hx with rfl; rfl) ⟨rfl, rfl, rfl, rfl, trivial⟩ fun L cdv s₁ S₁ => ?_
  have en : En (envOf (fnName d_ap) (fnScope d_ap) L f cdv) xs_ap := en_of
  refine x_cons (x_asgV en rfl S₁ (i := 1) rfl ev_bytes fun v s₂ hv S₂ => ?_)
  obtain ⟨t2, rfl⟩ := hv
  refine x_cons (x_asgV en rfl S₂ (i := 2) rfl ev_bytes fun v s₃ hv S₃ => ?_)
  obtain ⟨t3, rfl⟩ := hv
  have habs : (if m < 0 then -m else m) = (m.natAbs : Nat) := by split <;> omega
  refine x_cons (x_asgI (a := (m.natAbs : Nat)) en rfl S₃ (i := 0) rfl (ev_call (ev_blt (G.keeps S₃.ukeep) rfl rfl rfl rfl hr2.1 hr2.2) kept_type (ea1 (Ev.isI_eq (ev_call (ev_blt (G.keeps S₃.ukeep) rfl rfl rfl rfl hr1.1 hr1.2) kept_builtin (ea1 (ev_locI en S₃.loc (i := 0) rfl rfl) mono_I) mono_I cl_abs) habs) mono_I) mono_I cl_int) fun t4 s₄ S₄ => ?_)
  refine x_cons (x_while (fun i s' => ∃ (n : Nat) (val : List UInt8) (t t' : Tok) (md : Option Value) (g : Mem), n < 16 ^ i ∧ val.length + i = F ∧ ap i n ++ val = ap F m.natAbs ∧
      St s g L xs_ap [some (.int n t), some (.bytes val.toArray t'), some (.bytes apLet t3), md] [] s') F ⟨m.natAbs, [], t4, t2, none, _, hn, by simp, by simp, S₄⟩ ?_)
  rintro i s₅ ⟨n, val, t, t', md, g, hi, hv, e, S₅⟩
  refine ⟨(n : Int) != 0, eb_int (ev_locI en S₅.loc (i := 0) rfl rfl), fun hb s₆ p₆ => ?_, fun hb s₆ p₆ => ?_⟩
  · have h0 : n ≠ 0 := by simpa using hb
    have S₆ := S₅.up p₆
    cases i with
    | zero => omega
    | succ i =>
    refine x_cons (x_unpack (R.deeper _).hand en rfl S₆ (i := 0) (j := 3) rfl rfl (pr_val (ev_call (ev_blt (G.keeps S₆.ukeep) rfl rfl rfl rfl hr3.1 hr3.2) kept_builtin (ea2 (ev_locI en S₆.loc (i := 0) rfl rfl) mono_I ev_int mono_I) (mono_tup fun _ _ _ l h => AllP.mono (by intro P hP; simp at hP; rcases hP with rfl | rfl <;> exact mono_I) l h) (cl_divmod (by decide) (by decide)))) ?_)
    rintro y1 y2 nw g' fm s₇ l₇ - ⟨rfl, ⟨t5, rfl⟩, ⟨t6, rfl⟩⟩ S₇
    rw [show ((n : Int).fdiv 16) = ((n / 16 : Nat) : Int) by rw [Int.fdiv_eq_ediv_of_nonneg _ (by decide)]; omega, show ((n : Int).fmod 16) = ((n % 16 : Nat) : Int) by rw [Int.fmod_eq_emod_of_nonneg _ (by decide)]; omega] at S₇
    have hlt : n % 16 < 16 := Nat.mod_lt _ (by decide)
    refine x_cons (x_asgV en rfl S₇ (i := 1) rfl (ev_addB (ev_item ((ev_loc en S₇.loc (i := 2) rfl rfl).imp fun _ _ e => ⟨t3, e⟩) (ev_slice (ep_some (ev_locI en S₇.loc (i := 3) rfl rfl)) (ep_some (ev_add (ev_locI en S₇.loc (i := 3) rfl rfl) ev_int)) ep_none) mono_B (it_bytesSlice (le_line (by decide)))) ((ev_loc en S₇.loc (i := 1) rfl rfl).imp fun _ _ e => ⟨t', e⟩) (by rw [ap_pick ⟨n % 16, hlt⟩]; simp; omega)) fun v s₈ hv S₈ => ?_)
    obtain ⟨t7, rfl⟩ := hv
    rw [ap_pick ⟨n % 16, hlt⟩] at S₈
    have e2 : (#[UInt8.ofNat (65 + n % 16)] ++ val.toArray) = (UInt8.ofNat (65 + n % 16) :: val).toArray := by simp
    rw [e2] at S₈
    refine x_nil ⟨i, Nat.lt_succ_self i, n / 16, _ :: val, t5, t7, _, g', ?_, ?_, ?_, S₈⟩
    · rw [Nat.pow_succ] at hi; omega
    · rw [List.length_cons]; omega
    · rw [ap, if_neg h0] at e; rw [← e]; simp
  · have h0 : n = 0 := by simpa using hb
    have S₆ := S₅.up p₆
    have e3 : val = ap F m.natAbs := by
      rw [← e]; cases i with
      | zero => rfl
      | succ i => rw [ap, if_pos h0]; rfl
    refine x_cons (x_ret (ev_loc en S₆.loc (i := 1) rfl rfl) fun v s₈ p₈ hv => ?_)
    cases hv
    have q := S₆.pu.trans p₈
    exact ⟨q, k _ _ q ⟨t', by rw [← e3]⟩⟩
end
end Mine
namespace Mine
def swIn (d : Array UInt8) (w i : Nat) : Nat → Array UInt8 → Array UInt8
  | 0, b => b
  | j + 1, b => (swIn d w i j b).setIfInBounds (i + w - 1 - j) (d.toList.getD (i + j) 0)
def swOut (d : Array UInt8) (w : Nat) : Nat → Array UInt8
  | 0 => Array.replicate d.size 0
  | k + 1 => swIn d w (k * w) w (swOut d w k)
theorem swIn_size {d : Array UInt8} {w i : Nat} : ∀ {j : Nat} {b : Array UInt8}, (swIn d w i j b).size = b.size
  | 0, _ => rfl
  | j + 1, b => by rw [swIn, Array.size_setIfInBounds, swIn_size]
theorem swOut_size {d : Array UInt8} {w : Nat} : ∀ {k : Nat}, (swOut d w k).size = d.size
  | 0 => Array.size_replicate
  | k + 1 => by rw [swOut, swIn_size, swOut_size]
abbrev d_swap : Stmt := stm PySem.Challenge.pw_wn0038_02 1
def xs_swap : List Str := ["data", "width", "swapped_data", "i", "j"]
section
variable {prog : Program} {w : World} {A : Around} {s₀ : Shared} {mg mb : Str → Option Value}
set_option maxHeartbeats 4000000 in
theorem swap_spec {f : Addr} {d : Array UInt8} {wd m j : Nat} (hd : d.size = m * wd) (hw : 1 ≤ wd) (hz : d.size ≤ 100000) (hwz : wd ≤ 100000) (hm : m ≤ 100000) (R : Rm (j + 1) A) (G : GL mg mb s₀.heap) (F : Fd s₀.heap mg d_swap f .none .none) (hr : mg "range" = none ∧ mb "range" = some (.type "range")) (hl : mg "len" = none ∧ mb "len" = some (.builtin "len"))
    (hb : mg "bytes" = none ∧ mb "bytes" = some (.type "bytes")) (hba : mg "bytearray" = none ∧ mb "bytearray" = some (.type "bytearray")) :
    ClS prog w A (.ref f) s₀ [isB d, isI wd] (isB (swOut d wd m)) := fun l s Q E fg p le ha k => by
  obtain ⟨_, _, rfl, ⟨t1, rfl⟩, ⟨t2, rfl⟩⟩ := ha.two
  have G := G.keeps p.keep
  refine fnS_plain (xs := xs_swap) (vs := [some (.bytes d t1), some (.int wd t2), none, none, none]) R G.lim (F.2.keeps p.keep) (binds := [("data", .bytes d t1), ("width", .int wd t2)]) (fun _ _ _ _ _ => BindsTo.of_eq rfl) (by decide +kernel) (by intro x hx; simp at hx; rcases hx with rfl | rfl <;> rfl) ⟨rfl, rfl, rfl, rfl, rfl, trivial⟩ fun L cdv s₁ S₁ => ?_
  have en : En (envOf (fnName d_swap) (fnScope d_swap) L f cdv) xs_swap := en_of
  have R' := R.deeper (envOf (fnName d_swap) (fnScope d_swap) L f cdv)
  refine xS_cons (xS_asgO en rfl S₁ (i := 2) rfl (evS_call (ev_blt (G.keeps S₁.ukeep) rfl rfl rfl rfl hba.1 hba.2) kept_type (EvAll.toS (ea1 (ev_call (ev_blt (G.keeps S₁.ukeep) rfl rfl rfl rfl hl.1 hl.2) kept_builtin (ea1 ((ev_loc en S₁.loc (i := 0) rfl rfl).imp fun _ _ e => ⟨t1, e⟩) mono_B) mono_I (cl_lenB (by omega))) mono_I)) (fun _ _ _ l ⟨a, o, e, h, q⟩ => ⟨a, o, e, l _ _ h, q⟩) (clS_ba (by omega))) fun D o g₁ s₂ ho l₁ S₂ => ?_)
  subst ho
  have hsz : Builtin.Range.rangeSize 0 (d.size : Nat) wd = m := by
    rw [rangeSize_pos (by omega) (by omega), hd]
    rw [show (((m * wd : Nat) : Int) + wd - 1) = (wd : Int) * m + ((wd : Int) - 1) by rw [Int.natCast_mul, Int.mul_comm]; omega]
    rw [Int.add_comm, Int.add_mul_ediv_left _ _ (by omega), Int.ediv_eq_zero_of_lt (by omega) (by omega)]; omega
  have G₂ := G.keeps S₂.ukeep
  refine xS_cons (S.of (x_for1 (i := 3) (n := m) (P := fun k v => isI (0 + k * (wd : Int)) v (fun _ => none)) (fun k _ vs ms => ∃ x3 x4, vs = [some (.bytes d t1), some (.int wd t2), some (.ref D), x3, x4] ∧ ms = [(D, baO (swOut d wd k))]) en rfl S₂ rfl
    (src_range R'.hand (small_of (n := m) hsz (by omega)) m hsz (ev_call (ev_blt G₂ rfl rfl rfl rfl hr.1 hr.2) kept_type (ea3 ev_int mono_I (ev_call (ev_blt G₂ rfl rfl rfl rfl hl.1 hl.2) kept_builtin (ea1 ((ev_loc en S₂.loc (i := 0) rfl rfl).imp fun _ _ e => ⟨t1, e⟩) mono_B) mono_I (cl_lenB (by omega))) mono_I (ev_locI en S₂.loc (i := 1) rfl rfl) mono_I) mono_range (cl_range3 (by omega) (noPy (by omega))))) (fun g' _ => ⟨none, none, rfl, rfl⟩) ?_ ?_))
  · rintro ki v g' vs' ms' r s₃ hk ⟨t6, rfl⟩ l₂ ⟨x3, x4, rfl, rfl⟩ S₃
    have G₃ := G.keeps S₃.ukeep
    have hki : (ki + 1) * wd ≤ m * wd := Nat.mul_le_mul_right _ (by omega)
    rw [Nat.succ_mul] at hki
    have e0 : (0 + (ki : Int) * (wd : Int)) = ((ki * wd : Nat) : Int) := by rw [Int.natCast_mul]; omega
    rw [e0] at S₃
    refine x_cons (x_for1 (i := 4) (n := wd) (P := fun k v => isI (0 + k * 1) v (fun _ => none)) (fun k _ vs ms => ∃ x4, vs = [some (.bytes d t1), some (.int wd t2), some (.ref D), some (.int (ki * wd : Nat) t6), x4] ∧ ms = (D, baO (swIn d wd (ki * wd) k (swOut d wd ki))) :: r) en rfl S₃ rfl
      (src_range R'.hand (small_of (n := wd) (size_up (by omega)) (by omega)) wd (size_up (by omega)) (ev_call (ev_blt G₃ rfl rfl rfl rfl hr.1 hr.2) kept_type (ea1 (ev_locI en S₃.loc (i := 1) rfl rfl) mono_I) mono_range cl_range1)) (fun g' _ => ⟨x4, rfl, rfl⟩) ?_ ?_)
    · rintro kj v g'' vs'' ms'' r2 s₄ hkj ⟨t7, rfl⟩ l₃ ⟨x5, rfl, rfl⟩ S₄
      have hb2 : (d.toList.getD (ki * wd + kj) 0).toNat < 256 := UInt8.toNat_lt _
      refine x_cons (x_setba S₄ (x := ((d.toList.getD (ki * wd + kj) 0).toNat : Int)) (k := ((ki * wd + wd - 1 - kj : Nat) : Int)) ?_ (ev_loc en S₄.loc (i := 2) rfl rfl) ?_ (i := 0) rfl (by omega) (by rw [swIn_size, swOut_size]; omega) (by omega) (by omega) (by rw [swIn_size, swOut_size]; omega) fun s₅ S₅ => ?_)
      · refine (ev_item ((ev_loc en S₄.loc (i := 0) rfl rfl).imp fun _ _ e => ⟨t1, e⟩) (Ev.isI_eq (ev_add (ev_locI en S₄.loc (i := 3) rfl rfl) (ev_locI en S₄.loc (i := 4) rfl rfl)) (b := ((ki * wd + kj : Nat) : Int)) (by omega)) mono_I (it_bytes (by omega) (by omega) (by omega)))
      · exact Ev.isI_eq (ev_sub (ev_sub (ev_add (ev_locI en S₄.loc (i := 3) rfl rfl) (ev_locI en S₄.loc (i := 1) rfl rfl)) ev_int) (ev_locI en S₄.loc (i := 4) rfl rfl)) (by omega)
      · have e8 : ((d.toList.getD (ki * wd + kj) 0).toNat : Int).toNat.toUInt8 = d.toList.getD (ki * wd + kj) 0 := by simp
        rw [e8, Int.toNat_natCast] at S₅
        exact x_nil ⟨g'', _, _, Le.refl _, S₅, _, rfl, rfl⟩
    · rintro g'' vs'' ms'' s₄ l₃ ⟨x5, rfl, rfl⟩ S₄
      exact x_nil ⟨g'', _, [(D, baO (swOut d wd (ki + 1)))], l₃, S₄, _, _, rfl, rfl⟩
  · rintro g' vs' ms' s₃ l₂ ⟨x3, x4, rfl, rfl⟩ S₃
    have G₃ := G.keeps S₃.ukeep
    have ho := (S₃.own _ (.head _)).1
    refine S.of (x_cons (x_ret (ev_call (ev_blt G₃ rfl rfl rfl rfl hb.1 hb.2) kept_type (ea1 (ev_loc en S₃.loc (i := 2) rfl rfl) mono_V) mono_B (cl_bytes ho (by rw [swOut_size]; omega))) fun v s₅ p₅ hv => ?_))
    obtain ⟨t9, rfl⟩ := hv
    exact k _ _ (S₃.pu.trans p₅) ⟨t9, rfl⟩
end
end Mine
namespace Mine
/-- the built-in names that the text uses -/
structure Bs (mg mb : Str → Option Value) : Prop where
  range : mg "range" = none ∧ mb "range" = some (.type "range")
  enum : mg "enumerate" = none ∧ mb "enumerate" = some (.type "enumerate")
  zip : mg "zip" = none ∧ mb "zip" = some (.type "zip")
  len : mg "len" = none ∧ mb "len" = some (.builtin "len")
  chr : mg "chr" = none ∧ mb "chr" = some (.builtin "chr")
  sum : mg "sum" = none ∧ mb "sum" = some (.builtin "sum")
  min : mg "min" = none ∧ mb "min" = some (.builtin "min")
  abs : mg "abs" = none ∧ mb "abs" = some (.builtin "abs")
  int : mg "int" = none ∧ mb "int" = some (.type "int")
  divmod : mg "divmod" = none ∧ mb "divmod" = some (.builtin "divmod")
  bytes : mg "bytes" = none ∧ mb "bytes" = some (.type "bytes")
  ba : mg "bytearray" = none ∧ mb "bytearray" = some (.type "bytearray")
/-- the number's digits to the base 16, so many, as letters -/
def dig : Nat → Nat → List UInt8
  | 0, _ => []
  | w + 1, n => dig w (n / 16) ++ [UInt8.ofNat (65 + n % 16)]
theorem dig_len : ∀ (w n : Nat), (dig w n).length = w
  | 0, _ => rfl
  | w + 1, n => by rw [dig, List.length_append, dig_len w]; rfl
theorem pad_dig : ∀ (w n : Nat), List.replicate (w - (ap w n).length) 65 ++ ap w n = dig w n
  | 0, _ => rfl
  | w + 1, n => by
    unfold ap dig
    have ih := pad_dig w (n / 16)
    split
    · rename_i h
      subst h
      have h0 : ∀ w, ap w 0 = [] := fun w => by cases w <;> rfl
      rw [show (0 / 16) = 0 from rfl, h0] at ih
      rw [show (0 / 16) = 0 from rfl, ← ih]
      simp [List.replicate_succ']
    · have hl := ap_len w (n / 16)
      rw [← ih, List.length_append, ← List.append_assoc]
      congr 3
      simp
section
variable {prog : Program} {w : World} {A : Around} {s₀ : Shared} {env : Env} {mg mb : Str → Option Value}
theorem ev_nilO {pos : Pos} : Ev prog w A (eval (.List [] pos) env) s₀ (fun v f => ∃ a o, v = .ref a ∧ f a = some o ∧ ∃ n, o = lobj #[] n) :=
  (ev_list ea_nil rfl (Nat.zero_le _)).imp fun v f ⟨a, ys, n, e, h, hy⟩ => ⟨a, _, e, h, n, by
    have hy' : AllP [] ys.toList f := hy
    have : ys = #[] := by cases q : ys.toList with
      | nil => exact Array.toList_eq_nil_iff.mp q
      | cons => rw [q] at hy'; exact hy'.elim
    rw [this]⟩
end
end Mine
namespace Mine
theorem en_ofC {name : Str} {scope : Scope} {L f : Addr} {cdv : Value} {cs : List (Str × Addr)} {xs : List Str} (h1 : scope.kind = .function := by rfl) (h2 : (xs.all fun x => scope.names.lookup x == some .local) = true := by decide +kernel) (h3 : xs.Nodup := by decide +kernel)
    (h4 : (xs.all fun x => !(x == ("__debug__" : Str))) = true := by decide +kernel) : En (envC name scope L f cdv cs) xs :=
  ⟨h1, fun x hx => by show List.lookup x scope.names = _; simpa using List.all_eq_true.mp h2 x hx, h3, fun x hx => by simpa using List.all_eq_true.mp h4 x hx, rfl, rfl⟩
theorem ce_of {scope : Scope} {xs : List Str} (h1 : scope.kind = .function := by rfl) (h2 : (xs.all fun x => scope.names.lookup x == some .local) = true := by decide +kernel) (h3 : xs.Nodup := by decide +kernel)
    (h4 : (xs.all fun x => !(x == ("__debug__" : Str))) = true := by decide +kernel) (h5 : (scope.names.all fun y => !(y.2 == .cell)) = true := by decide +kernel) (h6 : (scope.names.all fun y => !(y.2 == .local) || scope.names.lookup y.1 == some .local) = true := by decide +kernel) : Ce scope xs :=
  ⟨h1, fun x hx => by simpa using List.all_eq_true.mp h2 x hx, h3, fun x hx => by simpa using List.all_eq_true.mp h4 x hx, (fun y hy e => by
    have := List.all_eq_true.mp h5 y hy
    rw [e] at this; cases this), fun y hy e => by
    have := List.all_eq_true.mp h6 y hy
    rw [e] at this; simpa using this⟩
/-- the letters' text -/
def sgn (b : List UInt8) : Str := ⟨(b.map (·.toNat)).toArray⟩
def cuts (b : List UInt8) (wd m : Nat) : List Str := (List.range m).map fun k => cutStr (sgn b) (k * wd) (k * wd + wd)
def chrs (b : List UInt8) : List Str := b.map fun c => ⟨#[c.toNat]⟩
theorem join_chrs (b : List UInt8) : Txt.join (Str.ofString "") (chrs b) = sgn b := by
  rw [join0]; unfold sgn chrs
  congr 2
  induction b with
  | nil => rfl
  | cons c b ih => rw [List.map_cons, List.map_cons, List.flatten_cons, ih]; rfl
theorem chrs_sum : ∀ b : List UInt8, ((chrs b).map (·.length)).sum = b.length
  | [] => rfl
  | c :: b => by
    have ih := chrs_sum b
    unfold chrs at ih ⊢
    rw [List.map_cons, List.map_cons, List.sum_cons, ih, List.length_cons]; show 1 + _ = _; omega
theorem sgn_len (b : List UInt8) : (sgn b).length = b.length := by unfold sgn Str.length; simp
theorem take_succ_get {α : Type} {l : List α} {k : Nat} {x : α} (h : l[k]? = some x) : l.take (k + 1) = l.take k ++ [x] := by rw [List.take_add_one, h]; rfl
end Mine
namespace Mine
theorem swIn_get {d : Array UInt8} {w i : Nat} {b : Array UInt8} (hb : i + w ≤ b.size) : ∀ {j : Nat}, j ≤ w → ∀ p, (swIn d w i j b)[p]? = if i + w - j ≤ p ∧ p < i + w then some (d.toList.getD (i + (i + w - 1 - p)) 0) else b[p]?
  | 0, _, p => by rw [swIn, if_neg (by omega)]
  | j + 1, hj, p => by
    rw [swIn, Array.getElem?_setIfInBounds, swIn_size]
    split
    · rename_i e
      subst e
      rw [if_pos (by omega), if_pos (by omega)]
      congr 2; omega
    · rename_i e
      rw [swIn_get hb (by omega) p]
      by_cases h : i + w - j ≤ p ∧ p < i + w
      · rw [if_pos h, if_pos (by omega)]
      · rw [if_neg h, if_neg (by omega)]
theorem swOut_get {d : Array UInt8} {w : Nat} (hw : 0 < w) : ∀ {k : Nat}, k * w ≤ d.size → ∀ p, p < d.size → (swOut d w k)[p]? = if p < k * w then some (d.toList.getD (p / w * w + (w - 1 - p % w)) 0) else some 0
  | 0, _, p, hp => by rw [swOut, if_neg (by omega)]; simp [hp]
  | k + 1, hk, p, hp => by
    rw [Nat.succ_mul] at hk ⊢
    rw [swOut, swIn_get (by rw [swOut_size]; omega) (Nat.le_refl _) p, swOut_get hw (by omega) p hp]
    by_cases h : p < k * w
    · rw [if_neg (by omega), if_pos h, if_pos (by omega)]
    · rw [if_neg h]
      by_cases h2 : p < k * w + w
      · rw [if_pos (by omega), if_pos h2]
        have e1 : p / w = k := by
          refine Nat.div_eq_of_lt_le ?_ ?_
          · omega
          · rw [Nat.succ_mul]; exact h2
        have e2 : p % w = p - k * w := by have := Nat.div_add_mod p w; rw [e1, Nat.mul_comm] at this; omega
        rw [e1, e2]
        congr 2; omega
      · rw [if_neg (by omega), if_neg h2]
theorem flat_get {α : Type} {w : Nat} (hw : 0 < w) : ∀ {ws : List (List α)}, (∀ x ∈ ws, x.length = w) → ∀ p, ws.flatten[p]? = (ws[p / w]?).bind (·[p % w]?)
  | [], _, p => by simp
  | x :: ws, h, p => by
    have hx := h x (.head _)
    rw [List.flatten_cons]
    by_cases hp : p < w
    · rw [List.getElem?_append_left (by omega), Nat.div_eq_of_lt hp, Nat.mod_eq_of_lt hp]; rfl
    · rw [List.getElem?_append_right (by omega), flat_get hw (fun y hy => h y (.tail _ hy)), hx]
      obtain ⟨q, rfl⟩ : ∃ q, p = q + w := ⟨p - w, by omega⟩
      rw [Nat.add_sub_cancel, Nat.add_div_right _ hw, Nat.add_mod_right]; rfl
theorem flat_len {α : Type} {w : Nat} : ∀ {ws : List (List α)}, (∀ x ∈ ws, x.length = w) → ws.flatten.length = ws.length * w
  | [], _ => by simp
  | x :: ws, h => by
    rw [List.flatten_cons, List.length_append, flat_len fun y hy => h y (.tail _ hy), h x (.head _), List.length_cons, Nat.succ_mul]; omega
/-- what the turning of the words' bytes gives -/
theorem swOut_words {w : Nat} (hw : 0 < w) {ws : List (List UInt8)} (h : ∀ x ∈ ws, x.length = w) : (swOut ws.flatten.toArray w ws.length).toList = (ws.map List.reverse).flatten := by
  have hl := flat_len h
  have h' : ∀ x ∈ ws.map List.reverse, x.length = w := fun x hx => by
    obtain ⟨y, hy, rfl⟩ := List.mem_map.mp hx
    rw [List.length_reverse]; exact h y hy
  have hl' := flat_len h'
  rw [List.length_map] at hl'
  refine List.ext_getElem? fun p => ?_
  rw [Array.getElem?_toList]
  by_cases hp : p < ws.length * w
  · rw [swOut_get hw (by rw [List.size_toArray, hl]; exact Nat.le_refl _) p (by rw [List.size_toArray, hl]; exact hp), if_pos hp, flat_get hw h', List.getElem?_map]
    have hk : p / w < ws.length := Nat.div_lt_of_lt_mul (by rw [Nat.mul_comm]; exact hp)
    have hx := h ws[p / w] (List.getElem_mem hk)
    have hm := Nat.mod_lt p hw
    rw [List.getElem?_eq_getElem hk]
    show _ = ws[p / w].reverse[p % w]?
    rw [List.getElem?_reverse (by omega), hx, List.getD_eq_getElem?_getD, flat_get hw h]
    have e1 : (p / w * w + (w - 1 - p % w)) / w = p / w := by
      rw [Nat.add_comm, Nat.add_mul_div_right _ _ hw, Nat.div_eq_of_lt (by omega), Nat.zero_add]
    have e2 : (p / w * w + (w - 1 - p % w)) % w = w - 1 - p % w := by
      rw [Nat.add_comm, Nat.add_mul_mod_self_right, Nat.mod_eq_of_lt (by omega)]
    rw [e1, e2, List.getElem?_eq_getElem hk]
    show some ((ws[p / w][w - 1 - p % w]?).getD 0) = _
    rw [List.getElem?_eq_getElem (by omega)]; rfl
  · rw [Array.getElem?_eq_none (by rw [swOut_size, List.size_toArray, hl]; omega), List.getElem?_eq_none (by rw [hl']; omega)]
theorem cuts_words {w : Nat} {ws : List (List UInt8)} (h : ∀ x ∈ ws, x.length = w) : cuts ws.flatten w ws.length = ws.map sgn := by
  have key : ∀ {ws : List (List UInt8)}, (∀ x ∈ ws, x.length = w) → ∀ {k : Nat} {x : List UInt8}, ws[k]? = some x → (ws.flatten.drop (k * w)).take w = x := by
    intro ws
    induction ws with
    | nil => intro _ k x e; simp at e
    | cons y ws ih =>
      intro h k x e
      have hy := h y (.head _)
      cases k with
      | zero =>
        simp at e; subst e
        rw [Nat.zero_mul, List.drop_zero, List.flatten_cons, List.take_append_of_le_length (by omega), List.take_of_length_le (by omega)]
      | succ k =>
        rw [Nat.succ_mul, Nat.add_comm, ← List.drop_drop, List.flatten_cons, List.drop_left' (by omega)]
        exact ih (fun z hz => h z (.tail _ hz)) (by simpa using e)
  refine List.ext_getElem? fun k => ?_
  unfold cuts
  rw [List.getElem?_map, List.getElem?_map]
  by_cases hk : k < ws.length
  · rw [List.getElem?_range hk, List.getElem?_eq_getElem hk]
    show some _ = some _
    congr 1
    have e := key h (List.getElem?_eq_getElem hk)
    have e3 : k * w + w - k * w = w := by omega
    show (⟨(((sgn ws.flatten).cps.toList.drop (k * w)).take (k * w + w - k * w)).toArray⟩ : Str) = sgn ws[k]
    rw [e3, ← e]
    unfold sgn
    show (⟨(((ws.flatten.map (·.toNat)).drop (k * w)).take w).toArray⟩ : Str) = _
    rw [← List.map_drop, ← List.map_take]
  · rw [List.getElem?_eq_none (by simpa using hk), List.getElem?_eq_none (by omega)]; rfl
theorem cuts_turned {w : Nat} (hw : 0 < w) {ws : List (List UInt8)} (h : ∀ x ∈ ws, x.length = w) : cuts (swOut ws.flatten.toArray w ws.length).toList w ws.length = ws.map fun b => sgn b.reverse := by
  rw [swOut_words hw h]
  have h' : ∀ x ∈ ws.map List.reverse, x.length = w := fun x hx => by
    obtain ⟨y, hy, rfl⟩ := List.mem_map.mp hx
    rw [List.length_reverse]; exact h y hy
  have := cuts_words h'
  rw [List.length_map] at this
  rw [this, List.map_map]; rfl
theorem ltr_bd {d a : Int} : ∀ k : Nat, -a + k * a ≤ ltr d a k ∧ ltr d a k ≤ -a + k * (a + 3)
  | 0 => by unfold ltr; omega
  | k + 1 => by
    have ih := ltr_bd (d := d) (a := a) k
    have h1 := Int.fmod_nonneg_of_pos (d.fdiv (4 ^ k)) (b := 4) (by decide)
    have h2 := Int.fmod_lt_of_pos (d.fdiv (4 ^ k)) (b := 4) (by decide)
    unfold ltr
    have e1 : ((k + 1 : Nat) : Int) * a = k * a + a := by rw [Int.natCast_add, Int.add_mul]; omega
    have e2 : ((k + 1 : Nat) : Int) * (a + 3) = k * (a + 3) + (a + 3) := by rw [Int.natCast_add, Int.add_mul]; omega
    rw [e1, e2]
    generalize (k : Int) * a = x at *
    generalize (k : Int) * (a + 3) = y at *
    omega
theorem ltr_step {d a : Int} (k : Nat) : ltr d a k + a ≤ ltr d a (k + 1) := by
  have h1 := Int.fmod_nonneg_of_pos (d.fdiv (4 ^ k)) (b := 4) (by decide)
  rw [ltr]; omega
theorem ltrs_len {d a : Int} {n : Nat} : (ltrs d a n).length = n := by simp [ltrs]
theorem ltrs_get {d a : Int} {n i : Nat} (h : i < n) : (ltrs d a n).getD i 0 = ltr d a (i + 1) := by
  rw [List.getD_eq_getElem?_getD]
  unfold ltrs
  rw [List.getElem?_map, List.getElem?_range h]; rfl
theorem ltrs_in {d a : Int} {n : Nat} (ha : a = 0 ∨ a = 1) (hn : n ≤ 4) : ∀ x ∈ ltrs d a n, 0 ≤ x ∧ x < 16 := fun x hx => by
  obtain ⟨k, hk, rfl⟩ := List.mem_map.mp hx
  have hk := List.mem_range.mp hk
  have h := ltr_bd (d := d) (a := a) (k + 1)
  rcases ha with rfl | rfl
  · omega
  · omega
/-- a draw -/
def drw (ns : List Int) (top step : Int) (k : Nat) (start : Int) : Int := start + ((picks ns (some (k : Int)) (some top) (some step)).map fun c => c.fmod (10 ^ (6 : Int).toNat)).sum
def drwL (ns : List Int) (top step : Int) (starts : List Int) : List Int := (List.range starts.length).map fun k => drw ns top step k (starts.getD k 0)
end Mine
namespace Mine
abbrev d_letters : Stmt := stm PySem.Challenge.pw_wn0038_02 8
def xs_letters : List Str := ["draw", "many", "letters", "last", "turn"]
section
variable {prog : Program} {w : World} {A : Around} {s₀ : Shared} {mg mb : Str → Option Value}
set_option maxHeartbeats 4000000 in
theorem letters_spec {f : Addr} {draw : Int} {n j : Nat} (hn : n ≤ 4) (R : Rm (j + 1) A) (G : GL mg mb s₀.heap) (F : Fd s₀.heap mg d_letters f .none .none) (hr : mg "range" = none ∧ mb "range" = some (.type "range")) :
    Cl prog w A (.ref f) s₀ [isI draw, isI n] (Lof (fun a : Int => isI a) (ltrs draw 1 n)) := fun l s Q E fg p le ha k => by
  obtain ⟨_, _, rfl, ⟨t1, rfl⟩, ⟨t2, rfl⟩⟩ := ha.two
  have G := G.keeps p.keep
  refine fn_plain (xs := xs_letters) (vs := [some (.int draw t1), some (.int n t2), none, none, none]) R G.lim (F.2.keeps p.keep) (binds := [("draw", .int draw t1), ("many", .int n t2)]) (fun _ _ _ _ _ => BindsTo.of_eq rfl) (by decide +kernel) (by intro x hx; simp at hx; rcases hx with rfl | rfl <;> rfl) ⟨rfl, rfl, rfl, rfl, rfl, trivial⟩ fun L cdv s₁ S₁ => ?_
  have en : En (envOf (fnName d_letters) (fnScope d_letters) L f cdv) xs_letters := en_of
  refine x_cons (x_unpackS (R.deeper _).hand en rfl S₁ (i := 2) (j := 3) rfl rfl (R := fun y1 y2 nw f => ∃ a n, y1 = .ref a ∧ nw = [(a, lobj #[] n)] ∧ ∃ t, y2 = .int (-1) t) (pr_tup (ev_tuple (ea2 (ev_list ea_nil rfl (Nat.zero_le _)) (mono_lst fun _ _ _ l h => AllP.mono (fun _ h => nomatch h) l h) (ev_neg ev_int) mono_I) rfl (Nat.le_of_ble_eq_true rfl)) ?_) ?_)
  · rintro y1 y2 f ⟨a, ys, k, rfl, h, hy⟩ ⟨t, rfl⟩
    have : ys = #[] := by cases q : ys.toList with
      | nil => exact Array.toList_eq_nil_iff.mp q
      | cons => rw [q] at hy; exact hy.elim
    subst this
    exact ⟨[(a, lobj #[] k)], by simp, by simpa using h, a, k, rfl, rfl, t, rfl⟩
  rintro y1 y2 nw g₁ f₁ s₂ l₁ - ⟨a, n₁, rfl, rfl, t4, rfl⟩ S₂
  have G₂ := G.keeps S₂.ukeep
  refine x_cons (x_for1 (i := 4) (n := n) (P := fun k v => isI (0 + k * 1) v (fun _ => none)) (fun k _ vs ms => ∃ t5 x5 ys n₂, vs = [some (.int draw t1), some (.int n t2), some (.ref a), some (.int (ltr draw 1 k) t5), x5] ∧ ms = [(a, lobj ys n₂)] ∧ All2 (fun a : Int => isI a) (ltrs draw 1 k) ys (fun _ => none)) en rfl S₂ rfl
    (src_range (R.deeper _).hand (small_of (n := n) (size_up (by omega)) (by omega)) n (size_up (by omega)) (ev_call (ev_blt G₂ rfl rfl rfl rfl hr.1 hr.2) kept_type (ea1 (ev_locI en S₂.loc (i := 1) rfl rfl) mono_I) mono_range cl_range1)) (fun g' _ => ⟨t4, none, #[], n₁, rfl, rfl, All2.nil⟩) ?_ ?_)
  · rintro k v g' vs' ms' r s₃ hk ⟨t6, rfl⟩ l₂ ⟨t5, x5, ys, n₂, rfl, rfl, hy⟩ S₃
    have e0 : (0 + (k : Int) * 1).toNat = k := by omega
    have hz : (4 : Int) ^ (0 + (k : Int) * 1).toNat ≠ 0 := by rw [e0]; exact Int.pow_ne_zero (by decide)
    have hz' : ((4 : Int) ^ (0 + (k : Int) * 1).toNat).natAbs < 1073741824 := by
      rw [e0, Int.natAbs_pow]; exact Nat.lt_of_le_of_lt (Nat.pow_le_pow_right (n := 4) (by decide) (by omega : k ≤ 4)) (by decide)
    refine x_cons (x_augAdd en rfl S₃ (i := 3) rfl rfl (ev_add ev_int (ev_mod (ev_fdiv (ev_locI en S₃.loc (i := 0) rfl rfl) (ev_pow ev_int (ev_locI en S₃.loc (i := 4) rfl rfl) (by omega) (by omega) (by decide)) hz (noPy hz')) ev_int (by decide))) fun t7 s₄ S₄ => ?_)
    refine x_cons (x_append S₄ (ev_loc en S₄.loc (i := 2) rfl rfl) (ev_locI en S₄.loc (i := 3) rfl rfl) (i := 0) rfl (le_line (by rw [hy.1]; unfold ltrs; simp; omega)) (fun v g'' f n₃ s₅ l₃ l₄ hv S₅ => ?_) rfl)
    obtain ⟨t8, rfl⟩ := hv
    rw [e0] at S₅
    exact x_nil ⟨g'', _, _, l₃, S₅, _, _, _, _, rfl, rfl, by rw [ltrs_succ]; exact hy.push ⟨_, rfl⟩⟩
  · rintro g' vs' ms' s₃ l₂ ⟨t5, x5, ys, n₂, rfl, rfl, hy⟩ S₃
    have hn : s.heap.get? a = none := by
      have := (S₃.own (a, lobj ys n₂) (.head _)).2.2
      cases q : s.heap.get? a with
      | none => rfl
      | some o => rw [S₃.uk _ _ q] at this; cases this
    refine x_cons (x_ret (ev_loc en S₃.loc (i := 2) rfl rfl) fun v s₅ p₅ hv => ?_)
    cases hv
    have q := S₃.pu.trans p₅
    exact ⟨q, k _ _ q ⟨a, ys, n₂, rfl, fresh_of hn (p₅.keep _ _ (S₃.own _ (.head _)).1), hy.mono (fun _ => mono_I) (fun _ _ e => by cases e)⟩⟩
end
end Mine
namespace Mine
theorem Fd.keeps {h h' : Heap} {mg : Str → Option Value} {d : Stmt} {f : Addr} {dV kV : Value} (F : Fd h mg d f dV kV) (k : ∀ b o, h.get? b = some o → h'.get? b = some o) : Fd h' mg d f dV kV := ⟨F.1, F.2.keeps k⟩
theorem all2_of_allP {α : Type} {PP : α → Value → Mem → Prop} {f : Mem} : ∀ {ds : List α} {l : List Value}, AllP (ds.map PP) l f → All2 PP ds l.toArray f
  | [], [], _ => All2.nil
  | d :: ds, v :: l, h => by
    have h1 : All2 PP [d] #[v] f := All2.push All2.nil h.1
    have := h1.app (all2_of_allP (ds := ds) (l := l) h.2)
    have e2 : (v :: l).toArray = #[v] ++ l.toArray := by simp
    rw [e2]; exact this
  | [], _ :: _, h => h.elim
  | _ :: _, [], h => h.elim
/-- a word: its number, its ranks -/
abbrev isWord : Int × List Nat → Value → Mem → Prop := isTp (fun d => isI d.1) (fun d => Lof (fun n : Nat => isI n) d.2)
theorem mono_word (d : Int × List Nat) : Mono (isWord d) := mono_tp (fun _ => mono_I) (fun _ => mono_Lof fun _ => mono_I) d
def more (ws : List (Int × List Nat)) (letters : List Int) : List (Int × List Nat) := (ws.map fun d => (List.range letters.length).map fun r => (16 * d.1 + letters.getD r 0, d.2 ++ [r])).flatten
def wordsL (pl : List (List Int)) : List (Int × List Nat) := pl.foldl more [(0, [])]
theorem more_uni {ws : List (Int × List Nat)} {letters : List Int} : ∀ x ∈ (ws.map fun d => (List.range letters.length).map fun r => (16 * d.1 + letters.getD r 0, d.2 ++ [r])), x.length = letters.length := fun x hx => by
  obtain ⟨d, _, rfl⟩ := List.mem_map.mp hx
  simp
theorem more_len {ws : List (Int × List Nat)} {letters : List Int} : (more ws letters).length = ws.length * letters.length := by
  unfold more
  rw [flat_len more_uni, List.length_map]
theorem more_get {ws : List (Int × List Nat)} {letters : List Int} {k l : Nat} {d : Int × List Nat} (hd : ws[k]? = some d) (hl : l < letters.length) : (more ws letters)[k * letters.length + l]? = some (16 * d.1 + letters.getD l 0, d.2 ++ [l]) := by
  unfold more
  rw [flat_get (by omega) more_uni]
  have e1 : (k * letters.length + l) / letters.length = k := by
    rw [Nat.add_comm, Nat.add_mul_div_right _ _ (by omega), Nat.div_eq_of_lt hl, Nat.zero_add]
  have e2 : (k * letters.length + l) % letters.length = l := by
    rw [Nat.add_comm, Nat.add_mul_mod_self_right, Nat.mod_eq_of_lt hl]
  rw [e1, e2, List.getElem?_map, hd]
  show ((List.range letters.length).map _)[l]? = _
  rw [List.getElem?_map, List.getElem?_range hl]; rfl
theorem wordsL_succ {pl : List (List Int)} {k : Nat} {x : List Int} (h : pl[k]? = some x) : wordsL (pl.take (k + 1)) = more (wordsL (pl.take k)) x := by
  rw [take_succ' h]
  unfold wordsL
  rw [List.foldl_append]; rfl
theorem ranks_fold : ∀ (pl : List (List Int)) (ws : List (Int × List Nat)) (z : Nat), (∀ d ∈ ws, d.2.length = z) → ∀ d ∈ pl.foldl more ws, d.2.length = z + pl.length
  | [], _, _, h, d, hd => by rw [h d hd]; rfl
  | x :: pl, ws, z, h, d, hd => by
    have := ranks_fold pl (more ws x) (z + 1) (fun d hd => by
      obtain ⟨l, hl, hd⟩ := List.mem_flatten.mp hd
      obtain ⟨e, he, rfl⟩ := List.mem_map.mp hl
      obtain ⟨r, _, rfl⟩ := List.mem_map.mp hd
      rw [List.length_append, h e he]; rfl) d hd
    rw [this, List.length_cons]; omega
theorem ranks_len {pl : List (List Int)} {d : Int × List Nat} (h : d ∈ wordsL pl) : d.2.length = pl.length := by
  have := ranks_fold pl [(0, [])] 0 (fun d hd => by rw [List.mem_singleton.mp hd]; rfl) d h
  omega
abbrev d_words : Stmt := stm PySem.Challenge.pw_wn0038_02 9
inductive WdJ (h : Heap) (pa L : Addr) (ws : List (Int × List Nat)) (g : Mem) (vs : List (Option Value)) (ms : List (Addr × Obj)) : Prop where
  | mk (wv : Value) (oc : Obj) (v0 : Option Value) : vs = [some (.ref pa), some wv] → ms = [(L + 1, oc)] → oc.data = .cell v0 → Lof isWord ws wv (fr h g) → WdJ h pa L ws g vs ms
section
variable {prog : Program} {w : World} {A : Around} {s₀ : Shared} {mg mb : Str → Option Value}
set_option maxHeartbeats 4000000 in
theorem words_spec {f : Addr} {pl : List (List Int)} {j : Nat} (hpl : pl.length ≤ 1000) (hz : ∀ k, (wordsL (pl.take k)).length ≤ 1000) (hp : ∀ x ∈ pl, x.length ≤ 1000) (R : Rm (j + 2) A) (G : GL mg mb s₀.heap) (F : Fd s₀.heap mg d_words f .none .none) (B : Bs mg mb) :
    Cl prog w A (.ref f) s₀ [Lof (Lof fun n : Int => isI n) pl] (Lof isWord (wordsL pl)) := fun l s Q E fg p le ha k => by
  obtain ⟨_, rfl, pa, pys, pn, rfl, hpa, hpy⟩ := ha.one
  have G := G.keeps p.keep
  have hpa := le _ _ hpa
  have hpy := hpy.mono (fun _ => mono_Lof fun _ => mono_I) le
  refine fn_cells (xs := ["places", "words"]) (vs := [some (.ref pa), none]) (fun n => [("letters", n)]) (cv := [none]) R G.lim (F.2.keeps p.keep) (binds := [("places", .ref pa)]) (fun _ _ _ _ _ => BindsTo.of_eq rfl) (fun _ => rfl)
    (by intro n x hx; simp at hx; rcases hx with rfl; exact .inl rfl) ⟨rfl, rfl, trivial⟩ (fun _ => rfl) (fun _ => by show (["letters"] : List Str).Nodup; decide +kernel) fun L cdv ms s₁ hM S₁ => ?_
  obtain ⟨o1, _, rfl, hd1, hM⟩ := CellsM.cons hM
  obtain rfl := CellsM.nil hM
  have R' := R.deeper (envC (fnName d_words) (fnScope d_words) L f cdv [("letters", L + 1)])
  have en : En (envC (fnName d_words) (fnScope d_words) L f cdv [("letters", L + 1)]) ["places", "words"] := en_ofC
  refine x_cons (x_asgF (P := Lof isWord [(0, [])]) en rfl S₁ (i := 1) rfl (Ev.imp (ev_list (ea1 (ev_tuple (ea2 ev_int mono_I (ev_list ea_nil rfl (Nat.zero_le _)) (mono_lst fun _ _ _ l h => AllP.mono (fun _ h => nomatch h) l h)) rfl (Nat.le_of_ble_eq_true rfl)) (mono_tup fun _ _ _ l h => AllP.mono (by intro P hP; simp at hP; rcases hP with rfl | rfl; exact mono_I; exact mono_lst fun _ _ _ l h => AllP.mono (fun _ h => nomatch h) l h) l h)) rfl (Nat.le_of_ble_eq_true rfl)) ?_) ?_)
  · rintro v f ⟨a, ys, q, e, ha, hy⟩
    obtain ⟨y, ey, T, zs, rfl, hT, hzs⟩ := AllP.one hy
    obtain ⟨y1, y2, e2, h1, b, ws, q2, rfl, hb, hws⟩ := AllP.two hzs
    have e3 : zs = #[y1, .ref b] := by rw [← Array.toList_inj, e2]
    have e4 : ys = #[.ref T] := by rw [← Array.toList_inj, ey]
    have e5 : ws = #[] := by
      have hws' : AllP [] ws.toList f := hws
      cases q : ws.toList with
      | nil => exact Array.toList_eq_nil_iff.mp q
      | cons => rw [q] at hws'; exact hws'.elim
    subst e3 e4 e5
    exact ⟨a, _, q, e, ha, All2.push All2.nil ⟨T, y1, .ref b, rfl, hT, h1, b, #[], q2, rfl, hb, All2.nil⟩⟩
  intro v0 g₂ f₂ s₂ l₂ lf₂ hv S₂
  have hv := mono_Lof mono_word _ _ _ lf₂ hv
  refine x_cons (x_for1C (i := 0) (n := pys.size) (c := L + 1) (P := fun k v => pys[k]? = some v) (fun k g vs ms => WdJ s.heap pa L (wordsL (pl.take k)) g vs ms) rfl rfl rfl S₂
    (src_listV R'.hand (ev_loc en S₂.loc (i := 0) rfl rfl) (S₂.uk _ _ hpa) (S₂.ukeep _ _ hpa) rfl rfl) (fun g' l => ⟨v0, o1, none, rfl, rfl, hd1, mono_Lof mono_word _ _ _ (fr_up l) hv⟩) (fun k g vs ms ⟨wv, oc, v0, e1, e2, hd, _⟩ => ⟨oc, v0, by rw [e2]; rfl, hd⟩) ?_ ?_)
  · rintro ki v o' g' vs' ms' r s₃ hk hv' l₃ ⟨wv, oc, v1, rfl, rfl, -, hw⟩ hd' S₃
    obtain ⟨wa, wys, wn, rfl, hwa, hwy⟩ := hw
    have S₃ : St s g' L ["places", "words"] [some (.ref pa), some (.ref wa)] ((L + 1, o') :: r) s₃ := S₃
    obtain ⟨x, hx, la, lys, ln, rfl, hla, hly⟩ := hpy.get hv'
    have c1 := (S₃.own _ (.head _)).1
    have hxl := hp x (List.mem_of_getElem? hx)
    have hlaS := S₃.ukeep _ _ hla
    have hwsz := hz ki
    have hnm : (wordsL (pl.take ki)).length * x.length ≤ 1000 * 1000 := Nat.mul_le_mul hwsz hxl
    refine x_cons (x_asgC22 (j := 1) (n := wys.size) (m := lys.size) (cl := [("letters", L + 1)]) (PP := isWord) (more (wordsL (pl.take ki)) x) mono_word R'.hand en rfl S₃ rfl ce_of rfl
      (src_tups R'.hand (ev_loc en S₃.loc (i := 1) rfl rfl) (S₃.gk _ _ (fr_le _ _ hwa)) (S₃.gk _ _ (fr_le _ _ hwa)) hwy (fr_le.trans S₃.gk) (fr_le.trans S₃.gk)) (by rw [more_len, hwy.1, hly.1]) (by rw [hwy.1, hly.1]; omega)
      (fun C kk a b g'' vs ms st hkk hP St' => src_enumV R'.hand (ev_blt (G.keeps (S₃.pu.trans St'.pu).keep) rfl rfl rfl rfl B.enum.1 B.enum.2) (ev_cell (c := L + 1) rfl rfl rfl (St'.ukeep _ _ c1) hd') (St'.uk _ _ hlaS) (St'.ukeep _ _ hlaS) rfl rfl) ?_ ?_ rfl)
    · rintro C D kk ll a b c d ys o g'' r' kq st ⟨dd, hdd, ⟨ta, rfl⟩, hb⟩ ⟨⟨tc, rfl⟩, hc⟩ ho St'
      obtain ⟨ra, rys, rn, rfl, hra, hry⟩ := hb
      obtain ⟨x1, hx1, tx, rfl⟩ := hly.get hc
      have hll : ll < x.length := by rw [← hly.1]; exact (Array.getElem?_eq_some_iff.mp hc).1
      rw [hly.1, more_get hdd hll] at ho
      have ho := Option.some.inj ho
      subst ho
      have hrs : st.heap.get? ra = some (lobj rys rn) := St'.ukeep _ _ (S₃.gk _ _ (fr_le _ _ hra))
      have hx1' : x.getD ll 0 = x1 := by rw [List.getD_eq_getElem?_getD, hx1]; rfl
      have hdz : dd.2.length ≤ 1000 := by
        rw [ranks_len (List.mem_of_getElem? hdd), List.length_take]; omega
      refine Ev.imp (ev_tuple (ea2 (P := isI (16 * dd.1 + x.getD ll 0)) (P' := Lof (fun n : Nat => isI n) (dd.2 ++ [ll])) (by rw [hx1']; exact ev_add (ev_mul ev_int (ev_locI (Ce.en ce_of rfl rfl) St'.loc (i := 0) rfl rfl) (.of_left (by decide))) (ev_locI (Ce.en ce_of rfl rfl) St'.loc (i := 3) rfl rfl)) mono_I
        (ev_addL (C := fun ys f => All2 (fun n : Nat => isI n) (dd.2 ++ [ll]) ys f) (ev_loc (Ce.en ce_of rfl rfl) St'.loc (i := 1) rfl rfl) (ev_list (ea1 (ev_locI (Ce.en ce_of rfl rfl) St'.loc (i := 2) rfl rfl) mono_I) rfl (Nat.le_of_ble_eq_true rfl)) (fun _ _ _ l h => h.mono (fun _ => mono_I) l)
          (lobVC hrs (C := fun ys => All2 (fun n : Nat => isI n) dd.2 ys mem0) hry) (lobJ (C := fun ys => All2 (fun n : Nat => isI n) [ll] ys mem0) fun ys f h => (show All2 (fun n : Nat => isI n) [ll] ys f from all2_of_allP (ds := [ll]) (PP := fun n : Nat => isI n) (f := f) h)) fun ys zs h1 h2 => ⟨le_line (by rw [h1.1, h2.1]; simp; omega), fun f => h1.app h2⟩) (mono_Lof fun _ => mono_I)) rfl (Nat.le_of_ble_eq_true rfl)) fun v f h => tp_of h
    · intro a ys kq g'' f'' s₄ l₄ lf₄ ha hy S₄
      refine x_nil ⟨g'', _, [(L + 1, o')], l₄, S₄, .ref a, o', _, rfl, rfl, hd', a, ys, kq, rfl, ha, ?_⟩
      rw [wordsL_succ hx]
      exact hy.mono mono_word lf₄
  · rintro g' vs' ms' s₃ l₃ ⟨wv, oc, v1, rfl, rfl, -, hw⟩ S₃
    rw [hpy.1, List.take_length] at hw
    refine x_cons (x_ret (ev_loc en S₃.loc (i := 1) rfl rfl) fun v s₄ p₄ hv => ?_)
    cases hv
    have q := S₃.pu.trans p₄
    exact ⟨q, k _ _ q (mono_Lof mono_word _ _ _ (S₃.fr_fresh.trans (Pu.fresh_le p₄)) hw)⟩
end
end Mine
namespace Mine
abbrev d_turned : Stmt := stm PySem.Challenge.pw_wn0038_02 10
def xs_turned : List Str := ["words", "parts", "number", "ranks", "word"]
def digs (ws : List (Int × List Nat)) (wd : Nat) : List (List UInt8) := ws.map fun d => dig wd d.1.toNat
inductive TnJ (wa D cw cs : Addr) (oW oS : Obj) (l : List (List UInt8)) (vs : List (Option Value)) (ms : List (Addr × Obj)) : Prop where
  | mk (x2 x3 x4 : Option Value) (ys : Array Value) (n : Nat) : vs = [some (.ref wa), some (.ref D), x2, x3, x4] → ms = [(D, lobj ys n), (cs, oS), (cw, oW)] → All2 (fun d : List UInt8 => isB d.toArray) l ys mem0 → TnJ wa D cw cs oW oS l vs ms
section
variable {prog : Program} {w : World} {A : Around} {s₀ : Shared} {mg mb : Str → Option Value}
set_option maxHeartbeats 8000000 in
theorem turned_spec {f fa fs wa : Addr} {fm : Mem} {ws : List (Int × List Nat)} {wd j : Nat} (hfm : Le fm s₀.heap.get?) (hw : Lof isWord ws (.ref wa) fm) (hn : ∀ d ∈ ws, 0 ≤ d.1 ∧ d.1.toNat < 16 ^ wd) (hz : 2 ≤ ws.length ∧ ws.length ≤ 100) (hwd : 1 ≤ wd ∧ wd ≤ 10)
    (R : Rm (j + 2) A) (G : GL mg mb s₀.heap) (F : Fd s₀.heap mg d_turned f .none .none) (Fa : Fd s₀.heap mg d_ap fa .none .none) (Fs : Fd s₀.heap mg d_swap fs .none .none) (B : Bs mg mb) :
    ClS prog w A (.ref f) s₀ [isV (.ref wa), isI wd] (Lof (fun d : Str => isS d) (ws.map fun d => sgn (dig wd d.1.toNat).reverse)) := fun l s Q E fg p le ha k => by
  obtain ⟨_, _, rfl, e, ⟨t2, rfl⟩⟩ := ha.two
  cases e
  obtain ⟨_, wys, wn, e, hwa, hwy⟩ := hw
  cases e
  have G := G.keeps p.keep
  have Fa := Fa.keeps p.keep
  have Fs := Fs.keeps p.keep
  have hfm : Le fm s.heap.get? := fun b o e => p.keep _ _ (hfm _ _ e)
  have hwa := hfm _ _ hwa
  refine fnS_cells (xs := xs_turned) (vs := [some (.ref wa), none, none, none, none]) (fun n => [("signs", n + 1), ("wide", n)]) (cv := [none, some (.int wd t2)]) R G.lim (F.2.keeps p.keep) (binds := [("words", .ref wa), ("wide", .int wd t2)]) (fun _ _ _ _ _ => BindsTo.of_eq rfl) (fun _ => rfl)
    (by intro n x hx; simp at hx; rcases hx with rfl | rfl <;> first | exact .inl rfl | exact .inr ⟨rfl, rfl⟩) ⟨rfl, rfl, rfl, rfl, rfl, trivial⟩ (fun _ => rfl) (fun _ => by show (["signs", "wide"] : List Str).Nodup; decide +kernel) fun L cdv ms s₁ hM S₁ => ?_
  obtain ⟨o1, _, rfl, hd1, hM⟩ := CellsM.cons hM
  obtain ⟨o2, _, rfl, hd2, hM⟩ := CellsM.cons hM
  obtain rfl := CellsM.nil hM
  have R' := R.deeper (envC (fnName d_turned) (fnScope d_turned) L f cdv [("signs", L + 1 + 1), ("wide", L + 1)])
  have en : En (envC (fnName d_turned) (fnScope d_turned) L f cdv [("signs", L + 1 + 1), ("wide", L + 1)]) xs_turned := en_ofC
  refine xS_cons (S.of (x_asgO en rfl S₁ (i := 1) rfl ev_nilO fun D o g₁ s₂ ho l₁ S₂ => ?_))
  obtain ⟨n₁, rfl⟩ := ho
  have hfg : Le fm g₁ := hfm.trans l₁
  refine xS_cons (S.of (x_for2 (i := 2) (j := 3) (n := wys.size) (P := fun k x y => ∃ d, ws[k]? = some d ∧ isI d.1 x fm ∧ Lof (fun n : Nat => isI n) d.2 y fm) (fun k _ vs ms => TnJ wa D (L + 1) (L + 1 + 1) o2 o1 (digs (ws.take k) wd) vs ms) R'.hand en rfl S₂ rfl rfl
    (src_tups R'.hand (ev_loc en S₂.loc (i := 0) rfl rfl) (S₂.uk _ _ hwa) (S₂.ukeep _ _ hwa) hwy hfg (hfm.trans S₂.ukeep)) (fun g' _ => ⟨_, _, _, #[], n₁, rfl, rfl, All2.nil⟩) ?_ ?_))
  · rintro ki a b g' vs' ms' r s₃ hk ⟨d, hd, ⟨ta, rfl⟩, -⟩ l₂ ⟨x2, x3, x4, ys, n, rfl, rfl, hy⟩ S₃
    have hdm := hn d (List.mem_of_getElem? hd)
    obtain ⟨N, eN⟩ : ∃ N : Nat, d.1 = N := ⟨d.1.toNat, by omega⟩
    have hN : N < 16 ^ wd := by have := hdm.2; rw [eN] at this; exact this
    rw [eN] at S₃
    have S₃ : St s g' L xs_turned [some (.ref wa), some (.ref D), some (.int N ta), some b, x4] ((D, lobj ys n) :: (L + 1 + 1, o1) :: (L + 1, o2) :: r) s₃ := S₃
    have hki : ki < ws.length := by rw [← hwy.1]; exact hk
    refine x_cons (x_asgV en rfl S₃ (i := 4) rfl (ev_call (ev_glob (G.keeps S₃.ukeep) rfl rfl rfl Fa.1) (Fa.keeps S₃.ukeep).2.kept (ea1 (ev_locI en S₃.loc (i := 2) rfl rfl) mono_I) mono_B (ap_spec (F := wd) (j := j) (by show N < _; exact hN) (by omega) R' (G.keeps S₃.ukeep) (Fa.keeps S₃.ukeep) B.abs B.int B.divmod)) fun v s₄ hv S₄ => ?_)
    obtain ⟨t9, rfl⟩ := hv
    rw [show ((N : Int).natAbs) = N from rfl] at S₄
    have hal := ap_len wd N
    have c2 := (S₄.own (L + 1, o2) (by repeat (first | exact .head _ | refine .tail _ ?_))).1
    refine x_cons (x_append S₄ (ev_loc en S₄.loc (i := 1) rfl rfl) (ev_addB (ev_mulB (b := [65]) ev_bytes (ev_sub (Ev.imp (ev_cell (c := L + 1) rfl rfl rfl c2 hd2) fun _ _ e => ⟨t2, e⟩) (ev_call (ev_blt (G.keeps S₄.ukeep) rfl rfl rfl rfl B.len.1 B.len.2) kept_builtin (ea1 ((ev_loc en S₄.loc (i := 4) rfl rfl).imp fun _ _ e => ⟨t9, e⟩) mono_B) mono_I (cl_lenB (by simp; omega)))) (by decide) (by simp; omega) (by simp; omega) (by decide)) ((ev_loc en S₄.loc (i := 4) rfl rfl).imp fun _ _ e => ⟨t9, e⟩) ?_) (i := 0) rfl ?_ (fun v g3 f n3 s₇ l₅ l₆ hv S₇ => ?_) rfl)
    · simp; omega
    · refine le_line ?_
      rw [hy.1, digs, List.length_map, List.length_take]; omega
    obtain ⟨t10, rfl⟩ := hv
    have e9 : (List.replicate ((wd : Int) - ((ap wd N).toArray.size : Nat)).toNat [(65 : UInt8)]).flatten.toArray ++ (ap wd N).toArray = (dig wd N).toArray := by
      rw [← pad_dig, rep_flat, List.append_toArray]
      congr 3
      rw [List.size_toArray]; omega
    rw [e9] at S₇
    refine x_nil ⟨g3, _, [_, _, _], l₅, S₇, _, _, _, _, _, rfl, rfl, ?_⟩
    rw [digs, take_succ' hd, List.map_append]
    refine hy.push ⟨t10, ?_⟩
    show Value.bytes _ _ = Value.bytes (dig wd d.1.toNat).toArray t10
    rw [eN]; rfl
  · rintro g' vs' ms' s₃ l₂ ⟨x2, x3, x4, ys, n, rfl, rfl, hy⟩ S₃
    rw [hwy.1, List.take_length] at hy
    have hdl : ∀ x ∈ digs ws wd, x.length = wd := fun x hx => by
      obtain ⟨d, _, rfl⟩ := List.mem_map.mp hx
      exact dig_len _ _
    have hdn : (digs ws wd).length = ws.length := by simp [digs]
    have hfl := flat_len hdl
    have hcut := cuts_turned (by omega) hdl
    rw [hdn] at hfl hcut
    have hmw : ws.length * wd ≤ 100 * 10 := Nat.mul_le_mul hz.2 hwd.2
    have hm1 : 2 * 1 ≤ ws.length * wd := Nat.mul_le_mul hz.1 hwd.1
    have S₃ : St s g' L xs_turned [some (.ref wa), some (.ref D), x2, x3, x4] [(D, lobj ys n), (L + 1 + 1, o1), (L + 1, o2)] s₃ := S₃
    have cD := (S₃.own (D, lobj ys n) (by repeat (first | exact .head _ | refine .tail _ ?_))).1
    have c2 := (S₃.own (L + 1, o2) (by repeat (first | exact .head _ | refine .tail _ ?_))).1
    generalize hbl : (swOut (digs ws wd).flatten.toArray wd ws.length).toList = bl at hcut
    have hb : (swOut (digs ws wd).flatten.toArray wd ws.length) = bl.toArray := by rw [← hbl, Array.toArray_toList]
    have hbn : bl.length = ws.length * wd := by rw [← hbl, Array.length_toList, swOut_size, List.size_toArray, hfl]
    have e1l : (chrs bl).length = bl.length := by simp [chrs]
    refine xS_cons (xS_asgCell (c := L + 1 + 1) (v₀ := none) (P := fun v => ∃ t, v = .str (sgn bl) t) rfl rfl rfl S₃ (i := 1) rfl hd1 (EvS.imp (evS_meth (P₀ := fun v => ∃ t, v = .str "" t) (f := .builtin "str.join") (P := isS (Txt.join (Str.ofString "") (chrs bl))) ev_str (fun v s Q E h _ k => gm_strjoin h k) kept_builtin
      (eaS_cons (evS_compB (b := bl.toArray) (i := 0) (xs := ["octet"]) (cl := []) (fun k ys _ => All2 (fun d : Str => isS d) ((chrs bl).take k) ys mem0) R'.hand ce_of rfl rfl rfl rfl
        (EvS.imp (evS_call (ev_glob (G.keeps S₃.ukeep) rfl rfl rfl Fs.1) (Fs.keeps S₃.ukeep).2.kept (EvAll.toS (ea2
          (ev_meth (P₀ := fun v => ∃ t, v = .bytes #[] t) (f := .builtin "bytes.join") (P := isB (digs ws wd).flatten.toArray) ev_bytes (fun v s Q E h _ k => gm_bytesjoin h k) kept_builtin (ea1 (ev_loc en S₃.loc (i := 1) rfl rfl) mono_V) mono_B ?_) mono_B
          (Ev.imp (ev_cell (c := L + 1) rfl rfl rfl c2 hd2) fun _ _ e => ⟨t2, e⟩) mono_I)) mono_B
          (swap_spec (d := (digs ws wd).flatten.toArray) (wd := wd) (m := ws.length) (by rw [List.size_toArray, hfl]) (by omega) (by rw [List.size_toArray, hfl]; omega) (by omega) (by omega) R' (G.keeps S₃.ukeep) (Fs.keeps S₃.ukeep) B.range B.len B.bytes B.ba)) (fun v _ ⟨t, e⟩ => (⟨t, by rw [e, hb]⟩ : isB bl.toArray v mem0)))
        (le_line (by rw [List.size_toArray]; omega)) (fun _ _ _ _ h => h) (fun _ => All2.nil) (fun s' C D' k v ys p' hk hv => ?_)) (mono_lst fun _ _ _ _ h => h) (EvAll.toS ea_nil)) mono_S
      (Cl.toS (cl_strjoin (ds := chrs bl) (lobJ fun ys f h => ?_) ?_))) (fun v _ ⟨t, e⟩ => ⟨t, by rw [e, join_chrs]⟩)) fun v o1' s₄ hv hd1' S₄ => ?_)
    · have h0 : Cl prog w (A.deeper (envC (fnName d_turned) (fnScope d_turned) L f cdv [("signs", L + 1 + 1), ("wide", L + 1)])) (.builtin "bytes.join") s₃ [isB #[], isV (.ref D)] (isB (((digs ws wd).map List.toArray).foldl (· ++ ·) (#[] : Array UInt8))) :=
        cl_bytesjoin (ps := (digs ws wd).map List.toArray) (lobVC cD (All2.map hy)) (by rw [List.length_map]; omega) (by rw [flat_sum _ _ wd hdl, hdn]; omega)
      have e0 : ((digs ws wd).map List.toArray).foldl (· ++ ·) (#[] : Array UInt8) = (digs ws wd).flatten.toArray := by
        have := flat_arr (digs ws wd) []
        rw [List.nil_append] at this
        exact this
      rw [e0] at h0
      exact h0
    · obtain ⟨c, u, hc, rfl⟩ := hv
      have hc' : bl[k]? = some c := by simpa using hc
      have hb := c.toNat_lt
      refine fun g r kk st hJ St' => ⟨true, eb_nil, fun _ => ?_, fun h => by cases h⟩
      refine Ev.imp (ev_call (ev_blt (G.keeps (Pu.trans S₃.pu (p'.trans St'.pu)).keep) rfl rfl rfl rfl B.chr.1 B.chr.2) kept_builtin (ea1 (ev_locI (Ce.en ce_of rfl rfl) St'.loc (i := 0) rfl rfl) mono_I) mono_S (cl_chr (by omega) (by omega))) fun y f hy f' _ _ => ?_
      show All2 (fun d : Str => isS d) ((chrs bl).take (k + 1)) _ mem0
      have e1 : (chrs bl)[k]? = some ⟨#[c.toNat]⟩ := by unfold chrs; rw [List.getElem?_map, hc']; rfl
      rw [take_succ_get e1]
      exact hJ.push hy
    · have h' : All2 (fun d : Str => isS d) ((chrs bl).take bl.toArray.size) ys mem0 := h
      rw [List.size_toArray, ← e1l, List.take_length] at h'; exact h'
    · have e1 := chrs_sum bl
      rw [e1, show (Str.ofString "").length = 0 by decide +kernel]; omega
    obtain ⟨t3, rfl⟩ := hv
    have S₄ : St s g' L xs_turned [some (.ref wa), some (.ref D), x2, x3, x4] [(D, lobj ys n), (L + 1 + 1, o1'), (L + 1, o2)] s₄ := S₄
    have hc1 := (S₄.own (L + 1 + 1, o1') (by repeat (first | exact .head _ | refine .tail _ ?_))).1
    have hc2 := (S₄.own (L + 1, o2) (by repeat (first | exact .head _ | refine .tail _ ?_))).1
    have G₂ := G.keeps S₄.ukeep
    have hsl := sgn_len bl
    have hsz : Builtin.Range.rangeSize 0 ((sgn bl).length : Nat) wd = ws.length := by
      rw [hsl, rangeSize_pos (by omega) (by omega), hbn]
      rw [show (((ws.length * wd : Nat) : Int) + wd - 1) = (wd : Int) * ws.length + ((wd : Int) - 1) by rw [Int.natCast_mul, Int.mul_comm]; omega]
      rw [Int.add_comm, Int.add_mul_ediv_left _ _ (by omega), Int.ediv_eq_zero_of_lt (by omega) (by omega)]; omega
    refine S.of (x_cons (x_ret (ev_comp1 (n := ws.length) (i := 0) (P := fun k v => isI (0 + k * (wd : Int)) v mem0) (xs := ["start"]) (cl := [("wide", L + 1), ("signs", L + 1 + 1)]) (fun k ys _ => All2 (fun d : Str => isS d) ((cuts bl wd ws.length).take k) ys mem0) ce_of rfl rfl rfl rfl (fun s' p' => ?_) (le_line (by omega)) (fun _ _ _ _ h => h) (fun _ => All2.nil) (fun s' C D k v ys p' hk hv => ?_)) fun v s₅ p₅ hv => ?_))
    · exact src_range R'.hand (small_of (n := ws.length) hsz (by omega)) ws.length hsz (ev_call (ev_blt (G₂.keeps p'.keep) rfl rfl rfl rfl B.range.1 B.range.2) kept_type (ea3 ev_int mono_I (ev_call (ev_blt (G₂.keeps p'.keep) rfl rfl rfl rfl B.len.1 B.len.2) kept_builtin (ea1 (Ev.imp (ev_cell (c := L + 1 + 1) rfl rfl rfl (p'.keep _ _ hc1) hd1') fun _ _ e => ⟨t3, e⟩) mono_S) mono_I (cl_lenS (by omega))) mono_I
        (Ev.imp (ev_cell (c := L + 1) rfl rfl rfl (p'.keep _ _ hc2) hd2) fun _ _ e => ⟨t2, e⟩) mono_I) mono_range (cl_range3 (by omega) (noPy (by omega))))
    · obtain ⟨t4, rfl⟩ := hv
      refine fun g r kk st hJ St' => ⟨true, eb_nil, fun _ => ?_, fun h => by cases h⟩
      have hkm : (k + 1) * wd ≤ ws.length * wd := Nat.mul_le_mul_right _ (by omega)
      rw [Nat.succ_mul] at hkm
      have e0 : (0 + (k : Int) * (wd : Int)) = ((k * wd : Nat) : Int) := by rw [Int.natCast_mul]; omega
      rw [e0] at St'
      have kp := (p'.trans St'.pu).keep
      refine Ev.imp (ev_item (Ev.imp (ev_cell (c := L + 1 + 1) rfl rfl rfl (kp _ _ hc1) hd1') fun _ _ e => ⟨t3, e⟩) (ev_slice (ep_some (ev_locI (Ce.en ce_of rfl rfl) St'.loc (i := 0) rfl rfl)) (ep_some (Ev.isI_eq (ev_add (ev_locI (Ce.en ce_of rfl rfl) St'.loc (i := 0) rfl rfl) (Ev.imp (ev_cell (c := L + 1) rfl rfl rfl (kp _ _ hc2) hd2) fun _ _ e => ⟨t2, e⟩)) (b := ((k * wd + wd : Nat) : Int)) (by omega))) ep_none) mono_S (it_strSlice (by omega) (by omega) (le_line (by omega)))) fun y f hy f' _ _ => ?_
      show All2 (fun d : Str => isS d) ((cuts bl wd ws.length).take (k + 1)) _ mem0
      have e1 : (cuts bl wd ws.length)[k]? = some (cutStr (sgn bl) (k * wd) (k * wd + wd)) := by unfold cuts; rw [List.getElem?_map, List.getElem?_range hk]; rfl
      rw [take_succ_get e1]
      exact hJ.push hy
    · have q := S₄.pu.trans p₅
      obtain ⟨a, ys', q', rfl, ho, hy'⟩ := hv
      refine k _ _ q ⟨a, ys', q', rfl, Pu.fresh_le' S₄.pu _ _ ho, ?_⟩
      have h' : All2 (fun d : Str => isS d) ((cuts bl wd ws.length).take ws.length) ys' mem0 := hy'
      have e1 : (cuts bl wd ws.length).length = ws.length := by simp [cuts]
      rw [List.take_of_length_le (by omega), hcut, digs, List.map_map] at h'
      exact h'.mono (fun _ => mono_S) (fun _ _ e => by cases e)
end
end Mine
namespace Mine
/-- what holds at each turn of bisect's loop, a key given -/
inductive BisI (up : Nat → Bool) (z : Nat) (s : Shared) (L a lam : Addr) (x : Value) (n : Nat) (s' : Shared) : Prop where
  | mk (lo hi fu : Nat) (t t' : Tok) (md : Option Value) : hi ≤ z → n = hi - lo → hi - lo ≤ fu → bis up fu lo hi = bis up z 0 z → St s s.heap.get? L xs_bis [some (.ref a), some x, some (.int lo t), some (.int hi t'), some (.ref lam), md] [] s' → BisI up z s L a lam x n s'
def upRK (x : Str) (tn : Nat → Str) (row : List Nat) (m : Nat) : Bool := ltS x (tn (row.getD m 0))
def upLK (x : Str) (tn : Nat → Str) (row : List Nat) (m : Nat) : Bool := !ltS (tn (row.getD m 0)) x
section
variable {prog : Program} {w : World} {A : Around} {s : Shared} {mg mb : Str → Option Value}
set_option maxHeartbeats 4000000 in
theorem bisRK_spec {f a lam : Addr} {dV kV : Value} {x : Str} {t1 : Tok} {row : List Nat} {tn : Nat → Str} {ys : Array Value} {n₁ j : Nat} {Q : Value → Shared → Prop} {E : Value → Shared → Prop} (hn : row.length ≤ 1000) (R : Rm (j + 2) A) (G : GL mg mb s.heap) (F : Fd s.heap mg d_bisR f dV kV) (B : Bd s.heap dV kV) (hr : mg "len" = none ∧ mb "len" = some (.builtin "len"))
    (hys : s.heap.get? a = some (lobj ys n₁)) (hy : All2 (fun n : Nat => isI n) row ys mem0) (hkk : Kept prog w (.ref lam) s.heap) (hkey : ∀ env' s' i, Pu s s' → i ∈ row → Cl prog w (A.deeper env') (.ref lam) s' [isI (i : Nat)] (isS (tn i)))
    (k : ∀ t s', Pu s s' → Q (.int (bis (upRK x tn row) row.length 0 row.length : Nat) t) s') : wpAny (model prog w) A (call (.ref f) [.ref a, .str x t1] [("key", .ref lam)]) Q E s := by
  obtain ⟨T, oT, nT, t0, rfl, hT, hTd⟩ := B.d
  refine fn_plain (xs := xs_bis) (vs := [some (.ref a), some (.str x t1), some (.int 0 t0), some .none, some (.ref lam), none]) R G.lim F.2 (binds := [("a", .ref a), ("x", .str x t1), ("lo", .int 0 t0), ("hi", .none), ("key", .ref lam)]) (fun _ _ _ _ _ => BindsTo.of_defaults rfl hT hTd rfl rfl) (by decide +kernel) (by intro x hx; simp at hx; rcases hx with rfl | rfl | rfl | rfl | rfl <;> rfl) ⟨rfl, rfl, rfl, rfl, rfl, rfl, trivial⟩ fun L cdv s₁ S₁ => ?_
  have en : En (envOf (fnName d_bisR) (fnScope d_bisR) L f cdv) xs_bis := en_of
  refine x_cons (x_if S₁ (eb_cmp c_ltI (ev_locI en S₁.loc (i := 2) rfl rfl) ev_int) (fun h => by simp at h) fun _ s₂ S₂ => x_nil ?_)
  have hI : ∀ {s' : Shared}, (∀ b o, s.heap.get? b = some o → s'.heap.get? b = some o) → s'.heap.IsList a ys := fun k => isList_lobj (k _ _ hys)
  refine x_cons (x_if S₂ (eb_cmp c_isN (ev_loc en S₂.loc (i := 3) rfl rfl) ev_none) (fun _ s₃ S₃ => x_cons (x_asgI (a := (row.length : Nat)) en rfl S₃ (i := 3) rfl (ev_call (ev_blt (G.keeps S₃.ukeep) rfl rfl rfl rfl hr.1 hr.2) kept_builtin (ea1 (ev_loc en S₃.loc (i := 0) rfl rfl) mono_V) mono_I (cl_lenL (lstVC (hI S₃.ukeep) ⟨hy.1, by omega⟩))) fun t2 s₄ S₄ => x_nil ?_)) (fun h => absurd h (by decide)))
  refine x_cons (x_if S₄ (eb_cmp c_isN (ev_loc en S₄.loc (i := 4) rfl rfl) ev_none) (fun h => absurd (show false = true from h) Bool.false_ne_true) (fun _ s₅ S₅ => x_cons (x_while (BisI (upRK x tn row) row.length s L a lam (.str x t1)) row.length ⟨0, row.length, row.length, t0, t2, none, Nat.le_refl _, rfl, Nat.le_refl _, rfl, S₅⟩ ?_)))
  rintro n s₆ ⟨lo, hi, fu, t, t', md, hh, rfl, hf, e, S₆⟩
  refine ⟨decide ((lo : Int) < hi), eb_cmp c_ltI (ev_locI en S₆.loc (i := 2) rfl rfl) (ev_locI en S₆.loc (i := 3) rfl rfl), fun hb s₇ p₇ => ?_, fun hb s₇ p₇ => x_nil ?_⟩
  · have hlt : lo < hi := by have := of_decide_eq_true hb; omega
    cases fu with
    | zero => omega
    | succ fu =>
    have S₇ := S₆.up p₇
    refine x_cons (x_asgI (a := ((lo + hi) / 2 : Nat)) en rfl S₇ (i := 5) rfl ((ev_fdiv (ev_add (ev_locI en S₇.loc (i := 2) rfl rfl) (ev_locI en S₇.loc (i := 3) rfl rfl)) ev_int (by decide) noPy).isI_eq (by rw [Int.fdiv_eq_ediv_of_nonneg _ (by decide)]; omega)) fun t3 s₈ S₈ => ?_)
    generalize hmid : (lo + hi) / 2 = mid at *
    have hm1 : mid < row.length := by omega
    have hd : row[mid]? = some (row.getD mid 0) := by rw [List.getD_eq_getElem?_getD, List.getElem?_eq_getElem hm1]; rfl
    rw [bis, if_pos hlt, hmid] at e
    have hmem := List.mem_of_getElem? hd
    obtain ⟨y, hy1, t4, hy2⟩ := hy.2 mid _ hd
    have hkept : Kept prog w (.ref lam) s₈.heap := fun h q => hkk h fun b o e => q _ _ (S₈.ukeep b o e)
    have hit : ∀ p1 p2 p3 p4 p5, Ev prog w (A.deeper (envOf (fnName d_bisR) (fnScope d_bisR) L f cdv)) (eval (.Call (.Name "key" p4) [.Subscript (.Name "a" p1) (.Name "mid" p2) p3] [] p5) (envOf (fnName d_bisR) (fnScope d_bisR) L f cdv)) s₈ (isS (tn (row.getD mid 0))) := fun _ _ _ _ _ =>
      ev_call (ev_loc en S₈.loc (i := 4) rfl rfl) hkept (ea1 (P := isI (row.getD mid 0 : Nat)) (ev_item (ev_loc en S₈.loc (i := 0) rfl rfl) (ev_locI en S₈.loc (i := 5) rfl rfl) (mono_of _) (it_list (P := fun v => ∃ t, v = Value.int (row.getD mid 0 : Nat) t) (lstVC (hI S₈.ukeep) ⟨y, by simpa using hy1, t4, hy2⟩) (by omega) (by omega))) mono_I) mono_S (hkey _ _ _ S₈.pu hmem)
    refine x_cons (x_if S₈ (eb_cmp c_ltS (ev_loc en S₈.loc (i := 1) rfl rfl |>.imp fun _ _ e => ⟨t1, e⟩) (hit _ _ _ _ _)) (fun h s₉ S₉ => ?_) fun h s₉ S₉ => ?_)
    · rw [if_pos (show upRK x tn row mid = true from h)] at e
      refine x_cons (x_asgI (a := (mid : Nat)) en rfl S₉ (i := 3) rfl (ev_locI en S₉.loc (i := 5) rfl rfl) fun t5 s₁₀ S₁₀ => x_nil (x_nil ?_))
      exact ⟨mid - lo, by omega, lo, mid, fu, t, t5, _, by omega, rfl, by omega, e, S₁₀⟩
    · rw [if_neg (by rw [show upRK x tn row mid = false from h]; decide)] at e
      refine x_cons (x_asgI (a := (mid + 1 : Nat)) en rfl S₉ (i := 2) rfl ((ev_add (ev_locI en S₉.loc (i := 5) rfl rfl) ev_int).isI_eq (by omega)) fun t5 s₁₀ S₁₀ => x_nil (x_nil ?_))
      exact ⟨hi - (mid + 1), by omega, mid + 1, hi, fu, t5, t', _, by omega, rfl, by omega, e, S₁₀⟩
  · have hge : ¬ lo < hi := by have := of_decide_eq_false hb; omega
    rw [bis_end hge] at e
    have S₇ := S₆.up p₇
    refine x_cons (x_ret (ev_locI en S₇.loc (i := 2) rfl rfl) fun v s₈ p₈ hv => ?_)
    obtain ⟨t5, rfl⟩ := hv
    have q := S₇.pu.trans p₈
    rw [e]
    exact ⟨q, k t5 _ q⟩
set_option maxHeartbeats 4000000 in
theorem bisLK_spec {f a lam : Addr} {dV kV : Value} {x : Str} {t1 : Tok} {row : List Nat} {tn : Nat → Str} {ys : Array Value} {n₁ j : Nat} {Q : Value → Shared → Prop} {E : Value → Shared → Prop} (hn : row.length ≤ 1000) (R : Rm (j + 2) A) (G : GL mg mb s.heap) (F : Fd s.heap mg d_bisL f dV kV) (B : Bd s.heap dV kV) (hr : mg "len" = none ∧ mb "len" = some (.builtin "len"))
    (hys : s.heap.get? a = some (lobj ys n₁)) (hy : All2 (fun n : Nat => isI n) row ys mem0) (hkk : Kept prog w (.ref lam) s.heap) (hkey : ∀ env' s' i, Pu s s' → i ∈ row → Cl prog w (A.deeper env') (.ref lam) s' [isI (i : Nat)] (isS (tn i)))
    (k : ∀ t s', Pu s s' → Q (.int (bis (upLK x tn row) row.length 0 row.length : Nat) t) s') : wpAny (model prog w) A (call (.ref f) [.ref a, .str x t1] [("key", .ref lam)]) Q E s := by
  obtain ⟨T, oT, nT, t0, rfl, hT, hTd⟩ := B.d
  refine fn_plain (xs := xs_bis) (vs := [some (.ref a), some (.str x t1), some (.int 0 t0), some .none, some (.ref lam), none]) R G.lim F.2 (binds := [("a", .ref a), ("x", .str x t1), ("lo", .int 0 t0), ("hi", .none), ("key", .ref lam)]) (fun _ _ _ _ _ => BindsTo.of_defaults rfl hT hTd rfl rfl) (by decide +kernel) (by intro x hx; simp at hx; rcases hx with rfl | rfl | rfl | rfl | rfl <;> rfl) ⟨rfl, rfl, rfl, rfl, rfl, rfl, trivial⟩ fun L cdv s₁ S₁ => ?_
  have en : En (envOf (fnName d_bisL) (fnScope d_bisL) L f cdv) xs_bis := en_of
  refine x_cons (x_if S₁ (eb_cmp c_ltI (ev_locI en S₁.loc (i := 2) rfl rfl) ev_int) (fun h => by simp at h) fun _ s₂ S₂ => x_nil ?_)
  have hI : ∀ {s' : Shared}, (∀ b o, s.heap.get? b = some o → s'.heap.get? b = some o) → s'.heap.IsList a ys := fun k => isList_lobj (k _ _ hys)
  refine x_cons (x_if S₂ (eb_cmp c_isN (ev_loc en S₂.loc (i := 3) rfl rfl) ev_none) (fun _ s₃ S₃ => x_cons (x_asgI (a := (row.length : Nat)) en rfl S₃ (i := 3) rfl (ev_call (ev_blt (G.keeps S₃.ukeep) rfl rfl rfl rfl hr.1 hr.2) kept_builtin (ea1 (ev_loc en S₃.loc (i := 0) rfl rfl) mono_V) mono_I (cl_lenL (lstVC (hI S₃.ukeep) ⟨hy.1, by omega⟩))) fun t2 s₄ S₄ => x_nil ?_)) (fun h => absurd h (by decide)))
  refine x_cons (x_if S₄ (eb_cmp c_isN (ev_loc en S₄.loc (i := 4) rfl rfl) ev_none) (fun h => absurd (show false = true from h) Bool.false_ne_true) (fun _ s₅ S₅ => x_cons (x_while (BisI (upLK x tn row) row.length s L a lam (.str x t1)) row.length ⟨0, row.length, row.length, t0, t2, none, Nat.le_refl _, rfl, Nat.le_refl _, rfl, S₅⟩ ?_)))
  rintro n s₆ ⟨lo, hi, fu, t, t', md, hh, rfl, hf, e, S₆⟩
  refine ⟨decide ((lo : Int) < hi), eb_cmp c_ltI (ev_locI en S₆.loc (i := 2) rfl rfl) (ev_locI en S₆.loc (i := 3) rfl rfl), fun hb s₇ p₇ => ?_, fun hb s₇ p₇ => x_nil ?_⟩
  · have hlt : lo < hi := by have := of_decide_eq_true hb; omega
    cases fu with
    | zero => omega
    | succ fu =>
    have S₇ := S₆.up p₇
    refine x_cons (x_asgI (a := ((lo + hi) / 2 : Nat)) en rfl S₇ (i := 5) rfl ((ev_fdiv (ev_add (ev_locI en S₇.loc (i := 2) rfl rfl) (ev_locI en S₇.loc (i := 3) rfl rfl)) ev_int (by decide) noPy).isI_eq (by rw [Int.fdiv_eq_ediv_of_nonneg _ (by decide)]; omega)) fun t3 s₈ S₈ => ?_)
    generalize hmid : (lo + hi) / 2 = mid at *
    have hm1 : mid < row.length := by omega
    have hd : row[mid]? = some (row.getD mid 0) := by rw [List.getD_eq_getElem?_getD, List.getElem?_eq_getElem hm1]; rfl
    rw [bis, if_pos hlt, hmid] at e
    have hmem := List.mem_of_getElem? hd
    obtain ⟨y, hy1, t4, hy2⟩ := hy.2 mid _ hd
    have hkept : Kept prog w (.ref lam) s₈.heap := fun h q => hkk h fun b o e => q _ _ (S₈.ukeep b o e)
    have hit : ∀ p1 p2 p3 p4 p5, Ev prog w (A.deeper (envOf (fnName d_bisL) (fnScope d_bisL) L f cdv)) (eval (.Call (.Name "key" p4) [.Subscript (.Name "a" p1) (.Name "mid" p2) p3] [] p5) (envOf (fnName d_bisL) (fnScope d_bisL) L f cdv)) s₈ (isS (tn (row.getD mid 0))) := fun _ _ _ _ _ =>
      ev_call (ev_loc en S₈.loc (i := 4) rfl rfl) hkept (ea1 (P := isI (row.getD mid 0 : Nat)) (ev_item (ev_loc en S₈.loc (i := 0) rfl rfl) (ev_locI en S₈.loc (i := 5) rfl rfl) (mono_of _) (it_list (P := fun v => ∃ t, v = Value.int (row.getD mid 0 : Nat) t) (lstVC (hI S₈.ukeep) ⟨y, by simpa using hy1, t4, hy2⟩) (by omega) (by omega))) mono_I) mono_S (hkey _ _ _ S₈.pu hmem)
    refine x_cons (x_if S₈ (eb_cmp c_ltS (hit _ _ _ _ _) (ev_loc en S₈.loc (i := 1) rfl rfl |>.imp fun _ _ e => ⟨t1, e⟩)) (fun h s₉ S₉ => ?_) fun h s₉ S₉ => ?_)
    · rw [if_neg (by rw [show upLK x tn row mid = false from congrArg (!·) h]; decide)] at e
      refine x_cons (x_asgI (a := (mid + 1 : Nat)) en rfl S₉ (i := 2) rfl ((ev_add (ev_locI en S₉.loc (i := 5) rfl rfl) ev_int).isI_eq (by omega)) fun t5 s₁₀ S₁₀ => x_nil (x_nil ?_))
      exact ⟨hi - (mid + 1), by omega, mid + 1, hi, fu, t5, t', _, by omega, rfl, by omega, e, S₁₀⟩
    · rw [if_pos (show upLK x tn row mid = true from congrArg (!·) h)] at e
      refine x_cons (x_asgI (a := (mid : Nat)) en rfl S₉ (i := 3) rfl (ev_locI en S₉.loc (i := 5) rfl rfl) fun t5 s₁₀ S₁₀ => x_nil (x_nil ?_))
      exact ⟨mid - lo, by omega, lo, mid, fu, t, t5, _, by omega, rfl, by omega, e, S₁₀⟩
  · have hge : ¬ lo < hi := by have := of_decide_eq_false hb; omega
    rw [bis_end hge] at e
    have S₇ := S₆.up p₇
    refine x_cons (x_ret (ev_locI en S₇.loc (i := 2) rfl rfl) fun v s₈ p₈ hv => ?_)
    obtain ⟨t5, rfl⟩ := hv
    have q := S₇.pu.trans p₈
    rw [e]
    exact ⟨q, k t5 _ q⟩
end
end Mine
namespace Mine
theorem own_fresh {u s s' : Shared} {g : Mem} {L : Addr} {xs : List Str} {vs : List (Option Value)} {ms : List (Addr × Obj)} (S : St u g L xs vs ms s) (p : Pu s s') {q : Addr × Obj} (h : q ∈ ms) : fresh u.heap s'.heap q.1 = some q.2 := by
  refine fresh_of ?_ (p.keep _ _ (S.own _ h).1)
  cases e : u.heap.get? q.1 with
  | none => rfl
  | some o => have := S.uk _ _ e; rw [(S.own _ h).2.2] at this; cases this
theorem fresh_hid {s : Shared} {P b : Addr} {h' : Heap} {o : Obj} (e : fresh (hid s P).heap h' b = some o) (hb : b ≠ P) : fresh s.heap h' b = some o := by
  refine fresh_of ?_ (fresh_le _ _ e)
  cases q : s.heap.get? b with
  | none => rfl
  | some x => have := hideAll_get [P] q (by simpa using hb); rw [fresh_new e] at this; cases this
theorem All2.take {α : Type} {P : α → Value → Mem → Prop} {ds : List α} {l : List Value} {f : Mem} (p : Nat) (h : All2 P ds l.toArray f) : All2 P (ds.take p) (l.take p).toArray f := by
  have hl : l.length = ds.length := by have := h.1; simpa using this
  refine ⟨by simp [hl], fun i d e => ?_⟩
  rw [List.getElem?_take] at e
  split at e
  · rename_i hi
    obtain ⟨y, hy, hp⟩ := h.2 i d e
    refine ⟨y, ?_, hp⟩
    rw [List.getElem?_toArray] at hy ⊢
    rw [List.getElem?_take, if_pos hi]; exact hy
  · cases e
theorem All2.drop {α : Type} {P : α → Value → Mem → Prop} {ds : List α} {l : List Value} {f : Mem} (p : Nat) (h : All2 P ds l.toArray f) : All2 P (ds.drop p) (l.drop p).toArray f := by
  have hl : l.length = ds.length := by have := h.1; simpa using this
  refine ⟨by simp [hl], fun i d e => ?_⟩
  rw [List.getElem?_drop] at e
  obtain ⟨y, hy, hp⟩ := h.2 _ d e
  refine ⟨y, ?_, hp⟩
  rw [List.getElem?_toArray] at hy ⊢
  rw [List.getElem?_drop]; exact hy
/-- a list with one more put in -/
def putN {α : Type} (l : List α) (p : Nat) (x : α) : List α := l.take p ++ x :: l.drop p
theorem All2.ins {α : Type} {P : α → Value → Mem → Prop} {ds : List α} {ys : Array Value} {f : Mem} {d : α} {v : Value} (p : Nat) (h : All2 P ds ys f) (hv : P d v f) : All2 P (putN ds p d) (Mine.ins ys p v) f := by
  have h' : All2 P ds ys.toList.toArray f := by rw [Array.toArray_toList]; exact h
  have h1 : All2 P [d] #[v] f := All2.push All2.nil hv
  have h2 := (h'.take p).app (h1.app (h'.drop p))
  have e : Mine.ins ys p v = (ys.toList.take p).toArray ++ (#[v] ++ (ys.toList.drop p).toArray) := by
    unfold Mine.ins
    rw [← Array.toList_inj]; simp
  rw [e]
  exact h2
theorem putN_len {α : Type} {l : List α} {p : Nat} {x : α} : (putN l p x).length = l.length + 1 := by
  unfold putN
  simp only [List.length_append, List.length_take, List.length_cons, List.length_drop]; omega
section
variable {prog : Program} {w : World} {A : Around} {s₀ : Shared} {g : Mem} {mg mb : Str → Option Value}
/-- lambda spot: turned[spot] -/
theorem lam_spec {lam cT tA : Addr} {qual : Str} {params : Arguments} {body : Expr} {scope : Scope} {ts : List Str} {tys : Array Value} {oT : Obj} {tn i j : Nat} (hbody : ∃ p1 p2 p3, body = .Subscript (.Name "turned" p1) (.Name "spot" p2) p3)
    (hbind : ∀ pm cdv ct v, bindArgs (kla_fn "<lambda>" qual params body scope [("turned", cT)] pm cdv ct) ⟨[v], []⟩ = pure ([("spot", v)] : List (Str × Value))) (hnames : scope.names = ([("spot", NameKind.local), ("turned", NameKind.free)] : List (Str × NameKind))) (hk : scope.kind = .function) (hco : scope.isCoroutine = false) (hgen : scope.isGenerator = false)
    (R : Rm (j + 1) A) (lim : s₀.heap.NoLimit) (La : LamAt g lam qual params body scope [("turned", cT)]) (lg : Le g s₀.heap.get?) (hc : s₀.heap.get? cT = some oT) (hd : oT.data = .cell (some (.ref tA))) (ht : s₀.heap.get? tA = some (lobj tys tn)) (hty : All2 (fun d : Str => isS d) ts tys mem0) (hi : i < ts.length) (hz : ts.length ≤ 1000) :
    Cl prog w A (.ref lam) s₀ [isI (i : Nat)] (isS (ts.getD i default)) := fun l s Q E fg p le ha k => by
  obtain ⟨_, rfl, t1, rfl⟩ := ha.one
  obtain ⟨p1, p2, p3, rfl⟩ := hbody
  refine lam_call (xs := ["spot"]) (vs := [some (.int (i : Nat) t1)]) R (lim.keeps p.keep) La (fun b o e => p.keep _ _ (lg _ _ e)) (fun _ _ _ => hbind _ _ _ _) (by rw [hnames]; decide +kernel) (by rw [hnames]; intro x hx; simp at hx; rcases hx with rfl; rfl) ⟨rfl, trivial⟩ (fun L cdv s₁ S₁ => ?_) hco hgen hk
  have en : En (envC qual scope L lam cdv [("turned", cT)]) ["spot"] := ⟨hk, fun x hx => by
      have : x = "spot" := by simpa using hx
      subst this
      show List.lookup _ scope.names = _
      rw [hnames]; rfl, by decide +kernel, by decide +kernel, rfl, rfl⟩
  have hd2 : ts[i]? = some (ts.getD i default) := by rw [List.getD_eq_getElem?_getD, List.getElem?_eq_getElem hi]; rfl
  obtain ⟨y, hy1, hy2⟩ := hty.2 i _ hd2
  have kp : ∀ b o, s₀.heap.get? b = some o → s₁.heap.get? b = some o := fun b o e => S₁.ukeep _ _ (p.keep _ _ e)
  refine ev_item (P := isS (ts.getD i default)) (s₀ := s₁) (ev_free hk (by show List.lookup _ scope.names = _; rw [hnames]; rfl) rfl (kp _ _ hc) hd) (ev_locI en S₁.loc (i := 0) rfl rfl) mono_S (it_list (P := fun v => ∃ t, v = Value.str (ts.getD i default) t) (lstVC (isList_lobj (kp _ _ ht)) ⟨y, by simpa using hy1, hy2⟩) (by omega) (by omega)) s₁ _ _ (Pu.refl s₁) fun v s₂ p₂ hv => ?_
  exact k v s₂ (S₁.pu.trans p₂) hv
end
end Mine
namespace Mine
/-- the rows behind so many turns: the row that is kept, the counts -/
def ahN (pl : Nat → List Nat → Nat) : Nat → List Nat × List Nat
  | 0 => ([], [])
  | k + 1 => (putN (ahN pl k).1 (pl k (ahN pl k).1) k, (ahN pl k).2 ++ [(ahN pl k).1.length - pl k (ahN pl k).1])
theorem ahN_len {pl : Nat → List Nat → Nat} : ∀ k, (ahN pl k).1.length = k ∧ (ahN pl k).2.length = k
  | 0 => ⟨rfl, rfl⟩
  | k + 1 => by
    obtain ⟨h1, h2⟩ := ahN_len (pl := pl) k
    rw [ahN]
    exact ⟨by rw [putN_len, h1], by rw [List.length_append, h2]; rfl⟩
theorem ahN_lt {pl : Nat → List Nat → Nat} : ∀ k, ∀ x ∈ (ahN pl k).1, x < k
  | 0, x, h => nomatch h
  | k + 1, x, h => by
    rw [ahN] at h
    unfold putN at h
    rcases List.mem_append.mp h with h | h
    · have := ahN_lt k x (List.mem_of_mem_take h); omega
    · rcases List.mem_cons.mp h with h | h
      · omega
      · have := ahN_lt k x (List.mem_of_mem_drop h); omega
/-- where a word's turn belongs, told by its turned word -/
def plA (ts : List Str) (k : Nat) (row : List Nat) : Nat := bis (upRK (ts.getD k default) (fun i => ts.getD i default) row) row.length 0 row.length
theorem plA_le {ts : List Str} {k : Nat} {row : List Nat} : plA ts k row ≤ row.length := bis_le (Nat.zero_le _)
def lamE (d : Stmt) : Expr := match ((fnBody d)[1]?.getD (.Pass default) : Stmt) with
  | Stmt.For _ _ (Stmt.Assign _ (Expr.Call _ _ (kw :: _) _) _ :: _) _ _ => kw.value
  | _ => .Constant .none 0 default
def lamPos : Expr → Pos
  | .Lambda _ _ _ p => p
  | _ => default
abbrev d_ahead : Stmt := stm PySem.Challenge.pw_wn0038_02 11
def xs_ahead : List Str := ["row", "counts", "turn", "place"]
inductive AhJ (pos : Pos) (qual : Str) (rA cA L P : Addr) (oT : Obj) (row cs : List Nat) (g : Mem) (vs : List (Option Value)) (ms : List (Addr × Obj)) : Prop where
  | mk (x2 x3 : Option Value) (ys zs ps : Array Value) (n m : Nat) : vs = [some (.ref rA), some (.ref cA), x2, x3] → ms = [(rA, lobj ys n), (cA, lobj zs m), (L + 1, oT), (P, tabObj ps)] → All2 (fun n : Nat => isI n) row ys mem0 → All2 (fun n : Nat => isI n) cs zs mem0 → TabOk pos qual ps g → AhJ pos qual rA cA L P oT row cs g vs ms
section
variable {prog : Program} {w : World} {A : Around} {s : Shared} {mg mb : Str → Option Value}
set_option maxHeartbeats 8000000 in
theorem ahead_spec {f fb c P tA : Addr} {dV kV : Value} {ts : List Str} {tys : Array Value} {tn j : Nat} {Q : Value → Shared → Prop} {E : Value → Shared → Prop} (hz : ts.length ≤ 500) (R : Rm (j + 4) A) (G : GL mg mb (hid s P).heap) (F : FnAtC (hid s P).heap f (fnName d_ahead) (fnPar d_ahead) (fnBody d_ahead) (fnScope d_ahead) .none .none c)
    (C : CodeHd (hid s P).heap c P) (hb : (hid s P).heap.BuiltinsAt mg P) (hgP : mainGlobals ≠ P) (hP : s.heap.get? P = some (tabObj #[])) (Fr : Fd (hid s P).heap mg d_bisR fb dV kV) (Br : Bd (hid s P).heap dV kV) (B : Bs mg mb)
    (ht : (hid s P).heap.get? tA = some (lobj tys tn)) (hty : All2 (fun d : Str => isS d) ts tys mem0)
    (k : ∀ v s', PuX P s s' → isTup (fun ys f => AllP [Lof (fun n : Nat => isI n) (ahN (plA ts) ts.length).1, Lof (fun n : Nat => isI n) (ahN (plA ts) ts.length).2] ys.toList f) v (fresh s.heap s'.heap) → Q v s') : wpAny (model prog w) A (call (.ref f) [.ref tA] []) Q E s := by
  have un : ∀ b o, (hid s P).heap.get? b = some o → s.heap.get? b = some o := fun b o e => of_hideAll _ e
  refine fnX_cells (xs := xs_ahead) (vs := [none, none, none, none]) (fun n => [("turned", n)]) (cv := [some (.ref tA)]) R (G.lim.keeps un) (F.keeps un) (binds := [("turned", .ref tA)]) (fun _ _ _ _ _ => BindsTo.of_eq rfl) (fun _ => rfl)
    (by intro n x hx; simp at hx; rcases hx with rfl; exact .inr ⟨rfl, rfl⟩) ⟨rfl, rfl, rfl, rfl, trivial⟩ (fun _ => rfl) (fun _ => by show (["turned"] : List Str).Nodup; decide +kernel) fun L ms s₁ hM S₁ => ?_
  obtain ⟨oT, _, rfl, hdT, hM⟩ := CellsM.cons hM
  obtain rfl := CellsM.nil hM
  have S₁ := S₁.hide hP
  have R' := R.deeper (envC (fnName d_ahead) (fnScope d_ahead) L f (.ref c) [("turned", L + 1)])
  have en : En (envC (fnName d_ahead) (fnScope d_ahead) L f (.ref c) [("turned", L + 1)]) xs_ahead := en_ofC
  refine x_cons (x_unpackS R'.hand en rfl S₁ (i := 0) (j := 1) rfl rfl ev_tupLL ?_)
  rintro y1 y2 nw g₂ f₂ s₂ l₂ - ⟨rA, cA, n₀, m₀, rfl, rfl, rfl⟩ S₂
  have S₂ : St (hid s P) g₂ L xs_ahead [some (.ref rA), some (.ref cA), none, none] [(rA, lobj #[] n₀), (cA, lobj #[] m₀), (L + 1, oT), (P, tabObj #[])] s₂ := S₂
  have G₂ := G.keeps S₂.ukeep
  have c₂ := (S₂.own (L + 1, oT) (by repeat (first | exact .head _ | refine .tail _ ?_))).1
  refine x_cons (x_for1 (i := 2) (n := ts.length) (P := fun k v => isI (0 + k * 1) v (fun _ => none)) (fun k g vs ms => AhJ (lamPos (lamE d_ahead)) (fnName d_ahead ++ ".<locals>." ++ "<lambda>") rA cA L P oT (ahN (plA ts) k).1 (ahN (plA ts) k).2 g vs ms) en rfl S₂ rfl
    (src_range R'.hand (small_of (n := ts.length) (size_up (by omega)) (by omega)) _ (size_up (by omega)) (ev_call (ev_blt G₂ rfl rfl rfl rfl B.range.1 B.range.2) kept_type (ea1 (P := isI (ts.length : Nat)) (ev_call (ev_blt G₂ rfl rfl rfl rfl B.len.1 B.len.2) kept_builtin (ea1 (ev_cell (c := L + 1) rfl rfl rfl c₂ hdT) mono_V) mono_I (cl_lenL (n := ts.length) (lstVC (isList_lobj (S₂.ukeep _ _ ht)) ⟨hty.1, by omega⟩))) mono_I) mono_range cl_range1))
    (fun g' l => ⟨none, none, #[], #[], #[], n₀, m₀, rfl, rfl, All2.nil, All2.nil, TabOk.nil⟩) ?_ ?_)
  · rintro ki v g' vs' ms' r s₃ hk ⟨t1, rfl⟩ l₃ ⟨x2, x3, ys, zs, ps, n, m, rfl, rfl, hys, hzs, hT⟩ S₃
    rw [show (0 + (ki : Int) * 1) = ki by omega] at S₃
    have S₃ : St (hid s P) g' L xs_ahead [some (.ref rA), some (.ref cA), some (.int (ki : Nat) t1), x3] ((rA, lobj ys n) :: (cA, lobj zs m) :: (L + 1, oT) :: (P, tabObj ps) :: r) s₃ := S₃
    have hlen := ahN_len (pl := plA ts) ki
    have hlt := ahN_lt (pl := plA ts) ki
    generalize hrw : (ahN (plA ts) ki).1 = row at *
    generalize hcs : (ahN (plA ts) ki).2 = cs at *
    have c₃ := (S₃.own (L + 1, oT) (by repeat (first | exact .head _ | refine .tail _ ?_))).1
    have hd2 : ts[ki]? = some (ts.getD ki default) := by rw [List.getD_eq_getElem?_getD, List.getElem?_eq_getElem hk]; rfl
    obtain ⟨y, hy1, hy2⟩ := hty.2 ki _ hd2
    refine x_cons (wpAny_Assign_Name (call_kw1 (Ps := [isV (.ref rA), isS (ts.getD ki default)]) (f := .ref fb) (ev_glob (G.keeps S₃.ukeep) rfl rfl rfl Fr.1)
      (ea2 (ev_loc en S₃.loc (i := 0) rfl rfl) mono_V (ev_item (ev_cell (c := L + 1) rfl rfl rfl c₃ hdT) (ev_locI en S₃.loc (i := 2) rfl rfl) mono_S (it_list (P := fun v => ∃ t, v = Value.str (ts.getD ki default) t) (lstVC (isList_lobj (S₃.ukeep _ _ ht)) ⟨y, by simpa using hy1, hy2⟩) (by omega) (by omega))) mono_S) fun l s₄ p₄ hl => ?_) rfl)
    obtain ⟨_, _, rfl, e, tx, rfl⟩ := hl.two
    cases e
    refine ev_lam (i := 3) (S₃.up p₄) rfl hT rfl rfl G.g rfl C hb hgP fun lam g'' ps' s₅ l₅ hT' La S₅ => ?_
    have hrow := (S₅.own (rA, lobj ys n) (by repeat (first | exact .head _ | refine .tail _ ?_))).1
    have c₅ := (S₅.own (L + 1, oT) (by repeat (first | exact .head _ | refine .tail _ ?_))).1
    have hkept : ∀ {s' : Shared}, Pu s₅ s' → Kept prog w (.ref lam) s'.heap := fun q => by
      obtain ⟨pm, cdv, ctv, h1, _⟩ := La.fn
      exact kept_func (q.keep _ _ (S₅.gk _ _ h1)) rfl
    refine ⟨(Fr.keeps S₅.ukeep).2.kept, bisRK_spec (tn := fun i => ts.getD i default) (row := row) (by omega) R' (G.keeps S₅.ukeep) (Fr.keeps S₅.ukeep) (Br.keeps S₅.ukeep) B.len hrow hys (hkept (Pu.refl _)) (fun env' s' i q hi => ?_) fun t s₆ p₆ => ?_⟩
    · have := hlt i hi
      exact lam_spec (j := j) ⟨_, _, _, rfl⟩ (fun _ _ _ _ => rfl) rfl rfl rfl rfl ((R'.deeper env').lower (by omega)) ((G.lim.keeps S₅.ukeep).keeps q.keep) La (S₅.gk.trans q.keep) (q.keep _ _ c₅) hdT (q.keep _ _ (S₅.ukeep _ _ ht)) hty (by omega) (by omega)
    · have S₆ := S₅.up p₆
      refine st_name (i := 3) en rfl S₆ rfl fun s₇ S₇ => ?_
      have hple : plA ts ki row ≤ row.length := plA_le
      have S₇ : St (hid s P) g'' L xs_ahead [some (.ref rA), some (.ref cA), some (.int (ki : Nat) t1), some (.int (plA ts ki row : Nat) t)] ((rA, lobj ys n) :: (cA, lobj zs m) :: (L + 1, oT) :: (P, tabObj ps') :: r) s₇ := S₇
      generalize hpl : plA ts ki row = pl at *
      have hrow7 := (S₇.own (rA, lobj ys n) (by repeat (first | exact .head _ | refine .tail _ ?_))).1
      refine x_cons (x_append (P := isI (row.length - pl : Nat)) S₇ (ev_loc en S₇.loc (i := 1) rfl rfl) (Ev.isI_eq (ev_sub (ev_call (ev_blt (G.keeps S₇.ukeep) rfl rfl rfl rfl B.len.1 B.len.2) kept_builtin (ea1 (ev_loc en S₇.loc (i := 0) rfl rfl) mono_V) mono_I (cl_lenL (n := row.length) (lstVC (isList_lobj hrow7) ⟨hys.1, by omega⟩))) (ev_locI en S₇.loc (i := 3) rfl rfl)) (by omega)) (i := 1) rfl (le_line (by rw [hzs.1]; omega)) (fun v g3 f3 n3 s₈ l₈ _ hv S₈ => ?_) rfl)
      obtain ⟨t8, rfl⟩ := hv
      refine x_cons (x_insert (p := pl) (P := fun v => v = .int (ki : Nat) t1) S₈ (ev_loc en S₈.loc (i := 0) rfl rfl) (ev_locI en S₈.loc (i := 3) rfl rfl) (ev_loc en S₈.loc (i := 2) rfl rfl) (i := 0) rfl (by rw [hys.1]; omega) (le_line (by rw [hys.1]; omega)) (fun v n4 s₉ hv S₉ => ?_) rfl)
      subst hv
      refine x_nil ⟨g3, _, [_, _, _, _], l₅.trans l₈, S₉, _, _, _, _, _, _, _, rfl, rfl, ?_, ?_, hT'.up l₈⟩
      · rw [ahN, hrw, hpl]; exact hys.ins _ ⟨t1, rfl⟩
      · rw [ahN, hrw, hpl, hcs]; exact hzs.push ⟨t8, rfl⟩
  · rintro g' vs' ms' s₃ l₃ ⟨x2, x3, ys, zs, ps, n, m, rfl, rfl, hys, hzs, hT⟩ S₃
    refine x_cons (x_ret (ev_tuple (ea2 (ev_loc en S₃.loc (i := 0) rfl rfl) mono_V (ev_loc en S₃.loc (i := 1) rfl rfl) mono_V) rfl (Nat.le_of_ble_eq_true rfl)) fun v s₄ p₄ hv => ?_)
    obtain ⟨a, ys', rfl, ho, hv⟩ := hv
    obtain ⟨y1, y2, e2, rfl, rfl⟩ := AllP.two hv
    have q := S₃.pu.trans p₄
    have hPs := (S₃.own (P, tabObj ps) (by repeat (first | exact .head _ | refine .tail _ ?_))).1
    have hr := (S₃.own (rA, lobj ys n) (by repeat (first | exact .head _ | refine .tail _ ?_))).1
    have hc := (S₃.own (cA, lobj zs m) (by repeat (first | exact .head _ | refine .tail _ ?_))).1
    have n1 : rA ≠ P := fun e => by
      rw [e] at hr
      have := hr.symm.trans hPs; cases this
    have n2 : cA ≠ P := fun e => by
      rw [e] at hc
      have := hc.symm.trans hPs; cases this
    have n3 : a ≠ P := fun e => by
      have := fresh_new ho
      rw [e] at this
      have := this.symm.trans hPs; cases this
    refine k _ _ ⟨q.same, fun b o hb e => q.keep b o (hideAll_get [P] e (by simpa using hb)), ps, p₄.keep _ _ hPs⟩ ⟨a, ys', rfl, fresh_hid (Pu.fresh_le' S₃.pu _ _ ho) n3, ?_⟩
    show AllP _ ys'.toList _
    rw [e2]
    exact ⟨⟨rA, ys, n, rfl, fresh_hid (own_fresh S₃ p₄ (q := (rA, lobj ys n)) (by repeat (first | exact .head _ | refine .tail _ ?_))) n1, hys⟩, ⟨cA, zs, m, rfl, fresh_hid (own_fresh S₃ p₄ (q := (cA, lobj zs m)) (by repeat (first | exact .head _ | refine .tail _ ?_))) n2, hzs⟩, trivial⟩
end
end Mine
namespace Mine
theorem All2.rev {α : Type} {P : α → Value → Mem → Prop} {ds : List α} {ys : Array Value} {f : Mem} (h : All2 P ds ys f) : All2 P ds.reverse ys.toList.reverse.toArray f := by
  have hl : ys.toList.length = ds.length := by rw [Array.length_toList]; exact h.1
  refine ⟨by simp [h.1], fun i d e => ?_⟩
  have hi : i < ds.length := by have := (List.getElem?_eq_some_iff.mp e).1; simpa using this
  rw [List.getElem?_reverse hi] at e
  obtain ⟨y, hy, hp⟩ := h.2 _ d e
  refine ⟨y, ?_, hp⟩
  rw [List.getElem?_toArray, List.getElem?_reverse (by rw [hl]; exact hi), hl, Array.getElem?_toList]
  exact hy
theorem size_down {a b : Int} {n : Nat} (h : a = b + n) : Builtin.Range.rangeSize a b (-1) = n := by
  unfold Builtin.Range.rangeSize
  rw [if_neg (by decide)]
  simp only [Int.neg_neg, Int.ediv_one]
  split <;> omega
def bhN (pl : Nat → List Nat → Nat) (n : Nat) : Nat → List Nat × List Nat
  | 0 => ([], [])
  | k + 1 => (putN (bhN pl n k).1 (pl (n - 1 - k) (bhN pl n k).1) (n - 1 - k), (bhN pl n k).2 ++ [pl (n - 1 - k) (bhN pl n k).1])
theorem bhN_len {pl : Nat → List Nat → Nat} {n : Nat} : ∀ k, (bhN pl n k).1.length = k ∧ (bhN pl n k).2.length = k
  | 0 => ⟨rfl, rfl⟩
  | k + 1 => by
    obtain ⟨h1, h2⟩ := bhN_len (pl := pl) (n := n) k
    rw [bhN]
    exact ⟨by rw [putN_len, h1], by rw [List.length_append, h2]; rfl⟩
theorem bhN_lt {pl : Nat → List Nat → Nat} {n : Nat} (h0 : 0 < n) : ∀ k, ∀ x ∈ (bhN pl n k).1, x < n
  | 0, x, h => nomatch h
  | k + 1, x, h => by
    rw [bhN] at h
    unfold putN at h
    rcases List.mem_append.mp h with h | h
    · exact bhN_lt h0 k x (List.mem_of_mem_take h)
    · rcases List.mem_cons.mp h with h | h
      · omega
      · exact bhN_lt h0 k x (List.mem_of_mem_drop h)
def plB (ts : List Str) (k : Nat) (row : List Nat) : Nat := bis (upLK (ts.getD k default) (fun i => ts.getD i default) row) row.length 0 row.length
theorem plB_le {ts : List Str} {k : Nat} {row : List Nat} : plB ts k row ≤ row.length := bis_le (Nat.zero_le _)
abbrev d_behind : Stmt := stm PySem.Challenge.pw_wn0038_02 12
def xs_behind : List Str := ["row", "counts", "turn", "place"]
section
variable {prog : Program} {w : World} {A : Around} {s : Shared} {mg mb : Str → Option Value}
set_option maxHeartbeats 8000000 in
theorem behind_spec {f fb c P tA : Addr} {dV kV : Value} {ts : List Str} {tys : Array Value} {tn j : Nat} {Q : Value → Shared → Prop} {E : Value → Shared → Prop} (hz : 0 < ts.length ∧ ts.length ≤ 500) (R : Rm (j + 4) A) (G : GL mg mb (hid s P).heap) (F : FnAtC (hid s P).heap f (fnName d_behind) (fnPar d_behind) (fnBody d_behind) (fnScope d_behind) .none .none c)
    (C : CodeHd (hid s P).heap c P) (hb : (hid s P).heap.BuiltinsAt mg P) (hgP : mainGlobals ≠ P) (hP : s.heap.get? P = some (tabObj #[])) (Fr : Fd (hid s P).heap mg d_bisL fb dV kV) (Br : Bd (hid s P).heap dV kV) (B : Bs mg mb)
    (ht : (hid s P).heap.get? tA = some (lobj tys tn)) (hty : All2 (fun d : Str => isS d) ts tys mem0)
    (k : ∀ v s', PuX P s s' → isTup (fun ys f => AllP [Lof (fun n : Nat => isI n) (bhN (plB ts) ts.length ts.length).1, Lof (fun n : Nat => isI n) (bhN (plB ts) ts.length ts.length).2.reverse] ys.toList f) v (fresh s.heap s'.heap) → Q v s') : wpAny (model prog w) A (call (.ref f) [.ref tA] []) Q E s := by
  have un : ∀ b o, (hid s P).heap.get? b = some o → s.heap.get? b = some o := fun b o e => of_hideAll _ e
  refine fnX_cells (xs := xs_behind) (vs := [none, none, none, none]) (fun n => [("turned", n)]) (cv := [some (.ref tA)]) R (G.lim.keeps un) (F.keeps un) (binds := [("turned", .ref tA)]) (fun _ _ _ _ _ => BindsTo.of_eq rfl) (fun _ => rfl)
    (by intro n x hx; simp at hx; rcases hx with rfl; exact .inr ⟨rfl, rfl⟩) ⟨rfl, rfl, rfl, rfl, trivial⟩ (fun _ => rfl) (fun _ => by show (["turned"] : List Str).Nodup; decide +kernel) fun L ms s₁ hM S₁ => ?_
  obtain ⟨oT, _, rfl, hdT, hM⟩ := CellsM.cons hM
  obtain rfl := CellsM.nil hM
  have S₁ := S₁.hide hP
  have R' := R.deeper (envC (fnName d_behind) (fnScope d_behind) L f (.ref c) [("turned", L + 1)])
  have en : En (envC (fnName d_behind) (fnScope d_behind) L f (.ref c) [("turned", L + 1)]) xs_behind := en_ofC
  refine x_cons (x_unpackS R'.hand en rfl S₁ (i := 0) (j := 1) rfl rfl ev_tupLL ?_)
  rintro y1 y2 nw g₂ f₂ s₂ l₂ - ⟨rA, cA, n₀, m₀, rfl, rfl, rfl⟩ S₂
  have S₂ : St (hid s P) g₂ L xs_behind [some (.ref rA), some (.ref cA), none, none] [(rA, lobj #[] n₀), (cA, lobj #[] m₀), (L + 1, oT), (P, tabObj #[])] s₂ := S₂
  have G₂ := G.keeps S₂.ukeep
  have c₂ := (S₂.own (L + 1, oT) (by repeat (first | exact .head _ | refine .tail _ ?_))).1
  refine x_cons (x_for1 (i := 2) (n := ts.length) (P := fun k v => isI (((ts.length : Nat) : Int) - 1 + k * (-1)) v (fun _ => none)) (fun k g vs ms => AhJ (lamPos (lamE d_behind)) (fnName d_behind ++ ".<locals>." ++ "<lambda>") rA cA L P oT (bhN (plB ts) ts.length k).1 (bhN (plB ts) ts.length k).2 g vs ms) en rfl S₂ rfl
    (src_range R'.hand (small_of (n := ts.length) (size_down (by omega)) (by omega)) _ (size_down (by omega)) (ev_call (ev_blt G₂ rfl rfl rfl rfl B.range.1 B.range.2) kept_type (ea3 (ev_sub (ev_call (ev_blt G₂ rfl rfl rfl rfl B.len.1 B.len.2) kept_builtin (ea1 (ev_cell (c := L + 1) rfl rfl rfl c₂ hdT) mono_V) mono_I (cl_lenL (n := ts.length) (lstVC (isList_lobj (S₂.ukeep _ _ ht)) ⟨hty.1, by omega⟩))) ev_int) mono_I (ev_neg ev_int) mono_I (ev_neg ev_int) mono_I) mono_range (cl_range3 (by decide) (noPy (by decide)))))
    (fun g' l => ⟨none, none, #[], #[], #[], n₀, m₀, rfl, rfl, All2.nil, All2.nil, TabOk.nil⟩) ?_ ?_)
  · rintro ki v g' vs' ms' r s₃ hk ⟨t1, rfl⟩ l₃ ⟨x2, x3, ys, zs, ps, n, m, rfl, rfl, hys, hzs, hT⟩ S₃
    obtain ⟨tt, htt⟩ : ∃ tt, tt = ts.length - 1 - ki := ⟨_, rfl⟩
    rw [show (((ts.length : Nat) : Int) - 1 + ki * (-1)) = (tt : Nat) by omega] at S₃
    have hkt : tt < ts.length := by omega
    have S₃ : St (hid s P) g' L xs_behind [some (.ref rA), some (.ref cA), some (.int (tt : Nat) t1), x3] ((rA, lobj ys n) :: (cA, lobj zs m) :: (L + 1, oT) :: (P, tabObj ps) :: r) s₃ := S₃
    have hlen := bhN_len (pl := plB ts) (n := ts.length) ki
    have hlt := bhN_lt (pl := plB ts) hz.1 ki
    generalize hrw : (bhN (plB ts) ts.length ki).1 = row at *
    generalize hcs : (bhN (plB ts) ts.length ki).2 = cs at *
    have c₃ := (S₃.own (L + 1, oT) (by repeat (first | exact .head _ | refine .tail _ ?_))).1
    have hd2 : ts[tt]? = some (ts.getD tt default) := by rw [List.getD_eq_getElem?_getD, List.getElem?_eq_getElem hkt]; rfl
    obtain ⟨y, hy1, hy2⟩ := hty.2 tt _ hd2
    refine x_cons (wpAny_Assign_Name (call_kw1 (Ps := [isV (.ref rA), isS (ts.getD tt default)]) (f := .ref fb) (ev_glob (G.keeps S₃.ukeep) rfl rfl rfl Fr.1)
      (ea2 (ev_loc en S₃.loc (i := 0) rfl rfl) mono_V (ev_item (ev_cell (c := L + 1) rfl rfl rfl c₃ hdT) (ev_locI en S₃.loc (i := 2) rfl rfl) mono_S (it_list (P := fun v => ∃ t, v = Value.str (ts.getD tt default) t) (lstVC (isList_lobj (S₃.ukeep _ _ ht)) ⟨y, by simpa using hy1, hy2⟩) (by omega) (by omega))) mono_S) fun l s₄ p₄ hl => ?_) rfl)
    obtain ⟨_, _, rfl, e, tx, rfl⟩ := hl.two
    cases e
    refine ev_lam (i := 3) (S₃.up p₄) rfl hT rfl rfl G.g rfl C hb hgP fun lam g'' ps' s₅ l₅ hT' La S₅ => ?_
    have hrow := (S₅.own (rA, lobj ys n) (by repeat (first | exact .head _ | refine .tail _ ?_))).1
    have c₅ := (S₅.own (L + 1, oT) (by repeat (first | exact .head _ | refine .tail _ ?_))).1
    have hkept : ∀ {s' : Shared}, Pu s₅ s' → Kept prog w (.ref lam) s'.heap := fun q => by
      obtain ⟨pm, cdv, ctv, h1, _⟩ := La.fn
      exact kept_func (q.keep _ _ (S₅.gk _ _ h1)) rfl
    refine ⟨(Fr.keeps S₅.ukeep).2.kept, bisLK_spec (tn := fun i => ts.getD i default) (row := row) (by omega) R' (G.keeps S₅.ukeep) (Fr.keeps S₅.ukeep) (Br.keeps S₅.ukeep) B.len hrow hys (hkept (Pu.refl _)) (fun env' s' i q hi => ?_) fun t s₆ p₆ => ?_⟩
    · have := hlt i hi
      exact lam_spec (j := j) ⟨_, _, _, rfl⟩ (fun _ _ _ _ => rfl) rfl rfl rfl rfl ((R'.deeper env').lower (by omega)) ((G.lim.keeps S₅.ukeep).keeps q.keep) La (S₅.gk.trans q.keep) (q.keep _ _ c₅) hdT (q.keep _ _ (S₅.ukeep _ _ ht)) hty (by omega) (by omega)
    · have S₆ := S₅.up p₆
      refine st_name (i := 3) en rfl S₆ rfl fun s₇ S₇ => ?_
      have hple : plB ts tt row ≤ row.length := plB_le
      have S₇ : St (hid s P) g'' L xs_behind [some (.ref rA), some (.ref cA), some (.int (tt : Nat) t1), some (.int (plB ts tt row : Nat) t)] ((rA, lobj ys n) :: (cA, lobj zs m) :: (L + 1, oT) :: (P, tabObj ps') :: r) s₇ := S₇
      generalize hpl : plB ts tt row = pl at *
      have hrow7 := (S₇.own (rA, lobj ys n) (by repeat (first | exact .head _ | refine .tail _ ?_))).1
      refine x_cons (x_append (P := isI (pl : Nat)) S₇ (ev_loc en S₇.loc (i := 1) rfl rfl) (ev_locI en S₇.loc (i := 3) rfl rfl) (i := 1) rfl (le_line (by rw [hzs.1]; omega)) (fun v g3 f3 n3 s₈ l₈ _ hv S₈ => ?_) rfl)
      obtain ⟨t8, rfl⟩ := hv
      refine x_cons (x_insert (p := pl) (P := fun v => v = .int (tt : Nat) t1) S₈ (ev_loc en S₈.loc (i := 0) rfl rfl) (ev_locI en S₈.loc (i := 3) rfl rfl) (ev_loc en S₈.loc (i := 2) rfl rfl) (i := 0) rfl (by rw [hys.1]; omega) (le_line (by rw [hys.1]; omega)) (fun v n4 s₉ hv S₉ => ?_) rfl)
      subst hv
      refine x_nil ⟨g3, _, [_, _, _, _], l₅.trans l₈, S₉, _, _, _, _, _, _, _, rfl, rfl, ?_, ?_, hT'.up l₈⟩
      · rw [bhN, hrw, ← htt, hpl]; exact hys.ins _ ⟨t1, rfl⟩
      · rw [bhN, hrw, ← htt, hpl, hcs]; exact hzs.push ⟨t8, rfl⟩
  · rintro g' vs' ms' s₃ l₃ ⟨x2, x3, ys, zs, ps, n, m, rfl, rfl, hys, hzs, hT⟩ S₃
    have hPs := (S₃.own (P, tabObj ps) (by repeat (first | exact .head _ | refine .tail _ ?_))).1
    have hr := (S₃.own (rA, lobj ys n) (by repeat (first | exact .head _ | refine .tail _ ?_))).1
    have hc := (S₃.own (cA, lobj zs m) (by repeat (first | exact .head _ | refine .tail _ ?_))).1
    have hlen := bhN_len (pl := plB ts) (n := ts.length) ts.length
    refine x_cons (x_ret (ev_tuple (ea2 (P' := Lof (fun n : Nat => isI n) (bhN (plB ts) ts.length ts.length).2.reverse) (ev_loc en S₃.loc (i := 0) rfl rfl) mono_V (Ev.imp (ev_item (P := isLst fun us _ => us = zs.toList.reverse.toArray) (ev_loc en S₃.loc (i := 1) rfl rfl) (ev_slice ep_none ep_none (ep_some (ev_neg ev_int))) (mono_lst fun _ _ _ _ h => h) (it_listSlice (C := fun us => us = zs.toList.reverse.toArray) (lstVC (isList_lobj hc) ⟨le_line (by rw [hzs.1]; omega), krv_pick zs⟩) (by decide)))
      fun v f ⟨a, us, q, e, ha, hu⟩ => ⟨a, us, q, e, ha, by rw [hu]; exact hzs.rev⟩) (mono_Lof fun _ => mono_I)) rfl (Nat.le_of_ble_eq_true rfl)) fun v s₄ p₄ hv => ?_)
    obtain ⟨a, ys', rfl, ho, hv⟩ := hv
    obtain ⟨y1, y2, e2, rfl, b, us, q2, rfl, hb2, hus⟩ := AllP.two hv
    have q := S₃.pu.trans p₄
    have n1 : rA ≠ P := fun e => by
      rw [e] at hr
      have := hr.symm.trans hPs; cases this
    have n2 : b ≠ P := fun e => by
      have := fresh_new hb2
      rw [e] at this
      have := this.symm.trans hPs; cases this
    have n3 : a ≠ P := fun e => by
      have := fresh_new ho
      rw [e] at this
      have := this.symm.trans hPs; cases this
    refine k _ _ ⟨q.same, fun b o hb e => q.keep b o (hideAll_get [P] e (by simpa using hb)), ps, p₄.keep _ _ hPs⟩ ⟨a, ys', rfl, fresh_hid (Pu.fresh_le' S₃.pu _ _ ho) n3, ?_⟩
    show AllP _ ys'.toList _
    rw [e2]
    exact ⟨⟨rA, ys, n, rfl, fresh_hid (own_fresh S₃ p₄ (q := (rA, lobj ys n)) (by repeat (first | exact .head _ | refine .tail _ ?_))) n1, hys⟩, ⟨b, us, q2, rfl, fresh_hid (Pu.fresh_le' S₃.pu _ _ hb2) n2, hus⟩, trivial⟩
end
end Mine
namespace Mine
def crIn (us ls zs : List Int) (late : Nat) (t : Int) : Nat → Int × Int
  | 0 => (t, 1)
  | j + 1 => ((crIn us ls zs late t j).1 + us.getD (late - 1 - j) 0 * (crIn us ls zs late t j).2 * ls.getD late 0, (crIn us ls zs late t j).2 * zs.getD (late - 1 - j) 0)
def crOut (us ls zs : List Int) : Nat → Int
  | 0 => 0
  | k + 1 => (crIn us ls zs k (crOut us ls zs k) k).1
theorem Mem.getI {ns : List Int} {ys : Array Value} (h : All2 (fun n : Int => isI n) ns ys mem0) {k : Nat} (hk : k < ns.length) : ∃ v, ys[k]? = some v ∧ ∃ t, v = Value.int (ns.getD k 0) t := by
  have e : ns[k]? = some (ns.getD k 0) := by rw [List.getD_eq_getElem?_getD, List.getElem?_eq_getElem hk]; rfl
  exact h.2 k _ e
theorem getD_mem {α : Type} {P : α → Prop} {l : List α} {k : Nat} {d : α} (h : ∀ y ∈ l, P y) (hd : P d) : P (l.getD k d) := by
  rw [List.getD_eq_getElem?_getD]
  cases e : l[k]? with
  | none => exact hd
  | some x => exact h _ (List.mem_of_getElem? e)
theorem getD_in {l : List Int} (h : ∀ x ∈ l, 0 ≤ x ∧ x < 32) (k : Nat) : 0 ≤ l.getD k 0 ∧ l.getD k 0 < 32 := getD_mem (P := fun x => 0 ≤ x ∧ x < 32) h ⟨by decide, by decide⟩
abbrev d_cr : Stmt := stm PySem.Challenge.pw_wn0038_02 13
def xs_cr : List Str := ["uppers", "lowers", "sizes", "total", "late", "between", "early"]
inductive CrJ (l : List (Option Value)) (a : Int) (vs : List (Option Value)) (ms : List (Addr × Obj)) : Prop where
  | mk (t : Tok) (x4 x5 x6 : Option Value) : vs = l ++ [some (.int a t), x4, x5, x6] → ms = [] → CrJ l a vs ms
inductive CrI (l : List (Option Value)) (late : Option Value) (r : List (Addr × Obj)) (a b : Int) (vs : List (Option Value)) (ms : List (Addr × Obj)) : Prop where
  | mk (t t' : Tok) (x6 : Option Value) : vs = l ++ [some (.int a t), late, some (.int b t'), x6] → ms = r → CrI l late r a b vs ms
section
variable {prog : Program} {w : World} {A : Around} {s₀ : Shared} {mg mb : Str → Option Value}
set_option maxHeartbeats 4000000 in
theorem cr_spec {f : Addr} {us ls zs : List Int} {P₁ P₂ P₃ : Value → Mem → Prop} {j : Nat} (h1 : LobP P₁ (fun ys => All2 (fun n : Int => isI n) us ys mem0) s₀) (h2 : LobP P₂ (fun ys => All2 (fun n : Int => isI n) ls ys mem0) s₀) (h3 : LobP P₃ (fun ys => All2 (fun n : Int => isI n) zs ys mem0) s₀)
    (b1 : ∀ x ∈ us, 0 ≤ x ∧ x < 32) (b2 : ∀ x ∈ ls, 0 ≤ x ∧ x < 32) (b3 : ∀ x ∈ zs, 0 ≤ x ∧ x < 32) (e1 : us.length = zs.length) (e2 : ls.length = zs.length) (hz : zs.length ≤ 1000) (R : Rm (j + 2) A) (G : GL mg mb s₀.heap) (F : Fd s₀.heap mg d_cr f .none .none) (B : Bs mg mb) :
    Cl prog w A (.ref f) s₀ [P₁, P₂, P₃] (isI (crOut us ls zs zs.length)) := fun l s Q E fg p le ha k => by
  obtain ⟨_, _, _, rfl, ha1, ha2, ha3⟩ := ha.three
  obtain ⟨a1, ys1, n1, rfl, ho1, hy1⟩ := h1 _ _ _ p le ha1
  obtain ⟨a2, ys2, n2, rfl, ho2, hy2⟩ := h2 _ _ _ p le ha2
  obtain ⟨a3, ys3, n3, rfl, ho3, hy3⟩ := h3 _ _ _ p le ha3
  have G := G.keeps p.keep
  refine fn_plain (xs := xs_cr) (vs := [some (.ref a1), some (.ref a2), some (.ref a3), none, none, none, none]) R G.lim (F.2.keeps p.keep) (binds := [("uppers", .ref a1), ("lowers", .ref a2), ("sizes", .ref a3)]) (fun _ _ _ _ _ => BindsTo.of_eq rfl) (by decide +kernel) (by intro x hx; simp at hx; rcases hx with rfl | rfl | rfl <;> rfl) ⟨rfl, rfl, rfl, rfl, rfl, rfl, rfl, trivial⟩ fun L cdv s₁ S₁ => ?_
  have en : En (envOf (fnName d_cr) (fnScope d_cr) L f cdv) xs_cr := en_of
  have R' := R.deeper (envOf (fnName d_cr) (fnScope d_cr) L f cdv)
  refine x_cons (x_asgI (a := 0) en rfl S₁ (i := 3) rfl ev_int fun t0 s₂ S₂ => ?_)
  have G₂ := G.keeps S₂.ukeep
  refine x_cons (x_for1 (i := 4) (n := zs.length) (P := fun k v => isI (0 + k * 1) v (fun _ => none)) (fun k _ vs ms => CrJ [some (.ref a1), some (.ref a2), some (.ref a3)] (crOut us ls zs k) vs ms) en rfl S₂ rfl
    (src_range R'.hand (small_of (n := zs.length) (size_up (by omega)) (by omega)) _ (size_up (by omega)) (ev_call (ev_blt G₂ rfl rfl rfl rfl B.range.1 B.range.2) kept_type (ea1 (P := isI (zs.length : Nat)) (ev_call (ev_blt G₂ rfl rfl rfl rfl B.len.1 B.len.2) kept_builtin (ea1 (ev_loc en S₂.loc (i := 2) rfl rfl) mono_V) mono_I (cl_lenL (n := zs.length) (lstVC (isList_lobj (S₂.ukeep _ _ ho3)) ⟨hy3.1, by omega⟩))) mono_I) mono_range cl_range1))
    (fun g' l => ⟨t0, none, none, none, rfl, rfl⟩) ?_ ?_)
  · rintro ki v g' vs' ms' r s₃ hk ⟨t1, rfl⟩ l₃ ⟨t, x4, x5, x6, rfl, rfl⟩ S₃
    rw [show (0 + (ki : Int) * 1) = ki by omega] at S₃
    refine x_cons (x_asgI (a := 1) en rfl S₃ (i := 5) rfl ev_int fun t2 s₄ S₄ => ?_)
    have G₄ := G.keeps S₄.ukeep
    refine x_cons (x_for1 (i := 6) (n := ki) (P := fun k v => isI ((ki : Int) - 1 + k * (-1)) v (fun _ => none)) (fun k _ vs ms => CrI [some (.ref a1), some (.ref a2), some (.ref a3)] (some (.int (ki : Nat) t1)) r (crIn us ls zs ki (crOut us ls zs ki) k).1 (crIn us ls zs ki (crOut us ls zs ki) k).2 vs ms) en rfl S₄ rfl
      (src_range R'.hand (small_of (n := ki) (size_down (by omega)) (by omega)) _ (size_down (by omega)) (ev_call (ev_blt G₄ rfl rfl rfl rfl B.range.1 B.range.2) kept_type (ea3 (ev_sub (ev_locI en S₄.loc (i := 4) rfl rfl) ev_int) mono_I (ev_neg ev_int) mono_I (ev_neg ev_int) mono_I) mono_range (cl_range3 (by decide) (noPy (by decide)))))
      (fun g' l => ⟨t, t2, x6, rfl, rfl⟩) ?_ ?_)
    · rintro kj v g'' vs'' ms'' r2 s₅ hkj ⟨t3, rfl⟩ l₅ ⟨t4, t5, x7, rfl, rfl⟩ S₅
      obtain ⟨e, he⟩ : ∃ e, e = ki - 1 - kj := ⟨_, rfl⟩
      rw [show ((ki : Int) - 1 + kj * (-1)) = (e : Nat) by omega] at S₅
      have i1 := Mem.getI hy1 (k := e) (by omega)
      have i2 := Mem.getI hy2 (k := ki) (by omega)
      have i3 := Mem.getI hy3 (k := e) (by omega)
      have c1 := getD_in b1 e
      have c2 := getD_in b2 ki
      have c3 := getD_in b3 e
      refine x_cons (x_augAdd en rfl S₅ (i := 3) rfl rfl (ev_mul (ev_mul
        (ev_item (ev_loc en S₅.loc (i := 0) rfl rfl) (ev_locI en S₅.loc (i := 6) rfl rfl) (mono_of _) (it_list (P := fun v => ∃ t, v = Value.int (us.getD e 0) t) (lstVC (isList_lobj (S₅.ukeep _ _ ho1)) (by simpa using i1)) (by omega) (by omega)))
        (ev_locI en S₅.loc (i := 5) rfl rfl) (.of_left (intBits_le_64 (by omega) (by omega))))
        (ev_item (ev_loc en S₅.loc (i := 1) rfl rfl) (ev_locI en S₅.loc (i := 4) rfl rfl) (mono_of _) (it_list (P := fun v => ∃ t, v = Value.int (ls.getD ki 0) t) (lstVC (isList_lobj (S₅.ukeep _ _ ho2)) (by simpa using i2)) (by omega) (by omega))) (.of_right (intBits_le_64 (by omega) (by omega)))) fun t7 s₆ S₆ => ?_)
      refine x_cons (x_augMul en rfl S₆ (i := 5) rfl rfl
        (ev_item (ev_loc en S₆.loc (i := 2) rfl rfl) (ev_locI en S₆.loc (i := 6) rfl rfl) (mono_of _) (it_list (P := fun v => ∃ t, v = Value.int (zs.getD e 0) t) (lstVC (isList_lobj (S₆.ukeep _ _ ho3)) (by simpa using i3)) (by omega) (by omega))) (.of_right (intBits_le_64 (by omega) (by omega))) fun t8 s₇ S₇ => ?_)
      refine x_nil ⟨g'', _, _, Le.refl _, S₇, t7, t8, some (.int (e : Nat) t3), ?_, rfl⟩
      rw [crIn, ← he]; rfl
    · rintro g'' vs'' ms'' s₅ l₅ ⟨t4, t5, x7, rfl, rfl⟩ S₅
      exact x_nil ⟨g'', _, [], l₅, S₅, t4, _, _, _, rfl, rfl⟩
  · rintro g' vs' ms' s₃ l₃ ⟨t, x4, x5, x6, rfl, rfl⟩ S₃
    refine x_cons (x_ret (ev_locI en S₃.loc (i := 3) rfl rfl) fun v s₄ p₄ hv => ?_)
    have q := S₃.pu.trans p₄
    exact ⟨q, k _ _ q hv⟩
end
end Mine
namespace Mine
def codeR : List Nat → Nat
  | [] => 0
  | k :: r => k * 8 ^ r.length + codeR r
def codeOf (r : List Nat) : Nat := codeR r.reverse
def ranksL (sz : List Nat) : List (List Nat) := sz.foldl (fun rs n => (rs.map fun r => (List.range n).map fun k => r ++ [k]).flatten) [[]]
def plCA (cs : List Nat) (k : Nat) (row : List Nat) : Nat := bis (fun m => decide (cs.getD k 0 < cs.getD (row.getD m 0) 0)) row.length 0 row.length
def plCB (cs : List Nat) (k : Nat) (row : List Nat) : Nat := bis (fun m => !decide (cs.getD (row.getD m 0) 0 < cs.getD k 0)) row.length 0 row.length
def szT : List (List Nat) := [[2, 3, 2], [3, 2, 3], [2, 2, 2, 2], [3, 1, 2, 3], [2, 4, 2], [4, 2, 3]]
def astr (row : List Nat) : Int := ((List.range row.length).map fun i : Nat => ((i : Int) - (row.getD i 0 : Nat)) ^ (2 : Int).toNat).sum
def pairsN (m : Int) (zi : List Int) : Int := m * (m - 1 - (zi.map fun z => z - 1).sum)
def squaresN (m : Int) (zi : List Int) : Int := m * (m * m - 1) - m * (zi.map fun z => m.fdiv z * (z * z - 1)).sum
def lacksN (zi r : List Int) : List Int := (List.range (min zi.length r.length)).map fun i => zi.getD i 0 - 1 - r.getD i 0
def intsN (l : List Nat) : List Int := l.map fun n : Nat => (n : Int)
def chk (sz : List Nat) : Bool :=
  let rs := ranksL sz
  let m := rs.length
  let cs := rs.map codeOf
  let a := ahN (plCA cs) m
  let b := bhN (plCB cs) m m
  let zi := intsN sz
  decide (a.1 = b.1) && decide (4 * (intsN a.2).sum = pairsN m zi) && decide (6 * astr a.1 = squaresN m zi) &&
  (List.range m).all fun t =>
    decide (((a.2.getD t 0 : Nat) : Int) = crOut (intsN (rs.getD t [])) (lacksN zi (intsN (rs.getD t []))) zi zi.length) && decide (((b.2.reverse.getD t 0 : Nat) : Int) = crOut (lacksN zi (intsN (rs.getD t []))) (intsN (rs.getD t [])) zi zi.length)
abbrev F6 := Fin 6
abbrev F4 := Fin 4
theorem all_chk : ∀ q : F6, chk (szT.getD q.val []) = true := by decide +kernel
theorem all_sz : ∀ q : F6, 2 ≤ (ranksL (szT.getD q.val [])).length ∧ (ranksL (szT.getD q.val [])).length ≤ 24 ∧ (szT.getD q.val []).length ≤ 4 ∧ 3 ≤ (szT.getD q.val []).length ∧ (∀ z ∈ szT.getD q.val [], 1 ≤ z ∧ z ≤ 4) ∧ ∀ k, k ≤ 4 → (ranksL ((szT.getD q.val []).take k)).length ≤ 24 := by decide +kernel
end Mine
namespace Mine
def numR : List (List Int) → List Nat → Int
  | x :: p, k :: r => 16 * numR p r + x.getD k 0
  | _, _ => 0
def twR : List (List Int) → List Nat → List Nat
  | x :: p, k :: r => (65 + (x.getD k 0).toNat) :: twR p r
  | _, _ => []
def Rr : List (List Int) → List Nat → Prop
  | [], [] => True
  | x :: p, k :: r => k < x.length ∧ Rr p r
  | _, _ => False
/-- the places' letters -/
structure Pls (pl : List (List Int)) : Prop where
  i : ∀ x ∈ pl, ∀ y ∈ x, 0 ≤ y ∧ y < 16
  s : ∀ x ∈ pl, ∀ i, i + 1 < x.length → x.getD i 0 < x.getD (i + 1) 0
  l : ∀ x ∈ pl, x.length ≤ 8
theorem Pls.tail {x : List Int} {p : List (List Int)} (h : Pls (x :: p)) : Pls p := ⟨fun y hy => h.i y (.tail _ hy), fun y hy => h.s y (.tail _ hy), fun y hy => h.l y (.tail _ hy)⟩
theorem letter_in {x : List Int} {p : List (List Int)} (h : Pls (x :: p)) (k : Nat) : 0 ≤ x.getD k 0 ∧ x.getD k 0 < 16 := getD_mem (P := fun y => 0 ≤ y ∧ y < 16) (h.i x (.head _)) ⟨by decide, by decide⟩
theorem numR_bd : ∀ {p : List (List Int)} {r : List Nat}, Pls p → 0 ≤ numR p r ∧ numR p r < 16 ^ p.length
  | [], _, _ => by simp [numR]
  | x :: p, [], _ => by
    have : (0 : Int) < 16 ^ (x :: p).length := Int.pow_pos (by decide)
    simp only [numR]; omega
  | x :: p, k :: r, h => by
    have ih := numR_bd (r := r) h.tail
    have hl := letter_in h k
    rw [numR, List.length_cons, Int.pow_succ]
    generalize (16 : Int) ^ p.length = z at *
    omega
theorem dig_rev : ∀ {p : List (List Int)} {r : List Nat}, Pls p → Rr p r → (dig p.length (numR p r).toNat).reverse.map (·.toNat) = twR p r
  | [], [], _, _ => rfl
  | x :: p, k :: r, h, hr => by
    have ih := dig_rev h.tail hr.2
    have hb := numR_bd (r := r) h.tail
    have hl := letter_in h k
    rw [numR, twR, List.length_cons, dig]
    have e1 : (16 * numR p r + x.getD k 0).toNat / 16 = (numR p r).toNat := by omega
    have e2 : (16 * numR p r + x.getD k 0).toNat % 16 = (x.getD k 0).toNat := by omega
    rw [e1, e2, List.reverse_append, List.map_append, ih]
    show _ ++ _ = _
    rw [show ([UInt8.ofNat (65 + (x.getD k 0).toNat)].reverse.map (·.toNat)) = [65 + (x.getD k 0).toNat] by
      rw [List.reverse_singleton, List.map_singleton, UInt8.toNat_ofNat']
      congr 1; omega]
    rfl
  | [], _ :: _, _, hr => hr.elim
  | _ :: _, [], _, hr => hr.elim
theorem code_bd : ∀ {p : List (List Int)} {r : List Nat}, Pls p → Rr p r → codeR r < 8 ^ r.length ∧ r.length = p.length
  | [], [], _, _ => by simp [codeR]
  | x :: p, k :: r, h, hr => by
    have ih := code_bd h.tail hr.2
    have hk := hr.1
    have hx := h.l x (.head _)
    rw [codeR, List.length_cons, List.length_cons, Nat.pow_succ]
    have : k * 8 ^ r.length ≤ 7 * 8 ^ r.length := Nat.mul_le_mul_right _ (by omega)
    exact ⟨by omega, by omega⟩
  | [], _ :: _, _, hr => hr.elim
  | _ :: _, [], _, hr => hr.elim
theorem strictS {x : List Int} (hm : ∀ i, i + 1 < x.length → x.getD i 0 < x.getD (i + 1) 0) (i : Nat) : ∀ k, i + k + 1 < x.length → x.getD i 0 < x.getD (i + k + 1) 0
  | 0, h => hm i h
  | k + 1, h => by
    have h1 := strictS hm i k (by omega)
    have h2 := hm (i + k + 1) (by omega)
    exact Int.lt_trans h1 h2
theorem strict_iff {x : List Int} (hm : ∀ i, i + 1 < x.length → x.getD i 0 < x.getD (i + 1) 0) {i k : Nat} (hi : i < x.length) (hk : k < x.length) : (i < k → x.getD i 0 < x.getD k 0) ∧ (k < i → x.getD k 0 < x.getD i 0) := by
  constructor
  · intro h
    obtain ⟨d, rfl⟩ : ∃ d, k = i + d + 1 := ⟨k - i - 1, by omega⟩
    exact strictS hm i d hk
  · intro h
    obtain ⟨d, rfl⟩ : ∃ d, i = k + d + 1 := ⟨i - k - 1, by omega⟩
    exact strictS hm k d hi
theorem order_R : ∀ {p : List (List Int)} {r r' : List Nat}, Pls p → Rr p r → Rr p r' → (twR p r < twR p r' ↔ codeR r < codeR r')
  | [], [], [], _, _, _ => by simp [twR, codeR]
  | x :: p, k :: r, k' :: r', h, hr, hr' => by
    have ih := order_R h.tail hr.2 hr'.2
    have c1 := code_bd h.tail hr.2
    have c2 := code_bd h.tail hr'.2
    have s1 := strict_iff (h.s x (.head _)) hr.1 hr'.1
    have l1 := letter_in h k
    have l2 := letter_in h k'
    rw [twR, twR, codeR, codeR, List.cons_lt_cons_iff, ih]
    have e : r'.length = r.length := by omega
    rw [e] at c2 ⊢
    obtain ⟨s1, s2⟩ := s1
    rcases Nat.lt_trichotomy k k' with hk | hk | hk
    · have := s1 hk
      have hm : (k + 1) * 8 ^ r.length ≤ k' * 8 ^ r.length := Nat.mul_le_mul_right _ hk
      rw [Nat.succ_mul] at hm
      generalize k * 8 ^ r.length = y at *
      generalize k' * 8 ^ r.length = y' at *
      constructor <;> intro _ <;> omega
    · subst hk
      generalize k * 8 ^ r.length = y at *
      constructor
      · intro hh; rcases hh with hh | hh <;> omega
      · intro hh; exact .inr ⟨rfl, by omega⟩
    · have := s2 hk
      have hm : (k' + 1) * 8 ^ r.length ≤ k * 8 ^ r.length := Nat.mul_le_mul_right _ hk
      rw [Nat.succ_mul] at hm
      generalize k * 8 ^ r.length = y at *
      generalize k' * 8 ^ r.length = y' at *
      constructor
      · intro hh; rcases hh with hh | hh <;> omega
      · intro hh; omega
  | [], _ :: _, _, _, hr, _ => hr.elim
  | [], [], _ :: _, _, _, hr => hr.elim
  | _ :: _, [], _, _, hr, _ => hr.elim
  | _ :: _, _ :: _, [], _, _, hr => hr.elim
theorem ranksL_succ {sz : List Nat} {k n : Nat} (h : sz[k]? = some n) : ranksL (sz.take (k + 1)) = ((ranksL (sz.take k)).map fun r => (List.range n).map fun c => r ++ [c]).flatten := by
  rw [take_succ' h]
  unfold ranksL
  rw [List.foldl_append]; rfl
theorem words_ranks {pl : List (List Int)} : ∀ k, k ≤ pl.length → wordsL (pl.take k) = (ranksL ((pl.map List.length).take k)).map (fun r => (numR (pl.take k).reverse r.reverse, r)) ∧ ∀ r ∈ ranksL ((pl.map List.length).take k), Rr (pl.take k).reverse r.reverse
  | 0, _ => by
    refine ⟨rfl, fun r hr => ?_⟩
    have : r = [] := by simpa [ranksL] using hr
    rw [this]; exact trivial
  | k + 1, hk => by
    obtain ⟨h1, h2⟩ := words_ranks (pl := pl) k (by omega)
    have hk' : k < pl.length := by omega
    have hx : pl[k]? = some (pl[k]'hk') := List.getElem?_eq_getElem hk'
    have hx' : (pl.map List.length)[k]? = some (pl[k]'hk').length := by rw [List.getElem?_map, hx]; rfl
    rw [wordsL_succ hx, h1, ranksL_succ hx', take_succ' hx, List.reverse_append]
    generalize pl[k]'hk' = x at *
    generalize ranksL ((pl.map List.length).take k) = rs at *
    constructor
    · unfold more
      rw [List.map_map, List.map_flatten, List.map_map]
      refine congrArg List.flatten (List.map_congr_left fun r hr => ?_)
      show (List.range x.length).map _ = ((List.range x.length).map _).map _
      rw [List.map_map]
      refine List.map_congr_left fun c hc => ?_
      show _ = (numR ([x].reverse ++ (pl.take k).reverse) (r ++ [c]).reverse, r ++ [c])
      rw [List.reverse_append]; rfl
    · intro r hr
      obtain ⟨l, hl, hr⟩ := List.mem_flatten.mp hr
      obtain ⟨r0, hr0, rfl⟩ := List.mem_map.mp hl
      obtain ⟨c, hc, rfl⟩ := List.mem_map.mp hr
      rw [List.reverse_append]
      exact ⟨List.mem_range.mp hc, h2 r0 hr0⟩
theorem bis_congr {up up' : Nat → Bool} {n : Nat} (h : ∀ m, m < n → up m = up' m) : ∀ {f lo hi : Nat}, hi ≤ n → bis up f lo hi = bis up' f lo hi
  | 0, _, _, _ => rfl
  | f + 1, lo, hi, hn => by
    unfold bis
    split
    · rw [h _ (by omega)]
      split
      · exact bis_congr h (by omega)
      · exact bis_congr h hn
    · rfl
section
variable {ts : List Str} {cs : List Nat} {n : Nat}
theorem ah_congr (hlt : ∀ i j, i < n → j < n → ltS (ts.getD i default) (ts.getD j default) = decide (cs.getD i 0 < cs.getD j 0)) : ∀ k, k ≤ n → ahN (plA ts) k = ahN (plCA cs) k
  | 0, _ => rfl
  | k + 1, hk => by
    have ih := ah_congr hlt k (by omega)
    have hm := ahN_lt (pl := plCA cs) k
    have e : plA ts k (ahN (plCA cs) k).1 = plCA cs k (ahN (plCA cs) k).1 := by
      generalize (ahN (plCA cs) k).1 = row at hm
      unfold plA plCA
      refine bis_congr (fun m hm' => ?_) (Nat.le_refl _)
      unfold upRK
      have : row.getD m 0 < k := by
        rw [List.getD_eq_getElem?_getD, List.getElem?_eq_getElem hm']; exact hm _ (List.getElem_mem hm')
      exact hlt _ _ (by omega) (by omega)
    rw [ahN, ahN, ih, e]
theorem bh_congr (h0 : 0 < n) (hlt : ∀ i j, i < n → j < n → ltS (ts.getD i default) (ts.getD j default) = decide (cs.getD i 0 < cs.getD j 0)) : ∀ k, k ≤ n → bhN (plB ts) n k = bhN (plCB cs) n k
  | 0, _ => rfl
  | k + 1, hk => by
    have ih := bh_congr h0 hlt k (by omega)
    have hm := bhN_lt (pl := plCB cs) h0 k
    have e : plB ts (n - 1 - k) (bhN (plCB cs) n k).1 = plCB cs (n - 1 - k) (bhN (plCB cs) n k).1 := by
      generalize (bhN (plCB cs) n k).1 = row at hm
      unfold plB plCB
      refine bis_congr (fun m hm' => ?_) (Nat.le_refl _)
      unfold upLK
      have : row.getD m 0 < n := by
        rw [List.getD_eq_getElem?_getD, List.getElem?_eq_getElem hm']; exact hm _ (List.getElem_mem hm')
      rw [hlt _ _ this (by omega)]
    rw [bhN, bhN, ih, e]
end
/-- the turned words -/
def tsOf (pl : List (List Int)) : List Str := (wordsL pl).map fun d => sgn (dig pl.length d.1.toNat).reverse
theorem words_all {pl : List (List Int)} : wordsL pl = (ranksL (pl.map List.length)).map (fun r => (numR pl.reverse r.reverse, r)) ∧ ∀ r ∈ ranksL (pl.map List.length), Rr pl.reverse r.reverse := by
  have h := words_ranks (pl := pl) pl.length (Nat.le_refl _)
  rw [List.take_length] at h
  have e : (pl.map List.length).take pl.length = pl.map List.length := List.take_of_length_le (by simp)
  rw [e] at h
  exact h
theorem Pls.rev {pl : List (List Int)} (h : Pls pl) : Pls pl.reverse := ⟨fun x hx => h.i x (List.mem_reverse.mp hx), fun x hx => h.s x (List.mem_reverse.mp hx), fun x hx => h.l x (List.mem_reverse.mp hx)⟩
theorem ts_lt {pl : List (List Int)} (h : Pls pl) : ∀ i j, i < (ranksL (pl.map List.length)).length → j < (ranksL (pl.map List.length)).length →
    ltS ((tsOf pl).getD i default) ((tsOf pl).getD j default) = decide (((ranksL (pl.map List.length)).map codeOf).getD i 0 < ((ranksL (pl.map List.length)).map codeOf).getD j 0) := by
  obtain ⟨hw, hr⟩ := words_all (pl := pl)
  unfold tsOf
  rw [hw, List.map_map]
  have hp := h.rev
  generalize ranksL (pl.map List.length) = rs at *
  intro i j hi hj
  have e1 : ∀ {i : Nat}, i < rs.length → ((rs.map ((fun d : Int × List Nat => sgn (dig pl.length d.1.toNat).reverse) ∘ fun r => (numR pl.reverse r.reverse, r))).getD i default).cps.toList = twR pl.reverse (rs.getD i []).reverse := fun {i} hi => by
    have hm : rs.getD i [] = rs[i] := by rw [List.getD_eq_getElem?_getD, List.getElem?_eq_getElem hi]; rfl
    rw [List.getD_eq_getElem?_getD, List.getElem?_map, List.getElem?_eq_getElem hi, hm]
    have := dig_rev hp (hr _ (List.getElem_mem hi))
    rw [List.length_reverse] at this
    exact this
  have e2 : ∀ {i : Nat}, i < rs.length → (rs.map codeOf).getD i 0 = codeR (rs.getD i []).reverse := fun {i} hi => by
    rw [List.getD_eq_getElem?_getD, List.getD_eq_getElem?_getD, List.getElem?_map, List.getElem?_eq_getElem hi]; rfl
  have e3 : ∀ {i : Nat}, i < rs.length → Rr pl.reverse (rs.getD i []).reverse := fun {i} hi => by
    have hm : rs.getD i [] = rs[i] := by rw [List.getD_eq_getElem?_getD, List.getElem?_eq_getElem hi]; rfl
    rw [hm]; exact hr _ (List.getElem_mem hi)
  unfold ltS
  rw [e1 hi, e1 hj, e2 hi, e2 hj]
  exact decide_eq_decide.mpr (order_R hp (e3 hi) (e3 hj))
end Mine
namespace Mine
/-- where the text's defs stand -/
structure Ad where
  r : Addr
  l : Addr
  ap : Addr
  sw : Addr
  le : Addr
  wd : Addr
  tn : Addr
  ah : Addr
  bh : Addr
  cr : Addr
  dR : Value
  kR : Value
  dL : Value
  kL : Value
  ca : Addr
  cb : Addr
  pa : Addr
  pb : Addr
structure Fs2 (h : Heap) (mg mb : Str → Option Value) (a : Ad) : Prop where
  G : GL mg mb h
  B : Bs mg mb
  r : Fd h mg d_bisR a.r a.dR a.kR
  l : Fd h mg d_bisL a.l a.dL a.kL
  br : Bd h a.dR a.kR
  bl : Bd h a.dL a.kL
  ap : Fd h mg d_ap a.ap .none .none
  sw : Fd h mg d_swap a.sw .none .none
  le : Fd h mg d_letters a.le .none .none
  wd : Fd h mg d_words a.wd .none .none
  tn : Fd h mg d_turned a.tn .none .none
  cr : Fd h mg d_cr a.cr .none .none
  nah : mg (fnName d_ahead) = some (.ref a.ah)
  nbh : mg (fnName d_behind) = some (.ref a.bh)
  ah : FnAtC h a.ah (fnName d_ahead) (fnPar d_ahead) (fnBody d_ahead) (fnScope d_ahead) .none .none a.ca
  bh : FnAtC h a.bh (fnName d_behind) (fnPar d_behind) (fnBody d_behind) (fnScope d_behind) .none .none a.cb
  ca : CodeHd h a.ca a.pa
  cb : CodeHd h a.cb a.pb
  ma : h.BuiltinsAt mg a.pa
  mb' : h.BuiltinsAt mg a.pb
  ga : mainGlobals ≠ a.pa
  gb : mainGlobals ≠ a.pb
theorem bat_keeps {h h' : Heap} {mg : Str → Option Value} {P : Addr} (x : h.BuiltinsAt mg P) (k : ∀ b o, h.get? b = some o → h'.get? b = some o) : h'.BuiltinsAt mg P :=
  let ⟨bm, o, e1, e2, e3, e4, e5, e6⟩ := x; ⟨bm, o, e1, e2, e3, e4, k _ _ e5, e6⟩
theorem Fs2.keeps {h h' : Heap} {mg mb : Str → Option Value} {a : Ad} (X : Fs2 h mg mb a) (k : ∀ b o, h.get? b = some o → h'.get? b = some o) : Fs2 h' mg mb a :=
  ⟨X.G.keeps k, X.B, X.r.keeps k, X.l.keeps k, X.br.keeps k, X.bl.keeps k, X.ap.keeps k, X.sw.keeps k, X.le.keeps k, X.wd.keeps k, X.tn.keeps k, X.cr.keeps k, X.nah, X.nbh, X.ah.keeps k, X.bh.keeps k, X.ca.keeps k, X.cb.keeps k, bat_keeps X.ma k, bat_keeps X.mb' k, X.ga, X.gb⟩
/-- all but two tables stands as it stood -/
structure Pu2 (P P' : Addr) (s s' : Shared) : Prop where
  same : s' = { s with heap := s'.heap, toks := s'.toks }
  keep : ∀ b o, b ≠ P → b ≠ P' → s.heap.get? b = some o → s'.heap.get? b = some o
  tab : ∃ ps, s'.heap.get? P = some (tabObj ps)
  tab' : ∃ ps, s'.heap.get? P' = some (tabObj ps)
abbrev d_law : Stmt := stm PySem.Challenge.pw_wn0038_02 14
def xs_law : List Str := ["sizes", "words", "turned", "row", "ahead", "other", "behind", "astray", "pairs", "squares", "turn", "ranks", "lacks"]
def plOf (dL : List Int) (sz : List Nat) : List (List Int) := (List.range sz.length).map fun i => ltrs (dL.getD (1 + i) 0) 1 (sz.getD i 0)
section
variable {prog : Program} {w : World} {A : Around} {env : Env} {s₀ s : Shared} {mg mb : Str → Option Value} {α : Type}
def asgE : Stmt → Expr
  | .Assign _ e _ => e
  | _ => .Constant .none 0 default
def lawAt (k : Nat) : Stmt := (fnBody d_law)[k]?.getD (.Pass default)
/-- law's frame -/
abbrev envL (L f : Addr) (cdv : Value) : Env := envC (fnName d_law) (fnScope d_law) L f cdv [("many", L + 1 + 2), ("draws", L + 1 + 1), ("script", L + 1)]
theorem drw_at {ns : List Int} {k : Nat} {d0 : Int} (h : ([0, 8, 37, 2, 5] : List Int)[k]? = some d0) : (drwL ns 15 5 [0, 8, 37, 2, 5])[k]? = some (drw ns 15 5 k d0) := by
  have hk : k < 5 := by have := (List.getElem?_eq_some_iff.mp h).1; simpa using this
  unfold drwL
  rw [List.getElem?_map, List.getElem?_range (by simpa using hk)]
  show some (drw ns 15 5 k (([0, 8, 37, 2, 5] : List Int).getD k 0)) = _
  rw [List.getD_eq_getElem?_getD, h]; rfl
set_option maxHeartbeats 1000000 in
theorem draws_ev {L f sc : Addr} {cdv : Value} {oS : Obj} {ys : Array Value} {ns : List Int} {j : Nat} (R : Rm (j + 1) A) (G : GL mg mb s.heap) (B : Bs mg mb) (c1 : s.heap.get? (L + 1) = some oS) (hdS : oS.data = .cell (some (.ref sc))) (hl : s.heap.IsList sc ys) (hy : All2 (fun n : Int => isI n) ns ys mem0) (hz : ns.length ≤ 63) :
    Ev prog w A (eval (asgE (lawAt 0)) (envL L f cdv)) s (Lof (fun n : Int => isI n) (drwL ns 15 5 [0, 8, 37, 2, 5])) := by
  refine ev_comp2L (n := 5) (i := 0) (i' := 1) (xs := ["place", "start"]) (cl := [("script", L + 1)]) (P := fun k a b => isI (k : Nat) a (fun _ => none) ∧ ∃ d f, ([0, 8, 37, 2, 5] : List Int)[k]? = some d ∧ isI d b f) _ (fun _ => mono_I) R.hand ce_of rfl rfl rfl rfl rfl (by simp [drwL])
      (fun s' p' => src_enumJ R.hand (ev_blt (G.keeps p'.keep) rfl rfl rfl rfl B.enum.1 B.enum.2) (ev_list (ea_cons ev_int mono_I (ea_cons ev_int mono_I (ea3 ev_int mono_I ev_int mono_I ev_int mono_I))) rfl (Nat.le_of_ble_eq_true rfl)) (enumJ_lof (ds := [0, 8, 37, 2, 5]) (PP := fun n : Int => isI n) fun v f ⟨a, zs, q, e, ho, hz⟩ => ⟨a, zs, q, e, ho, all2_of_allP (ds := [0, 8, 37, 2, 5]) (PP := fun n : Int => isI n) hz⟩) rfl)
      (by simp [drwL]) (fun s' C D k v v' zs d g r kk st p' hv hd en' St' q1 => ?_)
  obtain ⟨⟨t0, rfl⟩, d0, f0, hd0, t1, rfl⟩ := hv
  rw [drw_at hd0] at hd
  have hd := Option.some.inj hd
  subst hd
  have hsl := hy.slice (some (k : Int)) (some 15) (some 5)
  refine ev_add (ev_locI (Ce.en ce_of rfl rfl) St'.loc (i := 1) rfl rfl) (ev_call (ev_blt (G.keeps q1.keep) rfl rfl rfl rfl B.sum.1 B.sum.2) kept_builtin (ea1 (P := Lof (fun n : Int => isI n) ((picks ns (some (k : Int)) (some 15) (some 5)).map fun c => c.fmod (10 ^ (6 : Int).toNat)))
      (ev_comp1L (PP := fun n : Int => isI n) (n := (slicePick ys (some (k : Int)) (some 15) (some 5)).size) (i := 0) (P := fun i v => (slicePick ys (some (k : Int)) (some 15) (some 5))[i]? = some v) (xs := ["cell"]) (cl := []) _ (fun _ => mono_I) ce_of rfl rfl rfl rfl (by rw [hsl.1, List.length_map]) (fun s' p' => ?_) ?_ (fun s' C' D' i v zs' d g' r' kk' st' p' hv hd en2 St2 q => ?_))
      (mono_Lof fun _ => mono_I)) mono_I (cl_sum R.hand (lstJ fun ys f h => ⟨_, h.ints, rfl⟩)))
  · refine src_list R.hand (ev_item (P := isLst fun zs _ => zs = slicePick ys (some (k : Int)) (some 15) (some 5)) (ev_cell (c := L + 1) rfl rfl rfl (p'.keep _ _ (q1.keep _ _ c1)) hdS) (ev_slice (ep_some (ev_locI (Ce.en ce_of rfl rfl) (St'.up p').loc (i := 0) rfl rfl)) (ep_some ev_int) (ep_some ev_int)) (mono_lst fun _ _ _ _ h => h) (it_listSlice (C := fun zs => zs = slicePick ys (some (k : Int)) (some 15) (some 5)) (lstVC (IsList.up hl (q1.trans p').keep) ⟨le_line (by rw [hy.1]; omega), rfl⟩) (by decide)))
        fun v s f _ _ ⟨a, zs, n, e, ho, hz⟩ => ⟨a, _, e, rfl, ⟨n, by rw [hz]⟩, .inr ho⟩
  · have := slicePick_size_le ys (some (k : Int)) (some 15) (some 5)
    rw [List.length_map]
    rw [hsl.1, hy.1] at this
    omega
  · obtain ⟨d1, hd1', t2, rfl⟩ := hsl.get hv
    rw [List.getElem?_map, hd1'] at hd
    cases hd
    exact ev_mod (ev_locI en2 St2.loc (i := 0) rfl rfl) (ev_pow ev_int ev_int (by decide) (by decide) (by decide)) (by decide)
theorem ev_three {PP : α → Value → Mem → Prop} {a b c : α} {e1 e2 e3 : Expr} {pos : Pos} (m : ∀ d, Mono (PP d)) (h1 : Ev prog w A (eval e1 env) s (PP a)) (h2 : Ev prog w A (eval e2 env) s (PP b)) (h3 : Ev prog w A (eval e3 env) s (PP c)) (hs : starEach [e1, e2, e3] env = (evs [e1, e2, e3] env).map fun t => (false, t) := by rfl) :
   Ev prog w A (eval (.List [e1, e2, e3] pos) env) s (Lof PP [a, b, c]) :=
  (ev_list (ea3 h1 (m _) h2 (m _) h3 (m _)) hs (by show 3 ≤ 1000; omega)).imp fun v f ⟨a', ys, q, e, ho, hy⟩ => ⟨a', ys, q, e, ho, all2_of_allP (ds := [a, b, c]) (PP := PP) hy⟩
theorem ev_four {PP : α → Value → Mem → Prop} {a b c d : α} {e1 e2 e3 e4 : Expr} {pos : Pos} (m : ∀ d, Mono (PP d)) (h1 : Ev prog w A (eval e1 env) s (PP a)) (h2 : Ev prog w A (eval e2 env) s (PP b)) (h3 : Ev prog w A (eval e3 env) s (PP c)) (h4 : Ev prog w A (eval e4 env) s (PP d)) (hs : starEach [e1, e2, e3, e4] env = (evs [e1, e2, e3, e4] env).map fun t => (false, t) := by rfl) :
   Ev prog w A (eval (.List [e1, e2, e3, e4] pos) env) s (Lof PP [a, b, c, d]) :=
  (ev_list (ea_cons h1 (m _) (ea3 h2 (m _) h3 (m _) h4 (m _))) hs (by show 4 ≤ 1000; omega)).imp fun v f ⟨a', ys, q, e, ho, hy⟩ => ⟨a', ys, q, e, ho, all2_of_allP (ds := [a, b, c, d]) (PP := PP) hy⟩
theorem ev_six {PP : α → Value → Mem → Prop} {a b c d d' d'' : α} {x1 x2 x3 x4 x5 x6 : List Expr} {q1 q2 q3 q4 q5 q6 pos : Pos} (m : ∀ d, Mono (PP d)) (h1 : Ev prog w A (eval (.List x1 q1) env) s (PP a)) (h2 : Ev prog w A (eval (.List x2 q2) env) s (PP b)) (h3 : Ev prog w A (eval (.List x3 q3) env) s (PP c)) (h4 : Ev prog w A (eval (.List x4 q4) env) s (PP d)) (h5 : Ev prog w A (eval (.List x5 q5) env) s (PP d')) (h6 : Ev prog w A (eval (.List x6 q6) env) s (PP d'')) :
   Ev prog w A (eval (.List [.List x1 q1, .List x2 q2, .List x3 q3, .List x4 q4, .List x5 q5, .List x6 q6] pos) env) s (Lof PP [a, b, c, d, d', d'']) :=
  (ev_list (ea_cons h1 (m _) (ea_cons h2 (m _) (ea_cons h3 (m _) (ea3 h4 (m _) h5 (m _) h6 (m _))))) rfl (by show 6 ≤ 1000; omega)).imp fun v f ⟨a', ys, q, e, ho, hy⟩ => ⟨a', ys, q, e, ho, all2_of_allP (ds := [a, b, c, d, d', d'']) (PP := PP) hy⟩
theorem mono_N (n : Nat) : Mono (isI n) := mono_I
theorem n3 {a b c : Int} (x y z : Nat) (ha : a = x) (hb : b = y) (hc : c = z) {p1 p2 p3 p : Pos} : Ev prog w A (eval (.List [.Constant (.int a) 0 p1, .Constant (.int b) 0 p2, .Constant (.int c) 0 p3] p) env) s (Lof (fun n : Nat => isI n) [x, y, z]) := by
  subst ha hb hc; exact ev_three (PP := fun n : Nat => isI n) mono_N ev_int ev_int ev_int
theorem n4 {a b c d : Int} (x y z u : Nat) (ha : a = x) (hb : b = y) (hc : c = z) (hd : d = u) {p1 p2 p3 p4 p : Pos} : Ev prog w A (eval (.List [.Constant (.int a) 0 p1, .Constant (.int b) 0 p2, .Constant (.int c) 0 p3, .Constant (.int d) 0 p4] p) env) s (Lof (fun n : Nat => isI n) [x, y, z, u]) := by
  subst ha hb hc hd; exact ev_four (PP := fun n : Nat => isI n) mono_N ev_int ev_int ev_int ev_int
set_option maxHeartbeats 1000000 in
theorem table_ev {p0 p1 p2 p3 p4 p5 p6 a1 a2 a3 b1 b2 b3 c1 c2 c3 c4 d1 d2 d3 d4 e1 e2 e3 f1 f2 f3 : Pos} : Ev prog w A (eval (.List [.List [.Constant (.int 2) 0 a1, .Constant (.int 3) 0 a2, .Constant (.int 2) 0 a3] p1, .List [.Constant (.int 3) 0 b1, .Constant (.int 2) 0 b2, .Constant (.int 3) 0 b3] p2,
    .List [.Constant (.int 2) 0 c1, .Constant (.int 2) 0 c2, .Constant (.int 2) 0 c3, .Constant (.int 2) 0 c4] p3, .List [.Constant (.int 3) 0 d1, .Constant (.int 1) 0 d2, .Constant (.int 2) 0 d3, .Constant (.int 3) 0 d4] p4,
    .List [.Constant (.int 2) 0 e1, .Constant (.int 4) 0 e2, .Constant (.int 2) 0 e3] p5, .List [.Constant (.int 4) 0 f1, .Constant (.int 2) 0 f2, .Constant (.int 3) 0 f3] p6] p0) env) s (Lof (Lof fun n : Nat => isI n) szT) := by
  have m : ∀ d : List Nat, Mono (Lof (fun n : Nat => isI n) d) := fun _ => mono_Lof mono_N
  unfold szT
  with_reducible refine ev_six m ?_ ?_ ?_ ?_ ?_ ?_
  · (with_reducible refine n3 2 3 2 ?_ ?_ ?_) <;> rfl
  · (with_reducible refine n3 3 2 3 ?_ ?_ ?_) <;> rfl
  · (with_reducible refine n4 2 2 2 2 ?_ ?_ ?_ ?_) <;> rfl
  · (with_reducible refine n4 3 1 2 3 ?_ ?_ ?_ ?_) <;> rfl
  · (with_reducible refine n3 2 4 2 ?_ ?_ ?_) <;> rfl
  · (with_reducible refine n3 4 2 3 ?_ ?_ ?_) <;> rfl
/-- sizes = [..][draws[0] % 6] -/
theorem sizes_gen {table : Expr} {L f aD : Addr} {cdv : Value} {oD : Obj} {dys : Array Value} {dL : List Int} {q : F6} {p1 p2 p3 p4 p5 p6 : Pos} (ht : Ev prog w A (eval table (envL L f cdv)) s (Lof (Lof fun n : Nat => isI n) szT)) (c2 : s.heap.get? (L + 1 + 1) = some oD) (hdD : oD.data = .cell (some (.ref aD))) (hl : s.heap.IsList aD dys) (hy : All2 (fun n : Int => isI n) dL dys mem0) (hz : 0 < dL.length) (eq : (dL.getD 0 0).fmod 6 = (q.val : Int)) :
    Ev prog w A (eval (.Subscript table (.BinOp (.Subscript (.Name "draws" p1) (.Constant (.int 0) 0 p2) p3) .Mod (.Constant (.int 6) 0 p4) p5) p6) (envL L f cdv)) s (Lof (fun n : Nat => isI n) (szT.getD q.val [])) := by
  have hsq : szT[((q.val : Int)).toNat]? = some (szT.getD q.val []) := by
    rw [Int.toNat_natCast, List.getD_eq_getElem?_getD, List.getElem?_eq_getElem (by show q.val < 6; exact q.isLt)]; rfl
  have i0 := Mem.getI hy (k := 0) hz
  have hidx : Ev prog w A (eval (.BinOp (.Subscript (.Name "draws" p1) (.Constant (.int 0) 0 p2) p3) .Mod (.Constant (.int 6) 0 p4) p5) (envL L f cdv)) s (isI (q.val : Int)) :=
    Ev.isI_eq (ev_mod (ev_item (ev_cell (c := L + 1 + 1) rfl rfl rfl c2 hdD) ev_int (mono_of _) (it_list (P := fun v => ∃ t, v = Value.int (dL.getD 0 0) t) (lstVC hl (by simpa using i0)) (by decide) (by decide))) ev_int (by decide)) eq
  exact ev_itemL ht hidx (fun _ => mono_Lof mono_N) hsq (by omega) (by have := q.isLt; omega)
/-- the words' letters: [_law_letters(draws[1 + place], size) for place, size in enumerate(sizes)] -/
def callArg : Expr → Expr
  | .Call _ (e :: _) _ _ => e
  | _ => .Constant .none 0 default
set_option maxHeartbeats 1000000 in
theorem places_ev {L f fl aD aS : Addr} {cdv : Value} {oD : Obj} {dys sys : Array Value} {nS j : Nat} {dL : List Int} {sz : List Nat} {g : Mem} {vs : List (Option Value)} {ms : List (Addr × Obj)} {u : Shared} (R : Rm (j + 1) A) (S : St u g L xs_law (some (.ref aS) :: vs) ms s) (G : GL mg mb s.heap) (B : Bs mg mb) (F : Fd s.heap mg d_letters fl .none .none) (c2 : s.heap.get? (L + 1 + 1) = some oD) (hdD : oD.data = .cell (some (.ref aD))) (hl : s.heap.IsList aD dys) (hy : All2 (fun n : Int => isI n) dL dys mem0) (hz : 5 ≤ dL.length)
    (hS : s.heap.get? aS = some (lobj sys nS)) (hsy : All2 (fun n : Nat => isI n) sz sys mem0) (h4 : sz.length ≤ 4) (hs4 : ∀ z ∈ sz, z ≤ 4) :
    Ev prog w A (eval (callArg (asgE (lawAt 2))) (envL L f cdv)) s (Lof (Lof fun n : Int => isI n) (plOf dL sz)) := by
  refine ev_comp2L (n := sys.size) (i := 0) (i' := 1) (xs := ["place", "size"]) (cl := [("draws", L + 1 + 1)]) (P := fun k a b => isI (k : Nat) a (fun _ => none) ∧ sys[k]? = some b) _ (fun _ => mono_Lof fun _ => mono_I) R.hand ce_of rfl rfl rfl rfl rfl (by simp [plOf, hsy.1])
      (fun s' p' => src_enumV R.hand (ev_blt (G.keeps p'.keep) rfl rfl rfl rfl B.enum.1 B.enum.2) (ev_loc en_ofC (S.up p').loc (i := 0) rfl rfl) (p'.keep _ _ hS) (p'.keep _ _ hS) rfl rfl)
      (by simp [plOf]; omega) (fun s' C D k v v' zs d g r kk st p' hv hd en' St' q1 => ?_)
  obtain ⟨⟨t0, rfl⟩, hv'⟩ := hv
  obtain ⟨z, hz', t1, rfl⟩ := hsy.get hv'
  have hk : k < sz.length := (List.getElem?_eq_some_iff.mp hz').1
  have hzm := hs4 z (List.mem_of_getElem? hz')
  have hd' : ltrs (dL.getD (1 + k) 0) 1 z = d := by
    unfold plOf at hd
    rw [List.getElem?_map, List.getElem?_range hk] at hd
    have e : sz.getD k 0 = z := by rw [List.getD_eq_getElem?_getD, hz']; rfl
    rw [← e]; exact Option.some.inj hd
  subst hd'
  have i1 := Mem.getI hy (k := 1 + k) (by omega)
  refine ev_call (ev_glob (G.keeps q1.keep) rfl rfl rfl F.1) (F.keeps q1.keep).2.kept (ea2 (P := isI (dL.getD (1 + k) 0)) (P' := isI (z : Nat)) (ev_item (ev_cell (c := L + 1 + 1) rfl rfl rfl (q1.keep _ _ c2) hdD) (Ev.isI_eq (ev_add ev_int (ev_locI (Ce.en ce_of rfl rfl) St'.loc (i := 0) rfl rfl)) (b := ((1 + k : Nat) : Int)) (by omega)) (mono_of _) (it_list (P := fun v => ∃ t, v = Value.int (dL.getD (1 + k) 0) t) (lstVC (IsList.up hl q1.keep) (by rw [Int.toNat_natCast]; exact i1)) (by omega) (by omega))) mono_I
    (ev_locI (Ce.en ce_of rfl rfl) St'.loc (i := 1) rfl rfl) mono_I) (mono_Lof fun _ => mono_I) (letters_spec hzm R (G.keeps q1.keep) (F.keeps q1.keep) B.range)
end
end Mine
namespace Mine
theorem ints_of_nats {row : List Nat} {ys : Array Value} {f : Mem} (h : All2 (fun n : Nat => isI n) row ys f) : All2 (fun n : Int => isI n) (intsN row) ys f := All2.map (P := fun n : Int => isI n) (g := fun n : Nat => (n : Int)) h
theorem intsN_get {l : List Nat} {k : Nat} (h : k < l.length) : (intsN l).getD k 0 = ((l.getD k 0 : Nat) : Int) := by
  unfold intsN
  rw [List.getD_eq_getElem?_getD, List.getElem?_map, List.getElem?_eq_getElem h, List.getD_eq_getElem?_getD, List.getElem?_eq_getElem h]; rfl
section
variable {prog : Program} {w : World} {A : Around} {s u : Shared} {mg mb : Str → Option Value} {L f : Addr} {cdv : Value} {g : Mem} {vs : List (Option Value)} {ms : List (Addr × Obj)}
set_option maxHeartbeats 1000000 in
theorem astray_ev {aR : Addr} {rys : Array Value} {nR j : Nat} {row : List Nat} (R : Rm (j + 1) A) (S : St u g L xs_law vs ms s) (G : GL mg mb s.heap) (B : Bs mg mb) (hv : vs[3]? = some (some (.ref aR))) (hR : s.heap.get? aR = some (lobj rys nR)) (hry : All2 (fun n : Nat => isI n) row rys mem0) (hz : row.length ≤ 100) (hb : ∀ x ∈ row, x < 100) :
    Ev prog w A (eval (asgE (lawAt 8)) (envL L f cdv)) s (isI (astr row)) := by
  refine ev_call (ev_blt G rfl rfl rfl rfl B.sum.1 B.sum.2) kept_builtin (ea1 (P := Lof (fun n : Int => isI n) ((List.range row.length).map fun i : Nat => ((i : Int) - (row.getD i 0 : Nat)) ^ (2 : Int).toNat))
    (ev_comp2L (PP := fun n : Int => isI n) (n := rys.size) (i := 0) (i' := 1) (xs := ["spot", "origin"]) (cl := []) (P := fun k a b => isI (k : Nat) a (fun _ => none) ∧ rys[k]? = some b) _ (fun _ => mono_I) R.hand ce_of rfl rfl rfl rfl rfl (by rw [hry.1, List.length_map, List.length_range])
      (fun s' p' => src_enumV R.hand (ev_blt (G.keeps p'.keep) rfl rfl rfl rfl B.enum.1 B.enum.2) (ev_loc en_ofC (S.up p').loc (i := 3) rfl hv) (p'.keep _ _ hR) (p'.keep _ _ hR) rfl rfl) (by rw [List.length_map, List.length_range]; omega) (fun s' C D k v v' zs d g r kk st p' hv hd en' St' q1 => ?_))
    (mono_Lof fun _ => mono_I)) mono_I (cl_sum R.hand (lstJ fun ys f h => ⟨_, h.ints, rfl⟩))
  obtain ⟨⟨t0, rfl⟩, hv'⟩ := hv
  obtain ⟨x, hx, t1, rfl⟩ := hry.get hv'
  have hk : k < row.length := (List.getElem?_eq_some_iff.mp hx).1
  have hxb := hb x (List.mem_of_getElem? hx)
  have hd' : ((k : Int) - (x : Nat)) ^ (2 : Int).toNat = d := by
    rw [List.getElem?_map, List.getElem?_range hk] at hd
    have e : row.getD k 0 = x := by rw [List.getD_eq_getElem?_getD, hx]; rfl
    rw [← e]; exact Option.some.inj hd
  subst hd'
  exact ev_pow (ev_sub (ev_locI (Ce.en ce_of rfl rfl) St'.loc (i := 0) rfl rfl) (ev_locI (Ce.en ce_of rfl rfl) St'.loc (i := 1) rfl rfl)) ev_int (by decide) (by decide) (by omega)
set_option maxHeartbeats 1000000 in
theorem pairs_ev {aS : Addr} {sys : Array Value} {nS j m : Nat} {tm : Tok} {sz : List Nat} {oM : Obj} (R : Rm (j + 1) A) (S : St u g L xs_law vs ms s) (G : GL mg mb s.heap) (B : Bs mg mb) (hv : vs[0]? = some (some (.ref aS))) (hS : s.heap.get? aS = some (lobj sys nS)) (hsy : All2 (fun n : Nat => isI n) sz sys mem0) (hz : sz.length ≤ 100)
    (c3 : s.heap.get? (L + 1 + 2) = some oM) (hdM : oM.data = .cell (some (.int (m : Nat) tm))) (hm : m ≤ 100) :
    Ev prog w A (eval (asgE (lawAt 9)) (envL L f cdv)) s (isI (pairsN m (intsN sz))) := by
  have hM : ∀ p, Ev prog w A (eval (.Name "many" p) (envL L f cdv)) s (isI (m : Nat)) := fun _ => Ev.imp (ev_cell (c := L + 1 + 2) rfl rfl rfl c3 hdM) fun _ _ e => ⟨tm, e⟩
  have hsi := ints_of_nats hsy
  have hzl : (intsN sz).length = sz.length := by simp [intsN]
  refine ev_mul (hM _) (ev_sub (ev_sub (hM _) ev_int) (ev_call (ev_blt G rfl rfl rfl rfl B.sum.1 B.sum.2) kept_builtin (ea1 (P := Lof (fun n : Int => isI n) ((intsN sz).map fun z => z - 1))
    (ev_comp1L (PP := fun n : Int => isI n) (n := sys.size) (i := 0) (P := fun i v => sys[i]? = some v) (xs := ["size"]) (cl := []) _ (fun _ => mono_I) ce_of rfl rfl rfl rfl (by rw [hsi.1, List.length_map]) (fun s' p' => src_listV R.hand (ev_loc en_ofC (S.up p').loc (i := 0) rfl hv) (p'.keep _ _ hS) (p'.keep _ _ hS) rfl rfl) (by rw [List.length_map, hzl]; omega) (fun s' C' D' i v zs' d g' r' kk' st' p' hv hd en2 St2 q => ?_))
    (mono_Lof fun _ => mono_I)) mono_I (cl_sum R.hand (lstJ fun ys f h => ⟨_, h.ints, rfl⟩)))) (.of_left (intBits_le_64 (by omega) (by omega)))
  obtain ⟨z, hz', t1, rfl⟩ := hsi.get hv
  rw [List.getElem?_map, hz'] at hd
  cases hd
  exact ev_sub (ev_locI en2 St2.loc (i := 0) rfl rfl) ev_int
set_option maxHeartbeats 1000000 in
theorem squares_ev {aS : Addr} {sys : Array Value} {nS j m : Nat} {tm : Tok} {sz : List Nat} {oM : Obj} (R : Rm (j + 1) A) (S : St u g L xs_law vs ms s) (G : GL mg mb s.heap) (B : Bs mg mb) (hv : vs[0]? = some (some (.ref aS))) (hS : s.heap.get? aS = some (lobj sys nS)) (hsy : All2 (fun n : Nat => isI n) sz sys mem0) (hz : sz.length ≤ 100) (hs4 : ∀ z ∈ sz, 1 ≤ z ∧ z ≤ 4)
    (c3 : s.heap.get? (L + 1 + 2) = some oM) (hdM : oM.data = .cell (some (.int (m : Nat) tm))) (hm : m ≤ 100) :
    Ev prog w A (eval (asgE (lawAt 10)) (envL L f cdv)) s (isI (squaresN m (intsN sz))) := by
  have hM : ∀ p, Ev prog w A (eval (.Name "many" p) (envL L f cdv)) s (isI (m : Nat)) := fun _ => Ev.imp (ev_cell (c := L + 1 + 2) rfl rfl rfl c3 hdM) fun _ _ e => ⟨tm, e⟩
  have hsi := ints_of_nats hsy
  have hzl : (intsN sz).length = sz.length := by simp [intsN]
  have hok : ∀ x : Int, IntMulOk (m : Nat) x := fun x => .of_left (intBits_le_64 (by omega) (by omega))
  refine ev_sub (ev_mul (hM _) (ev_sub (ev_mul (hM _) (hM _) (hok _)) ev_int) (hok _)) (ev_mul (hM _) (ev_call (ev_blt G rfl rfl rfl rfl B.sum.1 B.sum.2) kept_builtin (ea1 (P := Lof (fun n : Int => isI n) ((intsN sz).map fun z => (m : Int).fdiv z * (z * z - 1)))
    (ev_comp1L (PP := fun n : Int => isI n) (n := sys.size) (i := 0) (P := fun i v => sys[i]? = some v) (xs := ["size"]) (cl := [("many", L + 1 + 2)]) _ (fun _ => mono_I) ce_of rfl rfl rfl rfl (by rw [hsi.1, List.length_map]) (fun s' p' => src_listV R.hand (ev_loc en_ofC (S.up p').loc (i := 0) rfl hv) (p'.keep _ _ hS) (p'.keep _ _ hS) rfl rfl) (by rw [List.length_map, hzl]; omega) (fun s' C' D' i v zs' d g' r' kk' st' p' hv hd en2 St2 q => ?_))
    (mono_Lof fun _ => mono_I)) mono_I (cl_sum R.hand (lstJ fun ys f h => ⟨_, h.ints, rfl⟩))) (hok _))
  obtain ⟨z0, hz0, t1, rfl⟩ := hsy.get hv
  have hzm := hs4 z0 (List.mem_of_getElem? hz0)
  rw [List.getElem?_map, intsN, List.getElem?_map, hz0] at hd
  have hd : (m : Int).fdiv (z0 : Nat) * (((z0 : Nat) : Int) * (z0 : Nat) - 1) = d := Option.some.inj hd
  subst hd
  have h16 : z0 * z0 ≤ 4 * 4 := Nat.mul_le_mul hzm.2 hzm.2
  have h16' : ((z0 : Int) * (z0 : Int)) = ((z0 * z0 : Nat) : Int) := by push_cast; rfl
  refine ev_mul (ev_fdiv (Ev.imp (ev_cell (c := L + 1 + 2) rfl rfl rfl (q.keep _ _ c3) hdM) fun _ _ e => ⟨tm, e⟩) (ev_locI en2 St2.loc (i := 0) rfl rfl) (by omega) (noPy (by omega))) (ev_sub (ev_mul (ev_locI en2 St2.loc (i := 0) rfl rfl) (ev_locI en2 St2.loc (i := 0) rfl rfl) (.of_left (intBits_le_64 (by omega) (by omega)))) ev_int) (.of_right (intBits_le_64 (by rw [h16']; omega) (by rw [h16']; omega)))
end
end Mine
namespace Mine
def forBody : Stmt → List Stmt
  | .For _ _ b _ _ => b
  | _ => []
inductive LwJ (l : List (Option Value)) (ms₀ : List (Addr × Obj)) (vs : List (Option Value)) (ms : List (Addr × Obj)) : Prop where
  | mk (x10 x11 x12 : Option Value) : vs = l ++ [x10, x11, x12] → ms = ms₀ → LwJ l ms₀ vs ms
theorem lacks_len {zi r : List Int} : (lacksN zi r).length = min zi.length r.length := by simp [lacksN]
section
variable {prog : Program} {w : World} {A : Around} {s u : Shared} {mg mb : Str → Option Value} {L f : Addr} {cdv : Value} {g : Mem} {ms r : List (Addr × Obj)}
set_option maxHeartbeats 2000000 in
theorem turn_body {aS aW aA aB fc : Addr} {v2 v3 v5 v7 v8 v9 x11 x12 : Option Value} {sys wys ays bys : Array Value} {nS nW nA nB j k : Nat} {t : Tok} {sz rk A2 B2 : List Nat} {num : Int} {ws : List (Int × List Nat)} {Q : Flow → Shared → Prop}
    (R : Rm (j + 3) A) (S : St u g L xs_law [some (.ref aS), some (.ref aW), v2, v3, some (.ref aA), v5, some (.ref aB), v7, v8, v9, some (.int (k : Nat) t), x11, x12] (ms ++ r) s) (G : GL mg mb u.heap) (B : Bs mg mb) (F : Fd u.heap mg d_cr fc .none .none)
    (hS : g aS = some (lobj sys nS)) (hsy : All2 (fun n : Nat => isI n) sz sys mem0) (hW : g aW = some (lobj wys nW)) (hwy : All2 isWord ws wys g) (hA : g aA = some (lobj ays nA)) (hay : All2 (fun n : Nat => isI n) A2 ays mem0) (hB : g aB = some (lobj bys nB)) (hby : All2 (fun n : Nat => isI n) B2 bys mem0)
    (hk : ws[k]? = some (num, rk)) (hkz : k < 1000) (hkA : k < A2.length) (hkB : k < B2.length) (hrl : rk.length = sz.length) (hzl : sz.length ≤ 100) (hs4 : ∀ z ∈ sz, 1 ≤ z ∧ z ≤ 4) (hrz : ∀ i, i < sz.length → rk.getD i 0 < sz.getD i 0)
    (e1 : ((A2.getD k 0 : Nat) : Int) = crOut (intsN rk) (lacksN (intsN sz) (intsN rk)) (intsN sz) (intsN sz).length) (e2 : ((B2.getD k 0 : Nat) : Int) = crOut (lacksN (intsN sz) (intsN rk)) (intsN rk) (intsN sz) (intsN sz).length) :
    wpAny (model prog w) A (execs (forBody (lawAt 12)) (envL L f cdv)) (Turn u L xs_law g r (fun _ vs ms' => LwJ [some (.ref aS), some (.ref aW), v2, v3, some (.ref aA), v5, some (.ref aB), v7, v8, v9] ms vs ms') Q) (fun _ _ => False) s := by
  have en : En (envL L f cdv) xs_law := en_ofC
  obtain ⟨y, hy, T, ya, yb, rfl, hT, -, rb, rys, nr, rfl, hrb, hry⟩ := hwy.2 k _ hk
  have hry : All2 (fun n : Nat => isI n) rk rys mem0 := hry
  have hl0 : (intsN sz).length = sz.length := by simp [intsN]
  have hl1 : (intsN rk).length = sz.length := by simp [intsN, hrl]
  have hl2 : (lacksN (intsN sz) (intsN rk)).length = sz.length := by rw [lacks_len, hl0, hl1, Nat.min_self]
  refine x_cons (x_asgV (P := fun v => v = .ref rb) en rfl S (i := 11) rfl (ev_item (P := fun v _ => v = .ref rb) (P₁ := fun v _ => v = .ref T) (ev_item (P := fun v _ => v = .ref T) (ev_loc en S.loc (i := 1) rfl rfl) (ev_locI en S.loc (i := 10) rfl rfl) (mono_of _) (it_list (P := fun v => v = .ref T) (lstVC (isList_lobj (S.gk _ _ hW)) ⟨.ref T, by rw [Int.toNat_natCast]; exact hy, rfl⟩) (by omega) (by omega)))
    (Ev.isI_eq ev_int (b := ((1 : Nat) : Int)) rfl) (mono_of _) (it_tup (k := 1) (P := fun v => v = .ref rb) (fun v g' s' p' _ e => ⟨T, _, e, ⟨_, p'.keep _ _ (S.gk _ _ hT), rfl, 0, rfl⟩, .ref rb, rfl, rfl⟩) (by decide))) fun v s₁ hv S₁ => ?_)
  subst hv
  have hsi := ints_of_nats hsy
  have hri := ints_of_nats hry
  refine x_cons (x_asgC2 (j := 12) (n := min sys.size rys.size) (i := 0) (i' := 1) (cxs := ["size", "rank"]) (cl := []) (P := fun k x y => sys[k]? = some x ∧ rys[k]? = some y) (fun i ys _ => All2 (fun n : Int => isI n) ((lacksN (intsN sz) (intsN rk)).take i) ys mem0) R.hand en rfl S₁ rfl ce_of rfl rfl rfl
    (src_zipV R.hand (ev_blt (G.keeps S₁.ukeep) rfl rfl rfl rfl B.zip.1 B.zip.2) (ev_loc en S₁.loc (i := 0) rfl rfl) (ev_loc en S₁.loc (i := 11) rfl rfl) (S₁.gk _ _ hS) (S₁.gk _ _ hS) rfl rfl (S₁.gk _ _ hrb) (S₁.gk _ _ hrb) rfl rfl) (le_line (by rw [hsy.1, hry.1]; omega)) (fun _ => All2.nil) (fun C D i x y zs hi hxy => ?_) (fun lk lys nl g₂ f₂ s₂ l₂ lf₂ hlk hly S₂ => ?_) rfl)
  · obtain ⟨hx, hy⟩ := hxy
    obtain ⟨z, hz, tz, rfl⟩ := hsi.get hx
    obtain ⟨q, hq, tq, rfl⟩ := hri.get hy
    have hi' : i < min (intsN sz).length (intsN rk).length := by rw [hl0, hl1, Nat.min_self, ← hl0]; exact (List.getElem?_eq_some_iff.mp hz).1
    have hds : (lacksN (intsN sz) (intsN rk))[i]? = some (z - 1 - q) := by
      unfold lacksN
      rw [List.getElem?_map, List.getElem?_range hi']
      have ez : (intsN sz).getD i 0 = z := by rw [List.getD_eq_getElem?_getD, hz]; rfl
      have eq' : (intsN rk).getD i 0 = q := by rw [List.getD_eq_getElem?_getD, hq]; rfl
      show some ((intsN sz).getD i 0 - 1 - (intsN rk).getD i 0) = _
      rw [ez, eq']
    refine cturn_of (PP := fun n : Int => isI n) (fun _ => mono_I) hds fun g r kk st St' => ?_
    exact ev_sub (ev_sub (ev_locI (Ce.en ce_of rfl rfl) St'.loc (i := 0) rfl rfl) ev_int) (ev_locI (Ce.en ce_of rfl rfl) St'.loc (i := 1) rfl rfl)
  · have hly : All2 (fun n : Int => isI n) (lacksN (intsN sz) (intsN rk)) lys mem0 := by
      have h := hly
      have hn : min sys.size rys.size = (lacksN (intsN sz) (intsN rk)).length := by rw [hsi.1, hri.1, lacks_len]
      rw [hn, List.take_length] at h
      exact h
    have S₂ : St u g₂ L xs_law [some (.ref aS), some (.ref aW), v2, v3, some (.ref aA), v5, some (.ref aB), v7, v8, v9, some (.int (k : Nat) t), some (.ref rb), some (.ref lk)] (ms ++ r) s₂ := S₂
    have b1 : ∀ x ∈ intsN rk, 0 ≤ x ∧ x < 32 := fun x hx => by
      obtain ⟨i, hi, rfl⟩ := List.mem_iff_getElem.mp hx
      have hi' : i < rk.length := by simpa [intsN] using hi
      have h := hrz i (by omega)
      have hz : sz.getD i 0 ≤ 4 := by
        have hi2 : i < sz.length := by omega
        rw [List.getD_eq_getElem?_getD, List.getElem?_eq_getElem hi2]
        exact (hs4 _ (List.getElem_mem hi2)).2
      have e : rk.getD i 0 = rk[i] := by rw [List.getD_eq_getElem?_getD, List.getElem?_eq_getElem hi']; rfl
      rw [e] at h
      have e' : (intsN rk)[i] = (rk[i] : Int) := by simp [intsN]
      rw [e']; omega
    have b3 : ∀ x ∈ intsN sz, 0 ≤ x ∧ x < 32 := fun x hx => by
      obtain ⟨z, hz, rfl⟩ := List.mem_map.mp hx
      have := hs4 z hz; omega
    have b2 : ∀ x ∈ lacksN (intsN sz) (intsN rk), 0 ≤ x ∧ x < 32 := fun x hx => by
      obtain ⟨i, hi, rfl⟩ := List.mem_map.mp hx
      have hi := List.mem_range.mp hi
      rw [hl0, hl1, Nat.min_self] at hi
      have h := hrz i hi
      have h4 := hs4 (sz.getD i 0) (by
        rw [List.getD_eq_getElem?_getD, List.getElem?_eq_getElem hi]; exact List.getElem_mem hi)
      rw [intsN_get hi, intsN_get (by omega)]
      omega
    have iA : ∃ v, ays[((k : Nat) : Int).toNat]? = some v ∧ ∃ t, v = Value.int (A2.getD k 0 : Nat) t := by
      rw [Int.toNat_natCast]
      exact hay.2 k (A2.getD k 0) (by rw [List.getD_eq_getElem?_getD, List.getElem?_eq_getElem hkA]; rfl)
    have iB : ∃ v, bys[((k : Nat) : Int).toNat]? = some v ∧ ∃ t, v = Value.int (B2.getD k 0 : Nat) t := by
      rw [Int.toNat_natCast]
      exact hby.2 k (B2.getD k 0) (by rw [List.getD_eq_getElem?_getD, List.getElem?_eq_getElem hkB]; rfl)
    have G₂ := G.keeps S₂.ukeep
    have F₂ := F.keeps S₂.ukeep
    have rR : LobP (isV (.ref rb)) (fun ys => All2 (fun n : Int => isI n) (intsN rk) ys mem0) s₂ := lobVC (S₂.gk _ _ (l₂ _ _ hrb)) hri
    have rL : LobP (isV (.ref lk)) (fun ys => All2 (fun n : Int => isI n) (lacksN (intsN sz) (intsN rk)) ys mem0) s₂ := lobVC (S₂.gk _ _ hlk) hly
    have rZ : LobP (isV (.ref aS)) (fun ys => All2 (fun n : Int => isI n) (intsN sz) ys mem0) s₂ := lobVC (S₂.gk _ _ (l₂ _ _ hS)) hsi
    refine x_cons (x_if S₂ (eb_or
      (eb_cmp (c_neI (a := (A2.getD k 0 : Nat)) (b := crOut (intsN rk) (lacksN (intsN sz) (intsN rk)) (intsN sz) (intsN sz).length)) (ev_item (ev_loc en S₂.loc (i := 4) rfl rfl) (ev_locI en S₂.loc (i := 10) rfl rfl) (mono_of _) (it_list (P := fun v => ∃ t, v = Value.int (A2.getD k 0 : Nat) t) (lstVC (isList_lobj (S₂.gk _ _ (l₂ _ _ hA))) iA) (by omega) (by omega)))
        (ev_call (ev_glob G₂ rfl rfl rfl F₂.1) F₂.2.kept (ea3 (ev_loc en S₂.loc (i := 11) rfl rfl) mono_V (ev_loc en S₂.loc (i := 12) rfl rfl) mono_V (ev_loc en S₂.loc (i := 0) rfl rfl) mono_V) mono_I (cr_spec (j := j) rR rL rZ b1 b2 b3 (by omega) (by omega) (by omega) (R.lower (by omega)) G₂ F₂ B))) fun _ =>
      (eb_cmp (c_neI (a := (B2.getD k 0 : Nat)) (b := crOut (lacksN (intsN sz) (intsN rk)) (intsN rk) (intsN sz) (intsN sz).length)) (ev_item (ev_loc en S₂.loc (i := 6) rfl rfl) (ev_locI en S₂.loc (i := 10) rfl rfl) (mono_of _) (it_list (P := fun v => ∃ t, v = Value.int (B2.getD k 0 : Nat) t) (lstVC (isList_lobj (S₂.gk _ _ (l₂ _ _ hB))) iB) (by omega) (by omega)))
        (ev_call (ev_glob G₂ rfl rfl rfl F₂.1) F₂.2.kept (ea3 (ev_loc en S₂.loc (i := 12) rfl rfl) mono_V (ev_loc en S₂.loc (i := 11) rfl rfl) mono_V (ev_loc en S₂.loc (i := 0) rfl rfl) mono_V) mono_I (cr_spec (j := j) rL rR rZ b2 b1 b3 (by omega) (by omega) (by omega) (R.lower (by omega)) G₂ F₂ B)))) (fun h => ?_) fun _ s₃ S₃ => x_nil (x_nil ?_))
    · rw [e1, e2] at h
      simp at h
    · exact ⟨g₂, _, ms, l₂, S₃, some (.int (k : Nat) t), some (.ref rb), some (.ref lk), rfl, rfl⟩
end
end Mine
namespace Mine
theorem plOf_len {dL : List Int} {sz : List Nat} : (plOf dL sz).length = sz.length := by simp [plOf]
theorem plOf_lens {dL : List Int} {sz : List Nat} : (plOf dL sz).map List.length = sz := by
  unfold plOf
  rw [List.map_map]
  refine List.ext_getElem? fun i => ?_
  rw [List.getElem?_map]
  by_cases h : i < sz.length
  · rw [List.getElem?_range h, List.getElem?_eq_getElem h]
    show some (ltrs _ 1 (sz.getD i 0)).length = _
    rw [ltrs_len, List.getD_eq_getElem?_getD, List.getElem?_eq_getElem h]; rfl
  · rw [List.getElem?_eq_none (by simpa using h), List.getElem?_eq_none (by omega)]; rfl
theorem plOf_pls {dL : List Int} {sz : List Nat} (h : ∀ z ∈ sz, z ≤ 4) : Pls (plOf dL sz) := by
  have key : ∀ x ∈ plOf dL sz, ∃ d n, x = ltrs d 1 n ∧ n ≤ 4 := fun x hx => by
    obtain ⟨i, hi, rfl⟩ := List.mem_map.mp hx
    have hi := List.mem_range.mp hi
    exact ⟨_, _, rfl, h _ (by rw [List.getD_eq_getElem?_getD, List.getElem?_eq_getElem hi]; exact List.getElem_mem hi)⟩
  refine ⟨fun x hx => ?_, fun x hx i hi => ?_, fun x hx => ?_⟩
  · obtain ⟨d, n, rfl, hn⟩ := key x hx
    exact ltrs_in (.inr rfl) hn
  · obtain ⟨d, n, rfl, hn⟩ := key x hx
    rw [ltrs_len] at hi
    rw [ltrs_get hi, ltrs_get (by omega)]
    have := ltr_step (d := d) (a := 1) (i + 1); omega
  · obtain ⟨d, n, rfl, hn⟩ := key x hx
    rw [ltrs_len]; omega
theorem chk_ranks : ∀ q : F6, ∀ r ∈ ranksL (szT.getD q.val []), r.length = (szT.getD q.val []).length ∧ ∀ i : F4, i.val < (szT.getD q.val []).length → r.getD i.val 0 < (szT.getD q.val []).getD i.val 0 := by decide +kernel
/-- what is known of the row and the counts -/
structure Out2 (sz A1 A2 B1 B2 : List Nat) (m : Nat) : Prop where
  e : A1 = B1
  p : 4 * (intsN A2).sum = pairsN m (intsN sz)
  q : 6 * astr A1 = squaresN m (intsN sz)
  t : ∀ t, t < m → ((A2.getD t 0 : Nat) : Int) = crOut (intsN ((ranksL sz).getD t [])) (lacksN (intsN sz) (intsN ((ranksL sz).getD t []))) (intsN sz) (intsN sz).length ∧
    ((B2.getD t 0 : Nat) : Int) = crOut (lacksN (intsN sz) (intsN ((ranksL sz).getD t []))) (intsN ((ranksL sz).getD t [])) (intsN sz) (intsN sz).length
theorem out_of {dL : List Int} {q : F6} : Out2 (szT.getD q.val []) (ahN (plA (tsOf (plOf dL (szT.getD q.val [])))) (tsOf (plOf dL (szT.getD q.val []))).length).1 (ahN (plA (tsOf (plOf dL (szT.getD q.val [])))) (tsOf (plOf dL (szT.getD q.val []))).length).2
    (bhN (plB (tsOf (plOf dL (szT.getD q.val [])))) (tsOf (plOf dL (szT.getD q.val []))).length (tsOf (plOf dL (szT.getD q.val []))).length).1 (bhN (plB (tsOf (plOf dL (szT.getD q.val [])))) (tsOf (plOf dL (szT.getD q.val []))).length (tsOf (plOf dL (szT.getD q.val []))).length).2.reverse (ranksL (szT.getD q.val [])).length := by
  have hc := all_chk q
  obtain ⟨s1, s2, s3, s4, s5, s6⟩ := all_sz q
  generalize szT.getD q.val [] = sz at *
  have hp := plOf_pls (dL := dL) (sz := sz) fun z hz => (s5 z hz).2
  have hl := ts_lt hp
  have hlen : (tsOf (plOf dL sz)).length = (ranksL sz).length := by
    unfold tsOf
    rw [List.length_map, words_all.1, List.length_map, plOf_lens]
  rw [plOf_lens] at hl
  rw [hlen]
  rw [ah_congr (n := (ranksL sz).length) (cs := (ranksL sz).map codeOf) hl _ (Nat.le_refl _), bh_congr (n := (ranksL sz).length) (cs := (ranksL sz).map codeOf) (by omega) hl _ (Nat.le_refl _)]
  unfold chk at hc
  simp only [Bool.and_eq_true, decide_eq_true_eq, List.all_eq_true, List.mem_range] at hc
  obtain ⟨⟨⟨h1, h2⟩, h3⟩, h4⟩ := hc
  exact ⟨h1, h2, h3, h4⟩
end Mine
namespace Mine
theorem law_body : fnBody d_law = [lawAt 0, lawAt 1, lawAt 2, lawAt 3, lawAt 4, lawAt 5, lawAt 6, lawAt 7, lawAt 8, lawAt 9, lawAt 10, lawAt 11, lawAt 12, lawAt 13] := by rfl
section
variable {prog : Program} {w : World} {A : Around} {s u : Shared} {mg mb : Str → Option Value} {L f : Addr} {cdv : Value} {g : Mem} {vs : List (Option Value)} {m₁ m₂ : Addr × Obj} {ms : List (Addr × Obj)} {Q : Flow → Shared → Prop} {E : Value → Shared → Prop}
set_option maxHeartbeats 400000 in
theorem st0 {sc : Addr} {oS oM oD : Obj} {ys : Array Value} {ns : List Int} {j : Nat} (R : Rm (j + 1) A) (G : GL mg mb u.heap) (B : Bs mg mb) (S : St u g L xs_law vs ((L + 1 + 2, oM) :: (L + 1 + 1, oD) :: (L + 1, oS) :: ms) s) (hdD : oD.data = .cell none) (hdS : oS.data = .cell (some (.ref sc))) (hl : u.heap.IsList sc ys) (hy : All2 (fun n : Int => isI n) ns ys mem0) (hz : ns.length ≤ 63)
    (k : ∀ aD dys n oD' g' s', oD'.data = .cell (some (.ref aD)) → g' aD = some (lobj dys n) → All2 (fun n : Int => isI n) (drwL ns 15 5 [0, 8, 37, 2, 5]) dys mem0 → St u g' L xs_law vs ((L + 1 + 2, oM) :: (L + 1 + 1, oD') :: (L + 1, oS) :: ms) s' → Q .next s') :
    wpAny (model prog w) A (exec (lawAt 0) (envL L f cdv)) Q E s := by
  have c1 := (S.own (L + 1, oS) (by repeat (first | exact .head _ | refine .tail _ ?_))).1
  have he := draws_ev (prog := prog) (w := w) (L := L) (f := f) (cdv := cdv) R (G.keeps S.ukeep) B c1 hdS (IsList.up hl S.ukeep) hy hz
  refine x_asgCellM (c := L + 1 + 1) (v₀ := none) (P := Lof (fun n : Int => isI n) (drwL ns 15 5 [0, 8, 37, 2, 5])) rfl rfl rfl S (i := 1) rfl hdD he (fun v oD' g₂ f₂ s₂ l₂ lf₂ hv hdD' S₂ => ?_) rfl
  obtain ⟨aD, dys, nD, rfl, hD, hdy⟩ := hv
  exact k aD dys nD oD' g₂ s₂ hdD' (lf₂ _ _ hD) hdy S₂
theorem law1_e : ∃ p0 p1 p2 p3 p4 p5 p6 a1 a2 a3 b1 b2 b3 c1 c2 c3 c4 d1 d2 d3 d4 e1 e2 e3 f1 f2 f3 r1 r2 r3 r4 r5 r6 : Pos, asgE (lawAt 1) = .Subscript (.List [.List [.Constant (.int 2) 0 a1, .Constant (.int 3) 0 a2, .Constant (.int 2) 0 a3] p1, .List [.Constant (.int 3) 0 b1, .Constant (.int 2) 0 b2, .Constant (.int 3) 0 b3] p2,
    .List [.Constant (.int 2) 0 c1, .Constant (.int 2) 0 c2, .Constant (.int 2) 0 c3, .Constant (.int 2) 0 c4] p3, .List [.Constant (.int 3) 0 d1, .Constant (.int 1) 0 d2, .Constant (.int 2) 0 d3, .Constant (.int 3) 0 d4] p4,
    .List [.Constant (.int 2) 0 e1, .Constant (.int 4) 0 e2, .Constant (.int 2) 0 e3] p5, .List [.Constant (.int 4) 0 f1, .Constant (.int 2) 0 f2, .Constant (.int 3) 0 f3] p6] p0) (.BinOp (.Subscript (.Name "draws" r1) (.Constant (.int 0) 0 r2) r3) .Mod (.Constant (.int 6) 0 r4) r5) r6 :=
  ⟨_, _, _, _, _, _, _, _, _, _, _, _, _, _, _, _, _, _, _, _, _, _, _, _, _, _, _, _, _, _, _, _, _, rfl⟩
set_option maxHeartbeats 400000 in
theorem st1 {aD : Addr} {oS oM oD : Obj} {dys : Array Value} {nD : Nat} {v0 : Option Value} {dL : List Int} {q : F6} (S : St u g L xs_law (v0 :: vs) ((L + 1 + 2, oM) :: (L + 1 + 1, oD) :: (L + 1, oS) :: ms) s) (hdD : oD.data = .cell (some (.ref aD))) (hD : g aD = some (lobj dys nD)) (hdy : All2 (fun n : Int => isI n) dL dys mem0) (hz : 0 < dL.length) (eq : (dL.getD 0 0).fmod 6 = (q.val : Int))
    (k : ∀ aS sys n g' s', Le g g' → g' aS = some (lobj sys n) → All2 (fun n : Nat => isI n) (szT.getD q.val []) sys mem0 → St u g' L xs_law (some (.ref aS) :: vs) ((L + 1 + 2, oM) :: (L + 1 + 1, oD) :: (L + 1, oS) :: ms) s' → Q .next s') :
    wpAny (model prog w) A (exec (lawAt 1) (envL L f cdv)) Q E s := by
  have c2 := (S.own (L + 1 + 1, oD) (by repeat (first | exact .head _ | refine .tail _ ?_))).1
  obtain ⟨p0, p1, p2, p3, p4, p5, p6, a1, a2, a3, b1, b2, b3, c1, c2', c3, c4, d1, d2, d3, d4, e1', e2, e3, f1, f2, f3, r1, r2, r3, r4, r5, r6, e1⟩ := law1_e
  have he : Ev prog w A (eval (asgE (lawAt 1)) (envL L f cdv)) s (Lof (fun n : Nat => isI n) (szT.getD q.val [])) := by
    have hl := isList_lobj (S.gk _ _ hD)
    rw [e1]
    with_reducible exact sizes_gen table_ev c2 hdD hl hdy hz eq
  obtain ⟨px, pos, ee⟩ : ∃ px pos, lawAt 1 = .Assign [.Name ("sizes" : Str) px] (asgE (lawAt 1)) pos := ⟨_, _, rfl⟩
  rw [ee]
  have hs : swapsWith (asgE (lawAt 1)) (some (.Name "sizes" px)) pos.line (envL L f cdv) = pure false := by rfl
  have en : En (envL L f cdv) xs_law := en_ofC
  have hL : (envL L f cdv).locals = L := rfl
  have hx : xs_law[0]? = some ("sizes" : Str) := rfl
  with_reducible refine x_asg en hL S hx he (fun v g₂ f₂ s₂ l₂ lf₂ hv S₂ => ?_) hs
  obtain ⟨aS, sys, nS, rfl, hS, hsy⟩ := hv
  exact k aS sys nS g₂ s₂ l₂ (lf₂ _ _ hS) hsy S₂
theorem words_len {dL : List Int} {sz : List Nat} (h4 : sz.length ≤ 4) (h6 : ∀ k, k ≤ 4 → (ranksL (sz.take k)).length ≤ 24) (k : Nat) : (wordsL ((plOf dL sz).take k)).length ≤ 1000 := by
  have h : ∀ k, k ≤ sz.length → (wordsL ((plOf dL sz).take k)).length ≤ 24 := fun k hk => by
    rw [(words_ranks (pl := plOf dL sz) k (by rw [plOf_len]; exact hk)).1, List.length_map, plOf_lens]
    exact h6 k (by omega)
  by_cases hk : k ≤ sz.length
  · exact Nat.le_trans (h k hk) (by decide)
  · rw [List.take_of_length_le (by rw [plOf_len]; omega)]
    have := h sz.length (Nat.le_refl _)
    rw [List.take_of_length_le (by rw [plOf_len]; omega)] at this
    exact Nat.le_trans this (by decide)
set_option maxHeartbeats 400000 in
theorem st2 {a : Ad} {aD aS : Addr} {oS oM oD : Obj} {dys sys : Array Value} {nD nS j : Nat} {v0 : Option Value} {dL : List Int} {sz : List Nat} (R : Rm (j + 2) A) (X : Fs2 u.heap mg mb a) (S : St u g L xs_law (some (.ref aS) :: v0 :: vs) ((L + 1 + 2, oM) :: (L + 1 + 1, oD) :: (L + 1, oS) :: ms) s) (hdD : oD.data = .cell (some (.ref aD))) (hD : g aD = some (lobj dys nD)) (hdy : All2 (fun n : Int => isI n) dL dys mem0) (hz : 5 ≤ dL.length)
    (hS : g aS = some (lobj sys nS)) (hsy : All2 (fun n : Nat => isI n) sz sys mem0) (h4 : sz.length ≤ 4) (hs4 : ∀ z ∈ sz, z ≤ 4) (h6 : ∀ k, k ≤ 4 → (ranksL (sz.take k)).length ≤ 24)
    (k : ∀ aW wys n g' s', Le g g' → g' aW = some (lobj wys n) → All2 isWord (wordsL (plOf dL sz)) wys g' → St u g' L xs_law (some (.ref aS) :: some (.ref aW) :: vs) ((L + 1 + 2, oM) :: (L + 1 + 1, oD) :: (L + 1, oS) :: ms) s' → Q .next s') :
    wpAny (model prog w) A (exec (lawAt 2) (envL L f cdv)) Q E s := by
  have c2 := (S.own (L + 1 + 1, oD) (by repeat (first | exact .head _ | refine .tail _ ?_))).1
  have hp := places_ev (prog := prog) (w := w) (cdv := cdv) (f := f) (R.lower (j := j + 1) (by omega)) S (X.G.keeps S.ukeep) X.B (X.le.keeps S.ukeep) c2 hdD (isList_lobj (S.gk _ _ hD)) hdy hz (S.gk _ _ hS) hsy h4 hs4
  have X' := X.keeps S.ukeep
  have C := words_spec (prog := prog) (w := w) (s₀ := s) (pl := plOf dL sz) (by rw [plOf_len]; omega) (words_len h4 h6) (fun x hx => by
    obtain ⟨i, hi, rfl⟩ := List.mem_map.mp hx
    have hi := List.mem_range.mp hi
    rw [ltrs_len]
    have := hs4 (sz.getD i 0) (by rw [List.getD_eq_getElem?_getD, List.getElem?_eq_getElem hi]; exact List.getElem_mem hi)
    omega) R X'.G X'.wd X'.B
  have he : Ev prog w A (eval (asgE (lawAt 2)) (envL L f cdv)) s (Lof isWord (wordsL (plOf dL sz))) := ev_call (ev_glob X'.G rfl rfl rfl X'.wd.1) X'.wd.2.kept (ea1 hp (mono_Lof fun _ => mono_Lof fun _ => mono_I)) (mono_Lof mono_word) C
  refine x_asg (e := asgE (lawAt 2)) (P := Lof isWord (wordsL (plOf dL sz))) en_ofC rfl S (i := 1) rfl he (fun v g₂ f₂ s₂ l₂ lf₂ hv S₂ => ?_) rfl
  obtain ⟨aW, wys, nW, rfl, hW, hwy⟩ := hv
  exact k aW wys nW g₂ s₂ l₂ (lf₂ _ _ hW) (hwy.mono mono_word lf₂) S₂
set_option maxHeartbeats 400000 in
theorem st3 {a : Ad} {aS aW : Addr} {sys wys : Array Value} {nS nW j : Nat} {v0 : Option Value} {dL : List Int} {sz : List Nat} (R : Rm (j + 2) A) (X : Fs2 u.heap mg mb a) (S : St u g L xs_law (some (.ref aS) :: some (.ref aW) :: v0 :: vs) ms s)
    (hS : g aS = some (lobj sys nS)) (hsy : All2 (fun n : Nat => isI n) sz sys mem0) (hW : g aW = some (lobj wys nW)) (hwy : All2 isWord (wordsL (plOf dL sz)) wys g) (h4 : sz.length ≤ 4) (h3 : 3 ≤ sz.length) (hs4 : ∀ z ∈ sz, z ≤ 4) (hm : 2 ≤ (ranksL sz).length ∧ (ranksL sz).length ≤ 24)
    (k : ∀ aT tys n g' s', Le g g' → g' aT = some (lobj tys n) → All2 (fun d : Str => isS d) (tsOf (plOf dL sz)) tys mem0 → St u g' L xs_law (some (.ref aS) :: some (.ref aW) :: some (.ref aT) :: vs) ms s' → Q .next s') :
    wpS (model prog w) A (exec (lawAt 3) (envL L f cdv)) Q E s := by
  have X' := X.keeps S.ukeep
  have hw := words_all (pl := plOf dL sz)
  rw [plOf_lens] at hw
  have hlen : (wordsL (plOf dL sz)).length = (ranksL sz).length := by rw [hw.1, List.length_map]
  have hp := (plOf_pls (dL := dL) hs4).rev
  have C := turned_spec (prog := prog) (w := w) (A := A) (s₀ := s) (fm := g) (ws := wordsL (plOf dL sz)) (wd := sz.length) (wa := aW) S.gk ⟨aW, wys, nW, rfl, hW, hwy⟩ (fun d hd => by
    rw [hw.1] at hd
    obtain ⟨r, _, rfl⟩ := List.mem_map.mp hd
    have h := numR_bd (r := r.reverse) hp
    rw [List.length_reverse, plOf_len] at h
    refine ⟨h.1, ?_⟩
    show (numR (plOf dL sz).reverse r.reverse).toNat < _
    have h2 := h.2
    have e : (16 : Int) ^ sz.length = ((16 ^ sz.length : Nat) : Int) := by push_cast; rfl
    rw [e] at h2
    omega) (by rw [hlen]; omega) (by omega) R X'.G X'.tn X'.ap X'.sw X'.B
  have e : ((wordsL (plOf dL sz)).map fun d => sgn (dig sz.length d.1.toNat).reverse) = tsOf (plOf dL sz) := by unfold tsOf; rw [plOf_len]
  rw [e] at C
  have he : EvS prog w A (eval (asgE (lawAt 3)) (envL L f cdv)) s (Lof (fun d : Str => isS d) (tsOf (plOf dL sz))) := evS_call (ev_glob X'.G rfl rfl rfl X'.tn.1) X'.tn.2.kept (EvAll.toS (ea2 (ev_loc en_ofC S.loc (i := 1) rfl rfl) mono_V
    (ev_call (ev_blt X'.G rfl rfl rfl rfl X'.B.len.1 X'.B.len.2) kept_builtin (ea1 (ev_loc en_ofC S.loc (i := 0) rfl rfl) mono_V) mono_I (cl_lenL (n := sz.length) (lstVC (isList_lobj (S.gk _ _ hS)) ⟨hsy.1, by omega⟩))) mono_I)) (mono_Lof fun _ => mono_S) C
  refine xS_asg (e := asgE (lawAt 3)) (P := Lof (fun d : Str => isS d) (tsOf (plOf dL sz))) en_ofC rfl S (i := 2) rfl he (fun v g₂ f₂ s₂ l₂ lf₂ hv S₂ => ?_) rfl
  obtain ⟨aT, tys, nT, rfl, hT, hty⟩ := hv
  exact k aT tys nT g₂ s₂ l₂ (lf₂ _ _ hT) hty S₂
end
end Mine
namespace Mine
section
variable {prog : Program} {w : World} {A : Around} {s u : Shared} {mg mb : Str → Option Value} {L f : Addr} {cdv : Value} {g : Mem} {vs : List (Option Value)} {ms : List (Addr × Obj)} {Q : Flow → Shared → Prop} {E : Value → Shared → Prop}
theorem hid_in {P : Addr} {s₁ : Shared} {h : Heap} (k : ∀ b o, h.get? b = some o → s₁.heap.get? b = some o) (hno : h.get? P = none) : ∀ b o, h.get? b = some o → (hid s₁ P).heap.get? b = some o := fun b o e =>
  hideAll_get [P] (k _ _ e) fun q => by
    rw [List.mem_singleton.mp q, hno] at e; cases e
theorem hid_list {P a : Addr} {s₁ : Shared} {ys : Array Value} {n : Nat} {ps : Array Value} (hP : s₁.heap.get? P = some (tabObj ps)) (h : s₁.heap.get? a = some (lobj ys n)) : (hid s₁ P).heap.get? a = some (lobj ys n) :=
  hideAll_get [P] h fun q => by
    rw [List.mem_singleton.mp q, hP] at h
    cases congrArg Obj.data (Option.some.inj h)
set_option maxHeartbeats 400000 in
theorem st4 {a : Ad} {aT : Addr} {tys : Array Value} {nT j : Nat} {v0 v1 v3 v4 : Option Value} {m1 m2 m3 : Addr × Obj} {ts : List Str} (R : Rm (j + 4) A) (X : Fs2 u.heap mg mb a) (hno : u.heap.get? a.pa = none) (S : St u g L xs_law (v0 :: v1 :: some (.ref aT) :: v3 :: v4 :: vs) (m1 :: m2 :: m3 :: (a.pa, tabObj #[]) :: ms) s)
    (hT : g aT = some (lobj tys nT)) (hty : All2 (fun d : Str => isS d) ts tys mem0) (hz : ts.length ≤ 500)
    (k : ∀ aR rys nR aA ays nA ps g' s', Le g g' → g' aR = some (lobj rys nR) → All2 (fun n : Nat => isI n) (ahN (plA ts) ts.length).1 rys mem0 → g' aA = some (lobj ays nA) → All2 (fun n : Nat => isI n) (ahN (plA ts) ts.length).2 ays mem0 → St u g' L xs_law (v0 :: v1 :: some (.ref aT) :: some (.ref aR) :: some (.ref aA) :: vs) (m1 :: m2 :: m3 :: (a.pa, tabObj ps) :: ms) s' → Q .next s') :
    wpAny (model prog w) A (exec (lawAt 4) (envL L f cdv)) Q E s := by
  obtain ⟨px, py, kt, tp, np, q, cpos, pos, ee⟩ : ∃ px py kt tp np q cpos pos, lawAt 4 = .Assign [.Tuple [.Name ("row" : Str) px, .Name ("ahead" : Str) py] kt tp] (.Call (.Name (fnName d_ahead) np) [.Name ("turned" : Str) q] [] cpos) pos := ⟨_, _, _, _, _, _, _, _, rfl⟩
  rw [ee]
  have X' := X.keeps S.ukeep
  have hpa := (S.own (a.pa, tabObj #[]) (by repeat (first | exact .head _ | refine .tail _ ?_))).1
  refine x_unpackX (ip := 3) (i := 3) (j := 4) (P := a.pa) (o := tabObj #[]) (Pa := isV (.ref aT)) (P1 := Lof (fun n : Nat => isI n) (ahN (plA ts) ts.length).1) (P2 := Lof (fun n : Nat => isI n) (ahN (plA ts) ts.length).2) R.hand en_ofC rfl S rfl rfl rfl
    (ev_glob X'.G rfl rfl rfl X'.nah) X'.ah.kept (ev_loc en_ofC S.loc (i := 2) rfl rfl) mono_V (fun v s₁ Q' E' p hv kk => ?_) (mono_Lof fun _ => mono_I) (mono_Lof fun _ => mono_I) (fun y1 y2 g' ps s' l hr hc S' => ?_) rfl rfl rfl
  · cases hv
    have K := hid_in (s₁ := s₁) (P := a.pa) (fun b o e => p.keep _ _ (S.ukeep _ _ e)) hno
    have Y := X.keeps K
    exact ahead_spec (j := j) hz R Y.G Y.ah Y.ca Y.ma Y.ga (p.keep _ _ hpa) Y.r Y.br Y.B (hid_list (p.keep _ _ hpa) (p.keep _ _ (S.gk _ _ hT))) hty kk
  · obtain ⟨aR, rys, nR, rfl, hR, hry⟩ := hr
    obtain ⟨aA, ays, nA, rfl, hA, hay⟩ := hc
    exact k aR rys nR aA ays nA ps g' s' l hR hry hA hay S'
set_option maxHeartbeats 400000 in
theorem st5 {a : Ad} {aT : Addr} {tys : Array Value} {nT j : Nat} {v0 v1 v3 v4 v5 v6 : Option Value} {m1 m2 m3 m4 : Addr × Obj} {ts : List Str} (R : Rm (j + 4) A) (X : Fs2 u.heap mg mb a) (hno : u.heap.get? a.pb = none) (S : St u g L xs_law (v0 :: v1 :: some (.ref aT) :: v3 :: v4 :: v5 :: v6 :: vs) (m1 :: m2 :: m3 :: m4 :: (a.pb, tabObj #[]) :: ms) s)
    (hT : g aT = some (lobj tys nT)) (hty : All2 (fun d : Str => isS d) ts tys mem0) (hz : 0 < ts.length ∧ ts.length ≤ 500)
    (k : ∀ aR rys nR aA ays nA ps g' s', Le g g' → g' aR = some (lobj rys nR) → All2 (fun n : Nat => isI n) (bhN (plB ts) ts.length ts.length).1 rys mem0 → g' aA = some (lobj ays nA) → All2 (fun n : Nat => isI n) (bhN (plB ts) ts.length ts.length).2.reverse ays mem0 → St u g' L xs_law (v0 :: v1 :: some (.ref aT) :: v3 :: v4 :: some (.ref aR) :: some (.ref aA) :: vs) (m1 :: m2 :: m3 :: m4 :: (a.pb, tabObj ps) :: ms) s' → Q .next s') :
    wpAny (model prog w) A (exec (lawAt 5) (envL L f cdv)) Q E s := by
  obtain ⟨px, py, kt, tp, np, q, cpos, pos, ee⟩ : ∃ px py kt tp np q cpos pos, lawAt 5 = .Assign [.Tuple [.Name ("other" : Str) px, .Name ("behind" : Str) py] kt tp] (.Call (.Name (fnName d_behind) np) [.Name ("turned" : Str) q] [] cpos) pos := ⟨_, _, _, _, _, _, _, _, rfl⟩
  rw [ee]
  have X' := X.keeps S.ukeep
  have hpb := (S.own (a.pb, tabObj #[]) (by repeat (first | exact .head _ | refine .tail _ ?_))).1
  refine x_unpackX (ip := 4) (i := 5) (j := 6) (P := a.pb) (o := tabObj #[]) (Pa := isV (.ref aT)) (P1 := Lof (fun n : Nat => isI n) (bhN (plB ts) ts.length ts.length).1) (P2 := Lof (fun n : Nat => isI n) (bhN (plB ts) ts.length ts.length).2.reverse) R.hand en_ofC rfl S rfl rfl rfl
    (ev_glob X'.G rfl rfl rfl X'.nbh) X'.bh.kept (ev_loc en_ofC S.loc (i := 2) rfl rfl) mono_V (fun v s₁ Q' E' p hv kk => ?_) (mono_Lof fun _ => mono_I) (mono_Lof fun _ => mono_I) (fun y1 y2 g' ps s' l hr hc S' => ?_) rfl rfl rfl
  · cases hv
    have K := hid_in (s₁ := s₁) (P := a.pb) (fun b o e => p.keep _ _ (S.ukeep _ _ e)) hno
    have Y := X.keeps K
    exact behind_spec (j := j) hz R Y.G Y.bh Y.cb Y.mb' Y.gb (p.keep _ _ hpb) Y.l Y.bl Y.B (hid_list (p.keep _ _ hpb) (p.keep _ _ (S.gk _ _ hT))) hty kk
  · obtain ⟨aR, rys, nR, rfl, hR, hry⟩ := hr
    obtain ⟨aA, ays, nA, rfl, hA, hay⟩ := hc
    exact k aR rys nR aA ays nA ps g' s' l hR hry hA hay S'
/-- if row != other -/
theorem st6 {aR aO : Addr} {rys oys : Array Value} {nR nO j : Nat} {v0 v1 v2 v4 : Option Value} {rw : List Nat} (R : Rm (j + 4) A) (S : St u g L xs_law (v0 :: v1 :: v2 :: some (.ref aR) :: v4 :: some (.ref aO) :: vs) ms s) (hR : g aR = some (lobj rys nR)) (hry : All2 (fun n : Nat => isI n) rw rys mem0) (hO : g aO = some (lobj oys nO)) (hoy : All2 (fun n : Nat => isI n) rw oys mem0)
    (k : ∀ s', St u g L xs_law (v0 :: v1 :: v2 :: some (.ref aR) :: v4 :: some (.ref aO) :: vs) ms s' → Q .next s') :
    wpAny (model prog w) A (exec (lawAt 6) (envL L f cdv)) Q E s := by
  have hsh : SeqAt.shaped (.list (rw.map fun n : Nat => PyData.int n)) = true := shaped_one (fun _ => rfl) fun _ _ => rfl
  refine x_if S (b := false) (Eb.eq (eb_cmp (c_neD (k := j) R (rds_V (rdb_L rdb_N) S.gk ⟨aR, rys, nR, rfl, hR, hry⟩) (rds_V (rdb_L rdb_N) S.gk ⟨aO, oys, nO, rfl, hO, hoy⟩) hsh hsh) (ev_loc en_ofC S.loc (i := 3) rfl rfl) (ev_loc en_ofC S.loc (i := 5) rfl rfl)) (by rw [eqv_shaped hsh]; rfl)) (fun h => nomatch h) fun _ s' S' => x_nil (k s' S')
/-- many = len(words) -/
theorem st7 {aW : Addr} {oM : Obj} {wys : Array Value} {nW m : Nat} {v0 : Option Value} (X : GL mg mb u.heap) (B : Bs mg mb) (S : St u g L xs_law (v0 :: some (.ref aW) :: vs) ((L + 1 + 2, oM) :: ms) s) (hd : oM.data = .cell none) (hW : g aW = some (lobj wys nW)) (hm : wys.size = m) (hm' : m ≤ 100)
    (k : ∀ t oM' s', oM'.data = .cell (some (.int (m : Nat) t)) → St u g L xs_law (v0 :: some (.ref aW) :: vs) ((L + 1 + 2, oM') :: ms) s' → Q .next s') :
    wpAny (model prog w) A (exec (lawAt 7) (envL L f cdv)) Q E s := by
  refine x_asgCell (c := L + 1 + 2) (v₀ := none) (P := fun v => ∃ t, v = .int (m : Nat) t) rfl rfl rfl S (i := 0) rfl hd
    (ev_call (ev_blt (X.keeps S.ukeep) rfl rfl rfl rfl B.len.1 B.len.2) kept_builtin (ea1 (ev_loc en_ofC S.loc (i := 1) rfl rfl) mono_V) mono_I (cl_lenL (n := m) (lstVC (isList_lobj (S.gk _ _ hW)) ⟨hm, by omega⟩))) (fun v o' s' hv hd' S' => ?_) rfl
  obtain ⟨t, rfl⟩ := hv
  exact k t o' s' hd' S'
end
end Mine
namespace Mine
section
variable {prog : Program} {w : World} {A : Around} {s u : Shared} {mg mb : Str → Option Value} {L f : Addr} {cdv : Value} {g : Mem} {vs : List (Option Value)} {ms : List (Addr × Obj)} {Q : Flow → Shared → Prop} {E : Value → Shared → Prop}
/-- astray, pairs, squares -/
theorem st8 {aR : Addr} {rys : Array Value} {nR j : Nat} {v0 v1 v2 v4 v5 v6 v7 : Option Value} {row : List Nat} (R : Rm (j + 1) A) (G : GL mg mb u.heap) (B : Bs mg mb) (S : St u g L xs_law (v0 :: v1 :: v2 :: some (.ref aR) :: v4 :: v5 :: v6 :: v7 :: vs) ms s) (hR : g aR = some (lobj rys nR)) (hry : All2 (fun n : Nat => isI n) row rys mem0) (hz : row.length ≤ 100) (hb : ∀ x ∈ row, x < 100)
    (k : ∀ t s', St u g L xs_law (v0 :: v1 :: v2 :: some (.ref aR) :: v4 :: v5 :: v6 :: some (.int (astr row) t) :: vs) ms s' → Q .next s') :
    wpAny (model prog w) A (exec (lawAt 8) (envL L f cdv)) Q E s :=
  x_asgI (e := asgE (lawAt 8)) en_ofC rfl S (i := 7) rfl (astray_ev R S (G.keeps S.ukeep) B rfl (S.gk _ _ hR) hry hz hb) (fun t s' S' => k t s' S') rfl
theorem st9 {aS : Addr} {sys : Array Value} {nS j m : Nat} {tm : Tok} {v1 v2 v3 v4 v5 v6 v7 v8 : Option Value} {sz : List Nat} {oM : Obj} (R : Rm (j + 1) A) (G : GL mg mb u.heap) (B : Bs mg mb) (S : St u g L xs_law (some (.ref aS) :: v1 :: v2 :: v3 :: v4 :: v5 :: v6 :: v7 :: v8 :: vs) ((L + 1 + 2, oM) :: ms) s) (hS : g aS = some (lobj sys nS)) (hsy : All2 (fun n : Nat => isI n) sz sys mem0) (hz : sz.length ≤ 100)
    (hdM : oM.data = .cell (some (.int (m : Nat) tm))) (hm : m ≤ 100) (k : ∀ t s', St u g L xs_law (some (.ref aS) :: v1 :: v2 :: v3 :: v4 :: v5 :: v6 :: v7 :: some (.int (pairsN m (intsN sz)) t) :: vs) ((L + 1 + 2, oM) :: ms) s' → Q .next s') :
    wpAny (model prog w) A (exec (lawAt 9) (envL L f cdv)) Q E s :=
  x_asgI (e := asgE (lawAt 9)) en_ofC rfl S (i := 8) rfl (pairs_ev R S (G.keeps S.ukeep) B rfl (S.gk _ _ hS) hsy hz (S.own (L + 1 + 2, oM) (.head _)).1 hdM hm) (fun t s' S' => k t s' S') rfl
theorem st10 {aS : Addr} {sys : Array Value} {nS j m : Nat} {tm : Tok} {v1 v2 v3 v4 v5 v6 v7 v8 v9 : Option Value} {sz : List Nat} {oM : Obj} (R : Rm (j + 1) A) (G : GL mg mb u.heap) (B : Bs mg mb) (S : St u g L xs_law (some (.ref aS) :: v1 :: v2 :: v3 :: v4 :: v5 :: v6 :: v7 :: v8 :: v9 :: vs) ((L + 1 + 2, oM) :: ms) s) (hS : g aS = some (lobj sys nS)) (hsy : All2 (fun n : Nat => isI n) sz sys mem0) (hz : sz.length ≤ 100) (hs4 : ∀ z ∈ sz, 1 ≤ z ∧ z ≤ 4)
    (hdM : oM.data = .cell (some (.int (m : Nat) tm))) (hm : m ≤ 100) (k : ∀ t s', St u g L xs_law (some (.ref aS) :: v1 :: v2 :: v3 :: v4 :: v5 :: v6 :: v7 :: v8 :: some (.int (squaresN m (intsN sz)) t) :: vs) ((L + 1 + 2, oM) :: ms) s' → Q .next s') :
    wpAny (model prog w) A (exec (lawAt 10) (envL L f cdv)) Q E s :=
  x_asgI (e := asgE (lawAt 10)) en_ofC rfl S (i := 9) rfl (squares_ev R S (G.keeps S.ukeep) B rfl (S.gk _ _ hS) hsy hz hs4 (S.own (L + 1 + 2, oM) (.head _)).1 hdM hm) (fun t s' S' => k t s' S') rfl
/-- the counts' sums -/
theorem st11 {aA : Addr} {ays : Array Value} {nA j : Nat} {v0 v1 v2 v3 v5 v6 : Option Value} {A2 : List Nat} {p q r : Int} {t1 t2 t3 : Tok} (R : Rm (j + 1) A) (G : GL mg mb u.heap) (B : Bs mg mb) (S : St u g L xs_law (v0 :: v1 :: v2 :: v3 :: some (.ref aA) :: v5 :: v6 :: some (.int q t1) :: some (.int p t2) :: some (.int r t3) :: vs) ms s) (hA : g aA = some (lobj ays nA)) (hay : All2 (fun n : Nat => isI n) A2 ays mem0)
    (e1 : 4 * (intsN A2).sum = p) (e2 : 6 * q = r) (k : ∀ s', St u g L xs_law (v0 :: v1 :: v2 :: v3 :: some (.ref aA) :: v5 :: v6 :: some (.int q t1) :: some (.int p t2) :: some (.int r t3) :: vs) ms s' → Q .next s') :
    wpAny (model prog w) A (exec (lawAt 11) (envL L f cdv)) Q E s := by
  have en : En (envL L f cdv) xs_law := en_ofC
  have hai := ints_of_nats hay
  refine x_if S (eb_or (eb_cmp (c_neI (a := 4 * (intsN A2).sum) (b := p)) (ev_mul ev_int (ev_call (ev_blt (G.keeps S.ukeep) rfl rfl rfl rfl B.sum.1 B.sum.2) kept_builtin (ea1 (ev_loc en S.loc (i := 4) rfl rfl) mono_V) mono_I (cl_sum R.hand (lstVC (isList_lobj (S.gk _ _ hA)) ⟨intsN A2, hai.ints, rfl⟩))) (.of_left (intBits_le_64 (by omega) (by omega)))) (ev_locI en S.loc (i := 8) rfl rfl)) fun _ =>
    eb_cmp (c_neI (a := 6 * q) (b := r)) (ev_mul ev_int (ev_locI en S.loc (i := 7) rfl rfl) (.of_left (intBits_le_64 (by omega) (by omega)))) (ev_locI en S.loc (i := 9) rfl rfl)) (fun h => ?_) fun _ s' S' => x_nil (k s' S')
  rw [e1, e2] at h
  simp at h
set_option maxHeartbeats 400000 in
theorem st12 {a : Ad} {aS aW aA aB : Addr} {v2 v3 v5 v7 v8 v9 v10 v11 v12 : Option Value} {sys wys ays bys : Array Value} {nS nW nA nB j m : Nat} {tm : Tok} {oM : Obj} {sz A2 B2 : List Nat} {ws : List (Int × List Nat)} {rks : List (List Nat)}
    (R : Rm (j + 3) A) (X : Fs2 u.heap mg mb a) (S : St u g L xs_law [some (.ref aS), some (.ref aW), v2, v3, some (.ref aA), v5, some (.ref aB), v7, v8, v9, v10, v11, v12] ((L + 1 + 2, oM) :: ms) s) (hdM : oM.data = .cell (some (.int (m : Nat) tm))) (hm : m ≤ 100)
    (hS : g aS = some (lobj sys nS)) (hsy : All2 (fun n : Nat => isI n) sz sys mem0) (hW : g aW = some (lobj wys nW)) (hwy : All2 isWord ws wys g) (hA : g aA = some (lobj ays nA)) (hay : All2 (fun n : Nat => isI n) A2 ays mem0) (hB : g aB = some (lobj bys nB)) (hby : All2 (fun n : Nat => isI n) B2 bys mem0)
    (hw : ∀ k, k < m → ∃ num, ws[k]? = some (num, rks.getD k [])) (hkA : A2.length = m) (hkB : B2.length = m) (hzl : sz.length ≤ 100) (hs4 : ∀ z ∈ sz, 1 ≤ z ∧ z ≤ 4) (hrk : ∀ k, k < m → (rks.getD k []).length = sz.length ∧ ∀ i, i < sz.length → (rks.getD k []).getD i 0 < sz.getD i 0)
    (he : ∀ t, t < m → ((A2.getD t 0 : Nat) : Int) = crOut (intsN (rks.getD t [])) (lacksN (intsN sz) (intsN (rks.getD t []))) (intsN sz) (intsN sz).length ∧ ((B2.getD t 0 : Nat) : Int) = crOut (lacksN (intsN sz) (intsN (rks.getD t []))) (intsN (rks.getD t [])) (intsN sz) (intsN sz).length)
    (k : ∀ g' vs' s', St u g' L xs_law vs' ((L + 1 + 2, oM) :: ms) s' → Q .next s') :
    wpAny (model prog w) A (exec (lawAt 12) (envL L f cdv)) Q E s := by
  have X' := X.keeps S.ukeep
  refine x_for1 (i := 10) (n := m) (P := fun k v => isI (0 + k * 1) v (fun _ => none)) (body := forBody (lawAt 12)) (fun _ _ vs ms' => LwJ [some (.ref aS), some (.ref aW), v2, v3, some (.ref aA), v5, some (.ref aB), v7, v8, v9] ((L + 1 + 2, oM) :: ms) vs ms') en_ofC rfl S rfl
    (src_range R.hand (small_of (n := m) (size_up (by omega)) (by omega)) _ (size_up (by omega)) (ev_call (ev_blt X'.G rfl rfl rfl rfl X'.B.range.1 X'.B.range.2) kept_type (ea1 (P := isI (m : Nat)) (Ev.imp (ev_cell (c := L + 1 + 2) rfl rfl rfl (S.own (L + 1 + 2, oM) (.head _)).1 hdM) fun _ _ e => ⟨tm, e⟩) mono_I) mono_range cl_range1))
    (fun g' l => ⟨v10, v11, v12, rfl, rfl⟩) ?_ ?_
  · rintro ki v g' vs' ms' r s₃ hk ⟨t1, rfl⟩ l₃ ⟨x10, x11, x12, rfl, rfl⟩ S₃
    rw [show (0 + (ki : Int) * 1) = ki by omega] at S₃
    obtain ⟨num, hwk⟩ := hw ki hk
    obtain ⟨h1, h2⟩ := hrk ki hk
    obtain ⟨h3, h4⟩ := he ki hk
    exact turn_body R S₃ X.G X.B X.cr (l₃ _ _ hS) hsy (l₃ _ _ hW) (hwy.mono mono_word l₃) (l₃ _ _ hA) hay (l₃ _ _ hB) hby hwk (by omega) (by omega) (by omega) h1 hzl hs4 h2 h3 h4
  · rintro g' vs' ms' s₃ l₃ ⟨x10, x11, x12, rfl, rfl⟩ S₃
    exact k g' _ s₃ S₃
end
end Mine
namespace Mine
section
variable {prog : Program} {w : World} {A : Around} {s u : Shared} {mg mb : Str → Option Value} {L f : Addr} {cdv : Value} {g : Mem} {vs : List (Option Value)} {ms : List (Addr × Obj)} {E : Value → Shared → Prop}
set_option maxHeartbeats 400000 in
/-- law's body -/
theorem law_body_spec {sc : Addr} {ys : Array Value} {ns : List Int} {a : Ad} {j : Nat} {oM oD oS : Obj} {Q : Flow → Shared → Prop} (R : Rm (j + 4) A) (X : Fs2 u.heap mg mb a) (hno : u.heap.get? a.pa = none) (hno' : u.heap.get? a.pb = none)
    (hdM : oM.data = .cell none) (hdD : oD.data = .cell none) (hdS : oS.data = .cell (some (.ref sc))) (hl : u.heap.IsList sc ys) (hy : All2 (fun n : Int => isI n) ns ys mem0) (hz : ns.length ≤ 63)
    (T : St u g L xs_law [none, none, none, none, none, none, none, none, none, none, none, none, none] [(L + 1 + 2, oM), (L + 1 + 1, oD), (L + 1, oS), (a.pa, tabObj #[]), (a.pb, tabObj #[])] s)
    (k : ∀ g' vs' oM' oD' ps ps' s', St u g' L xs_law vs' [(L + 1 + 2, oM'), (L + 1 + 1, oD'), (L + 1, oS), (a.pa, tabObj ps), (a.pb, tabObj ps')] s' → Q (.ret (.bool true)) s') :
    wpS (model prog w) A (execs [lawAt 0, lawAt 1, lawAt 2, lawAt 3, lawAt 4, lawAt 5, lawAt 6, lawAt 7, lawAt 8, lawAt 9, lawAt 10, lawAt 11, lawAt 12, lawAt 13] (envL L f cdv)) Q E s := by
  refine xS_cons (S.of (st0 (R.lower (j := j + 1) (by omega)) X.G X.B T hdD hdS hl hy hz fun aD dys nD oD' g₁ s₁ hdD' hD hdy T => ?_))
  have hdl : (drwL ns 15 5 [0, 8, 37, 2, 5]).length = 5 := by simp [drwL]
  generalize drwL ns 15 5 [0, 8, 37, 2, 5] = dL at hdy hdl
  have hq := Int.fmod_nonneg_of_pos (dL.getD 0 0) (b := 6) (by decide)
  have hq' := Int.fmod_lt_of_pos (dL.getD 0 0) (b := 6) (by decide)
  obtain ⟨q, eq⟩ : ∃ q : F6, (dL.getD 0 0).fmod 6 = (q.val : Int) := ⟨⟨((dL.getD 0 0).fmod 6).toNat, by omega⟩, by show _ = ((((dL.getD 0 0).fmod 6).toNat : Nat) : Int); omega⟩
  refine xS_cons ?_
  refine S.of ?_
  with_reducible refine st1 (q := q) (dL := dL) T hdD' hD hdy (by omega) eq fun aS sys nS g₂ s₂ l₂ hS hsy T => ?_
  have hD := l₂ _ _ hD
  obtain ⟨z1, z2, z3, z4, z5, z6⟩ := all_sz q
  have hout := out_of (dL := dL) (q := q)
  have hrk := chk_ranks q
  generalize szT.getD q.val [] = sz at *
  have hs4 : ∀ z ∈ sz, z ≤ 4 := fun z hz => (z5 z hz).2
  refine xS_cons (S.of (st2 (R.lower (j := j + 2) (by omega)) X T hdD' hD hdy (by omega) hS hsy z3 hs4 z6 fun aW wys nW g₃ s₃ l₃ hW hwy T => ?_))
  have hS := l₃ _ _ hS
  refine xS_cons (st3 (R.lower (j := j + 2) (by omega)) X T hS hsy hW hwy z3 z4 hs4 ⟨z1, z2⟩ fun aT tys nT g₄ s₄ l₄ hT hty T => ?_)
  have hS := l₄ _ _ hS
  have hW := l₄ _ _ hW
  have hwy := hwy.mono mono_word l₄
  have hw := (words_all (pl := plOf dL sz)).1
  rw [plOf_lens] at hw
  have hwl : (wordsL (plOf dL sz)).length = (ranksL sz).length := by rw [hw, List.length_map]
  have htl : (tsOf (plOf dL sz)).length = (ranksL sz).length := by unfold tsOf; rw [List.length_map, hwl]
  generalize tsOf (plOf dL sz) = ts at *
  refine xS_cons (S.of (st4 R X hno T hT hty (by omega) fun aR rys nR aA ays nA ps g₅ s₅ l₅ hR hry hA hay T => ?_))
  have hS := l₅ _ _ hS
  have hW := l₅ _ _ hW
  have hwy := hwy.mono mono_word l₅
  have hT := l₅ _ _ hT
  refine xS_cons (S.of (st5 R X hno' T hT hty (by omega) fun aO oys nO aB bys nB ps' g₆ s₆ l₆ hO hoy hB hby T => ?_))
  have hS := l₆ _ _ hS
  have hW := l₆ _ _ hW
  have hwy := hwy.mono mono_word l₆
  have hR := l₆ _ _ hR
  have hA := l₆ _ _ hA
  have hA1 := ahN_len (pl := plA ts) ts.length
  have hA2 := ahN_lt (pl := plA ts) ts.length
  have hB2 : (bhN (plB ts) ts.length ts.length).2.reverse.length = ts.length := by rw [List.length_reverse]; exact (bhN_len (pl := plB ts) (n := ts.length) ts.length).2
  obtain ⟨o1, o2, o3, o4⟩ := hout
  generalize (ahN (plA ts) ts.length).1 = A1 at *
  generalize (ahN (plA ts) ts.length).2 = A2 at *
  generalize (bhN (plB ts) ts.length ts.length).1 = B1 at *
  generalize (bhN (plB ts) ts.length ts.length).2.reverse = B2 at *
  subst o1
  refine xS_cons (S.of (st6 R T hR hry hO hoy fun s₇ T => ?_))
  have hws : wys.size = (ranksL sz).length := by rw [hwy.1, hwl]
  generalize hm : (ranksL sz).length = m at *
  refine xS_cons (S.of (st7 X.G X.B T hdM hW hws (by omega) fun t oM' s₈ hdM' T => ?_))
  refine xS_cons (S.of (st8 (R.lower (j := j + 1) (by omega)) X.G X.B T hR hry (by omega) (fun x hx => by have := hA2 x hx; omega) fun t₁ s₉ T => ?_))
  refine xS_cons (S.of (st9 (R.lower (j := j + 1) (by omega)) X.G X.B T hS hsy (by omega) hdM' (by omega) fun t₂ s₁₀ T => ?_))
  refine xS_cons (S.of (st10 (R.lower (j := j + 1) (by omega)) X.G X.B T hS hsy (by omega) z5 hdM' (by omega) fun t₃ s₁₁ T => ?_))
  refine xS_cons (S.of (st11 (R.lower (j := j + 1) (by omega)) X.G X.B T hA hay o2 o3 fun s₁₂ T => ?_))
  refine xS_cons (S.of (st12 (R.lower (j := j + 3) (by omega)) X T hdM' (by omega) hS hsy hW hwy hA hay hB hby (rks := ranksL sz) (fun k hk => ?_) (by omega) (by omega) (by omega) z5 (fun k hk => ?_) o4 fun g₇ vs' s₁₃ T => ?_))
  · rw [hw, List.getElem?_map, List.getD_eq_getElem?_getD, List.getElem?_eq_getElem (by omega)]
    exact ⟨_, rfl⟩
  · have h := hrk ((ranksL sz).getD k []) (by rw [List.getD_eq_getElem?_getD, List.getElem?_eq_getElem (by omega)]; exact List.getElem_mem _)
    exact ⟨h.1, fun i hi => h.2 ⟨i, by omega⟩ hi⟩
  · refine S.of (x_cons (x_ret ev_bool fun v s' p hv => ?_))
    cases hv
    exact k g₇ vs' oM' oD' ps ps' s' (T.up p)
end
end Mine
namespace Mine
section
variable {prog : Program} {w : World} {A : Around} {s : Shared} {mg mb : Str → Option Value}
set_option maxHeartbeats 1000000 in
theorem law_spec {f sc : Addr} {ys : Array Value} {ns : List Int} {a : Ad} {j : Nat} {Q : Value → Shared → Prop} {E : Value → Shared → Prop} (R : Rm (j + 8) A) (X : Fs2 (hid (hid s a.pa) a.pb).heap mg mb a) (F : Fd s.heap mg d_law f .none .none) (hne : a.pa ≠ a.pb) (hpa : s.heap.get? a.pa = some (tabObj #[])) (hpb : s.heap.get? a.pb = some (tabObj #[]))
    (hl : (hid (hid s a.pa) a.pb).heap.IsList sc ys) (hy : All2 (fun n : Int => isI n) ns ys mem0) (hz : ns.length ≤ 63) (k : ∀ s', Pu2 a.pa a.pb s s' → Q (.bool true) s') :
    wpS (model prog w) A (call (.ref f) [.ref sc]) Q E s := by
  have un : ∀ b o, (hid (hid s a.pa) a.pb).heap.get? b = some o → s.heap.get? b = some o := fun b o e => of_hideAll _ (of_hideAll _ e)
  have hin : ∀ b o, b ≠ a.pa → b ≠ a.pb → s.heap.get? b = some o → (hid (hid s a.pa) a.pb).heap.get? b = some o := fun b o h1 h2 e => hideAll_get [a.pb] (hideAll_get [a.pa] e (by simpa using h1)) (by simpa using h2)
  have hno : (hid (hid s a.pa) a.pb).heap.get? a.pa = none := by
    cases q : (hid (hid s a.pa) a.pb).heap.get? a.pa with
    | none => rfl
    | some o =>
      have h1 : (hideAll s.heap [a.pa]).get? a.pa = none := hideAll_none [a.pa] (.head _)
      have h2 := of_hideAll [a.pb] q
      rw [h1] at h2; cases h2
  have hno' : (hid (hid s a.pa) a.pb).heap.get? a.pb = none := hideAll_none [a.pb] (.head _)
  refine fnS_cells (xs := xs_law) (vs := [none, none, none, none, none, none, none, none, none, none, none, none, none]) (fun n => [("many", n + 2), ("draws", n + 1), ("script", n)]) (cv := [none, none, some (.ref sc)]) R (X.G.lim.keeps un) F.2 (binds := [("script", .ref sc)]) (fun _ _ _ _ _ => BindsTo.of_eq rfl) (fun _ => rfl)
    (by intro n x hx; simp at hx; rcases hx with rfl; exact .inr ⟨rfl, rfl⟩) ⟨rfl, rfl, rfl, rfl, rfl, rfl, rfl, rfl, rfl, rfl, rfl, rfl, rfl, trivial⟩ (fun _ => rfl) (fun _ => by show (["many", "draws", "script"] : List Str).Nodup; decide +kernel) fun L cdv ms s₁ hM S₁ => ?_
  obtain ⟨oM, _, rfl, hdM, hM⟩ := CellsM.cons hM
  obtain ⟨oD, _, rfl, hdD, hM⟩ := CellsM.cons hM
  obtain ⟨oS, _, rfl, hdS, hM⟩ := CellsM.cons hM
  obtain rfl := CellsM.nil hM
  have S₁ := (S₁.hide hpa).hide (P := a.pb) (o := tabObj #[]) (hideAll_get [a.pa] hpb (by simpa using Ne.symm hne))
  have hus : ∀ s' : Shared, s' = { hid (hid s a.pa) a.pb with heap := s'.heap, toks := s'.toks } → s' = { s with heap := s'.heap, toks := s'.toks } := fun s' e => e
  generalize hid (hid s a.pa) a.pb = u at *
  have R' := R.deeper (envL L f cdv)
  have T : St u u.heap.get? L xs_law [none, none, none, none, none, none, none, none, none, none, none, none, none] [(L + 1 + 2, oM), (L + 1 + 1, oD), (L + 1, oS), (a.pa, tabObj #[]), (a.pb, tabObj #[])] s₁ := S₁
  rw [law_body]
  exact law_body_spec (j := j) (R'.lower (by omega)) X hno hno' hdM hdD hdS hl hy hz T fun g' vs' oM' oD' ps ps' s' T' =>
    k s' ⟨hus s' T'.same, fun b o h1 h2 e => T'.ukeep _ _ (hin b o h1 h2 e), ⟨ps, (T'.own (a.pa, tabObj ps) (by repeat (first | exact .head _ | refine .tail _ ?_))).1⟩, ⟨ps', (T'.own (a.pb, tabObj ps') (by repeat (first | exact .head _ | refine .tail _ ?_))).1⟩⟩
end
end Mine
namespace Mine
def hold63 (o : Option Bool) : Bool :=
  match (match (match o.map WData.bool with | some (.bool b) => some (WData.bool (!b)) | _ => none) with
    | some (.bool false) => some (WData.bool false)
    | some (.bool true) => some (WData.bool true)
    | _ => none) with
  | some (.bool true) => true
  | _ => false
theorem args_of {l : OpenLaw} (h1 : l.most = some 63) (h2 : l.bound = none) {args : List WData} (h : l.row.toRowW.claim.pre args = true) : ∃ ns : List Int, args = [.list (ns.map .int)] ∧ ns.length ≤ 63 := by
  have h : (WShape.hasAll [] args [.list .int] && l.pre.holds [] { args := args }) = true := h
  obtain ⟨ha, hb⟩ := Bool.and_eq_true_iff.mp h
  match args, ha with
  | [x], ha =>
    have h' : (WShape.has [] x (.list .int) && true) = true := ha
    obtain ⟨xs, rfl, hx⟩ := hasW_list (Bool.and_eq_true_iff.mp h').1
    obtain ⟨ns, rfl⟩ := items_int hx
    refine ⟨ns, rfl, ?_⟩
    unfold OpenLaw.pre at hb
    rw [h1, h2] at hb
    have hb : hold63 (some (decide ((63 : Int) < ((ns.map WData.int).length : Int)))) = true := hb
    by_cases hlt : (63 : Int) < ((ns.map WData.int).length : Int)
    · rw [decide_eq_true hlt] at hb
      cases hb
    · rw [List.length_map] at hlt
      omega
  | [], ha => cases ha
  | x :: _ :: _, ha =>
    have h' : (WShape.has [] x (.list .int) && false) = true := ha
    rw [Bool.and_false] at h'
    cases h'
def isTr (d : Option WData) : Bool := match d with | some (.bool true) => true | _ => false
theorem oldK_of {P P' : Addr} {s s' : Shared} (p : Pu2 P P' s s') {c c' : Addr} (t : s.heap.TableAt c P #[]) (t' : s.heap.TableAt c' P' #[]) : OldK s.heap s'.heap := by
  obtain ⟨ps, hp⟩ := p.tab
  obtain ⟨ps', hp'⟩ := p.tab'
  refine ⟨fun b o e => ?_, fun b o e => ?_⟩
  · by_cases h : b = P
    · subst h
      obtain rfl := Option.some.inj (e.symm.trans t.2)
      exact .inr (.inl ⟨t.isCodeTable, rfl, #[], ps, rfl, by rw [hp, Array.empty_append]⟩)
    · by_cases h' : b = P'
      · subst h'
        obtain rfl := Option.some.inj (e.symm.trans t'.2)
        exact .inr (.inl ⟨t'.isCodeTable, rfl, #[], ps', rfl, by rw [hp', Array.empty_append]⟩)
      · exact .inl (p.keep b o h h' e)
  · by_cases h : b = P
    · exact ⟨_, h ▸ hp⟩
    · by_cases h' : b = P'
      · exact ⟨_, h' ▸ hp'⟩
      · exact ⟨_, p.keep b o h h' e⟩
theorem good_of2 {l : OpenLaw} {cl : Str → Option Addr} {mean : ExcName → Option Value} {args : List WData} {s s' : Shared} (e : s' = { s with heap := s'.heap, toks := s'.toks }) (K : OldK s.heap s'.heap) (hg : s.gens = #[]) : GoodWG l.row.toRowW.claim cl mean args s (.ok (.ret (.bool true))) s' := by
  refine ⟨.inl ⟨.bool true, .bool true, [], rfl, fun _ => rfl, .bool true, ?_, fun _ => ⟨.nil, fun a h => nomatch h⟩⟩, K, by rw [e], .of_eq (by rw [e]; exact hg)⟩
  have e1 : same (.bool true) (.bool true) = true := by simp [same]
  have e2 : isTr (some (.bool (same (.bool true) (.bool true)))) = true := by rw [e1]; rfl
  exact e2
theorem ints_of {cl : Str → Option Addr} {h : Heap} {ns : List Int} : ∀ {vs : List Value} {as : List Addr}, ReadsAllW [] cl h vs (ns.map .int) as → AllP (ns.map fun n : Int => isI n) vs mem0 := by
  induction ns with
  | nil =>
    intro vs as r
    rw [(readsAllW_nil_inv r).1]
    exact trivial
  | cons n ns ih =>
    intro vs as r
    obtain ⟨v, vs, as1, as2, rfl, -, r1, r2⟩ := readsAllW_cons_inv r
    obtain ⟨t, rfl, -⟩ := readsW_int_inv r1
    exact ⟨⟨t, rfl⟩, ih r2⟩
theorem rm_caller : Rm 8 callerA := ⟨rfl, by decide, by decide⟩
theorem walkC_of {l : OpenLaw} (h1 : l.most = some 63) (h2 : l.bound = none) {q : Program} {loose : List Str} {XP : (Str → Option Value) → Heap → Prop} {YP : World → Heap → Prop} {d : DefRec} {kwd : List (Str × Expr)}
    (core : ∀ (w : World) (s₀ s₁ : Shared) (mg mb : Str → Option Value), Ground q loose [] XP w s₀ mg mb s₁.heap → YP w s₁.heap → ∀ (a : Addr), mg d.name = some (.ref a) →
      ∀ (sc : Addr) (ys : Array Value) (ns : List Int), s₁.heap.IsList sc ys → All2 (fun n : Int => isI n) ns ys mem0 → ns.length ≤ 63 → ∃ P P' c c', s₁.heap.TableAt c P #[] ∧ s₁.heap.TableAt c' P' #[] ∧ ∀ (Q : Value → Shared → Prop) (E : Value → Shared → Prop), (∀ s', Pu2 P P' s₁ s' → Q (.bool true) s') → wpS (model l.prog w) callerA (call (.ref a) [.ref sc]) Q E s₁) :
    WalkC q loose XP YP l.row.toRowW d kwd := fun w s₀ s₁ mg mb G Y a o pm cd doc dV kV ho hd hc hdf hmg hg args vals as hpre hlay hrd hwl hlo => by
  obtain ⟨ns, rfl, hz⟩ := args_of h1 h2 hpre
  have hrd : ReadsAllW [] (classAt s₀.heap) s₁.heap vals [.list (ns.map .int)] as := hrd
  obtain ⟨v, vs, as1, as2, rfl, -, r1, r2⟩ := readsAllW_cons_inv hrd
  obtain ⟨rfl, -⟩ := readsAllW_nil_inv r2
  obtain ⟨sc, ys, as', rfl, hl, r3, -⟩ := readsW_list_inv r1
  refine ⟨good_of2 rfl (.refl _) hg, ?_⟩
  obtain ⟨P, P', c, c', t, t', H⟩ := core w s₀ s₁ mg mb G Y a hmg sc ys ns hl (by simpa using all2_of_allP (ints_of r3)) hz
  exact H _ _ fun s' p => good_of2 p.same (oldK_of p t t') hg
theorem boots : bootBuiltins "range" = some (.type "range") ∧ bootBuiltins "enumerate" = some (.type "enumerate") ∧ bootBuiltins "zip" = some (.type "zip") ∧ bootBuiltins "len" = some (.builtin "len") ∧ bootBuiltins "chr" = some (.builtin "chr") ∧ bootBuiltins "sum" = some (.builtin "sum") ∧ bootBuiltins "min" = some (.builtin "min") ∧
    bootBuiltins "abs" = some (.builtin "abs") ∧ bootBuiltins "int" = some (.type "int") ∧ bootBuiltins "divmod" = some (.builtin "divmod") ∧ bootBuiltins "bytes" = some (.type "bytes") ∧ bootBuiltins "bytearray" = some (.type "bytearray") := by decide +kernel
theorem bs_of {mg mb : Str → Option Value} (hb : ∀ x : Str, x ≠ "__name__" → mb x = bootBuiltins x) (hm : ∀ x ∈ (["range", "enumerate", "zip", "len", "chr", "sum", "min", "abs", "int", "divmod", "bytes", "bytearray"] : List Str), mg x = none) : Bs mg mb := by
  obtain ⟨b1, b2, b3, b4, b5, b6, b7, b8, b9, b10, b11, b12⟩ := boots
  exact ⟨⟨hm _ (by decide +kernel), (hb _ (by decide +kernel)).trans b1⟩, ⟨hm _ (by decide +kernel), (hb _ (by decide +kernel)).trans b2⟩, ⟨hm _ (by decide +kernel), (hb _ (by decide +kernel)).trans b3⟩, ⟨hm _ (by decide +kernel), (hb _ (by decide +kernel)).trans b4⟩,
    ⟨hm _ (by decide +kernel), (hb _ (by decide +kernel)).trans b5⟩, ⟨hm _ (by decide +kernel), (hb _ (by decide +kernel)).trans b6⟩, ⟨hm _ (by decide +kernel), (hb _ (by decide +kernel)).trans b7⟩, ⟨hm _ (by decide +kernel), (hb _ (by decide +kernel)).trans b8⟩,
    ⟨hm _ (by decide +kernel), (hb _ (by decide +kernel)).trans b9⟩, ⟨hm _ (by decide +kernel), (hb _ (by decide +kernel)).trans b10⟩, ⟨hm _ (by decide +kernel), (hb _ (by decide +kernel)).trans b11⟩, ⟨hm _ (by decide +kernel), (hb _ (by decide +kernel)).trans b12⟩⟩
end Mine
namespace Mine
def ad02 : Ad := ⟨30, 39, 46, 21, 53, 58, 63, 70, 77, 84, .ref 22, .ref 23, .ref 31, .ref 32, 69, 76, 65, 72⟩
def names01 : List Str := ["range", "enumerate", "zip", "len", "chr", "sum", "min", "abs", "int", "divmod", "bytes", "bytearray"]
theorem hid2_in {s : Shared} {P P' b : Addr} {o : Obj} (h : s.heap.get? b = some o) (n : b ≠ P) (n' : b ≠ P') : (hid (hid s P) P').heap.get? b = some o :=
  hideAll_get [P'] (hideAll_get [P] h fun q => n (List.mem_singleton.mp q)) fun q => n' (List.mem_singleton.mp q)
theorem hid2_ns {s : Shared} {P P' b : Addr} {m : Str → Option Value} (h : s.heap.Ns b m) (n : b ≠ P) (n' : b ≠ P') : (hid (hid s P) P').heap.Ns b m :=
  let ⟨o, es, ep, e, r⟩ := h; ⟨o, es, ep, hid2_in e n n', r⟩
theorem hid2_gl {s : Shared} {P P' : Addr} {mg mb : Str → Option Value} (G : GL mg mb s.heap) (n1 : mainGlobals ≠ P) (n2 : mainGlobals ≠ P') (n3 : builtinsNs ≠ P) (n4 : builtinsNs ≠ P') (n5 : cStatics ≠ P) (n6 : cStatics ≠ P') : GL mg mb (hid (hid s P) P').heap :=
  ⟨hid2_ns G.g n1 n2, hid2_ns G.b n3 n4, let ⟨mc, h, e⟩ := G.lim; ⟨mc, hid2_ns h n5 n6, e⟩⟩
/-- the builtins module at its place -/
theorem bat_of {s : Shared} {P P' : Addr} {mg : Str → Option Value} (h : ∃ bm ob, mg "__builtins__" = some (.ref bm) ∧ bm ≠ builtinsNs ∧ s.heap.get? bm = some ob ∧ ob.cls = .type "module" ∧ ob.dict = some builtinsNs ∧ ob.data = .plain) (g : s.heap.Ns mainGlobals mg)
    (t : s.heap.get? P = some (tabObj #[])) (t' : s.heap.get? P' = some (tabObj #[])) : (hid (hid s P) P').heap.BuiltinsAt mg P ∧ (hid (hid s P) P').heap.BuiltinsAt mg P' := by
  obtain ⟨bm, ob, e1, e2, e3, e4, e5, e6⟩ := h
  have n1 : bm ≠ mainGlobals := fun q => by
    obtain ⟨o, es, ep, ho, hd, _⟩ := g
    rw [q, ho] at e3
    cases e3
    rw [hd] at e6
    cases e6
  have n2 : bm ≠ P := fun q => by
    rw [q, t] at e3
    cases e3
    cases e6
  have n3 : bm ≠ P' := fun q => by
    rw [q, t'] at e3
    cases e3
    cases e6
  exact ⟨⟨bm, ob, e1, e2, n1, n2, hid2_in e3 n2 n3, e4, e5, e6⟩, ⟨bm, ob, e1, e2, n1, n3, hid2_in e3 n2 n3, e4, e5, e6⟩⟩
/-- the frame's facts, the text's defs at their places -/
theorem fs2_of {K : Frag} {h : Heap} {mg mb : Str → Option Value} (X : K.In h) (G : GL mg mb h) (hb : ∀ x : Str, x ≠ "__name__" → mb x = bootBuiltins x) (free : ∀ x ∈ names01, nsIn K mainGlobals x = some none)
    (n1 : nsIn K mainGlobals (fnName d_bisR) = some (some (.ref 30))) (n2 : nsIn K mainGlobals (fnName d_bisL) = some (some (.ref 39))) (n3 : nsIn K mainGlobals (fnName d_ap) = some (some (.ref 46))) (n4 : nsIn K mainGlobals (fnName d_swap) = some (some (.ref 21)))
    (n5 : nsIn K mainGlobals (fnName d_letters) = some (some (.ref 53))) (n6 : nsIn K mainGlobals (fnName d_words) = some (some (.ref 58))) (n7 : nsIn K mainGlobals (fnName d_turned) = some (some (.ref 63))) (n8 : nsIn K mainGlobals (fnName d_cr) = some (some (.ref 84)))
    (n9 : nsIn K mainGlobals (fnName d_ahead) = some (some (.ref 70))) (n10 : nsIn K mainGlobals (fnName d_behind) = some (some (.ref 77)))
    (f1 : FnAt h 30 (fnName d_bisR) (fnPar d_bisR) (fnBody d_bisR) (fnScope d_bisR) (.ref 22) (.ref 23)) (f2 : FnAt h 39 (fnName d_bisL) (fnPar d_bisL) (fnBody d_bisL) (fnScope d_bisL) (.ref 31) (.ref 32))
    (f3 : FnAt h 46 (fnName d_ap) (fnPar d_ap) (fnBody d_ap) (fnScope d_ap) .none .none) (f4 : FnAt h 21 (fnName d_swap) (fnPar d_swap) (fnBody d_swap) (fnScope d_swap) .none .none)
    (f5 : FnAt h 53 (fnName d_letters) (fnPar d_letters) (fnBody d_letters) (fnScope d_letters) .none .none) (f6 : FnAt h 58 (fnName d_words) (fnPar d_words) (fnBody d_words) (fnScope d_words) .none .none)
    (f7 : FnAt h 63 (fnName d_turned) (fnPar d_turned) (fnBody d_turned) (fnScope d_turned) .none .none) (f8 : FnAt h 84 (fnName d_cr) (fnPar d_cr) (fnBody d_cr) (fnScope d_cr) .none .none)
    (f9 : FnAtC h 70 (fnName d_ahead) (fnPar d_ahead) (fnBody d_ahead) (fnScope d_ahead) .none .none 69) (f10 : FnAtC h 77 (fnName d_behind) (fnPar d_behind) (fnBody d_behind) (fnScope d_behind) .none .none 76)
    (b1 : Bd h (.ref 22) (.ref 23)) (b2 : Bd h (.ref 31) (.ref 32)) (c1 : CodeHd h 69 65) (c2 : CodeHd h 76 72) (m1 : h.BuiltinsAt mg 65) (m2 : h.BuiltinsAt mg 72) : Fs2 h mg mb ad02 where
  G := G
  B := bs_of hb fun x hx => mg_none_of X G.g (free x hx)
  r := ⟨mg_of X G.g n1, f1⟩
  l := ⟨mg_of X G.g n2, f2⟩
  br := b1
  bl := b2
  ap := ⟨mg_of X G.g n3, f3⟩
  sw := ⟨mg_of X G.g n4, f4⟩
  le := ⟨mg_of X G.g n5, f5⟩
  wd := ⟨mg_of X G.g n6, f6⟩
  tn := ⟨mg_of X G.g n7, f7⟩
  cr := ⟨mg_of X G.g n8, f8⟩
  nah := mg_of X G.g n9
  nbh := mg_of X G.g n10
  ah := f9
  bh := f10
  ca := c1
  cb := c2
  ma := m1
  mb' := m2
  ga := by decide
  gb := by decide
/-- a dict of one name, as a namespace -/
theorem ns_one {h : Heap} {D : Addr} {o : Obj} {hs : Int} {x : Str} {t : Tok} {v : Value} {n : Nat} (ho : h.get? D = some o) (hd : o.data = .dict #[{ hash := hs, key := .str x t, val := v }] n) : ∃ m, h.Ns D m ∧ m x = some v := by
  refine ⟨fun y => nsFind #[{ hash := hs, key := .str x t, val := v }] y, ⟨o, _, n, ho, hd, fun e he => ?_, fun _ => rfl⟩, ?_⟩
  · have := List.mem_singleton.mp (Array.mem_toList_iff.mpr he)
    exact ⟨x, t, by rw [this]⟩
  · simp [nsFind, findBy, Value.isStr]
set_option maxHeartbeats 8000000 in
theorem hs02 : PySem.Challenge.rw_wn0038_02.Holds := by
  w_on; o_law; k_head; (case hw => w_witness2)
  refine walkC_of (l := PySem.Challenge.rw_wn0038_02) rfl rfl fun w s₀ s₁ mg mb G Y a hmg sc ys ns hl hy hz => ?_
  have X := km_in_of Y
  have tb := km_tabs_of Y
  have ta : s₁.heap.get? 65 = some (tabObj #[]) := tb 65 (.tail _ (.head _))
  have tc : s₁.heap.get? 72 = some (tabObj #[]) := tb 72 (.head _)
  have G₁ : GL mg mb s₁.heap := ⟨G.T.g, G.T.b, G.T.nolimit⟩
  have GG : GL mg mb (hid (hid s₁ 65) 72).heap := hid2_gl G₁ (by decide) (by decide) (by decide) (by decide) (by decide) (by decide)
  have XX : Frag.In _ (hid (hid s₁ 65) 72).heap := fun b o e => hid2_in (X b o e) (fun q => by subst q; cases e) (fun q => by subst q; cases e)
  obtain ⟨m1, m2⟩ := bat_of G.T.bmain G.T.g ta tc
  have F := fs2_of XX GG G.T.builtins (by
      intro x hx
      unfold names01 at hx
      repeat (rcases List.mem_cons.mp hx with rfl | hx; · rfl)
      cases hx) rfl rfl rfl rfl rfl rfl rfl rfl rfl rfl
    ⟨_, _, _, _, _, _, XX 30 _ rfl, rfl, codeRec_of XX rfl⟩ ⟨_, _, _, _, _, _, XX 39 _ rfl, rfl, codeRec_of XX rfl⟩ ⟨_, _, _, _, _, _, XX 46 _ rfl, rfl, codeRec_of XX rfl⟩ ⟨_, _, _, _, _, _, XX 21 _ rfl, rfl, codeRec_of XX rfl⟩ ⟨_, _, _, _, _, _, XX 53 _ rfl, rfl, codeRec_of XX rfl⟩
    ⟨_, _, _, _, _, _, XX 58 _ rfl, rfl, codeRec_of XX rfl⟩ ⟨_, _, _, _, _, _, XX 63 _ rfl, rfl, codeRec_of XX rfl⟩ ⟨_, _, _, _, _, _, XX 84 _ rfl, rfl, codeRec_of XX rfl⟩ ⟨_, _, _, _, _, XX 70 _ rfl, rfl, codeRec_of XX rfl⟩ ⟨_, _, _, _, _, XX 77 _ rfl, rfl, codeRec_of XX rfl⟩
    ⟨⟨22, _, _, _, rfl, XX 22 _ rfl, rfl⟩, let ⟨m, h1, h2⟩ := ns_one (XX 23 _ rfl) rfl; ⟨23, m, rfl, h1, h2⟩⟩ ⟨⟨31, _, _, _, rfl, XX 31 _ rfl, rfl⟩, let ⟨m, h1, h2⟩ := ns_one (XX 32 _ rfl) rfl; ⟨32, m, rfl, h1, h2⟩⟩
    (codeHd_of_K XX rfl) (codeHd_of_K XX rfl) m1 m2
  have h89 : mg (fnName d_law) = some (.ref 89) := mg_of X G.T.g rfl
  have hmg : mg (fnName d_law) = some (.ref a) := hmg
  have ea : a = 89 := by rw [h89] at hmg; cases hmg; rfl
  subst ea
  have hl' : (hid (hid s₁ 65) 72).heap.IsList sc ys := by
    obtain ⟨o, ho, hc, k, hd⟩ := hl
    refine ⟨o, hid2_in ho (fun q => ?_) (fun q => ?_), hc, k, hd⟩
    · rw [q, ta] at ho; cases ho; cases hc
    · rw [q, tc] at ho; cases ho; cases hc
  refine ⟨65, 72, 69, 76, (codeHd_of_K X rfl).tab ta, (codeHd_of_K X rfl).tab tc, fun Q E k => ?_⟩
  exact law_spec (j := 0) (a := ad02) rm_caller F ⟨hmg, ⟨_, _, _, _, _, _, X 89 _ rfl, rfl, codeRec_of X rfl⟩⟩ (by decide) ta tc hl' hy hz k
end Mine
theorem PySem.Challenge.cw_wn0038_02_holds : PySem.Challenge.rw_wn0038_02.Holds :=
  Mine.hs02
