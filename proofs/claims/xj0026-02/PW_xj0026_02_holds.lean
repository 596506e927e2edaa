import PyProof.Rows.All
import Wide.All
import OpenK.AllK
import Wide.FinOn
import PySem.Challenge.RW_xj0026_02
set_option Elab.async false
set_option maxRecDepth 100000
set_option linter.unusedVariables false
namespace Mine
open PySem PySem.W PyProof.Rows
section
local macro_rules | `(tactic| o_head $_) => `(tactic| skip)
set_option maxRecDepth 100000 in
set_option maxHeartbeats 8000000 in
theorem hd (h : PySem.Challenge.rw_xj0026_02.row.Holds) : PySem.Challenge.rw_xj0026_02.row.Holds := by
  k_head; exact h
end
end Mine

namespace Mine
open PySem PySem.Calls PyProof.Rows PySem.W

/-! partial maps: the part of a heap that stays -/
abbrev PM := Addr → Option Obj
noncomputable def Le (G G' : PM) : Prop := ∀ a o, G a = some o → G' a = some o
theorem Le.trans {G G' G'' : PM} (h : Le G G') (k : Le G' G'') : Le G G'' := fun a o e => k a o (h a o e)
abbrev Gr (h h' : Heap) : Prop := ∀ b o, h.get? b = some o → h'.get? b = some o
noncomputable def fz (X : List Addr) (h : Heap) : PM := fun a => if a ∈ X then none else h.get? a
theorem fz_get {X : List Addr} {h : Heap} {a : Addr} {o : Obj} (e : fz X h a = some o) : h.get? a = some o ∧ a ∉ X := by
  unfold fz at e
  split at e
  · cases e
  · exact ⟨e, by assumption⟩
theorem fz_of {X : List Addr} {h : Heap} {a : Addr} {o : Obj} (e : h.get? a = some o) (n : a ∉ X) : fz X h a = some o := by
  unfold fz; rw [if_neg n]; exact e
theorem fz_but {X Y : List Addr} {h h' : Heap} (k : ∀ b o, b ∉ X → h.get? b = some o → h'.get? b = some o ∧ b ∉ Y) : Le (fz X h) (fz Y h') := fun a o e => by
  obtain ⟨e, n⟩ := fz_get e
  obtain ⟨e', n'⟩ := k a o n e
  exact fz_of e' n'
theorem fz_gr {X : List Addr} {h h' : Heap} (k : Gr h h') : Le (fz X h) (fz X h') := fz_but fun b o n e => ⟨k b o e, n⟩
theorem fz_sub {X Y : List Addr} {h : Heap} (k : ∀ a ∈ X, a ∈ Y) : Le (fz Y h) (fz X h) := fz_but fun _ _ n e => ⟨e, fun m => n (k _ m)⟩
theorem fz_le {X : List Addr} {h : Heap} : Le (fz X h) h.get? := fun _ _ e => (fz_get e).1

/-! the context: the program, its written objects, its names -/
structure Cx where
  prog : Program
  w : World
  K : Frag
  p : Program
  loose : List Str
  mg : Str → Option Value
  mb : Str → Option Value
abbrev Cx.M (C : Cx) : Model := model C.prog C.w
structure Cx.In (C : Cx) (h : Heap) : Prop where
  k : C.K.In h
  t : TopRead C.p C.loose C.mg C.mb h
theorem Cx.In.keeps {C : Cx} {h h' : Heap} (x : C.In h) (k : Gr h h') : C.In h' := ⟨fun a o e => k _ _ (x.k a o e), x.t.keeps k⟩

/-! room on the stack -/
structure Rm (k : Nat) (A : Around) : Prop where
  hd : A.handled = none
  dp : A.depth + k < recursionLimit
  un : A.units + 8 * k < cLine
theorem Rm.deeper {k : Nat} {A : Around} {env : Env} (r : Rm (k + 1) A) : Rm k (A.deeper env) :=
  ⟨r.hd, by have := r.dp; show A.depth + 1 + k < _; omega, by have := r.un; show A.units + 3 + 8 * k < _; omega⟩
theorem Rm.in1 {k : Nat} {A : Around} (r : Rm (k + 1) A) : Rm k A.in1 :=
  ⟨r.hd, by have := r.dp; show A.depth + k < _; omega, by have := r.un; show A.units + 1 + 8 * k < _; omega⟩
theorem Rm.less {k j : Nat} {A : Around} (r : Rm k A) (h : j ≤ k) : Rm j A :=
  ⟨r.hd, by have := r.dp; omega, by have := r.un; omega⟩
theorem Rm.depth {k : Nat} {A : Around} (r : Rm k A) : A.depth < recursionLimit := by have := r.dp; omega

/-! steps that only add to the heap -/
theorem keeps_refl (s : Shared) : Keeps s s := ⟨s.heap, s.toks, rfl, fun _ _ e => e⟩
theorem keeps_trans {s s' s'' : Shared} (a : Keeps s s') (b : Keeps s' s'') : Keeps s s'' := by
  obtain ⟨h, t, rfl, k⟩ := a
  obtain ⟨h', t', rfl, k'⟩ := b
  exact ⟨h', t', rfl, fun x o e => k' x o (k x o e)⟩
theorem keeps_gr {s s' : Shared} (a : Keeps s s') : Gr s.heap s'.heap := by
  obtain ⟨h, t, rfl, k⟩ := a; exact k
theorem keeps_mk {s : Shared} {h : Heap} {t : Nat} (k : Gr s.heap h) : Keeps s { s with heap := h, toks := t } := ⟨h, t, rfl, k⟩
theorem keeps_tok {s : Shared} {t : Nat} : Keeps s { s with toks := t } := ⟨s.heap, t, rfl, fun _ _ e => e⟩
theorem keeps_heap {s : Shared} {h : Heap} (k : Gr s.heap h) : Keeps s { s with heap := h } := ⟨h, s.toks, rfl, k⟩

noncomputable def Ev {α : Type} (C : Cx) (A : Around) (t : Sem α) (s : Shared) (P : α → Shared → Prop) : Prop :=
  wpAny C.M A t (fun v s' => Keeps s s' ∧ P v s') (fun _ _ => False) s
section
variable {α β : Type} {C : Cx} {A : Around} {s : Shared} {t : Sem α} {P : α → Shared → Prop}
theorem Ev.use {Q : α → Shared → Prop} {E : Value → Shared → Prop} (h : Ev C A t s P) (k : ∀ v s', Keeps s s' → P v s' → Q v s') : wpAny C.M A t Q E s :=
  wpAny_mono h (fun v s' x => k v s' x.1 x.2) fun _ _ x => x.elim
theorem Ev.mono {P' : α → Shared → Prop} (h : Ev C A t s P) (k : ∀ v s', Keeps s s' → P v s' → P' v s') : Ev C A t s P' :=
  wpAny_mono h (fun v s' x => ⟨x.1, k v s' x.1 x.2⟩) fun _ _ x => x
end

/-! what a value stands for -/
structure Rl (α : Type) where
  r : PM → α → Value → Prop
  mono : ∀ {G G' : PM} {x : α} {v : Value}, Le G G' → r G x v → r G' x v
structure Fc where
  r : PM → Value → Prop
  mono : ∀ {G G' : PM} {v : Value}, Le G G' → r G v → r G' v
structure Oc where
  r : PM → Obj → Prop
  mono : ∀ {G G' : PM} {o : Obj}, Le G G' → r G o → r G' o
noncomputable def Rl.at {α : Type} (R : Rl α) (x : α) : Fc := ⟨fun G v => R.r G x v, R.mono⟩
abbrev Vars := List (Str × Fc)
abbrev Own := List (Addr × Oc)

noncomputable def rInt : Rl Int := ⟨fun _ i v => ∃ t, v = .int i t, fun _ h => h⟩
noncomputable def rBool : Rl Bool := ⟨fun _ b v => v = .bool b, fun _ h => h⟩
noncomputable def rVal : Rl Value := ⟨fun _ x v => v = x, fun _ h => h⟩
/-- a sequence object of the class T -/
noncomputable def SeqAt (T : String) (G : PM) (v : Value) (vs : List Value) : Prop := ∃ a n, v = .ref a ∧ G a = some { cls := .type T, data := .seq vs.toArray n }
theorem SeqAt.mono {T : String} {G G' : PM} {v : Value} {vs : List Value} (k : Le G G') (h : SeqAt T G v vs) : SeqAt T G' v vs := let ⟨a, n, e, g⟩ := h; ⟨a, n, e, k _ _ g⟩
/-- item by item -/
noncomputable def All2 {α : Type} (R : Rl α) (G : PM) : List α → List Value → Prop
  | [], [] => True
  | x :: xs, v :: vs => R.r G x v ∧ All2 R G xs vs
  | _, _ => False
theorem All2.mono {α : Type} {R : Rl α} {G G' : PM} (k : Le G G') : ∀ {xs : List α} {vs : List Value}, All2 R G xs vs → All2 R G' xs vs
  | [], [], _ => trivial
  | _ :: _, _ :: _, h => ⟨R.mono k h.1, All2.mono k h.2⟩
  | [], _ :: _, h => h.elim
  | _ :: _, [], h => h.elim
theorem All2.length {α : Type} {R : Rl α} {G : PM} : ∀ {xs : List α} {vs : List Value}, All2 R G xs vs → vs.length = xs.length
  | [], [], _ => rfl
  | _ :: _, _ :: _, h => by rw [List.length_cons, List.length_cons, All2.length h.2]
  | [], _ :: _, h => h.elim
  | _ :: _, [], h => h.elim
theorem All2.append {α : Type} {R : Rl α} {G : PM} : ∀ {xs ys : List α} {vs us : List Value}, All2 R G xs vs → All2 R G ys us → All2 R G (xs ++ ys) (vs ++ us)
  | [], _, [], _, _, k => k
  | _ :: _, _, _ :: _, _, h, k => ⟨h.1, All2.append h.2 k⟩
  | [], _, _ :: _, _, h, _ => h.elim
  | _ :: _, _, [], _, h, _ => h.elim
theorem All2.get {α : Type} {R : Rl α} {G : PM} : ∀ {xs : List α} {vs : List Value}, All2 R G xs vs → ∀ {i : Nat} {x : α}, xs[i]? = some x → ∃ v, vs[i]? = some v ∧ R.r G x v
  | [], [], _, _, _, e => by simp at e
  | _ :: _, v :: _, h, 0, _, e => by simp at e; exact ⟨v, rfl, e ▸ h.1⟩
  | _ :: _, _ :: _, h, i + 1, _, e => by simpa using All2.get h.2 (by simpa using e)
  | [], _ :: _, h, _, _, _ => h.elim
  | _ :: _, [], h, _, _, _ => h.elim
theorem All2.take {α : Type} {R : Rl α} {G : PM} : ∀ (n : Nat) {xs : List α} {vs : List Value}, All2 R G xs vs → All2 R G (xs.take n) (vs.take n)
  | 0, _, _, _ => trivial
  | n + 1, [], [], _ => trivial
  | n + 1, _ :: _, _ :: _, h => ⟨h.1, All2.take n h.2⟩
  | _, [], _ :: _, h => h.elim
  | _, _ :: _, [], h => h.elim
theorem All2.drop {α : Type} {R : Rl α} {G : PM} : ∀ (n : Nat) {xs : List α} {vs : List Value}, All2 R G xs vs → All2 R G (xs.drop n) (vs.drop n)
  | 0, _, _, h => h
  | n + 1, [], [], _ => trivial
  | n + 1, _ :: _, _ :: _, h => All2.drop n h.2
  | _, [], _ :: _, h => h.elim
  | _, _ :: _, [], h => h.elim
noncomputable def rList {α : Type} (R : Rl α) : Rl (List α) := ⟨fun G xs v => ∃ vs, SeqAt "list" G v vs ∧ All2 R G xs vs, fun k ⟨vs, a, b⟩ => ⟨vs, a.mono k, b.mono k⟩⟩
noncomputable def rTupN {α : Type} (R : Rl α) : Rl (List α) := ⟨fun G xs v => ∃ vs, SeqAt "tuple" G v vs ∧ All2 R G xs vs, fun k ⟨vs, a, b⟩ => ⟨vs, a.mono k, b.mono k⟩⟩
noncomputable def rT2 {α β : Type} (R : Rl α) (S : Rl β) : Rl (α × β) := ⟨fun G x v => ∃ u1 u2, SeqAt "tuple" G v [u1, u2] ∧ R.r G x.1 u1 ∧ S.r G x.2 u2, fun k ⟨u1, u2, a, b, c⟩ => ⟨u1, u2, a.mono k, R.mono k b, S.mono k c⟩⟩

/-! what a frame sees -/
inductive Sees (env : Env) (h : Heap) (x : Str) (v : Value) : Prop
  | loc (hk : env.kindOf x = some .local) (m : Str → Option Value) (hn : h.Ns env.locals m) (hv : m x = some v)
  | cel (hk : env.kindOf x = some .cell) (c : Addr) (hc : env.cells.lookup x = some c) (hv : h.IsCell c (some v))
  | fre (hk : env.kindOf x = some .free) (hd : (x == ("__classdict__" : Str)) = false) (c : Addr) (hc : env.cells.lookup x = some c) (hv : h.IsCell c (some v))
theorem Sees.keeps {env : Env} {h h' : Heap} {x : Str} {v : Value} (a : Sees env h x v) (k : Gr h h') : Sees env h' x v := by
  cases a with
  | loc hk m hn hv => exact .loc hk m (hn.keeps k) hv
  | cel hk c hc hv => exact .cel hk c hc (hv.keeps k)
  | fre hk hd c hc hv => exact .fre hk hd c hc (hv.keeps k)
theorem Sees.load {C : Cx} {A : Around} {env : Env} {s : Shared} {x : Str} {v : Value} {Q : Value → Shared → Prop} {E : Value → Shared → Prop} (a : Sees env s.heap x v) (hk : env.scope.kind = .function)
    (h : Q v s) : wpAny C.M A (loadName env x) Q E s := by
  cases a with
  | loc hl m hn hv => exact wpAny_loadName_local hk hl hn hv h
  | cel hl c hc hv => exact wpAny_loadName_cell hk hl hc hv h
  | fre hl hd c hc hv => exact wpAny_loadName_free hk hl hc hv h hd

structure Kn (C : Cx) (env : Env) (X : List Addr) (O : Own) (V : Vars) (s : Shared) : Prop where
  base : C.In s.heap
  fn : env.scope.kind = .function
  gl : env.globals = mainGlobals
  bi : env.builtins = builtinsNs
  alive : ∀ a ∈ X, ∃ o, s.heap.get? a = some o
  vars : ∀ x F, V.lookup x = some F → ∃ v, Sees env s.heap x v ∧ F.r (fz X s.heap) v
  own : ∀ a F, O.lookup a = some F → ∃ o, s.heap.get? a = some o ∧ F.r (fz X s.heap) o
theorem Kn.keeps {C : Cx} {env : Env} {X : List Addr} {O : Own} {V : Vars} {s s' : Shared} (k : Kn C env X O V s) (g : Keeps s s') : Kn C env X O V s' :=
  have g := keeps_gr g
  ⟨k.base.keeps g, k.fn, k.gl, k.bi, fun a m => let ⟨o, e⟩ := k.alive a m; ⟨o, g _ _ e⟩, fun x F e => let ⟨v, a, b⟩ := k.vars x F e; ⟨v, a.keeps g, F.mono (fz_gr g) b⟩,
    fun a F e => let ⟨o, p, q⟩ := k.own a F e; ⟨o, g _ _ p, F.mono (fz_gr g) q⟩⟩

/-- a pure expression: its value stands for x; nothing that was there is changed -/
noncomputable def PE {α : Type} (C : Cx) (A : Around) (env : Env) (X : List Addr) (O : Own) (V : Vars) (e : Expr) (R : Rl α) (x : α) : Prop :=
  ∀ s, Kn C env X O V s → Ev C A (eval e env) s fun v s' => R.r (fz X s'.heap) x v
/-- a test -/
noncomputable def PT (C : Cx) (A : Around) (env : Env) (X : List Addr) (O : Own) (V : Vars) (e : Expr) (b : Bool) : Prop :=
  ∀ s, Kn C env X O V s → Ev C A (isTrue e env (eval e env)) s fun v _ => v = b

section
variable {C : Cx} {A : Around} {env : Env} {X : List Addr} {O : Own} {V : Vars} {α β γ δ : Type} {pos : Pos}
theorem PE.cast {e : Expr} {R : Rl α} {x y : α} (h : PE C A env X O V e R x) (q : x = y) : PE C A env X O V e R y := q ▸ h
theorem PT.cast {e : Expr} {x y : Bool} (h : PT C A env X O V e x) (q : x = y) : PT C A env X O V e y := q ▸ h
theorem pe_int {i : Int} {k : Nat} : PE C A env X O V (.Constant (.int i) k pos) rInt i := fun s _ => wpAny_Constant_int ⟨keeps_tok, _, rfl⟩
theorem pe_bool {b : Bool} {k : Nat} : PE C A env X O V (.Constant (.bool b) k pos) rBool b := fun s _ => by
  show wpAny _ _ (Pure.pure (Value.bool b)) _ _ _
  exact wpAny_pure ⟨keeps_refl s, rfl⟩
theorem pe_name {x : Str} {R : Rl α} {a : α} (h : V.lookup x = some (R.at a)) (hd : (x == ("__debug__" : Str)) = false := by decide) : PE C A env X O V (.Name x pos) R a := fun s k => by
  obtain ⟨v, hv, hr⟩ := k.vars x _ h
  exact wpAny_Name (hv.load k.fn ⟨keeps_refl s, hr⟩) hd
/-- a name of the module's top -/
theorem pe_global {x : Str} {v : Value} (h : C.mg x = some v) (hx : env.kindOf x = some .globalImplicit) (hd : (x == ("__debug__" : Str)) = false := by decide) : PE C A env X O V (.Name x pos) rVal v := fun s k =>
  Calls.Name_function_global k.fn hx (Calls.loadGlobal_global (k.gl ▸ k.base.t.g) h ⟨keeps_refl s, rfl⟩) hd
theorem pe_builtin {x : Str} {v : Value} (h : C.mg x = none) (hb : bootBuiltins x = some v) (hn : x ≠ "__name__") (hx : env.kindOf x = some .globalImplicit) (hd : (x == ("__debug__" : Str)) = false := by decide) :
    PE C A env X O V (.Name x pos) rVal v := fun s k =>
  Calls.Name_function_global k.fn hx (Calls.loadGlobal_builtin (k.gl ▸ k.base.t.g) h (k.bi ▸ k.base.t.b) ((k.base.t.builtins x hn).trans hb) ⟨keeps_refl s, rfl⟩) hd

/-! operators -/
noncomputable def Live (X : List Addr) (s : Shared) : Prop := ∀ a ∈ X, ∃ o, s.heap.get? a = some o
noncomputable def BinR (C : Cx) (A : Around) (op : Operator) (R1 : Rl α) (x1 : α) (R2 : Rl β) (x2 : β) (R : Rl γ) (x : γ) : Prop :=
  ∀ X s v1 v2, C.In s.heap → Live X s → R1.r (fz X s.heap) x1 v1 → R2.r (fz X s.heap) x2 v2 → Ev C A (binaryOp op v1 v2) s fun v s' => R.r (fz X s'.heap) x v
noncomputable def CmpR (C : Cx) (A : Around) (op : CmpOp) (R1 : Rl α) (x1 : α) (R2 : Rl β) (x2 : β) (b : Bool) : Prop :=
  ∀ X s v1 v2, C.In s.heap → Live X s → R1.r (fz X s.heap) x1 v1 → R2.r (fz X s.heap) x2 v2 → Ev C A (compareOp op v1 v2) s fun v _ => v = .bool b
theorem pe_bin {op : Operator} {e1 e2 : Expr} {R1 : Rl α} {x1 : α} {R2 : Rl β} {x2 : β} {R : Rl γ} {x : γ} (h1 : PE C A env X O V e1 R1 x1) (h2 : PE C A env X O V e2 R2 x2)
    (hb : BinR C A op R1 x1 R2 x2 R x) : PE C A env X O V (.BinOp e1 op e2 pos) R x := fun s k =>
  wpAny_BinOp ((h1 s k).use fun v1 s1 g1 r1 => (h2 s1 (k.keeps g1)).use fun v2 s2 g2 r2 => wpAny_mono (hb X s2 v1 v2 (k.keeps (keeps_trans g1 g2)).base (k.keeps (keeps_trans g1 g2)).alive (R1.mono (fz_gr (keeps_gr g2)) r1) r2)
    (fun v s3 h => ⟨keeps_trans g1 (keeps_trans g2 h.1), h.2⟩) fun _ _ x => x)
theorem pe_cmp {op : CmpOp} {e1 e2 : Expr} {R1 : Rl α} {x1 : α} {R2 : Rl β} {x2 : β} {b : Bool} (h1 : PE C A env X O V e1 R1 x1) (h2 : PE C A env X O V e2 R2 x2)
    (hb : CmpR C A op R1 x1 R2 x2 b) (hm : behindInMarks op e2 = false := by with_unfolding_all rfl) : PE C A env X O V (.Compare e1 [op] [e2] pos) rBool b := fun s k =>
  wpAny_Compare1 ((h1 s k).use fun v1 s1 g1 r1 => (h2 s1 (k.keeps g1)).use fun v2 s2 g2 r2 => wpAny_mono (hb X s2 v1 v2 (k.keeps (keeps_trans g1 g2)).base (k.keeps (keeps_trans g1 g2)).alive (R1.mono (fz_gr (keeps_gr g2)) r1) r2)
    (fun v s3 h => ⟨keeps_trans g1 (keeps_trans g2 h.1), h.2⟩) fun _ _ x => x) hm
theorem pt_cmp {op : CmpOp} {e1 e2 : Expr} {R1 : Rl α} {x1 : α} {R2 : Rl β} {x2 : β} {b : Bool} (h1 : PE C A env X O V e1 R1 x1) (h2 : PE C A env X O V e2 R2 x2)
    (hb : CmpR C A op R1 x1 R2 x2 b) (hm : behindInMarks op e2 = false := by with_unfolding_all rfl) : PT C A env X O V (.Compare e1 [op] [e2] pos) b := fun s k =>
  wpAny_isTrue_Compare1 ((h1 s k).use fun v1 s1 g1 r1 => (h2 s1 (k.keeps g1)).use fun v2 s2 g2 r2 => wpAny_mono (hb X s2 v1 v2 (k.keeps (keeps_trans g1 g2)).base (k.keeps (keeps_trans g1 g2)).alive (R1.mono (fz_gr (keeps_gr g2)) r1) r2)
    (fun v s3 h => by rw [h.2]; exact wpAny_truthy_bool ⟨keeps_trans g1 (keeps_trans g2 h.1), rfl⟩) fun _ _ x => x) hm

theorem b_add_int {a b : Int} : BinR C A .Add rInt a rInt b rInt (a + b) := fun X s v1 v2 _ _ ⟨_, e1⟩ ⟨_, e2⟩ => by subst e1 e2; exact PyProof.Rows.add_int ⟨keeps_tok, _, rfl⟩
theorem b_sub_int {a b : Int} : BinR C A .Sub rInt a rInt b rInt (a - b) := fun X s v1 v2 _ _ ⟨_, e1⟩ ⟨_, e2⟩ => by subst e1 e2; exact PyProof.Rows.sub_int ⟨keeps_tok, _, rfl⟩
theorem b_mul_int {a b : Int} (hm : IntMulOk a b) : BinR C A .Mult rInt a rInt b rInt (a * b) := fun X s v1 v2 _ _ ⟨_, e1⟩ ⟨_, e2⟩ => by subst e1 e2; exact PyProof.Rows.mul_int ⟨keeps_tok, _, rfl⟩ hm
theorem b_mod_int {a b : Int} (hb : b ≠ 0) : BinR C A .Mod rInt a rInt b rInt (a.fmod b) := fun X s v1 v2 _ _ ⟨_, e1⟩ ⟨_, e2⟩ => by subst e1 e2; exact PyProof.Rows.mod_int hb ⟨keeps_tok, _, rfl⟩
theorem b_div_int {a b : Int} (hb : b ≠ 0) (hp : Builtin.divisionGoesByPylong a b = false) : BinR C A .FloorDiv rInt a rInt b rInt (a.fdiv b) := fun X s v1 v2 _ _ ⟨_, e1⟩ ⟨_, e2⟩ => by subst e1 e2; exact PyProof.Rows.floordiv_int hb ⟨keeps_tok, _, rfl⟩ (.inl hp)
end
end Mine

namespace Mine
open PySem PySem.Calls PyProof.Rows PySem.W

/-! comparing data -/
structure Qe {α : Type} [DecidableEq α] (R : Rl α) (d : Nat) (f : α → PyData) (ok : α → Prop) : Prop where
  rd : ∀ {G : PM} {h : Heap} {v : Value} {x : α}, Le G h.get? → R.r G x v → ∃ as, PySem.Reads h v (f x) as
  eq : ∀ x y, PyData.eqv (f x) (f y) = decide (x = y)
  lay : ∀ x, ok x → (f x).canLay0 = true
  dp : ∀ x, (f x).depth ≤ d
theorem qe_int : Qe rInt 0 PyData.int (fun _ => True) := ⟨fun _ ⟨t, e⟩ => e ▸ ⟨_, .int _ t⟩, fun x y => by unfold PyData.eqv; by_cases h : x = y <;> simp [h], fun _ _ => rfl, fun _ => Nat.le_refl 0⟩
theorem reads_all {α : Type} [DecidableEq α] {R : Rl α} {d : Nat} {f : α → PyData} {ok : α → Prop} (q : Qe R d f ok) {G : PM} {h : Heap} (k : Le G h.get?) : ∀ {xs : List α} {vs : List Value}, All2 R G xs vs → ∃ as, PySem.ReadsAll h vs (xs.map f) as
  | [], [], _ => ⟨_, .nil⟩
  | x :: xs, v :: vs, a => by
    obtain ⟨as, r⟩ := q.rd k a.1
    obtain ⟨bs, r'⟩ := reads_all q k a.2
    exact ⟨_, .cons r r'⟩
  | [], _ :: _, h => h.elim
  | _ :: _, [], h => h.elim
theorem eqv_all {α : Type} [DecidableEq α] {f : α → PyData} (q : ∀ x y, PyData.eqv (f x) (f y) = decide (x = y)) : ∀ xs ys : List α, PyData.eqvAll (xs.map f) (ys.map f) = decide (xs = ys)
  | [], [] => by simp [PyData.eqvAll]
  | [], _ :: _ => by simp [PyData.eqvAll]
  | _ :: _, [] => by simp [PyData.eqvAll]
  | x :: xs, y :: ys => by
    rw [List.map_cons, List.map_cons]
    unfold PyData.eqvAll
    rw [q, eqv_all q xs ys]
    simp
theorem lay_all {α : Type} {f : α → PyData} {ok : α → Prop} (q : ∀ x, ok x → (f x).canLay0 = true) : ∀ xs : List α, (∀ x ∈ xs, ok x) → PyData.canLayAll0 (xs.map f) = true
  | [], _ => rfl
  | x :: xs, h => by
    rw [List.map_cons]
    show ((f x).canLay0 && PyData.canLayAll0 (xs.map f)) = true
    rw [q x (h x (.head _)), lay_all q xs fun y m => h y (.tail _ m)]
    rfl
theorem dp_all {α : Type} {f : α → PyData} {d : Nat} (q : ∀ x, (f x).depth ≤ d) : ∀ xs : List α, PyData.depthAll (xs.map f) ≤ d
  | [] => Nat.zero_le d
  | x :: xs => by
    rw [List.map_cons]
    show max (f x).depth (PyData.depthAll (xs.map f)) ≤ d
    exact Nat.max_le.mpr ⟨q x, dp_all q xs⟩
theorem qe_list {α : Type} [DecidableEq α] {R : Rl α} {d : Nat} {f : α → PyData} {ok : α → Prop} (q : Qe R d f ok) : Qe (rList R) (d + 1) (fun xs => PyData.list (xs.map f)) (fun xs => ∀ x ∈ xs, ok x) where
  rd := fun k ⟨vs, ⟨a, n, e, g⟩, al⟩ => by
    obtain ⟨as, r⟩ := reads_all q k al
    subst e
    exact ⟨_, .list (k _ _ g) rfl rfl r⟩
  eq := fun x y => by unfold PyData.eqv; exact eqv_all q.eq x y
  lay := fun x h => lay_all q.lay x h
  dp := fun x => Nat.succ_le_succ (dp_all q.dp x)
theorem qe_t2 {α β : Type} [DecidableEq α] [DecidableEq β] {R : Rl α} {S : Rl β} {d e : Nat} {f : α → PyData} {g : β → PyData} {ok : α → Prop} {ok' : β → Prop} (q : Qe R d f ok) (q' : Qe S e g ok') :
    Qe (rT2 R S) (max d e + 1) (fun x => PyData.tuple [f x.1, g x.2]) (fun x => ok x.1 ∧ ok' x.2) where
  rd := fun k h => by
    obtain ⟨u1, u2, ⟨a, n, e, gg⟩, r1, r2⟩ := h
    obtain ⟨as, r⟩ := q.rd k r1
    obtain ⟨bs, r'⟩ := q'.rd k r2
    subst e
    exact ⟨_, .tuple (k _ _ gg) rfl rfl (.cons r (.cons r' .nil))⟩
  eq := fun x y => by
    unfold PyData.eqv
    show (PyData.eqv (f x.1) (f y.1) && (PyData.eqv (g x.2) (g y.2) && true)) = _
    rw [q.eq, q'.eq]
    simp [Prod.ext_iff]
  lay := fun x h => by
    show ((f x.1).canLay0 && ((g x.2).canLay0 && true)) = true
    rw [q.lay _ h.1, q'.lay _ h.2]; rfl
  dp := fun x => Nat.succ_le_succ (Nat.max_le.mpr ⟨Nat.le_trans (q.dp x.1) (Nat.le_max_left _ _), Nat.max_le.mpr ⟨Nat.le_trans (q'.dp x.2) (Nat.le_max_right _ _), Nat.zero_le _⟩⟩)
section
variable {C : Cx} {A : Around} {env : Env} {X : List Addr} {O : Own} {V : Vars} {α β γ δ : Type} {pos : Pos}
theorem shaped_of {α : Type} [DecidableEq α] {R : Rl α} {d : Nat} {f : α → PyData} {ok : α → Prop} (q : Qe R d f ok) (hd : d ≤ 64) {x : α} (h : ok x) : PySem.SeqAt.shaped (f x) = true := by
  unfold PySem.SeqAt.shaped
  rw [q.lay x h, decide_eq_true (Nat.le_trans (q.dp x) hd)]; rfl
theorem c_ne [DecidableEq α] {R : Rl α} {d : Nat} {f : α → PyData} {ok : α → Prop} (q : Qe R d f ok) {x y : α} (hx : ok x) (hy : ok y) (r : Rm 16 A) (hd : d ≤ 64 := by decide) : CmpR C A .NotEq R x R y (!decide (x = y)) := fun X s v1 v2 _ _ r1 r2 => by
  obtain ⟨as, a⟩ := q.rd fz_le r1
  obtain ⟨bs, b⟩ := q.rd fz_le r2
  refine ne_dataH a b (shaped_of q hd hx) (shaped_of q hd hy) (by have := r.un; omega) ?_
  rw [q.eq]; exact ⟨keeps_refl s, rfl⟩
theorem c_eq_int {a b : Int} : CmpR C A .Eq rInt a rInt b (a == b) := fun X s v1 v2 _ _ ⟨_, e1⟩ ⟨_, e2⟩ => by subst e1 e2; exact PyProof.Rows.eq_int ⟨keeps_refl s, rfl⟩
theorem c_ne_int {a b : Int} : CmpR C A .NotEq rInt a rInt b (a != b) := fun X s v1 v2 _ _ ⟨_, e1⟩ ⟨_, e2⟩ => by subst e1 e2; exact PyProof.Rows.ne_int ⟨keeps_refl s, rfl⟩
theorem c_lt_int {a b : Int} : CmpR C A .Lt rInt a rInt b (decide (a < b)) := fun X s v1 v2 _ _ ⟨_, e1⟩ ⟨_, e2⟩ => by subst e1 e2; exact PyProof.Rows.lt_int ⟨keeps_refl s, rfl⟩
theorem c_gt_int {a b : Int} : CmpR C A .Gt rInt a rInt b (decide (b < a)) := fun X s v1 v2 _ _ ⟨_, e1⟩ ⟨_, e2⟩ => by subst e1 e2; exact PyProof.Rows.gt_int ⟨keeps_refl s, rfl⟩
theorem c_le_int {a b : Int} : CmpR C A .LtE rInt a rInt b (decide (a ≤ b)) := fun X s v1 v2 _ _ ⟨_, e1⟩ ⟨_, e2⟩ => by subst e1 e2; exact PyProof.Rows.le_int ⟨keeps_refl s, rfl⟩
theorem c_ge_int {a b : Int} : CmpR C A .GtE rInt a rInt b (decide (b ≤ a)) := fun X s v1 v2 _ _ ⟨_, e1⟩ ⟨_, e2⟩ => by subst e1 e2; exact PyProof.Rows.ge_int ⟨keeps_refl s, rfl⟩
end
end Mine

namespace Mine
open PySem PySem.Calls PyProof.Rows PySem.W

/-! texts as lists of their signs' numbers -/
noncomputable def tx (l : List Nat) : Str := ⟨l.toArray⟩
noncomputable def rTxt : Rl (List Nat) := ⟨fun _ l v => ∃ t, v = .str (tx l) t, fun _ h => h⟩
theorem tx_append (a b : List Nat) : tx a ++ tx b = tx (a ++ b) := by
  show Str.mk _ = Str.mk _
  simp [tx]
theorem tx_len (a : List Nat) : (tx a).length = a.length := by simp [tx, Str.length]
theorem tx_inj {a b : List Nat} (h : tx a = tx b) : a = b := by have := congrArg (fun s => s.cps.toList) h; simpa [tx] using this
theorem qe_txt : Qe rTxt 0 (fun l => PyData.str (tx l)) (fun l => ∀ c ∈ l, c < 0x110000) := ⟨fun _ ⟨t, e⟩ => e ▸ ⟨_, .str _ t⟩,
  fun x y => by
    unfold PyData.eqv
    by_cases h : x = y
    · simp [h]
    · have : ¬ tx x = tx y := fun e => h (tx_inj e)
      simp [h, this],
  fun l h => by
    show (tx l).cps.all (· < 0x110000) = true
    simpa [tx] using h, fun _ => Nat.le_refl 0⟩

/-! arguments -/
noncomputable def AllF (G : PM) : List Fc → List Value → Prop
  | [], [] => True
  | F :: Fs, v :: vs => F.r G v ∧ AllF G Fs vs
  | _, _ => False
theorem AllF.one {G : PM} {F : Fc} {vs : List Value} (h : AllF G [F] vs) : ∃ v, vs = [v] ∧ F.r G v := by
  cases vs with
  | nil => exact h.elim
  | cons v r =>
    cases r with
    | nil => exact ⟨v, rfl, h.1⟩
    | cons _ _ => exact h.2.elim
theorem AllF.two {G : PM} {F F' : Fc} {vs : List Value} (h : AllF G [F, F'] vs) : ∃ v u, vs = [v, u] ∧ F.r G v ∧ F'.r G u := by
  cases vs with
  | nil => exact h.elim
  | cons v r => obtain ⟨u, e, q⟩ := AllF.one h.2; exact ⟨v, u, congrArg _ e, h.1, q⟩
theorem AllF.three {G : PM} {F F' F'' : Fc} {vs : List Value} (h : AllF G [F, F', F''] vs) : ∃ v u z, vs = [v, u, z] ∧ F.r G v ∧ F'.r G u ∧ F''.r G z := by
  cases vs with
  | nil => exact h.elim
  | cons v r => obtain ⟨u, z, e, q⟩ := AllF.two h.2; exact ⟨v, u, z, congrArg _ e, h.1, q⟩
/-- a list of expressions, one after the other -/
noncomputable def PL (C : Cx) (A : Around) (env : Env) (X : List Addr) (O : Own) (V : Vars) (es : List Expr) (Fs : List Fc) : Prop :=
  (starEach es env).any (·.1) = false ∧ ∀ pos s, Kn C env X O V s → Ev C A (spliced (backTo pos (starEach es env))) s fun vs s' => AllF (fz X s'.heap) Fs vs
section
variable {C : Cx} {A : Around} {env : Env} {X : List Addr} {O : Own} {V : Vars} {α β γ δ : Type} {pos : Pos}
theorem pl_nil : PL C A env X O V [] [] := ⟨rfl, fun pos s k => args_nil ⟨keeps_refl s, trivial⟩⟩
theorem pl_cons {e : Expr} {es : List Expr} {R : Rl α} {x : α} {Fs : List Fc} (h : PE C A env X O V e R x) (t : PL C A env X O V es Fs) (he : starEach (e :: es) env = (false, eval e env) :: starEach es env := by rfl) :
    PL C A env X O V (e :: es) (R.at x :: Fs) := ⟨by rw [he]; show (false || (starEach es env).any (·.1)) = false; rw [t.1]; rfl, fun pos s k =>
  args_cons (wpAny_mono (h s k) (fun v s1 h1 => wpAny_mono (t.2 pos s1 (k.keeps h1.1)) (fun vs s2 h2 => ⟨keeps_trans h1.1 h2.1, R.mono (fz_gr (keeps_gr h2.1)) h1.2, h2.2⟩) fun _ _ x => x) fun _ _ x => x) he⟩
theorem any_backTo {pos : Pos} : ∀ {ts : List (Bool × Sem Value)}, ts.any (·.1) = false → (backTo pos ts).any (·.1) = false
  | [], _ => rfl
  | (b, t) :: ts, h => by
    have h' : (b || ts.any (·.1)) = false := h
    rw [Bool.or_eq_false_iff] at h'
    show (b || (backTo pos ts).any (·.1)) = false
    rw [h'.1, any_backTo h'.2]; rfl

/-! calls -/
noncomputable def Keepy (C : Cx) (f : Value) : Prop := ∀ h, C.In h → ∃ k, (k = Keeper.frame ∨ k = Keeper.machine ∨ k = Keeper.boundFrame) ∧ Looks C.M h (keeperOf f) k
theorem keepy_builtin {id : String} : Keepy C (.builtin id) := fun _ _ => ⟨.machine, .inr (.inl rfl), Looks.of_pure rfl⟩
theorem keepy_type {T : String} : Keepy C (.type T) := fun _ _ => ⟨.machine, .inr (.inl rfl), Looks.of_pure rfl⟩
theorem keepy_K {f : Value} (h : keepIn C.K f = true) : Keepy C f := fun hp x => keeps_K h hp x.k
theorem callWith_ev {es : List Expr} {Fs : List Fc} {f : Value} {first : List Value} {s : Shared} {P : Value → Shared → Prop} (ha : PL C A env X O V es Fs) (k : Kn C env X O V s) (hf : Keepy C f)
    (h : ∀ vs s', Keeps s s' → AllF (fz X s'.heap) Fs vs → Ev C A (call f (first ++ vs)) s' P) : Ev C A (callWith pos f first (backTo pos (starEach es env)) []) s P := by
  have hp := any_backTo (pos := pos) ha.1
  refine callWith_of (P := C.In) (by rw [hp]; rfl) hf ?_
  have go : ∀ (ts : List (Bool × Sem Value)), wpAny C.M A (spliced ts) (fun vs s' => C.In s'.heap ∧ wpAny C.M A (call f (first ++ vs)) (fun v s' => Keeps s s' ∧ P v s') (fun _ _ => False) s') (fun _ _ => False) s → ts.any (·.1) = false →
      wpAny C.M A (evalArgs f true ts []) (fun a s₁ => C.In s₁.heap ∧ wpAny C.M A (call f (first ++ a.pos) a.kw) (fun v s' => Keeps s s' ∧ P v s') (fun _ _ => False) s₁) (fun _ _ => False) s := fun ts hw hn => by
    cases ts with
    | nil => exact evalArgs_nil3 (by
        have : wpAny C.M A (Pure.pure []) (fun vs s' => C.In s'.heap ∧ wpAny C.M A (call f (first ++ vs)) (fun v s' => Keeps s s' ∧ P v s') (fun _ _ => False) s') (fun _ _ => False) s := hw
        exact ⟨k.base, by
          intro Γ p hΓ
          have := this Γ p hΓ
          rw [Sem.wp_pure'] at this
          exact this.2 Γ p hΓ⟩)
    | cons t r =>
      obtain ⟨b, t⟩ := t
      have : b = false := by
        have h' : (b || r.any (·.1)) = false := hn
        exact (Bool.or_eq_false_iff.mp h').1
      subst this
      exact evalArgs_plain hw
  refine go _ ?_ hp
  refine wpAny_mono (ha.2 pos s k) (fun vs s' h1 => ⟨(k.keeps h1.1).base, wpAny_mono (h vs s' h1.1 h1.2) (fun v s'' h2 => ⟨keeps_trans h1.1 h2.1, h2.2⟩) fun _ _ x => x⟩) fun _ _ x => x
noncomputable def CallR (C : Cx) (A : Around) (f : Value) (Fs : List Fc) (R : Rl α) (x : α) : Prop :=
  ∀ X s vs, C.In s.heap → Live X s → AllF (fz X s.heap) Fs vs → Ev C A (call f vs) s fun v s' => R.r (fz X s'.heap) x v
theorem pe_call {fn : Expr} {es : List Expr} {Fs : List Fc} {f : Value} {R : Rl α} {x : α} (hf : PE C A env X O V fn rVal f) (hk : Keepy C f) (ha : PL C A env X O V es Fs) (hc : CallR C A f Fs R x)
    (he : ∀ pos, eval (.Call fn es [] pos) env = (do callWith pos (← eval fn env) [] (backTo pos (starEach es env)) (backToKw pos (keywordEach [] env))) := by intro _; rfl) :
    PE C A env X O V (.Call fn es [] pos) R x := fun s k =>
  Call_ (wpAny_mono (hf s k) (fun v s1 h1 => by
    obtain ⟨g1, e⟩ := h1
    cases e
    exact wpAny_mono (callWith_ev (first := []) ha (k.keeps g1) hk fun vs s' g al => hc X s' vs ((k.keeps g1).keeps g).base ((k.keeps g1).keeps g).alive al) (fun v s' h => ⟨keeps_trans g1 h.1, h.2⟩) fun _ _ x => x) fun _ _ x => x) (he pos)

/-! lists and tuples -/
theorem seqAt_new {T : String} {X : List Addr} {s : Shared} {vs : List Value} (hl : Live X s) : SeqAt T (fz X (s.heap.push { cls := .type T, data := .seq vs.toArray })) (.ref s.heap.objs.size) vs :=
  ⟨_, _, rfl, fz_of (Heap.get?_push_size _ rfl) fun m => by obtain ⟨o, e⟩ := hl _ m; exact Nat.lt_irrefl _ (Heap.lt_size e)⟩
theorem gr_push {h : Heap} {o : Obj} : Gr h (h.push o) := fun _ _ e => Heap.get?_push_of_some _ e
theorem newList_ev {s : Shared} {vs : List Value} (hl : Live X s) (hz : vs.length ≤ sizeLine) : Ev C A (newList vs) s fun v s' => SeqAt "list" (fz X s'.heap) v vs ∧ s'.heap = s.heap.push { cls := .type "list", data := .seq vs.toArray } :=
  wpAny_newObj_type ⟨keeps_heap gr_push, seqAt_new hl, rfl⟩ (by show vs.toArray.size ≤ sizeLine; rw [List.size_toArray]; exact hz)
theorem newTuple_ev {s : Shared} {vs : List Value} (hl : Live X s) (hz : vs.length ≤ sizeLine) : Ev C A (newTuple vs) s fun v s' => SeqAt "tuple" (fz X s'.heap) v vs :=
  wpAny_newObj_type ⟨keeps_heap gr_push, seqAt_new hl⟩ (by show vs.toArray.size ≤ sizeLine; rw [List.size_toArray]; exact hz)
theorem allF_map {R : Rl α} {G : PM} : ∀ {xs : List α} {vs : List Value}, AllF G (xs.map R.at) vs → All2 R G xs vs
  | [], [], _ => trivial
  | _ :: _, _ :: _, h => ⟨h.1, allF_map h.2⟩
  | [], _ :: _, h => h.elim
  | _ :: _, [], h => h.elim
theorem pe_list {es : List Expr} {R : Rl α} {xs : List α} (h : PL C A env X O V es (xs.map R.at)) (hz : xs.length ≤ sizeLine) : PE C A env X O V (.List es pos) (rList R) xs := fun s k =>
  List_ (wpAny_mono (h.2 pos s k) (fun vs s1 h1 => wpAny_mono (newList_ev (k.keeps h1.1).alive (by rw [(allF_map h1.2).length]; exact hz)) (fun v s2 h2 => ⟨keeps_trans h1.1 h2.1, vs, h2.2.1, (allF_map h1.2).mono (fz_gr (keeps_gr h2.1))⟩) fun _ _ x => x) fun _ _ x => x)
theorem pe_t2 {e1 e2 : Expr} {n : Nat} {R : Rl α} {S : Rl β} {x : α} {y : β} (h : PL C A env X O V [e1, e2] [R.at x, S.at y]) : PE C A env X O V (.Tuple [e1, e2] n pos) (rT2 R S) (x, y) := fun s k =>
  Tuple_ (wpAny_mono (h.2 pos s k) (fun vs s1 h1 => by
    obtain ⟨v, u, rfl, r1, r2⟩ := h1.2.two
    exact wpAny_mono (newTuple_ev (k.keeps h1.1).alive (by show 2 ≤ sizeLine; decide)) (fun v s2 h2 => ⟨keeps_trans h1.1 h2.1, _, _, h2.2, R.mono (fz_gr (keeps_gr h2.1)) r1, S.mono (fz_gr (keeps_gr h2.1)) r2⟩) fun _ _ x => x) fun _ _ x => x)

/-! one operand, choices, tests -/
theorem pe_neg {e : Expr} {a : Int} (h : PE C A env X O V e rInt a) : PE C A env X O V (.UnaryOp .USub e pos) rInt (-a) := fun s k => by
  show wpAny _ _ (do let v ← eval e env; standAt pos; holding [v] (unaryOp .USub v)) _ _ _
  refine wpAny_bind (wpAny_mono (h s k) (fun v s1 h1 => wpAny_bind (wpAny_standAt (wpAny_holding ?_))) fun _ _ x => x)
  obtain ⟨g, t, rfl⟩ := h1
  exact PyProof.Rows.neg_int ⟨keeps_trans g keeps_tok, _, rfl⟩
theorem pe_if {test body orelse : Expr} {b : Bool} {R : Rl α} {x : α} (ht : PT C A env X O V test b) (h1 : b = true → PE C A env X O V body R x) (h2 : b = false → PE C A env X O V orelse R x) :
    PE C A env X O V (.IfExp test body orelse pos) R x := fun s k =>
  IfExp_ (wpAny_mono (ht s k) (fun c s1 q => by
    obtain ⟨g, rfl⟩ := q
    cases c with
    | true => exact wpAny_mono (h1 rfl s1 (k.keeps g)) (fun v s2 h => ⟨keeps_trans g h.1, h.2⟩) fun _ _ x => x
    | false => exact wpAny_mono (h2 rfl s1 (k.keeps g)) (fun v s2 h => ⟨keeps_trans g h.1, h.2⟩) fun _ _ x => x) fun _ _ x => x)
theorem pt_and {e1 e2 : Expr} {a b : Bool} (h1 : PT C A env X O V e1 a) (h2 : a = true → PT C A env X O V e2 b) : PT C A env X O V (.BoolOp .And [e1, e2] pos) (a && b) := fun s k =>
  isTrue_and (wpAny_mono (h1 s k) (fun c s1 q => by
    obtain ⟨g, rfl⟩ := q
    cases c with
    | false => exact ⟨g, rfl⟩
    | true => exact isTrue_and (wpAny_mono (h2 rfl s1 (k.keeps g)) (fun c s2 q => by
        obtain ⟨g2, rfl⟩ := q
        cases c with
        | false => exact ⟨keeps_trans g g2, rfl⟩
        | true => exact isTrue_and_nil ⟨keeps_trans g g2, rfl⟩) fun _ _ x => x)) fun _ _ x => x)
theorem pt_or {e1 e2 : Expr} {a b : Bool} (h1 : PT C A env X O V e1 a) (h2 : a = false → PT C A env X O V e2 b) : PT C A env X O V (.BoolOp .Or [e1, e2] pos) (a || b) := fun s k =>
  isTrue_or (wpAny_mono (h1 s k) (fun c s1 q => by
    obtain ⟨g, rfl⟩ := q
    cases c with
    | true => exact ⟨g, rfl⟩
    | false => exact isTrue_or (wpAny_mono (h2 rfl s1 (k.keeps g)) (fun c s2 q => by
        obtain ⟨g2, rfl⟩ := q
        cases c with
        | true => exact ⟨keeps_trans g g2, rfl⟩
        | false => exact isTrue_or_nil ⟨keeps_trans g g2, rfl⟩) fun _ _ x => x)) fun _ _ x => x)
/-- a test that is a plain expression of an int or a bool -/
theorem pt_int {e : Expr} {a : Int} (h : PE C A env X O V e rInt a) (he : isTrue e env (eval e env) = (do let v ← eval e env; standAt e.pos; holding [v] (truthy v)) := by rfl) : PT C A env X O V e (a != 0) := fun s k =>
  isTrue_plain (wpAny_mono (h s k) (fun v s1 q => by obtain ⟨g, t, rfl⟩ := q; exact PyProof.Rows.truthy_int ⟨g, rfl⟩) fun _ _ x => x) he

/-! items -/
theorem pe_sub {ve ie : Expr} {R1 : Rl α} {x1 : α} {R2 : Rl β} {x2 : β} {R : Rl γ} {x : γ} (h1 : PE C A env X O V ve R1 x1) (h2 : PE C A env X O V ie R2 x2)
    (hc : ∀ s o i, C.In s.heap → Live X s → R1.r (fz X s.heap) x1 o → R2.r (fz X s.heap) x2 i → Ev C A (subscriptTail ve ie o i) s fun v s' => R.r (fz X s'.heap) x v) : PE C A env X O V (.Subscript ve ie pos) R x := fun s k =>
  Subscript_ (wpAny_mono (h1 s k) (fun o s1 q1 => wpAny_mono (h2 s1 (k.keeps q1.1)) (fun i s2 q2 => wpAny_mono (hc s2 o i (k.keeps (keeps_trans q1.1 q2.1)).base (k.keeps (keeps_trans q1.1 q2.1)).alive (R1.mono (fz_gr (keeps_gr q2.1)) q1.2) q2.2)
    (fun v s3 q3 => ⟨keeps_trans q1.1 (keeps_trans q2.1 q3.1), q3.2⟩) fun _ _ x => x) fun _ _ x => x) fun _ _ x => x)
abbrev NotSl (ie : Expr) : Prop := ∀ o i, subscripted ie false o i = operate [o, i] (getItem o i)
theorem pe_item_list {ve ie : Expr} {R : Rl α} {xs : List α} {i : Int} {x : α} (h1 : PE C A env X O V ve (rList R) xs) (h2 : PE C A env X O V ie rInt i) (h0 : 0 ≤ i) (hx : xs[i.toNat]? = some x) (hz : i < 2 ^ 63)
    (hs : NotSl ie := by intro _ _; with_unfolding_all rfl) : PE C A env X O V (.Subscript ve ie pos) R x :=
  pe_sub h1 h2 fun s o ix _ _ ⟨vs, ⟨a, n, e, g⟩, al⟩ ⟨t, ei⟩ => by
    subst e ei
    obtain ⟨v, hv, hr⟩ := al.get hx
    have hl : s.heap.IsList a vs.toArray := ⟨_, fz_le _ _ g, rfl, _, rfl⟩
    exact tail_any hl.typeIs slot_list_getitem.lookup (wpAny_getItem_list hl h0 hz (by simpa using hv) ⟨keeps_refl s, hr⟩) (hs _ _)
theorem tup_item {T : String} {G : PM} {v : Value} {vs : List Value} {s : Shared} {ve ie : Expr} {i : Int} {t : Tok} {u : Value} {Q : Value → Shared → Prop} (h : SeqAt "tuple" (fz X s.heap) v vs) (h0 : 0 ≤ i) (hz : i < 2 ^ 63) (hu : vs[i.toNat]? = some u) (hq : Q u s)
    (hs : NotSl ie) : wpAny C.M A (subscriptTail ve ie v (.int i t)) Q (fun _ _ => False) s := by
  obtain ⟨a, n, rfl, g⟩ := h
  have ht : IsTup s.heap a vs.toArray := ⟨_, fz_le _ _ g, rfl, _, rfl⟩
  have hlt : i.toNat < vs.length := (List.getElem?_eq_some_iff.mp hu).1
  refine tail_any ht.typeIs slot_tuple_getitem.lookup (PyProof.Rows.getItem_tuple ht (by omega) hz (j := i.toNat) (seqIndex_of h0 (by simp; omega)) (by simpa using hu) hq) (hs _ _)
theorem pe_item_tupN {ve ie : Expr} {R : Rl α} {xs : List α} {i : Int} {x : α} (h1 : PE C A env X O V ve (rTupN R) xs) (h2 : PE C A env X O V ie rInt i) (h0 : 0 ≤ i) (hx : xs[i.toNat]? = some x) (hz : i < 2 ^ 63)
    (hs : NotSl ie := by intro _ _; with_unfolding_all rfl) : PE C A env X O V (.Subscript ve ie pos) R x :=
  pe_sub h1 h2 fun s o ix _ _ ⟨vs, g, al⟩ ⟨t, ei⟩ => by
    subst ei
    obtain ⟨v, hv, hr⟩ := al.get hx
    exact tup_item (T := "tuple") (G := fz X s.heap) g h0 hz hv ⟨keeps_refl s, hr⟩ hs
theorem pe_item_fst {ve ie : Expr} {R : Rl α} {S : Rl β} {x : α × β} (h1 : PE C A env X O V ve (rT2 R S) x) (h2 : PE C A env X O V ie rInt 0) (hs : NotSl ie := by intro _ _; with_unfolding_all rfl) : PE C A env X O V (.Subscript ve ie pos) R x.1 :=
  pe_sub h1 h2 fun s o ix _ _ ⟨u1, u2, g, r1, r2⟩ ⟨t, ei⟩ => by
    subst ei
    exact tup_item (T := "tuple") (G := fz X s.heap) g (by decide) (by decide) (by rfl) ⟨keeps_refl s, r1⟩ hs
theorem pe_item_snd {ve ie : Expr} {R : Rl α} {S : Rl β} {x : α × β} (h1 : PE C A env X O V ve (rT2 R S) x) (h2 : PE C A env X O V ie rInt 1) (hs : NotSl ie := by intro _ _; with_unfolding_all rfl) : PE C A env X O V (.Subscript ve ie pos) S x.2 :=
  pe_sub h1 h2 fun s o ix _ _ ⟨u1, u2, g, r1, r2⟩ ⟨t, ei⟩ => by
    subst ei
    exact tup_item (T := "tuple") (G := fz X s.heap) g (by decide) (by decide) (by rfl) ⟨keeps_refl s, r2⟩ hs
theorem pe_item_txt {ve ie : Expr} {l : List Nat} {i : Int} {c : Nat} (h1 : PE C A env X O V ve rTxt l) (h2 : PE C A env X O V ie rInt i) (h0 : 0 ≤ i) (hx : l[i.toNat]? = some c) (hz : i < 2 ^ 63)
    (hs : NotSl ie := by intro _ _; with_unfolding_all rfl) : PE C A env X O V (.Subscript ve ie pos) rTxt [c] :=
  pe_sub h1 h2 fun s o ix _ _ ⟨t1, e⟩ ⟨t, ei⟩ => by
    subst e ei
    have hlt : i.toNat < l.length := (List.getElem?_eq_some_iff.mp hx).1
    refine tail_any (typeIs_str s _ _) slot_str_getitem.lookup (PyProof.Rows.getItem_str (c := c) ?_ ?_ ⟨keeps_tok, _, rfl⟩) (hs _ _)
    · simp; omega
    · rw [seqIndex_of h0 (by rw [tx_len]; omega)]; simpa [tx] using hx

/-! slices -/
noncomputable def PPart (C : Cx) (A : Around) (env : Env) (X : List Addr) (O : Own) (V : Vars) (e : Option Expr) (k : Option Nat) : Prop :=
  ∀ s, Kn C env X O V s → Ev C A (evalPart e env) s fun v s' => IsPart v (k.map fun n => (n : Int))
theorem pp_none : PPart C A env X O V none none := fun s _ => wpAny_pure ⟨keeps_refl s, .none⟩
theorem pp_some {e : Expr} {n : Nat} {i : Int} (h : PE C A env X O V e rInt i) (hi : i = (n : Int)) : PPart C A env X O V (some e) (some n) := fun s k =>
  wpAny_mono (h s k) (fun v s' q => by obtain ⟨g, t, rfl⟩ := q; subst hi; exact ⟨g, .int _ t⟩) fun _ _ x => x
noncomputable def cut {α : Type} (l : List α) (lo hi : Option Nat) : List α := (l.drop (lo.getD 0)).take (hi.getD l.length - lo.getD 0)
end
end Mine

namespace Mine
open PySem PySem.Calls PyProof.Rows PySem.W

section
variable {C : Cx} {A : Around} {env : Env} {X : List Addr} {O : Own} {V : Vars} {α β γ δ : Type} {pos : Pos}
theorem cut_eq {α : Type} (l : List α) (lo hi : Option Nat) : (l.drop (min (lo.getD 0) l.length)).take (min (hi.getD l.length) l.length - min (lo.getD 0) l.length) = cut l lo hi := by
  unfold cut
  generalize lo.getD 0 = a
  generalize hi.getD l.length = b
  by_cases h : l.length ≤ a
  · rw [Nat.min_eq_right h, List.drop_of_length_le (Nat.le_refl _), List.drop_of_length_le h]; simp
  · rw [Nat.min_eq_left (by omega : a ≤ l.length)]
    by_cases q : b ≤ l.length
    · rw [Nat.min_eq_left q]
    · rw [Nat.min_eq_right (by omega : l.length ≤ b), List.take_of_length_le (by simp), List.take_of_length_le (by simp; omega)]
theorem clip_lo (n : Nat) (lo : Option Nat) : (lo.map fun n => (n : Int)).elim 0 (clipAt n) = min (lo.getD 0) n := by
  cases lo with
  | none => simp
  | some a => exact clipAt_nat n a
theorem clip_hi (n : Nat) (hi : Option Nat) : (hi.map fun n => (n : Int)).elim n (clipAt n) = min (hi.getD n) n := by
  cases hi with
  | none => simp
  | some a => exact clipAt_nat n a
theorem pick_cut (items : Array Value) (lo hi : Option Nat) : slicePick items (lo.map fun n => (n : Int)) (hi.map fun n => (n : Int)) none = (cut items.toList lo hi).toArray := by
  rw [slicePick_plain, clip_lo, clip_hi, ← cut_eq, Array.length_toList]
theorem All2.cut {R : Rl α} {G : PM} {xs : List α} {vs : List Value} (h : All2 R G xs vs) (lo hi : Option Nat) : All2 R G (cut xs lo hi) (Mine.cut vs lo hi) := by
  unfold Mine.cut
  rw [h.length]
  exact (h.drop _).take _
theorem cut_len {α : Type} (l : List α) (lo hi : Option Nat) : (cut l lo hi).length ≤ l.length := by
  unfold cut
  rw [List.length_take, List.length_drop]
  exact Nat.le_trans (Nat.min_le_right _ _) (Nat.sub_le _ _)
end
end Mine

namespace Mine
open PySem PySem.Calls PyProof.Rows PySem.W

section
variable {C : Cx} {A : Around} {env : Env} {X : List Addr} {O : Own} {V : Vars} {α β γ δ : Type} {pos : Pos}
theorem fz_new {X : List Addr} {s : Shared} {o : Obj} (hl : Live X s) (hf : o.isFreed = false) : fz X (s.heap.push o) s.heap.objs.size = some o :=
  fz_of (Heap.get?_push_size _ hf) fun m => by obtain ⟨o, e⟩ := hl _ m; exact Nat.lt_irrefl _ (Heap.lt_size e)

/-! texts, lists, bytes put together -/
theorem b_add_txt {a b : List Nat} (hz : a.length + b.length ≤ sizeLine) : BinR C A .Add rTxt a rTxt b rTxt (a ++ b) := fun X s v1 v2 _ _ ⟨_, e1⟩ ⟨_, e2⟩ => by
  subst e1 e2
  exact PyProof.Rows.add_str (fun t' tk => ⟨keeps_tok, _, by rw [tx_append]⟩) (by rw [tx_len, tx_len]; exact hz)
theorem foldl_app (l : List Nat) : ∀ (k : Nat) (acc : Array Nat), (List.replicate k l.toArray).foldl (· ++ ·) acc = acc ++ (List.replicate k l).flatten.toArray
  | 0, acc => by simp
  | k + 1, acc => by rw [List.replicate_succ, List.foldl_cons, foldl_app l k, List.replicate_succ, List.flatten_cons]; simp
theorem txt_mul (l : List Nat) (n : Int) : Txt.mul (tx l) n = tx (List.replicate n.toNat l).flatten := by
  unfold Txt.mul
  by_cases h : n < 1
  · rw [if_pos h, show n.toNat = 0 by omega]; rfl
  · rw [if_neg h]
    by_cases q : (n == 1 || (tx l).length == 0) = true
    · rw [if_pos q]
      rw [Bool.or_eq_true, beq_iff_eq, beq_iff_eq, tx_len] at q
      rcases q with rfl | q
      · simp [tx]
      · rw [List.eq_nil_of_length_eq_zero q]; simp
    · rw [if_neg q]
      show Str.mk _ = Str.mk _
      rw [show (tx l).cps = l.toArray from rfl, foldl_app]; simp
theorem b_mul_txt {l : List Nat} {n : Int} (hn : n < 2 ^ 24) (hn0 : - 2 ^ 24 < n) (hl : l.length < 2 ^ 24) (hz : l.length * n.toNat ≤ sizeLine) : BinR C A .Mult rTxt l rInt n rTxt (List.replicate n.toNat l).flatten := fun X s v1 v2 _ _ ⟨_, e1⟩ ⟨_, e2⟩ => by
  subst e1 e2
  refine SB.mul ⟨?_, fun h1 _ h2 => ?_, fun _ _ => ?_⟩ fun t' k => ⟨keeps_tok, _, by rw [txt_mul]⟩
  · simp; omega
  · rw [tx_len] at h2
    have : (2 ^ 63 - 1) / n ≥ 2 ^ 38 := by
      have h3 : (2 ^ 63 - 1) / n ≥ (2 ^ 63 - 1) / (2 ^ 24) := by
        refine Int.le_ediv_of_mul_le (by omega) ?_
        have : ((2 ^ 63 - 1) / (2 ^ 24) : Int) * n ≤ ((2 ^ 63 - 1) / (2 ^ 24)) * 2 ^ 24 := Int.mul_le_mul_of_nonneg_left (by omega) (by decide)
        exact Int.le_trans this (by decide)
      exact Int.le_trans (by decide) h3
    omega
  · rw [tx_len]; simp only [Builtin.Str.tooLong, decide_eq_false_iff_not, Nat.not_lt] <;> exact hz
theorem b_add_list {R : Rl α} {xs ys : List α} (hz : xs.length + ys.length ≤ sizeLine) : BinR C A .Add (rList R) xs (rList R) ys (rList R) (xs ++ ys) := fun X s v1 v2 _ hl ⟨vs, ⟨a, n, e1, g1⟩, a1⟩ ⟨us, ⟨b, m, e2, g2⟩, a2⟩ => by
  subst e1 e2
  refine PySem.P.add_list (n := n) (n2 := m) (fz_le _ _ g1) (fz_le _ _ g2) ⟨keeps_heap gr_push, vs ++ us, ?_, (a1.append a2).mono (fz_gr gr_push)⟩ (by rw [List.size_toArray, List.size_toArray, a1.length, a2.length]; exact hz)
  refine ⟨_, 0, rfl, ?_⟩
  rw [fz_new hl rfl]; simp
theorem All2.replicate {R : Rl α} {G : PM} {xs : List α} {vs : List Value} (h : All2 R G xs vs) : ∀ k, All2 R G (List.replicate k xs).flatten (List.replicate k vs).flatten
  | 0 => trivial
  | k + 1 => by rw [List.replicate_succ, List.replicate_succ, List.flatten_cons, List.flatten_cons]; exact h.append (All2.replicate h k)
theorem b_mul_list {R : Rl α} {xs : List α} {n : Int} (hn : n < 2 ^ 24) (hn0 : - 2 ^ 24 < n) (hz : xs.length * n.toNat ≤ 2 ^ 24) : BinR C A .Mult (rList R) xs rInt n (rList R) (List.replicate n.toNat xs).flatten := fun X s v1 v2 _ hl ⟨vs, ⟨a, k, e1, g1⟩, a1⟩ ⟨t, e2⟩ => by
  subst e1 e2
  have hg := fz_le _ _ g1
  refine wpAny_binaryOp_repeat_ref (T := "list") (U := "int") (by decide) ⟨_, hg, rfl⟩ (fun s' => typeIs_int s' n t) noFill_list_mul F.fills_int_mul F.slot_int_rmul repeat_list F.slot_int_index.lookup
    (call_meets F.slot_int_rmul (typeIs_int s n t) F.entry_int_rmul (F.args_int_rmul_2 _ _) (int___rmul___int_list n t a vs.toArray k)
      ⟨hg, rfl, ⟨_, hg, rfl⟩, call_meets F.slot_list_mul ⟨_, hg, rfl⟩ F.entry_list_mul (F.args_list_mul_2 _ _)
        (AutoListH.list___mul___list_int_3 a vs.toArray k n t (by simp [Builtin.List.listFitsIndex]; omega) (by rw [List.size_toArray, a1.length]; omega) (by rw [List.size_toArray, a1.length]; simp [Builtin.List.listTooLong, sizeLine]; omega))
        ⟨hg, keeps_heap gr_push, (List.replicate n.toNat vs).flatten, ?_, (a1.replicate _).mono (fz_gr gr_push)⟩⟩)
  refine ⟨_, 0, rfl, ?_⟩
  rw [fz_new hl rfl, listMul_foldl]
  congr 2
  by_cases h0 : vs = []
  · subst h0; simp
  · have : (vs.toArray.isEmpty = true) = False := by simp [h0]
    simp [h0]
noncomputable def rB : Rl (List UInt8) := ⟨fun _ l v => ∃ t, v = .bytes l.toArray t, fun _ h => h⟩
theorem pe_bytesL {b : List UInt8} {k : Nat} : PE C A env X O V (.Constant (.bytes b) k pos) rB b := fun s _ => by
  show wpAny _ _ (mkTextBytes b.toArray) _ _ _
  exact fun _ _ _ => ⟨keeps_tok, _, rfl⟩
theorem b_add_bytes {a b : List UInt8} (hz : a.length + b.length ≤ 16777216) : BinR C A .Add rB a rB b rB (a ++ b) := fun X s v1 v2 _ _ ⟨_, e1⟩ ⟨_, e2⟩ => by
  subst e1 e2
  exact KBy.add_bytes (by simpa using hz) fun t' k => ⟨keeps_tok, t', by simp⟩
theorem c_eq_b {a b : List UInt8} : CmpR C A .Eq rB a rB b (a == b) := fun X s v1 v2 _ _ ⟨_, e1⟩ ⟨_, e2⟩ => by subst e1 e2; exact PySem.W.eq_bytes ⟨keeps_refl s, rfl⟩
theorem b_pow_int {a n : Int} (hn : 0 ≤ n) (hn2 : n ≤ 1000000) (ha : a.natAbs < 2 ^ 64) : BinR C A .Pow rInt a rInt n rInt (a ^ n.toNat) := fun X s v1 v2 _ _ ⟨_, e1⟩ ⟨_, e2⟩ => by
  subst e1 e2
  exact PyProof.Rows.pow_int_small hn hn2 ha ⟨keeps_tok, _, rfl⟩
theorem tx_beq {a b : List Nat} : (tx a == tx b) = (a == b) := by
  rw [Bool.eq_iff_iff]; simp only [beq_iff_eq]
  exact ⟨tx_inj, fun e => by rw [e]⟩
theorem c_eq_txt {a b : List Nat} : CmpR C A .Eq rTxt a rTxt b (a == b) := fun X s v1 v2 _ _ ⟨_, e1⟩ ⟨_, e2⟩ => by
  subst e1 e2; exact PyProof.Rows.eq_str ⟨keeps_refl s, by rw [tx_beq]⟩
theorem c_ne_txt {a b : List Nat} : CmpR C A .NotEq rTxt a rTxt b (a != b) := fun X s v1 v2 _ _ ⟨_, e1⟩ ⟨_, e2⟩ => by
  subst e1 e2; exact PyProof.Rows.ne_str ⟨keeps_refl s, by unfold bne; rw [tx_beq]⟩

/-! built-in functions -/
theorem f_len_list {R : Rl α} {xs : List α} (hz : xs.length < 2 ^ 62) : CallR C A (.builtin "len") [(rList R).at xs] rInt xs.length := fun X s vs _ _ al => by
  obtain ⟨v, rfl, us, ⟨a, n, rfl, g⟩, a1⟩ := al.one
  refine call_len_list ⟨_, fz_le _ _ g, rfl, _, rfl⟩ (by rw [List.size_toArray, a1.length]; omega) ⟨keeps_tok, s.toks + 1, ?_⟩
  rw [List.size_toArray, a1.length]
theorem f_len_txt {l : List Nat} (hz : l.length < 2 ^ 62) : CallR C A (.builtin "len") [rTxt.at l] rInt l.length := fun X s vs _ _ al => by
  obtain ⟨v, rfl, t, rfl⟩ := al.one
  refine PyProof.Rows.len_str (by rw [tx_len]; omega) ⟨keeps_tok, s.toks + 1, ?_⟩
  rw [tx_len]
theorem f_len_bytes {l : List UInt8} (hz : l.length ≤ 1099511627776) : CallR C A (.builtin "len") [rB.at l] rInt l.length := fun X s vs _ _ al => by
  obtain ⟨v, rfl, t, rfl⟩ := al.one
  exact PySem.W.len_bytes (by simpa using hz) ⟨keeps_tok, s.toks + 1, by simp⟩
theorem f_len_tupN {R : Rl α} {xs : List α} (hz : (xs.length : Int) ≤ 16384) : CallR C A (.builtin "len") [(rTupN R).at xs] rInt xs.length := fun X s vs _ _ al => by
  obtain ⟨v, rfl, us, ⟨a, n, rfl, g⟩, a1⟩ := al.one
  exact kun_lenT (k := xs.length) ⟨_, fz_le _ _ g, rfl, _, rfl⟩ (by rw [List.size_toArray, a1.length]) hz ⟨keeps_tok, _, rfl⟩
theorem f_chr {i : Int} (h0 : 0 ≤ i) (h1 : i ≤ 1114111) : CallR C A (.builtin "chr") [rInt.at i] rTxt [i.toNat] := fun X s vs _ _ al => by
  obtain ⟨v, rfl, t, rfl⟩ := al.one
  exact PyProof.Rows.chr_of_range h0 h1 ⟨keeps_tok, _, rfl⟩
theorem f_ord {c : Nat} : CallR C A (.builtin "ord") [rTxt.at [c]] rInt c := fun X s vs _ _ al => by
  obtain ⟨v, rfl, t, rfl⟩ := al.one
  exact PyProof.Rows.ord_of_one rfl ⟨keeps_tok, _, rfl⟩
theorem f_abs {a : Int} : CallR C A (.builtin "abs") [rInt.at a] rInt (if a < 0 then -a else a) := fun X s vs _ _ al => by
  obtain ⟨v, rfl, t, rfl⟩ := al.one
  exact PyProof.Rows.call_abs_int fun u tk => ⟨keeps_tok, _, rfl⟩
theorem f_int {a : Int} : CallR C A (.type "int") [rInt.at a] rInt a := fun X s vs _ _ al => by
  obtain ⟨v, rfl, t, rfl⟩ := al.one
  exact call_int_int ⟨keeps_refl s, _, rfl⟩
theorem f_divmod {a b : Int} (hb : b ≠ 0) (hp : Builtin.divisionGoesByPylong a b = false) : CallR C A (.builtin "divmod") [rInt.at a, rInt.at b] (rT2 rInt rInt) (a.fdiv b, a.fmod b) := fun X s vs _ hl al => by
  obtain ⟨v, u, rfl, ⟨t, rfl⟩, ⟨t', rfl⟩⟩ := al.two
  refine PyProof.Rows.divmod_int hb ⟨keeps_mk gr_push, _, _, ⟨_, 0, rfl, fz_new hl rfl⟩, ⟨_, rfl⟩, ⟨_, rfl⟩⟩ (.inl hp)
/-- the ints of a list's items -/
theorem ints_of {G : PM} : ∀ {xs : List Int} {vs : List Value}, All2 rInt G xs vs → ∃ ps : List (Int × Tok), vs = ps.map (fun p => Value.int p.1 p.2) ∧ ps.map (·.1) = xs
  | [], [], _ => ⟨[], rfl, rfl⟩
  | x :: xs, v :: vs, h => by
    obtain ⟨⟨t, rfl⟩, h2⟩ := h
    obtain ⟨ps, rfl, rfl⟩ := ints_of h2
    exact ⟨(x, t) :: ps, rfl, rfl⟩
  | [], _ :: _, h => h.elim
  | _ :: _, [], h => h.elim
theorem numAt_of (ps : List (Int × Tok)) (i : Nat) : numAt ps.toArray i = (ps.map (·.1)).getD i 0 := by
  unfold numAt
  simp [List.getD_eq_getElem?_getD]
theorem f_max_ints {xs : List Int} {m : Int} (r : Rm 1 A) (hm : m ∈ xs) (hle : ∀ x ∈ xs, x ≤ m) : CallR C A (.builtin "max") [(rList rInt).at xs] rInt m := fun X s vs _ _ al => by
  obtain ⟨v, rfl, us, ⟨a, n, rfl, g⟩, a1⟩ := al.one
  obtain ⟨ps, rfl, rfl⟩ := ints_of a1
  have hl : s.heap.IsList a (intItems ps.toArray) := ⟨_, fz_le _ _ g, rfl, n, by unfold intItems; simp⟩
  have hne : 0 < ps.length := by
    cases ps with
    | nil => simp at hm
    | cons _ _ => simp
  refine max_intList r.hd hl (by simpa using hne) fun v h' tk hv k => ?_
  obtain ⟨t, rfl⟩ := intItems_at hv
  refine ⟨keeps_mk k, t, ?_⟩
  have best : ∀ k, k < ps.length → (argBest (fun i j => decide (numAt ps.toArray i > numAt ps.toArray j)) k < ps.length ∧ argBest (fun i j => decide (numAt ps.toArray i > numAt ps.toArray j)) k ≤ k ∧ ∀ j, j ≤ k → numAt ps.toArray j ≤ numAt ps.toArray (argBest (fun i j => decide (numAt ps.toArray i > numAt ps.toArray j)) k)) := by
    intro k
    induction k with
    | zero => intro h; exact ⟨h, Nat.le_refl _, fun j hj => by rw [Nat.le_zero.mp hj]; exact Int.le_refl _⟩
    | succ k ih =>
      intro h
      obtain ⟨i1, i2, i3⟩ := ih (by omega)
      unfold argBest
      by_cases hc : numAt ps.toArray (k + 1) > numAt ps.toArray (argBest (fun i j => decide (numAt ps.toArray i > numAt ps.toArray j)) k)
      · rw [if_pos (by simpa using hc)]
        refine ⟨h, Nat.le_refl _, fun j hj => ?_⟩
        by_cases q : j = k + 1
        · rw [q]; exact Int.le_refl _
        · exact Int.le_trans (i3 j (by omega)) (by omega)
      · rw [if_neg (by simpa using hc)]
        refine ⟨i1, by omega, fun j hj => ?_⟩
        by_cases q : j = k + 1
        · rw [q]; omega
        · exact i3 j (by omega)
  obtain ⟨b1, _, b3⟩ := best (ps.length - 1) (by omega)
  simp only [List.size_toArray] at *
  generalize argBest (fun i j => decide (numAt ps.toArray i > numAt ps.toArray j)) (ps.length - 1) = q at *
  have h1 : numAt ps.toArray q ≤ m := hle _ (by
    rw [numAt_of, List.getD_eq_getElem?_getD, List.getElem?_eq_getElem (by simpa using b1)]
    exact List.getElem_mem _)
  obtain ⟨j, hj, e⟩ := List.mem_iff_getElem.mp hm
  have h2 : m ≤ numAt ps.toArray q := by
    have := b3 j (by simp at hj; omega)
    rw [numAt_of, List.getD_eq_getElem?_getD, List.getElem?_eq_getElem hj] at this
    rw [← e]; exact this
  rw [show numAt ps.toArray q = m by omega]
theorem f_tuple {R : Rl α} {xs : List α} (hz : xs.length ≤ sizeLine) : CallR C A (.type "tuple") [(rList R).at xs] (rTupN R) xs := fun X s vs _ hl al => by
  obtain ⟨v, rfl, us, ⟨a, n, rfl, g⟩, a1⟩ := al.one
  refine call_tuple_list ⟨_, fz_le _ _ g, rfl, _, rfl⟩ (fun h' k => ⟨keeps_heap fun b o e => gr_push _ _ (k b o e), us, ⟨_, 0, rfl, fz_of (Heap.get?_push_size _ rfl) fun m => ?_⟩, a1.mono (fz_gr fun b o e => gr_push _ _ (k b o e))⟩) (by rw [List.size_toArray, a1.length]; exact hz)
  obtain ⟨o, e⟩ := hl _ m
  exact Nat.lt_irrefl _ (Heap.lt_size (k _ _ e))
/-- texts of a list's items -/
theorem txts_of {G : PM} : ∀ {xs : List (List Nat)} {vs : List Value}, All2 rTxt G xs vs → ∃ ps : List (Str × Tok), vs = strValues ps ∧ ps.map (·.1) = xs.map tx
  | [], [], _ => ⟨[], rfl, rfl⟩
  | x :: xs, v :: vs, h => by
    obtain ⟨⟨t, rfl⟩, h2⟩ := h
    obtain ⟨ps, e1, e2⟩ := txts_of h2
    subst e1
    exact ⟨(tx x, t) :: ps, rfl, by simp [e2]⟩
  | [], _ :: _, h => h.elim
  | _ :: _, [], h => h.elim
end
end Mine

namespace Mine
open PySem PySem.Calls PyProof.Rows PySem.W

/-- a step that changes nothing but the objects named -/
noncomputable def KB (W : List Addr) (s s' : Shared) : Prop := ∃ h' tk, s' = { s with heap := h', toks := tk } ∧ ∀ b o, b ∉ W → s.heap.get? b = some o → h'.get? b = some o
theorem kb_of {s s' : Shared} {W : List Addr} (k : Keeps s s') : KB W s s' := let ⟨h, t, e, g⟩ := k; ⟨h, t, e, fun b o _ x => g b o x⟩
theorem kb_refl {s : Shared} {W : List Addr} : KB W s s := kb_of (keeps_refl s)
theorem kb_trans {s s' s'' : Shared} {W : List Addr} (a : KB W s s') (b : KB W s' s'') : KB W s s'' := by
  obtain ⟨h, t, rfl, k⟩ := a
  obtain ⟨h', t', rfl, k'⟩ := b
  exact ⟨h', t', rfl, fun x o n e => k' x o n (k x o n e)⟩
theorem kb_sub {s s' : Shared} {W W' : List Addr} (a : KB W s s') (h : ∀ b ∈ W, b ∈ W') : KB W' s s' := let ⟨h', t, e, k⟩ := a; ⟨h', t, e, fun b o n x => k b o (fun m => n (h b m)) x⟩
theorem kb_get {s s' : Shared} {W : List Addr} (a : KB W s s') {b : Addr} {o : Obj} (n : b ∉ W) (e : s.heap.get? b = some o) : s'.heap.get? b = some o := by
  obtain ⟨h', t, rfl, k⟩ := a; exact k b o n e
theorem kb_fz {s s' : Shared} {W Y : List Addr} (a : KB W s s') (h : ∀ b ∈ W, b ∈ Y) : Le (fz Y s.heap) (fz Y s'.heap) := fz_but fun b o n e => ⟨kb_get a (fun m => n (h b m)) e, n⟩
theorem kb_mk {s : Shared} {W : List Addr} {h' : Heap} {tk : Nat} (k : ∀ b o, b ∉ W → s.heap.get? b = some o → h'.get? b = some o) : KB W s { s with heap := h', toks := tk } := ⟨h', tk, rfl, k⟩

/-- walking an iterator: item by item -/
structure It {α : Type} (C : Cx) (A : Around) (target : Expr) (it : Value) (R : Rl α) (xs : List α) (G₀ : PM) (wr fp : List Addr) (St : Nat → Heap → Prop) : Prop where
  frame : ∀ i h h', St i h → (∀ b ∈ fp, ∀ o, h.get? b = some o → h'.get? b = some o) → St i h'
  item : ∀ Y i s a, St i s.heap → Le G₀ (fz Y s.heap) → Live Y s → (∀ b ∈ wr, b ∈ Y) → xs[i]? = some a →
    wpAny C.M A (pyNext it) (fun r s' => ∃ v, r = some v ∧ KB wr s s' ∧ wpAny C.M A (letOwnedTupleGo target it v) (fun _ s'' => KB wr s s'' ∧ R.r (fz Y s''.heap) a v ∧ St (i + 1) s''.heap) (fun _ _ => False) s') (fun _ _ => False) s
  done : ∀ s, St xs.length s.heap → wpAny C.M A (pyNext it) (fun r s' => r = none ∧ KB wr s s') (fun _ _ => False) s
  self : ∀ i s (Q : Value → Shared → Prop) (E : Value → Shared → Prop), St i s.heap → Q it s → wpAny C.M A (pyIter it) Q E s
  sub : ∀ b ∈ wr, b ∈ fp
  live : ∀ i h, St i h → ∀ b ∈ fp, ∃ o, h.get? b = some o
/-- what a value yields when it is walked -/
noncomputable def IterR {σ α : Type} (C : Cx) (A : Around) (target : Expr) (S : Rl σ) (x : σ) (R : Rl α) (xs : List α) : Prop :=
  ∀ X s v, C.In s.heap → Live X s → S.r (fz X s.heap) x v → Ev C A (pyIter v) s fun it s' => ∃ wr fp St, It C A target it R xs (fz X s.heap) wr fp St ∧ St 0 s'.heap ∧ (∀ b ∈ wr, s.heap.get? b = none) ∧ (∀ b ∈ fp, b ∈ wr ∨ b ∉ X)
section
variable {C : Cx} {A : Around} {env : Env} {X : List Addr} {O : Own} {V : Vars} {α β γ δ : Type} {pos : Pos} {target : Expr}
theorem It.of_walks {I : Addr} {R : Rl α} {xs : List α} {G₀ : PM} {wr fp : List Addr} {St : Nat → Heap → Prop} {P : Nat → Value → Prop} (W : Walks C.prog C.w A I fp wr xs.length P St) (hP : ∀ i v a, P i v → xs[i]? = some a → R.r G₀ a v)
    (hg : ∀ i h s v (Q : Unit → Shared → Prop) (E : Value → Shared → Prop), s.heap = h → St i h → Q () s → wpAny C.M A (letOwnedTupleGo target (.ref I) v) Q E s) (hl : ∀ i h, St i h → ∀ b ∈ fp, ∃ o, h.get? b = some o) : It C A target (.ref I) R xs G₀ wr fp St where
  frame := W.frame
  item := fun Y i s a st le lv hw hx => W.item i s _ _ (List.getElem?_eq_some_iff.mp hx).1 st fun v h' tk p st' k =>
    have kb : KB wr s { s with heap := h', toks := tk } := kb_mk k
    ⟨v, rfl, kb, hg _ _ _ _ _ _ rfl st' ⟨kb, R.mono (Le.trans le (kb_fz kb hw)) (hP i v a p hx), st'⟩⟩
  done := fun s st => W.done s _ _ st fun h' tk k => ⟨rfl, kb_mk k⟩
  self := fun i s Q E st h => W.self i s Q E st h
  sub := W.sub
  live := hl
theorem go_name {x : Str} {p : Pos} {it v : Value} {Q : Unit → Shared → Prop} {E : Value → Shared → Prop} {s : Shared} (h : Q () s) : wpAny C.M A (letOwnedTupleGo (.Name x p) it v) Q E s := wpAny_pure h
/-- targets that this text meets: a name, a tuple of names -/
noncomputable def TgtOk (t : Expr) : Prop := (∃ x p, t = .Name x p) ∨ ∃ es k p, t = .Tuple es k p
theorem go_other {t : Expr} (ht : TgtOk t) {I : Addr} {n : String} {o : Obj} {vs : Array Value} {v : Value} {Q : Unit → Shared → Prop} {E : Value → Shared → Prop} {s : Shared} (ho : s.heap.get? I = some o) (hc : o.cls = .type n) (hd : o.data = .fields vs)
    (hn : ["enumerate", "zip", "dict_itemiterator", "dict_reverseitemiterator", "odict_iterator", "itertools.zip_longest", "itertools.pairwise"].contains n = false) (h : Q () s) : wpAny C.M A (letOwnedTupleGo t (.ref I) v) Q E s := by
  rcases ht with ⟨x, p, rfl⟩ | ⟨es, k, p, rfl⟩
  · exact go_name h
  · cases v with
    | ref a =>
      show wpAny _ _ (load I >>= _) _ _ _
      refine wpAny_bind (wpAny_load ho ?_)
      rw [hc, hd]
      show wpAny _ _ (if (_ && _) = true then _ else _) _ _ _
      rw [hn, Bool.false_and, if_neg (by decide)]
      exact wpAny_pure h
    | _ => exact wpAny_pure h
theorem new_none {s : Shared} : s.heap.get? s.heap.objs.size = none := by
  cases e : s.heap.get? s.heap.objs.size with
  | none => rfl
  | some o => exact absurd (Heap.lt_size e) (Nat.lt_irrefl _)
theorem iter_list {R : Rl α} {xs : List α} (ht : TgtOk target) (r : Rm 1 A) : IterR C A target (rList R) xs R xs := fun X s v _ lv ⟨vs, ⟨a, n, e, g⟩, al⟩ => by
  subst e
  have hl : s.heap.IsList a vs.toArray := ⟨_, fz_le _ _ g, rfl, _, rfl⟩
  have hne : a ≠ s.heap.objs.size := fun e => Nat.lt_irrefl _ (e ▸ Heap.lt_size (fz_le _ _ g))
  refine wpAny_pyIter_list hl ⟨keeps_heap gr_push, [s.heap.objs.size], [s.heap.objs.size, a], fun i h => h.IsListIter s.heap.objs.size a i ∧ h.IsList a vs.toArray, ?_, ⟨⟨_, Heap.get?_push_size _ rfl, rfl, rfl⟩, hl.push _⟩, fun b m => ?_, fun b m => ?_⟩
  · have W := Walks.list (prog := C.prog) (w := C.w) (A := A) r.hd s.heap.objs.size a hne vs.toArray
    rw [show vs.toArray.size = xs.length from al.length] at W
    refine It.of_walks W (fun i v x hv hx => ?_) (fun i h s' v Q E e st q => ?_) fun i h st b m => ?_
    · obtain ⟨u, hu, hr⟩ := al.get hx
      have : v = u := by simpa [hu] using hv.symm
      exact this ▸ hr
    · obtain ⟨⟨o, ho, hc, hd⟩, _⟩ := st
      subst e
      exact go_other ht ho hc hd (by decide) q
    · obtain ⟨⟨o, ho, _⟩, ⟨o', ho', _⟩⟩ := st
      simp only [List.mem_cons, List.not_mem_nil, or_false] at m
      rcases m with rfl | rfl
      · exact ⟨o, ho⟩
      · exact ⟨o', ho'⟩
  · rw [List.mem_singleton.mp m]; exact new_none
  · simp only [List.mem_cons, List.not_mem_nil, or_false] at m ⊢
    rcases m with rfl | rfl
    · exact .inl rfl
    · exact .inr (fz_get g).2
theorem iter_txt {l : List Nat} (ht : TgtOk target) (r : Rm 1 A) (ha : ∀ c ∈ l, c < 128) : IterR C A target rTxt l rTxt (l.map fun c => [c]) := fun X s v _ lv ⟨t, e⟩ => by
  subst e
  have hall : (tx l).cps.all (· < 128) = true := by
    simp only [tx, List.all_toArray, List.all_eq_true, decide_eq_true_eq]; exact ha
  refine wpAny_pyIter_ascii hall ⟨keeps_heap gr_push, [s.heap.objs.size], [s.heap.objs.size], fun i h => h.IsStrIter s.heap.objs.size "str_ascii_iterator" (tx l) t i, ?_, ⟨_, Heap.get?_push_size _ rfl, rfl, rfl⟩, fun b m => ?_, fun b m => .inl m⟩
  · have W := Walks.strAscii (prog := C.prog) (w := C.w) (A := A) r.hd s.heap.objs.size (tx l) t
    rw [show (tx l).cps.size = (l.map fun c => [c]).length by simp [tx]] at W
    refine It.of_walks W (fun i v x hv hx => ?_) (fun i h s' v Q E e st q => ?_) fun i h st b m => ?_
    · obtain ⟨c, u, hc, rfl⟩ := hv
      rw [List.getElem?_map, Option.map_eq_some_iff] at hx
      obtain ⟨c', hc', rfl⟩ := hx
      have : c' = c := by simpa [tx, hc'] using hc
      exact ⟨u, by rw [this]; rfl⟩
    · obtain ⟨o, ho, hc, hd⟩ := st
      subst e
      exact go_other ht ho hc hd (by decide) q
    · obtain ⟨o, ho, _⟩ := st
      rw [List.mem_singleton.mp m]; exact ⟨o, ho⟩
  · rw [List.mem_singleton.mp m]; exact new_none
theorem iter_bytes {l : List UInt8} (ht : TgtOk target) (r : Rm 1 A) : IterR C A target rB l rInt (l.map fun c => (c.toNat : Int)) := fun X s v _ lv ⟨t, e⟩ => by
  subst e
  refine KBw.pyIter_bytes ⟨keeps_heap gr_push, [s.heap.objs.size], [s.heap.objs.size], fun i h => KBw.IsBytesIter h s.heap.objs.size l.toArray t i, ?_, ⟨_, Heap.get?_push_size _ rfl, rfl, rfl⟩, fun b m => ?_, fun b m => .inl m⟩
  · have W := KBw.walks (prog := C.prog) (w := C.w) (A := A) r.hd s.heap.objs.size l.toArray t
    rw [show l.toArray.size = (l.map fun c => (c.toNat : Int)).length by simp] at W
    refine It.of_walks W (fun i v x hv hx => ?_) (fun i h s' v Q E e st q => ?_) fun i h st b m => ?_
    · obtain ⟨c, u, hc, rfl⟩ := hv
      rw [List.getElem?_map, Option.map_eq_some_iff] at hx
      obtain ⟨c', hc', rfl⟩ := hx
      have : c' = c := by simpa [hc'] using hc
      exact ⟨u, by rw [this]⟩
    · obtain ⟨o, ho, hc, hd⟩ := st
      subst e
      exact go_other ht ho hc hd (by decide) q
    · obtain ⟨o, ho, _⟩ := st
      rw [List.mem_singleton.mp m]; exact ⟨o, ho⟩
  · rw [List.mem_singleton.mp m]; exact new_none

/-! ranges -/
/-- a range object: its first int, its step, how many -/
noncomputable def rRange : Rl (Int × Int × Nat) := ⟨fun G x v => ∃ a b t u w, v = .ref a ∧ G a = some { cls := .type "range", dict := none, data := .fields #[.int x.1 t, .int b u, .int x.2.1 w], slots := #[] } ∧ Builtin.Range.small x.1 b x.2.1 = true ∧ Builtin.Range.rangeSize x.1 b x.2.1 = x.2.2,
  fun k h => by obtain ⟨a, b, t, u, w, e, g, q⟩ := h; exact ⟨a, b, t, u, w, e, k _ _ g, q⟩⟩
noncomputable def rangeL (x : Int × Int × Nat) : List Int := (List.range x.2.2).map fun (i : Nat) => x.1 + i * x.2.1
theorem iter_range {x : Int × Int × Nat} (ht : TgtOk target) (r : Rm 1 A) : IterR C A target rRange x rInt (rangeL x) := fun X s v _ lv q => by
  obtain ⟨a, b, t, u, w, e, g, hs, hn⟩ := q
  subst e
  refine wpAny_pyIter_range (fz_le _ _ g) hs ⟨keeps_heap gr_push, [s.heap.objs.size], [s.heap.objs.size], fun i h => IsRangeIter h s.heap.objs.size (x.1 + (i : Nat) * x.2.1) ((x.2.2 : Int) - (i : Nat)) x.2.1, ?_, ?_, fun b m => ?_, fun b m => .inl m⟩
  · have W := Walks.range (prog := C.prog) (w := C.w) (A := A) r.hd s.heap.objs.size x.1 x.2.1 x.2.2
    have W' : Walks C.prog C.w A s.heap.objs.size [s.heap.objs.size] [s.heap.objs.size] (rangeL x).length (fun i v => ∃ t, v = .int (x.1 + i * x.2.1) t) (fun i h => IsRangeIter h s.heap.objs.size (x.1 + (i : Nat) * x.2.1) ((x.2.2 : Int) - (i : Nat)) x.2.1) := by
      rw [show (rangeL x).length = x.2.2 by simp [rangeL]]; exact W
    refine It.of_walks W' (fun i v y hv hx => ?_) (fun i h s' v Q E e st q => ?_) fun i h st b m => ?_
    · obtain ⟨t, rfl⟩ := hv
      unfold rangeL at hx
      rw [List.getElem?_map, Option.map_eq_some_iff] at hx
      obtain ⟨j, hj, rfl⟩ := hx
      have : j = i := by
        obtain ⟨h1, h2⟩ := List.getElem?_eq_some_iff.mp hj
        rw [← h2]; exact List.getElem_range h1
      exact ⟨t, by rw [this]⟩
    · subst e
      exact go_other ht st rfl rfl (by decide) q
    · rw [List.mem_singleton.mp m]; exact ⟨_, st⟩
  · have := Heap.get?_push_size (o := { cls := .type "range_iterator", data := .fields #[rawInt x.1, rawInt (Builtin.Range.rangeSize x.1 b x.2.1), rawInt x.2.1] }) s.heap rfl
    rw [hn] at this
    show IsRangeIter _ _ (x.1 + ((0 : Nat) : Int) * x.2.1) ((x.2.2 : Int) - ((0 : Nat) : Int)) x.2.1
    rw [show x.1 + ((0 : Nat) : Int) * x.2.1 = x.1 by simp, show (x.2.2 : Int) - ((0 : Nat) : Int) = x.2.2 by simp]
    rw [hn]
    exact this
  · rw [List.mem_singleton.mp m]; exact new_none
end
end Mine

namespace Mine
open PySem PySem.Calls PyProof.Rows PySem.W

theorem sb_gr {s : Shared} {h' : Heap} (hs : Heap.ExtBut s.heap.objs.size s.heap h') : Gr s.heap h' := fun b o e => hs b o (Nat.ne_of_lt (Heap.lt_size e)) e

/-! comprehensions: the frame -/
noncomputable def cEnv (scope : Scope) (cl : List (Str × Addr)) (D : Addr) (env : Env) : Env :=
  { scope := relabel scope env, locals := D, globals := env.globals, cells := cellsFrom (D + 1) scope.names cl, qual := env.qual, func := none, code := env.code, frame := env.frame, builtins := env.builtins }
noncomputable def ownC (scope : Scope) (D : Addr) : List Addr := (cellsFrom (D + 1) scope.names []).map (·.2)
/-- the frame of a comprehension: its names' dict and its own cells -/
structure FrOk (D : Addr) (cs : List Addr) (h : Heap) : Prop where
  ns : ∃ m, h.Ns D m
  cell : ∀ c ∈ cs, ∃ v, h.IsCell c v
theorem ns_not_cell {h : Heap} {a : Addr} {m : Str → Option Value} {v : Option Value} (x : h.Ns a m) (y : h.IsCell a v) : False := by
  obtain ⟨o, es, ep, ho, hd, _⟩ := x
  obtain ⟨o', ho', hd'⟩ := y
  rw [ho] at ho'
  cases ho'
  rw [hd] at hd'
  cases hd'
theorem ns_eq {h : Heap} {a : Addr} {m m' : Str → Option Value} (x : h.Ns a m) (y : h.Ns a m') : m = m' := x.eq_nsMap.trans y.eq_nsMap.symm
theorem FrOk.keeps {D : Addr} {cs : List Addr} {h h' : Heap} (x : FrOk D cs h) (k : Gr h h') : FrOk D cs h' := ⟨let ⟨m, e⟩ := x.ns; ⟨m, e.keeps k⟩, fun c m => let ⟨v, e⟩ := x.cell c m; ⟨v, e.keeps k⟩⟩
/-- handing an item to the target's names -/
noncomputable def TgtR {α : Type} (C : Cx) (A : Around) (env : Env) (cs : List Addr) (target : Expr) (R : Rl α) (B : α → Vars) : Prop :=
  ∀ Y s v a, FrOk env.locals cs s.heap → (∀ b ∈ env.locals :: cs, b ∈ Y) → R.r (fz Y s.heap) a v →
    wpAny C.M A (assign target env v) (fun _ s' => KB (env.locals :: cs) s s' ∧ FrOk env.locals cs s'.heap ∧ ∀ x F, (B a).lookup x = some F → ∃ u, Sees env s'.heap x u ∧ F.r (fz Y s'.heap) u) (fun _ _ => False) s
section
variable {C : Cx} {A : Around} {env : Env} {X : List Addr} {O : Own} {V : Vars} {α β γ δ σ : Type} {pos : Pos} {target : Expr} {cs : List Addr}
theorem sb_fr {D : Addr} {h h' : Heap} {m : Str → Option Value} (x : FrOk D cs h) (hs : Heap.SameBut D h h') (hn : h'.Ns D m) : FrOk D cs h' := ⟨⟨m, hn⟩, fun c hc => by
  obtain ⟨v, e⟩ := x.cell c hc
  obtain ⟨m, q⟩ := x.ns
  exact ⟨v, e.sameBut hs fun e' => ns_not_cell (e' ▸ q) e⟩⟩
theorem lookup1 {x y : Str} {F G : Fc} (h : ([(x, F)] : Vars).lookup y = some G) : y = x ∧ G = F := by
  rw [List.lookup_cons] at h
  cases hb : y == x with
  | true => rw [hb] at h; exact ⟨eq_of_beq hb, (Option.some.inj h).symm⟩
  | false => rw [hb] at h; cases h
theorem lookup_cons_some {x y : Str} {F G : Fc} {V : Vars} (h : ((x, F) :: V : Vars).lookup y = some G) : (y = x ∧ G = F) ∨ (y ≠ x ∧ V.lookup y = some G) := by
  rw [List.lookup_cons] at h
  cases hb : y == x with
  | true => rw [hb] at h; exact .inl ⟨eq_of_beq hb, (Option.some.inj h).symm⟩
  | false => rw [hb] at h; exact .inr ⟨fun e => by rw [e] at hb; simp at hb, h⟩
theorem scopeK {env : Env} (h : env.scope.kind = .function) : (env.scope.kind == .class || (env.scope.kind == .module && env.locals != env.globals)) = false := by rw [h]; rfl
theorem tgt_local {x : Str} {p : Pos} {R : Rl α} (hk : env.scope.kind = .function) (hl : env.kindOf x = some .local) : TgtR C A env cs (.Name x p) R (fun a => [(x, R.at a)]) := fun Y s v a fr hY r => by
  obtain ⟨m, hn⟩ := fr.ns
  refine wpAny_assign_Name (wpAny_storeName_local hl hn (fun h' hn' hs => ⟨?_, sb_fr fr hs hn', fun y F e => ?_⟩) (scopeK hk))
  · exact kb_mk fun b o nb e => (hs.2 b fun q => nb (by rw [q]; exact .head _)).trans e
  · obtain ⟨rfl, rfl⟩ := lookup1 e
    refine ⟨v, .loc hl _ hn' (if_pos rfl), R.mono ?_ r⟩
    exact fz_but fun b o nb e => ⟨(hs.2 b fun q => nb (q ▸ hY _ (.head _))).trans e, nb⟩

/-- the names that a comprehension's frame reads in the frame around it -/
noncomputable def Pass (env cenv : Env) (V : Vars) : Vars → Prop
  | [] => True
  | (x, F) :: V' => (V.lookup x = some F ∧ (env.kindOf x = some .cell ∨ env.kindOf x = some .free) ∧ (cenv.kindOf x = some .cell ∨ cenv.kindOf x = some .free ∧ (x == ("__classdict__" : Str)) = false) ∧ cenv.cells.lookup x = env.cells.lookup x) ∧ Pass env cenv V V'
theorem Pass.get {env cenv : Env} {V : Vars} : ∀ {V' : Vars}, Pass env cenv V V' → ∀ {x : Str} {F : Fc}, V'.lookup x = some F →
    V.lookup x = some F ∧ (env.kindOf x = some .cell ∨ env.kindOf x = some .free) ∧ (cenv.kindOf x = some .cell ∨ cenv.kindOf x = some .free ∧ (x == ("__classdict__" : Str)) = false) ∧ cenv.cells.lookup x = env.cells.lookup x
  | (y, G) :: V', h, x, F, e => by
    rcases lookup_cons_some e with ⟨rfl, rfl⟩ | ⟨_, e⟩
    · exact h.1
    · exact Pass.get h.2 e
/-- the tests of a comprehension -/
noncomputable def PTs (C : Cx) (A : Around) (env : Env) (X : List Addr) (O : Own) (V : Vars) : List Expr → Bool → Prop
  | [], b => b = true
  | [c], b => PT C A env X O V c b
  | _, _ => False
theorem pts_ev {ifs : List Expr} {b : Bool} {s : Shared} (h : PTs C A env X O V ifs b) (k : Kn C env X O V s) :
    wpAny C.M A (forIn ifs true fun c r => if r = true then do let ok ← isTrue c env (eval c env); pure (ForInStep.yield ok) else pure (ForInStep.yield r)) (fun ok s' => Keeps s s' ∧ ok = b) (fun _ _ => False) s := by
  match ifs, h with
  | [], h => exact wpAny_tests_nil ⟨keeps_refl s, h.symm⟩
  | [c], h => exact wpAny_tests_one (h s k)
  | _ :: _ :: _, h => exact h.elim

theorem comp_loop {elt iter : Expr} {ifs : List Expr} {scope : Scope} {it acc : Value} {R : Result → Shared → Prop} (I : Nat → Shared → Prop)
    (turn : ∀ n s, I n s → wpAny C.M A (pyNext it) (fun r s₁ => match r with
      | none => R (.ok .next) s₁
      | some v => wpAny C.M A (letOwnedTupleGo target it v) (fun _ s₂ => wpAny C.M A (assign target env v) (fun _ s₃ =>
          wpAny C.M A (forIn ifs true fun c r => if r = true then do let ok ← isTrue c env (eval c env); pure (ForInStep.yield ok) else pure (ForInStep.yield r)) (fun ok s₄ =>
            if ok = true then wpAny C.M A (eval elt env) (fun x s₅ => wpAny C.M A (call (.builtin "list.append") [acc, x]) (fun _ s₆ => ∃ m, m < n ∧ I m s₆) (fun _ _ => False) s₅) (fun _ _ => False) s₄
            else ∃ m, m < n ∧ I m s₄) (fun _ _ => False) s₃) (fun _ _ => False) s₂) (fun _ _ => False) s₁) (fun _ _ => False) s)
    (n : Nat) {s : Shared} (h : I n s) : codeAny C.M A (.compLoop (.ListComp elt [⟨target, iter, ifs, 0⟩] scope pos) 0 it acc env) R s := by
  refine codeAny_loop rfl I (fun n s hI => ?_) n h
  show wpAny _ A ((compTurn (.ListComp elt [⟨target, iter, ifs, 0⟩] scope pos) 0 it acc env).onRaise (fun x => do noteFrame x env; theTreesLotGoes x)) _ _ s
  refine wpAny_noted ?_
  rw [compTurn_list]
  refine wpAny_bind (wpAny_standAt (wpAny_bind (wpAny_mono (turn n s hI) (fun r s₁ h₁ => ?_) fun _ _ h' => h'.elim)))
  cases r with
  | none => exact wpAny_pure h₁
  | some v =>
    refine wpAny_bind (wpAny_mono h₁ (fun _ s₂ h₂ => ?_) fun _ _ h' => h'.elim)
    refine wpAny_bind (wpAny_mono h₂ (fun _ s₃ h₃ => ?_) fun _ _ h' => h'.elim)
    refine wpAny_bind (wpAny_mono h₃ (fun ok s₄ h₄ => ?_) fun _ _ h' => h'.elim)
    cases ok with
    | true =>
      rw [if_pos rfl] at h₄
      exact wpAny_bind (wpAny_bind (wpAny_mono h₄ (fun x s₅ h₅ => wpAny_bind (wpAny_mono h₅ (fun _ s₆ h₆ => wpAny_pure (wpAny_pure ⟨rfl, h₆⟩)) fun _ _ h' => h'.elim)) fun _ _ h' => h'.elim))
    | false =>
      rw [if_neg Bool.false_ne_true] at h₄
      exact wpAny_bind (wpAny_pure (wpAny_pure ⟨rfl, h₄⟩))
/-- making the frame -/
theorem compFrame {scope : Scope} {cl : List (Str × Addr)} {s : Shared} {Q : Env → Shared → Prop} {E : Value → Shared → Prop}
    (h : ∀ h', FrOk s.heap.objs.size (ownC scope s.heap.objs.size) h' → Gr s.heap h' → (∀ b ∈ ownC scope s.heap.objs.size, s.heap.objs.size < b) →
      Q { scope, locals := s.heap.objs.size, globals := env.globals, cells := cellsFrom (s.heap.objs.size + 1) scope.names cl, qual := env.qual, func := none, code := env.code, frame := env.frame, builtins := env.builtins } { s with heap := h' }) :
    wpAny C.M A (newFunctionEnv scope env.globals cl [] env.qual none .none (some env)) Q E s := by
  simp only [newFunctionEnv, Option.isSome_some, if_true]
  refine wpAny_bind (wpAny_alloc ?_)
  refine wpAny_bind (wpAny_layCells _ (fun name kind cells => by cases hkc : kind == NameKind.cell <;> simp [hkc]) _ _ _ _ ?_)
  have ok := cellsFrom_ok scope.names (s.heap.push { cls := .type "dict", data := .dict #[] }) (s.heap.objs.size + 1) [] ⟨fun _ _ hm => (nomatch hm), List.Pairwise.nil⟩ (by rw [Heap.size_push]; exact Nat.le_refl _)
  rw [Heap.size_push] at ok
  rw [show ({ s with heap := s.heap.push { cls := .type "dict", data := .dict #[] } } : Shared).heap.objs.size = s.heap.objs.size + 1 from Heap.size_push ..]
  rw [List.forIn_nil]
  refine wpAny_bind (wpAny_pure (wpAny_pure ?_))
  refine h _ ⟨⟨_, (Heap.Ns.new s.heap (.type "dict")).keeps (pushCells_keeps _ _)⟩, fun c hc => ?_⟩ (fun b o e => pushCells_keeps _ _ b o (Heap.get?_push_of_some _ e)) fun b hb => ?_
  · obtain ⟨⟨n, c'⟩, hm, rfl⟩ := List.mem_map.mp hc
    exact ⟨_, (ok.empty n c' hm).1⟩
  · obtain ⟨⟨n, c'⟩, hm, rfl⟩ := List.mem_map.mp hb
    exact (ok.empty n c' hm).2
end
end Mine

namespace Mine
open PySem PySem.Calls PyProof.Rows PySem.W

theorem take_succ_map {α β : Type} (q : α → Bool) (f : α → β) {xs : List α} {i : Nat} {a : α} (h : xs[i]? = some a) :
    ((xs.take (i + 1)).filter q).map f = ((xs.take i).filter q).map f ++ (if q a = true then [f a] else []) := by
  rw [take_succ_filter q xs i a h, List.map_append]
  split <;> rfl
theorem append_ev {C : Cx} {A : Around} {s : Shared} {l : Addr} {us : List Value} {x : Value} {Q : Value → Shared → Prop} {E : Value → Shared → Prop} (hl : s.heap.PlainList l us.toArray) (hz : us.length ≤ sizeLine)
    (h : ∀ h', h'.PlainList l (us ++ [x]).toArray → Heap.SameBut l s.heap h' → Q .none { s with heap := h' }) : wpAny C.M A (call (.builtin "list.append") [.ref l, x]) Q E s := by
  obtain ⟨n, e⟩ := hl
  refine wpAny_call_entry slot_list_append (T := "list") (Heap.PlainList.isList ⟨n, e⟩).typeIs entry_list_append ?_ (args_list_append _ _)
  show wpAny _ _ (updateSeq l (·.push x) >>= fun _ => ret .none) _ _ s
  refine wpAny_bind (wpAny_updateSeq e rfl (wpAny_pure ⟨.none, rfl, h _ ⟨if (us.toArray.push x).size == us.toArray.size then n else n + 1, ?_⟩ (Heap.SameBut.update ..)⟩) (by show us.toArray.size ≤ _; rw [List.size_toArray]; exact hz))
  rw [Heap.get?_update_self _ e (Obj.isFreed_of_seq (Obj.data_mapSeq (o := { cls := .type "list", data := .seq us.toArray n }) rfl _).choose_spec)]
  simp only [Obj.mapSeq, List.push_toArray]
theorem keeps_of_kb {s s' s'' : Shared} {W : List Addr} (g : Keeps s s') (kb : KB W s' s'') (o : Gr s.heap s''.heap) : Keeps s s'' := by
  obtain ⟨h, t, rfl, _⟩ := g
  obtain ⟨h', t', rfl, _⟩ := kb
  exact ⟨h', t', rfl, o⟩
section
variable {C : Cx} {A : Around} {env : Env} {X : List Addr} {O : Own} {V : Vars} {α β γ δ σ : Type} {pos : Pos} {target : Expr} {cs : List Addr}
/-- what is known of a comprehension's result -/
structure CompEnd (s s' : Shared) (X : List Addr) (D L : Addr) (P : PM → Value → Prop) : Prop where
  keeps : Keeps s s'
  ns : ∃ m, s'.heap.Ns D m
  d0 : s.heap.get? D = none
  ne : L ≠ D
  val : P (fz (D :: X) s'.heap) (.ref L)
theorem comp_core {elt iter : Expr} {ifs : List Expr} {scope : Scope} {S : Rl σ} {x : σ} {R : Rl α} {xs : List α} {T : Rl β} {cl : List (Str × Addr)} {V' : Vars} {B : α → Vars} (q : α → Bool) (f : α → β) {RR : Value → Addr → Result → Shared → Prop} {s : Shared}
    (hkind : scope.kind = .function)
    (hsrc : PE C A env X O V iter S x) (hit : IterR C A target S x R xs) (hz : xs.length ≤ sizeLine)
    (htgt : ∀ D, TgtR C A (cEnv scope cl D env) (ownC scope D) target R B) (hpass : ∀ D, Pass env (cEnv scope cl D env) V V')
    (htest : ∀ D Y a, a ∈ xs → PTs C A (cEnv scope cl D env) Y O (B a ++ V') ifs (q a)) (helt : ∀ D Y a, a ∈ xs → q a = true → PE C A (cEnv scope cl D env) Y O (B a ++ V') elt T (f a))
    (k : Kn C env X O V s) (hR : ∀ L D s', CompEnd s s' X D L (fun G v => (rList T).r G ((xs.filter q).map f) v) → RR (.ref L) D (.ok .next) s') :
    wpAny C.M A (eval iter env) (fun x s₁ => wpAny C.M A (pyIter x) (fun it s₂ => wpAny C.M A (newList []) (fun acc s₃ =>
      wpAny C.M A (newFunctionEnv scope env.globals cl [] env.qual none .none (some env)) (fun cenv s₄ =>
        codeAny C.M A (.compStart (.ListComp elt [⟨target, iter, ifs, 0⟩] scope pos) 0 it acc { cenv with scope := relabel scope env }) (RR acc cenv.locals) s₄) (fun _ _ => False) s₃) (fun _ _ => False) s₂) (fun _ _ => False) s₁) (fun _ _ => False) s := by
  refine wpAny_mono (hsrc s k) (fun xv s₁ h1 => ?_) fun _ _ e => e
  have k1 := k.keeps h1.1
  refine wpAny_mono (hit X s₁ xv k1.base k1.alive h1.2) (fun it s₂ h2 => ?_) fun _ _ e => e
  obtain ⟨g12, wr, fp, St, I, st0, hwr, hfp⟩ := h2
  -- the list of results
  refine wpAny_newObj_type ?_ (by show ([] : List Value).toArray.size ≤ _; exact Nat.zero_le _)
  generalize hs3 : ({ s₂ with heap := s₂.heap.push { cls := .type "list", dict := none, data := .seq ([] : List Value).toArray } } : Shared) = s₃
  have e3 : s₃.heap = s₂.heap.push { cls := .type "list", dict := none, data := .seq ([] : List Value).toArray } := by rw [← hs3]
  have g23 : Keeps s₂ s₃ := by rw [← hs3]; exact keeps_heap gr_push
  have hL3 : s₃.heap.PlainList s₂.heap.objs.size ([] : List Value).toArray := ⟨0, by rw [e3]; exact Heap.get?_push_size _ rfl⟩
  have hsz3 : s₃.heap.objs.size = s₂.heap.objs.size + 1 := by rw [e3, Heap.size_push]
  refine compFrame fun h4 fr4 g34 hown => ?_
  generalize hs4 : ({ s₃ with heap := h4 } : Shared) = s₄
  have e4 : s₄.heap = h4 := by rw [← hs4]
  have g34' : Keeps s₃ s₄ := by rw [← hs4]; exact keeps_heap g34
  generalize hD : s₃.heap.objs.size = D at fr4 hown ⊢
  generalize hL : s₂.heap.objs.size = L at hL3 hsz3 ⊢
  have fr4' : FrOk D (ownC scope D) s₄.heap := by rw [e4]; exact fr4
  have g14 : Keeps s₁ s₄ := keeps_trans g12 (keeps_trans g23 g34')
  -- what is written
  let W : List Addr := D :: ownC scope D ++ (L :: wr)
  have hLs : ∀ b o, s₁.heap.get? b = some o → Nat.lt b L := fun b o e => hL ▸ Heap.lt_size (keeps_gr g12 _ _ e)
  have hLD' : D = L + 1 := by rw [← hD, hsz3]
  have hDlt : ∀ b ∈ D :: ownC scope D, Nat.lt L b := fun b m => by
    rcases List.mem_cons.mp m with rfl | m
    · rw [hLD']; exact Nat.lt_succ_self L
    · exact Nat.lt_trans (hLD' ▸ Nat.lt_succ_self L) (hown b m)
  have hnW : ∀ b o, s₁.heap.get? b = some o → b ∉ W := fun b o e m => by
    have hb := hLs b o e
    rcases List.mem_append.mp m with m | m
    · exact Nat.lt_irrefl _ (Nat.lt_trans hb (hDlt b m))
    · rcases List.mem_cons.mp m with rfl | m
      · exact Nat.lt_irrefl _ hb
      · rw [hwr b m] at e; cases e
  let Y : List Addr := W ++ X
  have hWY : ∀ b ∈ W, b ∈ Y := fun b m => List.mem_append_left _ m
  have hLD : L ≠ D := fun e => Nat.lt_irrefl _ (e ▸ hDlt D (.head _))
  have hLX : L ∉ X := fun m => by obtain ⟨o, e⟩ := k1.alive L m; exact Nat.lt_irrefl _ (hLs L o e)
  have hLDown : L ∉ D :: ownC scope D := fun m => Nat.lt_irrefl _ (hDlt L m)
  have hfplt : ∀ b ∈ fp, Nat.lt b L := fun b m => by obtain ⟨o, e⟩ := I.live 0 _ st0 b m; exact hL ▸ Heap.lt_size e
  have hWD : ∀ b ∈ D :: ownC scope D, b ∈ W := fun b m => List.mem_append_left _ m
  have hWL : L ∈ W := List.mem_append_right _ (.head _)
  have hWwr : ∀ b ∈ wr, b ∈ W := fun b m => List.mem_append_right _ (.tail _ m)
  -- the invariant
  let Inv : Nat → Shared → Prop := fun i s' => i ≤ xs.length ∧ KB W s₄ s' ∧ FrOk D (ownC scope D) s'.heap ∧ St i s'.heap ∧ ∃ us, s'.heap.PlainList L us.toArray ∧ us.length ≤ i ∧ All2 T (fz Y s'.heap) (((xs.take i).filter q).map f) us
  have old : ∀ {s' : Shared}, KB W s₄ s' → Gr s₁.heap s'.heap := fun kb b o e => kb_get kb (hnW b o e) (keeps_gr g14 b o e)
  have oldF : ∀ {s' : Shared}, KB W s₄ s' → Le (fz X s₁.heap) (fz Y s'.heap) := fun kb => fz_but fun b o nb e => ⟨old kb b o e, fun m => (List.mem_append.mp m).elim (hnW b o e) nb⟩
  have liveY : ∀ {i : Nat} {s' : Shared} {us : List Value}, KB W s₄ s' → FrOk D (ownC scope D) s'.heap → St i s'.heap → s'.heap.PlainList L us.toArray → Live Y s' := fun kb fr st pl b m => by
    rcases List.mem_append.mp m with m | m
    · rcases List.mem_append.mp m with m | m
      · rcases List.mem_cons.mp m with rfl | m
        · obtain ⟨m, o, es, ep, ho, _⟩ := fr.ns; exact ⟨o, ho⟩
        · obtain ⟨v, o, ho, _⟩ := fr.cell b m; exact ⟨o, ho⟩
      · rcases List.mem_cons.mp m with rfl | m
        · obtain ⟨n, e⟩ := pl; exact ⟨_, e⟩
        · exact I.live _ _ st b (I.sub b m)
    · obtain ⟨o, e⟩ := k1.alive b m; exact ⟨o, old kb b o e⟩
  have stKB : ∀ {i : Nat} {s' s'' : Shared}, St i s'.heap → KB (L :: D :: ownC scope D) s' s'' → St i s''.heap := fun st kb => I.frame _ _ _ st fun b m o e => kb_get kb (fun m' => by
    have hb := hfplt b m
    rcases List.mem_cons.mp m' with rfl | m'
    · exact Nat.lt_irrefl _ hb
    · exact Nat.lt_irrefl _ (Nat.lt_trans hb (hDlt b m'))) e
  have frwr : ∀ {s' s'' : Shared}, FrOk D (ownC scope D) s'.heap → KB wr s' s'' → FrOk D (ownC scope D) s''.heap := fun fr kb => by
    have hD' : ∀ b ∈ D :: ownC scope D, b ∉ wr := fun b m m' => Nat.lt_irrefl _ (Nat.lt_trans (hfplt b (I.sub b m')) (hDlt b m))
    refine ⟨?_, fun c hc => ?_⟩
    · obtain ⟨m, o, es, ep, ho, r⟩ := fr.ns; exact ⟨m, o, es, ep, kb_get kb (hD' _ (.head _)) ho, r⟩
    · obtain ⟨v, o, ho, hd⟩ := fr.cell c hc; exact ⟨v, o, kb_get kb (hD' _ (.tail _ hc)) ho, hd⟩
  have plwr : ∀ {s' s'' : Shared} {us : List Value} {W' : List Addr}, s'.heap.PlainList L us.toArray → L ∉ W' → KB W' s' s'' → s''.heap.PlainList L us.toArray := fun pl n kb => let ⟨k, e⟩ := pl; ⟨k, kb_get kb n e⟩
  have hLwr : L ∉ wr := fun m => Nat.lt_irrefl _ (hfplt L (I.sub L m))
  -- what a turn sees
  have kn : ∀ {a : α} {s' : Shared}, KB W s₄ s' → Live Y s' → (∀ x F, (B a).lookup x = some F → ∃ u, Sees (cEnv scope cl D env) s'.heap x u ∧ F.r (fz Y s'.heap) u) → Kn C (cEnv scope cl D env) Y O (B a ++ V') s' := fun {a s'} kb lv hb =>
    { base := k1.base.keeps (old kb), fn := hkind, gl := k1.gl, bi := k1.bi, alive := lv
      vars := fun x F e => by
        cases hB : (B a).lookup x with
        | some G =>
          have : G = F := by rw [List.lookup_append, hB] at e; exact Option.some.inj e
          exact this ▸ hb x G hB
        | none =>
          have e' : V'.lookup x = some F := by rw [List.lookup_append, hB] at e; exact e
          obtain ⟨p1, p2, p3, p4⟩ := (hpass D).get e'
          obtain ⟨v, sv, hr⟩ := k1.vars x F p1
          refine ⟨v, ?_, F.mono (oldF kb) hr⟩
          have : ∃ c, env.cells.lookup x = some c ∧ s₁.heap.IsCell c (some v) := by
            cases sv with
            | loc hk => rw [hk] at p2; rcases p2 with p2 | p2 <;> cases p2
            | cel _ c hc hv => exact ⟨c, hc, hv⟩
            | fre _ _ c hc hv => exact ⟨c, hc, hv⟩
          obtain ⟨c, hc, hv⟩ := this
          have hv' := hv.keeps (old kb)
          rcases p3 with p3 | ⟨p3, p5⟩
          · exact .cel p3 c (p4.trans hc) hv'
          · exact .fre p3 p5 c (p4.trans hc) hv'
      own := fun a F e => let ⟨o, p, r⟩ := k1.own a F e; ⟨o, old kb _ _ p, F.mono (oldF kb) r⟩ }
  have loop : codeAny C.M A (.compLoop (.ListComp elt [⟨target, iter, ifs, 0⟩] scope pos) 0 it (.ref L) (cEnv scope cl D env)) (RR (.ref L) D) s₄ := by
    refine comp_loop (fun n s' => ∃ i, n = xs.length - i ∧ Inv i s') (fun n s' hI => ?_) xs.length ⟨0, rfl, Nat.zero_le _, kb_refl, fr4', ?_, [], ?_, Nat.le_refl _, trivial⟩
    · obtain ⟨i, rfl, hi, kb, fr, st, us, pl, hul, al⟩ := hI
      by_cases hend : i = xs.length
      · subst hend
        refine wpAny_mono (I.done s' st) (fun r s'' hr => ?_) fun _ _ e => e
        obtain ⟨rfl, kbw⟩ := hr
        have kb2 := kb_trans kb (kb_sub kbw hWwr)
        have fr2 := frwr fr kbw
        have hw : ∀ b ∈ wr, b ∈ Y := fun b m => hWY b (hWwr b m)
        have pl2 := plwr pl hLwr kbw
        have al2 := al.mono (kb_fz kbw hw)
        have g1 : Keeps s₁ s'' := keeps_of_kb g14 kb2 (old kb2)
        have hYX : Le (fz Y s''.heap) (fz (D :: X) s''.heap) := fz_sub fun b m => (List.mem_cons.mp m).elim (fun e => e ▸ hWY _ (hWD _ (.head _))) fun m => List.mem_append_right _ m
        refine hR L D s'' ⟨keeps_trans h1.1 g1, fr2.ns, ?_, hLD, us, ?_, ?_⟩
        · cases e : s.heap.get? D with
          | none => rfl
          | some o => exact absurd (hWD _ (.head _)) (hnW D o (keeps_gr h1.1 _ _ e))
        · obtain ⟨n, e⟩ := pl2
          exact ⟨L, n, rfl, fz_of e fun m => (List.mem_cons.mp m).elim (fun e => hLD e) hLX⟩
        · rw [List.take_length] at al2
          exact al2.mono hYX
      · have hlt : i < xs.length := Nat.lt_of_le_of_ne hi hend
        have hx : xs[i]? = some xs[i] := List.getElem?_eq_getElem hlt
        have hw : ∀ b ∈ wr, b ∈ Y := fun b m => hWY b (hWwr b m)
        refine wpAny_mono (I.item Y i s' xs[i] st (oldF kb) (liveY kb fr st pl) hw hx) (fun r s'' hr => ?_) fun _ _ e => e
        obtain ⟨v, rfl, _, hgo⟩ := hr
        refine wpAny_mono hgo (fun _ s2 h2 => ?_) fun _ _ e => e
        obtain ⟨kbw, hv, st2⟩ := h2
        have kb2 := kb_trans kb (kb_sub kbw hWwr)
        have fr2 := frwr fr kbw
        have pl2 := plwr pl hLwr kbw
        refine wpAny_mono (htgt D Y s2 v xs[i] fr2 (fun b m => hWY b (hWD b m)) hv) (fun _ s3 h3 => ?_) fun _ _ e => e
        obtain ⟨kbt, fr3, hB⟩ := h3
        have kb3 := kb_trans kb2 (kb_sub kbt hWD)
        have st3 : St (i + 1) s3.heap := stKB st2 (kb_sub kbt fun b m => .tail _ m)
        have pl3 := plwr pl2 hLDown kbt
        have lv3 := liveY kb3 fr3 st3 pl3
        have k3 := kn kb3 lv3 hB
        have al3 := (al.mono (kb_fz kbw hw)).mono (kb_fz kbt fun b m => hWY b (hWD b m))
        refine wpAny_mono (pts_ev (htest D Y xs[i] (List.getElem_mem hlt)) k3) (fun ok s4 h4 => ?_) fun _ _ e => e
        obtain ⟨g4, rfl⟩ := h4
        have kb4 := kb_trans kb3 (kb_of g4)
        have fr4 := fr3.keeps (keeps_gr g4)
        have st4 : St (i + 1) s4.heap := stKB st3 (kb_of g4)
        have pl4 := plwr (W' := []) pl3 (fun m => by cases m) (kb_of g4)
        have al4 := al3.mono (fz_gr (X := Y) (keeps_gr g4))
        cases hq : q xs[i] with
        | false =>
          rw [if_neg Bool.false_ne_true]
          refine ⟨xs.length - (i + 1), by omega, i + 1, rfl, hlt, kb4, fr4, st4, us, pl4, by omega, ?_⟩
          rw [take_succ_map q f hx, hq, if_neg Bool.false_ne_true, List.append_nil]
          exact al4
        | true =>
          rw [if_pos rfl]
          refine wpAny_mono (helt D Y xs[i] (List.getElem_mem hlt) hq s4 (k3.keeps g4)) (fun x s5 h5 => ?_) fun _ _ e => e
          obtain ⟨g5, hx5⟩ := h5
          have kb5 := kb_trans kb4 (kb_of g5)
          have fr5 := fr4.keeps (keeps_gr g5)
          have st5 : St (i + 1) s5.heap := stKB st4 (kb_of g5)
          have pl5 := plwr (W' := []) pl4 (fun m => by cases m) (kb_of g5)
          have al5 := al4.mono (fz_gr (X := Y) (keeps_gr g5))
          refine append_ev pl5 (by omega) fun h6 pl6 sb6 => ?_
          have kbA : KB [L] s5 { s5 with heap := h6 } := ⟨h6, s5.toks, rfl, fun b o n e => (sb6.2 b fun e' => n (e' ▸ .head _)).trans e⟩
          have leA : Le (fz Y s5.heap) (fz Y h6) := kb_fz kbA fun b m => by rw [List.mem_singleton.mp m]; exact hWY _ hWL
          refine ⟨xs.length - (i + 1), by omega, i + 1, rfl, hlt, kb_trans kb5 (kb_sub kbA fun b m => by rw [List.mem_singleton.mp m]; exact hWL), ?_, stKB st5 (kb_sub kbA fun b m => by rw [List.mem_singleton.mp m]; exact .head _), us ++ [x], pl6, by simp; omega, ?_⟩
          · refine ⟨?_, fun c hc => ?_⟩
            · obtain ⟨m, hm⟩ := fr5.ns; exact ⟨m, hm.sameBut sb6 fun e => hLDown (e ▸ .head _)⟩
            · obtain ⟨v, hv⟩ := fr5.cell c hc; exact ⟨v, hv.sameBut sb6 fun e => hLDown (e ▸ .tail _ hc)⟩
          · rw [take_succ_map q f hx, hq, if_pos rfl]
            exact (al5.mono leA).append ⟨T.mono leA hx5, trivial⟩
    · exact stKB st0 (kb_of (keeps_trans g23 g34'))
    · obtain ⟨n, e⟩ := hL3
      exact ⟨n, keeps_gr g34' _ _ e⟩
  refine codeAny_compStart_list loop (I.self 0 _ _ _ (stKB st0 (kb_of (keeps_trans g23 g34'))) loop)
theorem pe_comp {elt iter : Expr} {ifs : List Expr} {scope : Scope} {S : Rl σ} {x : σ} {R : Rl α} {xs : List α} {T : Rl β} {cl : List (Str × Addr)} {V' : Vars} {B : α → Vars} (q : α → Bool) (f : α → β)
    (hclos : closureFor scope env = pure cl) (hkind : scope.kind = .function) (hnames : ∀ y ∈ scope.names, y.2 = .local → scope.names.lookup y.1 = some .local)
    (hsrc : PE C A env X O V iter S x) (hit : IterR C A target S x R xs) (hz : xs.length ≤ sizeLine)
    (htgt : ∀ D, TgtR C A (cEnv scope cl D env) (ownC scope D) target R B) (hpass : ∀ D, Pass env (cEnv scope cl D env) V V')
    (htest : ∀ D Y a, a ∈ xs → PTs C A (cEnv scope cl D env) Y O (B a ++ V') ifs (q a)) (helt : ∀ D Y a, a ∈ xs → q a = true → PE C A (cEnv scope cl D env) Y O (B a ++ V') elt T (f a))
    (hs : ∀ x, foldedSetIterable iter env x = pure x := by intro _; rfl) : PE C A env X O V (.ListComp elt [⟨target, iter, ifs, 0⟩] scope pos) (rList T) ((xs.filter q).map f) := fun s k => by
  rw [Ev, eval_ListComp]
  refine wpAny_comprehension_free (use := none) (g := ⟨target, iter, ifs, 0⟩) (gs := []) rfl hs hclos hkind hnames (comp_core q f hkind hsrc hit hz htgt hpass htest helt k fun L D s' c => ?_)
  obtain ⟨m, hm⟩ := c.ns
  refine ⟨m, hm, fun h' sb => ?_⟩
  have le : Le (fz (D :: X) s'.heap) (fz X h') := fz_but fun b o n e => ⟨(sb.2 b fun q => n (q ▸ .head _)).trans e, fun q => n (.tail _ q)⟩
  refine ⟨?_, (rList T).mono le c.val⟩
  obtain ⟨hh, tt, rfl, g⟩ := c.keeps
  exact ⟨h', tt, rfl, fun b o e => (sb.2 b fun q => by rw [q, c.d0] at e; cases e).trans (g b o e)⟩
/-- the same where the result is used ahead of the frame's end -/
theorem use_comp {elt iter : Expr} {ifs : List Expr} {scope : Scope} {S : Rl σ} {x : σ} {R : Rl α} {xs : List α} {T : Rl β} {cl : List (Str × Addr)} {V' : Vars} {B : α → Vars} (q : α → Bool) (f : α → β) {s : Shared} {u : Value → Sem Unit} {Q : Shared → Prop}
    (hclos : closureFor scope env = pure cl) (hkind : scope.kind = .function) (hnames : ∀ y ∈ scope.names, y.2 = .local → scope.names.lookup y.1 = some .local)
    (hsrc : PE C A env X O V iter S x) (hit : IterR C A target S x R xs) (hz : xs.length ≤ sizeLine)
    (htgt : ∀ D, TgtR C A (cEnv scope cl D env) (ownC scope D) target R B) (hpass : ∀ D, Pass env (cEnv scope cl D env) V V')
    (htest : ∀ D Y a, a ∈ xs → PTs C A (cEnv scope cl D env) Y O (B a ++ V') ifs (q a)) (helt : ∀ D Y a, a ∈ xs → q a = true → PE C A (cEnv scope cl D env) Y O (B a ++ V') elt T (f a))
    (k : Kn C env X O V s) (hu : ∀ L D s', CompEnd s s' X D L (fun G v => (rList T).r G ((xs.filter q).map f) v) →
      wpAny C.M A (u (.ref L)) (fun _ s'' => (∃ m, s''.heap.Ns D m) ∧ ∀ h', Heap.SameBut D s''.heap h' → Q { s'' with heap := h' }) (fun _ _ => False) s')
    (hs : ∀ x, foldedSetIterable iter env x = pure x := by intro _; rfl) : wpAny C.M A (evalThenUse (.ListComp elt [⟨target, iter, ifs, 0⟩] scope pos) env u) (fun _ s' => Q s') (fun _ _ => False) s := by
  show wpAny _ _ (comprehension (.ListComp elt [⟨target, iter, ifs, 0⟩] scope pos) scope env (firstIterPos [⟨target, iter, ifs, 0⟩] pos) (newList []) (firstAsync [⟨target, iter, ifs, 0⟩]) (firstIter [⟨target, iter, ifs, 0⟩] env) (some u) >>= fun _ => pure ()) _ _ _
  refine wpAny_bind (wpAny_comprehension_free (use := some u) (g := ⟨target, iter, ifs, 0⟩) (gs := []) rfl hs hclos hkind hnames (comp_core q f hkind hsrc hit hz htgt hpass htest helt k fun L D s' c => ?_))
  exact wpAny_mono (hu L D s' c) (fun _ s'' h => let ⟨⟨m, hm⟩, h⟩ := h; ⟨m, hm, fun h' sb => wpAny_pure (h h' sb)⟩) fun _ _ e => e
end
end Mine

namespace Mine
open PySem PySem.Calls PyProof.Rows PySem.W

section
variable {C : Cx} {A : Around} {env : Env} {X : List Addr} {O : Own} {V : Vars} {α β γ δ : Type} {pos : Pos}
theorem str_join_nil : ∀ ls : List (List Nat), PySem.Str.join (tx []) (ls.map tx) = tx ls.flatten
  | [] => rfl
  | [x] => by simp [PySem.Str.join]
  | x :: y :: r => by
    have ih := str_join_nil (y :: r)
    rw [List.map_cons, List.map_cons]
    show tx x ++ tx [] ++ PySem.Str.join (tx []) (tx y :: r.map tx) = _
    rw [← List.map_cons, ih, tx_append, tx_append]
    simp
theorem txt_join {ls : List (List Nat)} : Txt.join (tx []) (ls.map tx) = tx ls.flatten := by
  unfold Txt.join
  rw [StrLaws.glued_eq_join, str_join_nil]
theorem joinOk_of {ls : List (List Nat)} (h : ls.flatten.length ≤ sizeLine) : JoinOk (tx []) (ls.map tx) = true := by
  unfold JoinOk
  have : ∀ (ls : List (List Nat)) (k : Nat), (ls.map tx).foldl (fun a (x : Str) => a + x.length + (tx []).length) k = k + ls.flatten.length := by
    intro ls
    induction ls with
    | nil => intro k; simp
    | cons x r ih => intro k; rw [List.map_cons, List.foldl_cons, ih, tx_len, tx_len, List.flatten_cons, List.length_append]; simp; omega
  rw [List.foldl_toArray, this]
  simp only [Builtin.Str.tooLong, Bool.not_eq_true', decide_eq_false_iff_not, Nat.not_lt, Nat.zero_add]
  exact h
theorem pe_join {o e : Expr} {apos : Pos} {ls : List (List Nat)} (ho : PE C A env X O V o rTxt []) (he : PE C A env X O V e (rList rTxt) ls) (hz : ls.flatten.length ≤ sizeLine)
    (hbase : attributeBase o "join" env (eval o env) = eval o env := by rfl) (hs : starEach [e] env = [(false, eval e env)] := by rfl) (hline : (apos.endLine == pos.line) = true := by rfl) :
    PE C A env X O V (.Call (.Attribute o "join" apos) [e] [] pos) rTxt ls.flatten := fun s k =>
  Call_method1 hbase hs hline (wpAny_mono (ho s k) (fun v s1 h1 => by
    obtain ⟨g1, t, rfl⟩ := h1
    refine SB.join (wpAny_mono (he s1 (k.keeps g1)) (fun u s2 h2 => ?_) fun _ _ x => x)
    obtain ⟨g2, vs, ⟨a, n, rfl, g⟩, al⟩ := h2
    obtain ⟨ps, rfl, ep⟩ := txts_of al
    refine ⟨a, ps, rfl, ⟨_, fz_le _ _ g, rfl, _, rfl⟩, _, ep, joinOk_of hz, fun t' k' => ⟨keeps_trans g1 (keeps_trans g2 keeps_tok), t', ?_⟩⟩
    rw [txt_join]) fun _ _ x => x)
/-! an int among a list's -/
/-! slices of bytes -/
theorem picked_bytes (l : List UInt8) (lo hi : Option Nat) : KBy.picked l.toArray (lo.map fun n => (n : Int)) (hi.map fun n => (n : Int)) = (cut l lo hi).toArray := by
  rw [KBc.picked_eq, show l.toArray.size = l.length from rfl, clip_lo, clip_hi, show l.toArray.toList = l from rfl, cut_eq]
theorem pe_slice_bytes {ve : Expr} {lower upper : Option Expr} {p : Pos} {l : List UInt8} {lo hi : Option Nat} (h1 : PE C A env X O V ve rB l) (h2 : PPart C A env X O V lower lo) (h3 : PPart C A env X O V upper hi) (hz : l.length ≤ sizeLine)
    (ht : ∀ t r, letTemporaryGo ve (.bytes l.toArray t) r = pure () := by intro _ _; rfl) : PE C A env X O V (.Subscript ve (.Slice lower upper none p) pos) rB (cut l lo hi) := fun s k => by
  refine Subscript_ (wpAny_mono (h1 s k) (fun o s1 q1 => ?_) fun _ _ x => x)
  obtain ⟨g1, t, rfl⟩ := q1
  show wpAny _ _ (do
    let l ← evalPart lower env
    let u ← holding [l] (evalPart upper env)
    let s ← holding [l, u] (pure Value.none)
    newFields "slice" [l, u, s]) _ _ _
  refine wpAny_bind (wpAny_mono (h2 s1 (k.keeps g1)) (fun vl s2 q2 => wpAny_bind (wpAny_holding (wpAny_mono (h3 s2 (k.keeps (keeps_trans g1 q2.1))) (fun vu s3 q3 => wpAny_bind (wpAny_holding (wpAny_pure ?_))) fun _ _ x => x))) fun _ _ x => x)
  have g123 := keeps_trans g1 (keeps_trans q2.1 q3.1)
  refine wpAny_newObj_type ?_ (by size_fits)
  have hsl : (s3.heap.push { cls := .type "slice", data := .fields #[vl, vu, .none] }).IsSliceOf s3.heap.objs.size vl vu .none := Heap.IsSliceOf.new ..
  refine tail_any (T := "bytes") (typeIs_bytes _ _ _) FB.slot_bytes_getitem.lookup ?_ rfl
  refine getItem_meets (T := "bytes") (typeIs_bytes _ _ _) (by decide) FB.slot_bytes_getitem FB.entry_bytes_getitem (FB.args_bytes_getitem_2 _ _) (KBc.meets_slice2 l.toArray t _ q2.2 q3.2) ⟨hsl, ?_, fun t' k' => ?_⟩
  · rw [picked_bytes, List.size_toArray]; exact Nat.le_trans (cut_len l lo hi) hz
  · rw [picked_bytes]
    exact ⟨keeps_trans g123 (keeps_mk gr_push), t', rfl⟩
end
end Mine

namespace Mine
open PySem PySem.Calls PyProof.Rows PySem.W

/-- what is said of a state beside its heap -/
structure Rst where
  p : Shared → Prop
  st : ∀ s h t, p s → p { s with heap := h, toks := t }
noncomputable def Rst.same (s₀ : Shared) : Rst := ⟨fun s => ∃ h t, s = { s₀ with heap := h, toks := t }, fun s h t ⟨h', t', e⟩ => ⟨h, t, by rw [e]⟩⟩
theorem rst_kb {ρ : Rst} {s s' : Shared} {W : List Addr} (a : ρ.p s) (b : KB W s s') : ρ.p s' := let ⟨h, t, e, _⟩ := b; e ▸ ρ.st s h t a
/-- a function's frame that may be written -/
structure FS (C : Cx) (env : Env) (ρ : Rst) (G : PM) (X : List Addr) (O : Own) (V : Vars) (s : Shared) : Prop where
  kn : Kn C env X O V s
  rs : ρ.p s
  lx : env.locals ∈ X
  fr : FrOk env.locals (env.cells.map (·.2)) s.heap
  cx : ∀ c ∈ env.cells.map (·.2), c ∈ X
  ap : env.cells.Pairwise fun x y => x.2 ≠ y.2
  ox : ∀ a ∈ O.map (·.1), a ∈ X ∧ a ∉ env.locals :: env.cells.map (·.2)
  on : (O.map (·.1)).Nodup
  keep : ∀ b o, G b = some o → s.heap.get? b = some o
  gn : ∀ b ∈ env.locals :: (env.cells.map (·.2) ++ O.map (·.1)), G b = none
  bs : ∀ h : Heap, (∀ b o, G b = some o → h.get? b = some o) → C.In h
/-- a body -/
noncomputable def SB (C : Cx) (A : Around) (env : Env) (ρ : Rst) (G : PM) (X : List Addr) (O : Own) (V : Vars) (body : List Stmt) (P : Flow → Shared → Prop) : Prop :=
  ∀ s, FS C env ρ G X O V s → wpAny C.M A (execs body env) P (fun _ _ => False) s
noncomputable def VSub : Vars → Vars → Prop
  | [], _ => True
  | (x, F) :: V', V => V.lookup x = some F ∧ VSub V' V
theorem VSub.get : ∀ {V' V : Vars}, VSub V' V → ∀ {x : Str} {F : Fc}, V'.lookup x = some F → V.lookup x = some F
  | (y, G) :: V', V, h, x, F, e => by
    rcases lookup_cons_some e with ⟨rfl, rfl⟩ | ⟨_, e⟩
    · exact h.1
    · exact VSub.get h.2 e
theorem lookup_key {α β : Type} [BEq α] [LawfulBEq α] : ∀ {l : List (α × β)} {a : α} {b : β}, l.lookup a = some b → a ∈ l.map (·.1)
  | (k, v) :: r, a, b, h => by
    rw [List.lookup_cons] at h
    cases hb : a == k with
    | true => rw [eq_of_beq hb]; exact .head _
    | false => rw [hb] at h; exact .tail _ (lookup_key h)
section
variable {C : Cx} {A : Around} {env : Env} {ρ : Rst} {G : PM} {X : List Addr} {O : Own} {V V' : Vars} {α β γ δ σ : Type} {pos : Pos} {rest : List Stmt} {P : Flow → Shared → Prop}
theorem FS.keeps {s s' : Shared} (f : FS C env ρ G X O V s) (g : Keeps s s') : FS C env ρ G X O V s' :=
  ⟨f.kn.keeps g, rst_kb f.rs (kb_of (W := []) g), f.lx, f.fr.keeps (keeps_gr g), f.cx, f.ap, f.ox, f.on, fun b o e => keeps_gr g b o (f.keep b o e), f.gn, f.bs⟩
theorem Kn.sub {s : Shared} (k : Kn C env X O V s) (h : VSub V' V) : Kn C env X O V' s := ⟨k.base, k.fn, k.gl, k.bi, k.alive, fun x F e => k.vars x F (h.get e), k.own⟩
theorem FS.sub {s : Shared} (f : FS C env ρ G X O V s) (h : VSub V' V) : FS C env ρ G X O V' s := ⟨f.kn.sub h, f.rs, f.lx, f.fr, f.cx, f.ap, f.ox, f.on, f.keep, f.gn, f.bs⟩
theorem SB.sub {body : List Stmt} (h : SB C A env ρ G X O V' body P) (v : VSub V' V) : SB C A env ρ G X O V body P := fun s f => h s (f.sub v)
noncomputable def Stores (env : Env) (x : Str) : Prop := env.kindOf x = some .local ∨ (env.kindOf x = some .cell ∧ ∃ c, env.cells.lookup x = some c)
theorem FS.store {s : Shared} {x : Str} {v : Value} {F : Fc} (f : FS C env ρ G X O V s) (hx : Stores env x) (hv : F.r (fz X s.heap) v) :
    wpAny C.M A (storeName env x v) (fun _ s' => FS C env ρ G X O ((x, F) :: V) s' ∧ KB (env.locals :: env.cells.map (·.2)) s s') (fun _ _ => False) s := by
  have hWX : ∀ b ∈ env.locals :: env.cells.map (·.2), b ∈ X := fun b m => (List.mem_cons.mp m).elim (fun e => e ▸ f.lx) (f.cx b)
  have hnW : ∀ b o, G b = some o → b ∉ env.locals :: env.cells.map (·.2) := fun b o e m => by
    have := f.gn b ((List.mem_cons.mp m).elim (fun q => q ▸ .head _) fun q => .tail _ (List.mem_append_left _ q))
    rw [e] at this; cases this
  have wrap : ∀ s', KB (env.locals :: env.cells.map (·.2)) s s' → FrOk env.locals (env.cells.map (·.2)) s'.heap → (∀ y F', ((x, F) :: V).lookup y = some F' → ∃ u, Sees env s'.heap y u ∧ F'.r (fz X s.heap) u) → FS C env ρ G X O ((x, F) :: V) s' := fun s' kb fr hV =>
    { kn := { base := f.bs _ fun b o e => kb_get kb (hnW b o e) (f.keep b o e)
              fn := f.kn.fn, gl := f.kn.gl, bi := f.kn.bi
              alive := fun a m => by
                by_cases h : a ∈ env.locals :: env.cells.map (·.2)
                · rcases List.mem_cons.mp h with rfl | h
                  · obtain ⟨m, o, es, ep, ho, _⟩ := fr.ns; exact ⟨o, ho⟩
                  · obtain ⟨v, o, ho, _⟩ := fr.cell a h; exact ⟨o, ho⟩
                · obtain ⟨o, e⟩ := f.kn.alive a m; exact ⟨o, kb_get kb h e⟩
              vars := fun y F' e => let ⟨u, a, b⟩ := hV y F' e; ⟨u, a, F'.mono (kb_fz kb hWX) b⟩
              own := fun a F' e => by
                obtain ⟨o, p, q⟩ := f.kn.own a F' e
                exact ⟨o, kb_get kb (f.ox a (lookup_key e)).2 p, F'.mono (kb_fz kb hWX) q⟩ }
      rs := rst_kb f.rs kb, lx := f.lx, fr := fr, cx := f.cx, ap := f.ap, ox := f.ox, on := f.on
      keep := fun b o e => kb_get kb (hnW b o e) (f.keep b o e)
      gn := f.gn, bs := f.bs }
  obtain ⟨m, hn⟩ := f.fr.ns
  rcases hx with hl | ⟨hl, c, hc⟩
  · refine wpAny_storeName_local hl hn (fun h' hn' hs => ?_) (scopeK f.kn.fn)
    have kb : KB (env.locals :: env.cells.map (·.2)) s { s with heap := h', toks := s.toks + 1 } := kb_mk fun b o n e => (hs.2 b fun q => n (q ▸ .head _)).trans e
    refine ⟨wrap _ kb (sb_fr f.fr hs hn') fun y F' e => ?_, kb⟩
    rcases lookup_cons_some e with ⟨rfl, rfl⟩ | ⟨ne, e⟩
    · exact ⟨v, .loc hl _ hn' (if_pos rfl), hv⟩
    · obtain ⟨u, sv, hr⟩ := f.kn.vars y F' e
      refine ⟨u, ?_, hr⟩
      cases sv with
      | loc hk m₂ hn₂ hv₂ => exact .loc hk _ hn' (by rw [if_neg ne, ns_eq hn hn₂]; exact hv₂)
      | cel hk c' hc' hv' => exact .cel hk c' hc' (hv'.sameBut hs fun q => ns_not_cell hn (q ▸ hv'))
      | fre hk hd c' hc' hv' => exact .fre hk hd c' hc' (hv'.sameBut hs fun q => ns_not_cell hn (q ▸ hv'))
  · have hcm : c ∈ env.cells.map (·.2) := List.mem_map.mpr ⟨_, mem_of_lookup hc, rfl⟩
    obtain ⟨v₀, hv₀⟩ := f.fr.cell c hcm
    refine wpAny_storeName_cell f.kn.fn hl hc hv₀ fun h' hv' hs => ?_
    have kb : KB (env.locals :: env.cells.map (·.2)) s { s with heap := h' } := ⟨h', s.toks, rfl, fun b o n e => (hs.2 b fun q => n (q ▸ .tail _ hcm)).trans e⟩
    have hlc : env.locals ≠ c := fun q => ns_not_cell hn (q ▸ hv₀)
    refine ⟨wrap _ kb ⟨⟨m, hn.sameBut hs hlc⟩, fun c' m' => ?_⟩ fun y F' e => ?_, kb⟩
    · by_cases q : c' = c
      · exact ⟨_, q ▸ hv'⟩
      · obtain ⟨v', e⟩ := f.fr.cell c' m'; exact ⟨v', e.sameBut hs q⟩
    · rcases lookup_cons_some e with ⟨rfl, rfl⟩ | ⟨ne, e⟩
      · exact ⟨v, .cel hl c hc hv', hv⟩
      · obtain ⟨u, sv, hr⟩ := f.kn.vars y F' e
        refine ⟨u, ?_, hr⟩
        have other : ∀ c', env.cells.lookup y = some c' → c' ≠ c := fun c' hc' q => ne (name_of_addr f.ap (mem_of_lookup hc') (q ▸ mem_of_lookup hc))
        cases sv with
        | loc hk m₂ hn₂ hv₂ => exact .loc hk m₂ (hn₂.sameBut hs hlc) hv₂
        | cel hk c' hc' hv₂ => exact .cel hk c' hc' (hv₂.sameBut hs (other c' hc'))
        | fre hk hd c' hc' hv₂ => exact .fre hk hd c' hc' (hv₂.sameBut hs (other c' hc'))
/-- more of the heap is written, or less -/
theorem FS.grow {s s' : Shared} {Ds : List Addr} (f : FS C env ρ G X O V s) (g : Keeps s s') (hd : ∀ d ∈ Ds, s.heap.get? d = none) (hl : ∀ d ∈ Ds, ∃ o, s'.heap.get? d = some o) : FS C env ρ G (Ds ++ X) O V s' := by
  have le : Le (fz X s.heap) (fz (Ds ++ X) s'.heap) := fz_but fun b o n e => ⟨keeps_gr g b o e, fun m => (List.mem_append.mp m).elim (fun m => by rw [hd b m] at e; cases e) n⟩
  have f' := f.keeps g
  exact ⟨⟨f'.kn.base, f'.kn.fn, f'.kn.gl, f'.kn.bi, fun a m => (List.mem_append.mp m).elim (hl a) (f'.kn.alive a), fun x F e => let ⟨v, a, b⟩ := f.kn.vars x F e; ⟨v, a.keeps (keeps_gr g), F.mono le b⟩,
    fun a F e => let ⟨o, p, q⟩ := f.kn.own a F e; ⟨o, keeps_gr g _ _ p, F.mono le q⟩⟩, f'.rs, List.mem_append_right _ f.lx, f'.fr, fun c m => List.mem_append_right _ (f.cx c m), f.ap,
    fun a m => ⟨List.mem_append_right _ (f.ox a m).1, (f.ox a m).2⟩, f.on, f'.keep, f.gn, f.bs⟩
/-- a step outside the frame: the objects Ds alone are changed, that no one speaks of -/
theorem FS.drop {s s' : Shared} {Ds : List Addr} (f : FS C env ρ G (Ds ++ X) O V s) (kb : KB Ds s s') (h1 : env.locals ∉ Ds) (h2 : ∀ c ∈ env.cells.map (·.2), c ∉ Ds) (h3 : ∀ a ∈ O.map (·.1), a ∉ Ds) (h4 : ∀ d ∈ Ds, G d = none) (h5 : ∀ x ∈ X, x ∉ Ds)
    (h6 : env.locals ∈ X) (h7 : ∀ c ∈ env.cells.map (·.2), c ∈ X) (h8 : ∀ a ∈ O.map (·.1), a ∈ X) (h9 : ∀ x c, env.cells.lookup x = some c → c ∉ Ds) : FS C env ρ G X O V s' := by
  have le : Le (fz (Ds ++ X) s.heap) (fz X s'.heap) := fz_but fun b o n e => ⟨kb_get kb (fun m => n (List.mem_append_left _ m)) e, fun m => n (List.mem_append_right _ m)⟩
  have keep : ∀ b o, G b = some o → s'.heap.get? b = some o := fun b o e => kb_get kb (fun m => by rw [h4 b m] at e; cases e) (f.keep b o e)
  refine ⟨⟨f.bs _ keep, f.kn.fn, f.kn.gl, f.kn.bi, fun a m => ?_, fun x F e => ?_, fun a F e => ?_⟩, rst_kb f.rs kb, h6, ⟨?_, fun c m => ?_⟩, h7, f.ap, fun a m => ⟨h8 a m, (f.ox a m).2⟩, f.on, keep, f.gn, f.bs⟩
  · obtain ⟨o, e⟩ := f.kn.alive a (List.mem_append_right _ m); exact ⟨o, kb_get kb (h5 a m) e⟩
  · obtain ⟨v, sv, hr⟩ := f.kn.vars x F e
    refine ⟨v, ?_, F.mono le hr⟩
    cases sv with
    | loc hk m hn hv =>
      obtain ⟨o, es, ep, ho, r⟩ := hn
      exact .loc hk m ⟨o, es, ep, kb_get kb h1 ho, r⟩ hv
    | cel hk c hc hv =>
      obtain ⟨o, ho, hd⟩ := hv
      exact .cel hk c hc ⟨o, kb_get kb (h9 x c hc) ho, hd⟩
    | fre hk hd' c hc hv =>
      obtain ⟨o, ho, hd⟩ := hv
      exact .fre hk hd' c hc ⟨o, kb_get kb (h9 x c hc) ho, hd⟩
  · obtain ⟨o, p, q⟩ := f.kn.own a F e
    exact ⟨o, kb_get kb (h3 a (lookup_key e)) p, F.mono le q⟩
  · obtain ⟨m, o, es, ep, ho, r⟩ := f.fr.ns; exact ⟨m, o, es, ep, kb_get kb h1 ho, r⟩
  · obtain ⟨v, o, ho, hd⟩ := f.fr.cell c m; exact ⟨v, o, kb_get kb (h2 c m) ho, hd⟩

/-! statements -/
theorem sb_nil (h : ∀ s, FS C env ρ G X O V s → P .next s) : SB C A env ρ G X O V [] P := fun s f => wpAny_execs_nil (h s f)
theorem sb_return {e : Expr} {R : Rl α} {a : α} (he : PE C A env X O V e R a) (h : ∀ s v, FS C env ρ G X O V s → R.r (fz X s.heap) a v → P (.ret v) s) : SB C A env ρ G X O V (.Return (some e) pos :: rest) P := fun s f =>
  wpAny_execs_cons (wpAny_Return_some (wpAny_mono (he s f.kn) (fun v s' q => h s' v (f.keeps q.1) q.2) fun _ _ x => x))
theorem sb_assign {x : Str} {p : Pos} {e : Expr} {R : Rl α} {a : α} (he : PE C A env X O V e R a) (hx : Stores env x) (hrest : SB C A env ρ G X O ((x, R.at a) :: V) rest P)
    (hs : swapsWith e (some (.Name x p)) pos.line env = pure false := by rfl) : SB C A env ρ G X O V (.Assign [.Name x p] e pos :: rest) P := fun s f =>
  wpAny_execs_cons (wpAny_Assign_Name (wpAny_mono (he s f.kn) (fun v s1 q => wpAny_mono ((f.keeps q.1).store (F := R.at a) hx q.2) (fun _ s2 q2 => hrest s2 q2.1) fun _ _ x => x) fun _ _ x => x) hs)
theorem sb_comp {x : Str} {p p' : Pos} {elt iter target : Expr} {ifs : List Expr} {scope : Scope} {S : Rl σ} {xv : σ} {R : Rl α} {xs : List α} {T : Rl β} {cl : List (Str × Addr)} {V' : Vars} {B : α → Vars} (q : α → Bool) (f : α → β)
    (hclos : closureFor scope env = pure cl) (hkind : scope.kind = .function) (hnames : ∀ y ∈ scope.names, y.2 = .local → scope.names.lookup y.1 = some .local)
    (hsrc : PE C A env X O V iter S xv) (hit : IterR C A target S xv R xs) (hz : xs.length ≤ sizeLine)
    (htgt : ∀ D, TgtR C A (cEnv scope cl D env) (ownC scope D) target R B) (hpass : ∀ D, Pass env (cEnv scope cl D env) V V')
    (htest : ∀ D Y a, a ∈ xs → PTs C A (cEnv scope cl D env) Y O (B a ++ V') ifs (q a)) (helt : ∀ D Y a, a ∈ xs → q a = true → PE C A (cEnv scope cl D env) Y O (B a ++ V') elt T (f a))
    (hx : Stores env x) (hrest : SB C A env ρ G X O ((x, (rList T).at ((xs.filter q).map f)) :: V) rest P)
    (hsw : swapsWith (.ListComp elt [⟨target, iter, ifs, 0⟩] scope p') (some (.Name x p)) pos.line env = pure true := by rfl)
    (hs : ∀ x, foldedSetIterable iter env x = pure x := by intro _; rfl) : SB C A env ρ G X O V (.Assign [.Name x p] (.ListComp elt [⟨target, iter, ifs, 0⟩] scope p') pos :: rest) P := fun s fs => by
  refine wpAny_execs_cons ?_
  rw [exec_Assign_Name_used _ _ _ _ hsw]
  refine wpAny_bind (wpAny_standAt (wpAny_bind ?_))
  refine wpAny_mono (use_comp q f (Q := fun s' => FS C env ρ G X O ((x, (rList T).at ((xs.filter q).map f)) :: V) s') hclos hkind hnames hsrc hit hz htgt hpass htest helt fs.kn (fun L D s' c => ?_) hs) (fun _ s' q => wpAny_pure (hrest s' q)) fun _ _ e => e
  obtain ⟨m, hm⟩ := c.ns
  have hDo : ∀ b o, s.heap.get? b = some o → b ≠ D := fun b o e q => by rw [q, c.d0] at e; cases e
  have fg : FS C env ρ G ([D] ++ X) O V s' := fs.grow c.keeps (fun d hd => by rw [List.mem_singleton.mp hd]; exact c.d0) fun d hd => by
    rw [List.mem_singleton.mp hd]; obtain ⟨o, es, ep, ho, _⟩ := hm; exact ⟨o, ho⟩
  have hlD : env.locals ≠ D := by obtain ⟨m, o, es, ep, ho, _⟩ := fs.fr.ns; exact hDo _ o ho
  have hcD : ∀ c ∈ env.cells.map (·.2), c ≠ D := fun c hc => by obtain ⟨v, o, ho, _⟩ := fs.fr.cell c hc; exact hDo _ o ho
  refine wpAny_assign_Name ?_
  refine wpAny_mono (fg.store (F := (rList T).at ((xs.filter q).map f)) hx c.val) (fun _ s'' q'' => ?_) fun _ _ e => e
  obtain ⟨f2, kb⟩ := q''
  have hn2 : s''.heap.Ns D m := by
    obtain ⟨o, es, ep, ho, r⟩ := hm
    exact ⟨o, es, ep, kb_get kb (fun m' => (List.mem_cons.mp m').elim (fun e => hlD e.symm) fun m' => hcD _ m' rfl) ho, r⟩
  refine ⟨⟨m, hn2⟩, fun h' sb => ?_⟩
  have kb2 : KB [D] s'' { s'' with heap := h' } := ⟨h', s''.toks, rfl, fun b o n e => (sb.2 b fun q => n (q ▸ .head _)).trans e⟩
  refine f2.drop kb2 (fun m => hlD (List.mem_singleton.mp m)) (fun c hc m => hcD c hc (List.mem_singleton.mp m)) (fun a ha m => ?_) (fun d hd => ?_) (fun x hx m => ?_) fs.lx fs.cx (fun a ha => (fs.ox a ha).1) (fun x c hc m => hcD c (List.mem_map.mpr ⟨_, mem_of_lookup hc, rfl⟩) (List.mem_singleton.mp m))
  · obtain ⟨o, e⟩ := fs.kn.alive a (fs.ox a ha).1; exact hDo a o e (List.mem_singleton.mp m)
  · rw [List.mem_singleton.mp hd]
    cases e : G D with
    | none => rfl
    | some o => exact absurd rfl (hDo D o (fs.keep D o e))
  · obtain ⟨o, e⟩ := fs.kn.alive x hx; exact hDo x o e (List.mem_singleton.mp m)
end
end Mine

namespace Mine
open PySem PySem.Calls PyProof.Rows PySem.W

theorem bindL_other (kf : Str → Option NameKind) : ∀ (bs : List (Str × Value)) (m : Str → Option Value) (x : Str), x ∉ bs.map (·.1) → bindL kf bs m x = m x
  | [], _, _, _ => rfl
  | (n, v) :: r, m, x, h => by
    have hx : x ≠ n := fun e => h (e ▸ .head _)
    unfold bindL
    rw [bindL_other kf r _ x fun m => h (.tail _ m)]
    split
    · exact if_neg hx
    · rfl
theorem bindL_get (kf : Str → Option NameKind) (x : Str) (v : Value) : ∀ (bs : List (Str × Value)) (m : Str → Option Value), (bs.map (·.1)).Nodup → (x, v) ∈ bs → kf x = some .local → bindL kf bs m x = some v := by
  intro bs
  induction bs with
  | nil => intro m _ hm; cases hm
  | cons p r ih =>
    intro m hn hm hk
    have hn' := List.nodup_cons.mp hn
    unfold bindL
    rcases List.mem_cons.mp hm with e | hm
    · rw [← e] at hn' ⊢
      rw [bindL_other kf r _ _ hn'.1, if_pos hk]; exact if_pos rfl
    · exact ih _ hn'.2 hm hk
theorem bindC_other (kf : Str → Option NameKind) : ∀ (bs : List (Str × Value)) (m : Str → Option Value) (x : Str), x ∉ bs.map (·.1) → bindC kf bs m x = m x
  | [], _, _, _ => rfl
  | (n, v) :: r, m, x, h => by
    have hx : x ≠ n := fun e => h (e ▸ .head _)
    unfold bindC
    rw [bindC_other kf r _ x fun m => h (.tail _ m)]
    split
    · rfl
    · exact if_neg hx
theorem bindC_get (kf : Str → Option NameKind) (x : Str) (v : Value) : ∀ (bs : List (Str × Value)) (m : Str → Option Value), (bs.map (·.1)).Nodup → (x, v) ∈ bs → kf x ≠ some .local → bindC kf bs m x = some v := by
  intro bs
  induction bs with
  | nil => intro m _ hm; cases hm
  | cons p r ih =>
    intro m hn hm hk
    have hn' := List.nodup_cons.mp hn
    unfold bindC
    rcases List.mem_cons.mp hm with e | hm
    · rw [← e] at hn' ⊢
      rw [bindC_other kf r _ _ hn'.1, if_neg hk]; exact if_pos rfl
    · exact ih _ hn'.2 hm hk
theorem cellsFrom_keys : ∀ (names : List (Str × NameKind)) (n n' : Nat) (acc acc' : List (Str × Addr)), acc.map (·.1) = acc'.map (·.1) → (cellsFrom n names acc).map (·.1) = (cellsFrom n' names acc').map (·.1)
  | [], _, _, _, _, h => h
  | (x, k) :: r, n, n', acc, acc', h => by
    unfold cellsFrom
    split
    · exact cellsFrom_keys r _ _ _ _ (by simp [h])
    · exact cellsFrom_keys r _ _ _ _ h
theorem lookup_of_mem {κ α : Type} [BEq κ] [LawfulBEq κ] {l : List (κ × α)} {n : κ} {c : α} : (l.map (·.1)).Nodup → (n, c) ∈ l → l.lookup n = some c := by
  induction l with
  | nil => intro _ m; cases m
  | cons p r ih =>
    intro hn hm
    have hn' := List.nodup_cons.mp hn
    rw [List.lookup_cons]
    rcases List.mem_cons.mp hm with e | hm
    · rw [← e, beq_self_eq_true]
    · have : (n == p.1) = false := beq_false_of_ne fun e => hn'.1 (by show p.1 ∈ _; rw [← e]; exact List.mem_map.mpr ⟨_, hm, rfl⟩)
      rw [this]; exact ih hn'.2 hm
theorem zip_lookup {G : PM} {x : Str} {F : Fc} : ∀ {names : List Str} {Fs : List Fc} {vals : List Value}, AllF G Fs vals → names.length = vals.length → (names.zip Fs).lookup x = some F → ∃ v, (x, v) ∈ names.zip vals ∧ F.r G v := by
  intro names
  induction names with
  | nil => intro Fs vals _ _ e; rw [List.zip_nil_left] at e; cases e
  | cons n ns ih =>
    intro Fs vals h hl e
    cases vals with
    | nil => cases hl
    | cons v vs =>
      cases Fs with
      | nil => exact h.elim
      | cons F' Fs =>
        rw [List.zip_cons_cons] at e
        rcases lookup_cons_some e with e' | e'
        · rw [e'.1, e'.2]; exact ⟨v, .head _, h.1⟩
        · obtain ⟨u, m, r⟩ := ih h.2 (Nat.succ.inj hl) e'.2
          exact ⟨u, .tail _ m, r⟩
theorem keeps_FS {C : Cx} {env : Env} {s s' : Shared} {X : List Addr} {O : Own} {V : Vars} (f : FS C env (Rst.same s) s.heap.get? X O V s') : Keeps s s' := by
  obtain ⟨h, t, rfl⟩ := f.rs
  exact ⟨h, t, rfl, f.keep⟩
/-- a call of a def of the text that may write objects of its caller -/
theorem callR_code {C : Cx} {A : Around} {fa : Addr} {o : Obj} {fd : FuncData} {body : List Stmt} {names : List Str} {vals : List Value} {args : Args} {Fs : List Fc} {s : Shared} {X : List Addr} {O : Own} {R : Result → Shared → Prop}
    (ρ : Rst) (hρ0 : ρ.p s) (r : Rm 1 A) (hK : C.K.lookup fa = some o) (hd : o.data = .func fd) (hb : fd.body = .stmts body) (hg : fd.globals = mainGlobals) (hbi : fd.builtins = builtinsNs) (hclo : fd.closure = []) (hcode : codeIn C.K fd.code fd.qualname = true)
    (hbind : BindsTo s fd args (names.zip vals)) (hlen : names.length = vals.length) (hnd : names.Nodup) (hkinds : ∀ n ∈ names, fd.scope.names.lookup n = some .local ∨ fd.scope.names.lookup n = some .cell)
    (hck : ((cellsFrom 0 fd.scope.names []).map (·.1)).Nodup) (hS : C.In s.heap) (hl : Live X s) (hbs : ∀ h' : Heap, (∀ b o, fz (O.map (·.1)) s.heap b = some o → h'.get? b = some o) → C.In h') (hOX : ∀ a ∈ O.map (·.1), a ∈ X) (hOn : (O.map (·.1)).Nodup) (hown : ∀ a F, O.lookup a = some F → ∃ o, s.heap.get? a = some o ∧ F.r (fz X s.heap) o) (al : AllF (fz X s.heap) Fs vals)
    (h : ∀ L X', (∀ b ∈ X, b ∈ X') → SB C (A.deeper (callEnvC fd L fa)) (callEnvC fd L fa) ρ (fz (O.map (·.1)) s.heap) X' O (names.zip Fs) body (fun fl s' => R (.ok (.ret (match fl with | .ret v => v | _ => .none))) s'))
    (hco : fd.scope.isCoroutine = false) (hgen : fd.scope.isGenerator = false) (hk : fd.scope.kind = .function) : codeAny C.M A (.call (.ref fa) args) R s := by
  have ho := hS.k _ _ hK
  refine codeAny_call_function r.depth ho hd hco hgen hb (codeRec_of hS.k hcode) (hbind _ _ _ _ ?_)
  rw [hclo]
  have hks : ∀ n ∈ names, fd.scope.names.lookup n = some .local ∨ (fd.scope.names.lookup n = some .cell ∧ ((cellsFrom (s.heap.objs.size + 1) fd.scope.names []).lookup n).isSome = true) := fun n hn => by
    rcases hkinds n hn with e | e
    · exact .inl e
    · exact .inr ⟨e, cellsFrom_some _ _ _ (.inl e)⟩
  have hz1 : (names.zip vals).map (·.1) = names := by rw [List.map_fst_zip (by omega)]
  refine wpAny_newFunctionEnv_cells hk (fun x hx => hks x.1 (hz1 ▸ List.mem_map.mpr ⟨x, hx, rfl⟩)) fun env he s₁ x => ?_
  subst he
  refine ⟨hS.t.nolimit.keeps x.toInCall.keep, codeAny_func ?_⟩
  generalize hL : s.heap.objs.size = L at x hks ⊢
  show wpAny C.M (A.deeper (callEnvC fd L fa)) (execs body (callEnvC fd L fa)) _ _ _
  have x' : InCallC s L (bindL (callEnvC fd L fa).kindOf (names.zip vals) fun _ => none) (callEnvC fd L fa).cells (bindC (callEnvC fd L fa).kindOf (names.zip vals) fun _ => none) s₁ := x
  have hkeys : ((callEnvC fd L fa).cells.map (·.1)).Nodup := by
    show ((cellsFrom (L + 1) fd.scope.names []).map (·.1)).Nodup
    rw [cellsFrom_keys fd.scope.names (L + 1) 0 [] [] rfl]; exact hck
  have hcell : ∀ c ∈ (callEnvC fd L fa).cells.map (·.2), (∃ v, s₁.heap.IsCell c v) ∧ Nat.lt L c := fun c hc => by
    obtain ⟨⟨n, c'⟩, hm, rfl⟩ := List.mem_map.mp hc
    exact ⟨⟨_, x'.cell n c' (lookup_of_mem hkeys hm)⟩, x'.above n c' hm⟩
  have hX : ∀ b ∈ X, ∃ o, s₁.heap.get? b = some o := fun b m => by obtain ⟨o, e⟩ := hl b m; exact ⟨o, x'.toInCall.keep b o e⟩
  have hlt : ∀ b o, s.heap.get? b = some o → Nat.lt b L := fun b o e => hL ▸ Heap.lt_size e
  have hnew : ∀ b ∈ L :: (callEnvC fd L fa).cells.map (·.2), s.heap.get? b = none := fun b m => by
    cases e : s.heap.get? b with
    | none => rfl
    | some o =>
      have := hlt b o e
      rcases List.mem_cons.mp m with rfl | m
      · exact absurd this (Nat.lt_irrefl _)
      · exact absurd (Nat.lt_trans this (hcell b m).2) (Nat.lt_irrefl _)
  obtain ⟨mm, hns⟩ : ∃ m, s₁.heap.Ns L m := ⟨_, x'.toInCall.ns⟩
  have le : Le (fz X s.heap) (fz ((L :: (callEnvC fd L fa).cells.map (·.2)) ++ X) s₁.heap) := fz_but fun b o n e => ⟨x'.toInCall.keep b o e, fun m => (List.mem_append.mp m).elim (fun m => by rw [hnew b m] at e; cases e) n⟩
  have fs : FS C (callEnvC fd L fa) ρ (fz (O.map (·.1)) s.heap) ((L :: (callEnvC fd L fa).cells.map (·.2)) ++ X) O (names.zip Fs) s₁ :=
    { kn := { base := hS.keeps x'.toInCall.keep, fn := hk, gl := hg, bi := hbi
              alive := fun a m => (List.mem_append.mp m).elim (fun m => (List.mem_cons.mp m).elim (fun e => by subst e; obtain ⟨o, es, ep, ho, _⟩ := hns; exact ⟨o, ho⟩) fun m => by obtain ⟨⟨v, o, ho, _⟩, _⟩ := hcell a m; exact ⟨o, ho⟩) (hX a)
              vars := fun y F e => by
                obtain ⟨v, hm, hr⟩ := zip_lookup al hlen e
                have hyn : y ∈ names := hz1 ▸ List.mem_map.mpr ⟨_, hm, rfl⟩
                refine ⟨v, ?_, F.mono le hr⟩
                rcases hks y hyn with hy | ⟨hy, hc⟩
                · exact .loc hy _ x'.toInCall.ns (bindL_get _ _ _ _ _ (by rw [hz1]; exact hnd) hm hy)
                · obtain ⟨c, hc⟩ := Option.isSome_iff_exists.mp hc
                  have := x'.cell y c hc
                  rw [bindC_get _ y v _ _ (by rw [hz1]; exact hnd) hm (by show fd.scope.names.lookup y ≠ _; rw [hy]; decide)] at this
                  exact .cel hy c hc this
              own := fun a F e => let ⟨o, p, q⟩ := hown a F e; ⟨o, x'.toInCall.keep _ _ p, F.mono le q⟩ }
      rs := let ⟨h, t, e⟩ := x'.toInCall.same; e ▸ ρ.st s h t hρ0
      lx := List.mem_append_left _ (.head _)
      fr := ⟨⟨mm, hns⟩, fun c hc => (hcell c hc).1⟩
      cx := fun c hc => List.mem_append_left _ (.tail _ hc)
      ap := x'.apart
      ox := fun a m => ⟨List.mem_append_right _ (hOX a m), fun n => by obtain ⟨o, e⟩ := hl a (hOX a m); rw [hnew a n] at e; cases e⟩
      on := hOn
      keep := fun b o e => x'.toInCall.keep b o (fz_get e).1
      gn := fun b m => by
        have hh : b ∈ L :: (callEnvC fd L fa).cells.map (·.2) ∨ b ∈ O.map (·.1) := (List.mem_cons.mp m).elim (fun e => .inl (e ▸ .head _)) fun m => (List.mem_append.mp m).elim (fun m => .inl (.tail _ m)) .inr
        unfold fz
        by_cases c : b ∈ O.map (·.1)
        · rw [if_pos c]
        · rw [if_neg c]; exact hnew b (hh.resolve_right c)
      bs := hbs }
  exact wpAny_mono (h L _ (fun b m => List.mem_append_right _ m) s₁ fs) (fun fl s' q => by cases fl <;> exact q) fun _ _ e => e.elim
/-- a call of a def of the text, its arguments by place -/
theorem call_ev {C : Cx} {A : Around} {fa : Addr} {o : Obj} {fd : FuncData} {body : List Stmt} {names : List Str} {vals : List Value} {Fs : List Fc} {s : Shared} {X : List Addr} {Q : Value → Shared → Prop}
    (r : Rm 1 A) (hK : C.K.lookup fa = some o) (hd : o.data = .func fd) (hb : fd.body = .stmts body) (hg : fd.globals = mainGlobals) (hbi : fd.builtins = builtinsNs) (hclo : fd.closure = []) (hcode : codeIn C.K fd.code fd.qualname = true)
    (hbind : BindsTo s fd ⟨vals, []⟩ (names.zip vals)) (hlen : names.length = vals.length) (hnd : names.Nodup) (hkinds : ∀ n ∈ names, fd.scope.names.lookup n = some .local ∨ fd.scope.names.lookup n = some .cell)
    (hck : ((cellsFrom 0 fd.scope.names []).map (·.1)).Nodup) (hS : C.In s.heap) (hl : Live X s) (al : AllF (fz X s.heap) Fs vals)
    (h : ∀ L X', (∀ b ∈ X, b ∈ X') → SB C (A.deeper (callEnvC fd L fa)) (callEnvC fd L fa) (Rst.same s) s.heap.get? X' [] (names.zip Fs) body (fun fl s' => Keeps s s' ∧ Q (match fl with | .ret v => v | _ => .none) s'))
    (hco : fd.scope.isCoroutine = false) (hgen : fd.scope.isGenerator = false) (hk : fd.scope.kind = .function) : Ev C A (call (.ref fa) vals) s Q := by
  have e0 : fz [] s.heap = s.heap.get? := funext fun a => if_neg (by simp)
  refine wpAny_call (callR_code (O := []) (Rst.same s) ⟨s.heap, s.toks, rfl⟩ r hK hd hb hg hbi hclo hcode hbind hlen hnd hkinds hck hS hl (fun h' k => hS.keeps fun b o e => k b o (by show fz [] s.heap b = _; rw [e0]; exact e)) (fun a m => by cases m) List.nodup_nil (fun a F e => by cases e) al (fun L X' hX => ?_) hco hgen hk)
  have := h L X' hX
  rw [← e0] at this
  exact this
end Mine

namespace Mine
open PySem PySem.Calls PyProof.Rows PySem.W

section
variable {C : Cx} {A : Around} {env : Env} {ρ : Rst} {G : PM} {X : List Addr} {O : Own} {V V' : Vars} {α β γ δ σ ι : Type} {pos : Pos} {rest : List Stmt} {P : Flow → Shared → Prop}
theorem FS.assignName {s : Shared} {x : Str} {p : Pos} {v : Value} {F : Fc} (f : FS C env ρ G X O V s) (hx : Stores env x) (hv : F.r (fz X s.heap) v) :
    wpAny C.M A (assign (.Name x p) env v) (fun _ s' => FS C env ρ G X O ((x, F) :: V) s' ∧ KB (env.locals :: env.cells.map (·.2)) s s') (fun _ _ => False) s := wpAny_assign_Name (f.store hx hv)
theorem kb_le {s s' : Shared} (f : FS C env ρ G X O V s) (kb : KB (env.locals :: env.cells.map (·.2)) s s') : Le (fz X s.heap) (fz X s'.heap) := kb_fz kb fun b m => (List.mem_cons.mp m).elim (fun e => e ▸ f.lx) (f.cx b)
theorem FS.two {s : Shared} {x y : Str} {t1 t2 : Value → Sem Unit} {u1 u2 : Value} {F1 F2 : Fc} (f : FS C env ρ G X O V s) (hx : Stores env x) (hy : Stores env y) (h1 : F1.r (fz X s.heap) u1) (h2 : F2.r (fz X s.heap) u2)
    (e1 : ∀ v s (Q : Unit → Shared → Prop) (E : Value → Shared → Prop), wpAny C.M A (storeName env x v) Q E s → wpAny C.M A (t1 v) Q E s) (e2 : ∀ v s (Q : Unit → Shared → Prop) (E : Value → Shared → Prop), wpAny C.M A (storeName env y v) Q E s → wpAny C.M A (t2 v) Q E s) :
    wpAny C.M A (assignInOrder [t1, t2] [u1, u2]) (fun _ s' => FS C env ρ G X O ((y, F2) :: (x, F1) :: V) s') (fun _ _ => False) s := by
  show wpAny _ _ (do holding [u2] (t1 u1); assignInOrder [t2] [u2]) _ _ _
  refine wpAny_bind (wpAny_holding (e1 _ _ _ _ (wpAny_mono (f.store (F := F1) hx h1) (fun _ s1 q => ?_) fun _ _ e => e)))
  show wpAny _ _ (do holding [] (t2 u2); pure ()) _ _ _
  refine wpAny_bind (wpAny_holding (e2 _ _ _ _ (wpAny_mono (q.1.store (F := F2) hy (F2.mono (kb_le f q.2) h2)) (fun _ s2 q2 => wpAny_pure q2.1) fun _ _ e => e)))
theorem FS.assign2 {s : Shared} {x y : Str} {p q tp : Pos} {n : Nat} {v u1 u2 : Value} {F1 F2 : Fc} (r : Rm 1 A) (f : FS C env ρ G X O V s) (hx : Stores env x) (hy : Stores env y) (hv : SeqAt "tuple" (fz X s.heap) v [u1, u2]) (h1 : F1.r (fz X s.heap) u1) (h2 : F2.r (fz X s.heap) u2) :
    wpAny C.M A (assign (.Tuple [.Name x p, .Name y q] n tp) env v) (fun _ s' => FS C env ρ G X O ((y, F2) :: (x, F1) :: V) s') (fun _ _ => False) s := by
  obtain ⟨a, k, rfl, g⟩ := hv
  refine wpAny_assign_Tuple (items := [u1, u2].toArray) r.hd ⟨_, fz_le _ _ g, rfl, _, rfl⟩ rfl rfl fun h0 hs0 => ?_
  have g0 : Keeps s { s with heap := h0 } := keeps_heap (sb_gr hs0)
  exact (f.keeps g0).two hx hy (F1.mono (fz_gr (keeps_gr g0)) h1) (F2.mono (fz_gr (keeps_gr g0)) h2) (fun _ _ _ _ h => wpAny_assign_Name h) (fun _ _ _ _ h => wpAny_assign_Name h)
/-- an assignment as its text says it -/
theorem assign_any {targets : List Expr} {e : Expr} {s : Shared} {sw : Option (List Str)} {Q : Flow → Shared → Prop} {E : Value → Shared → Prop} (hs : swapsWithSole targets e pos.line env = pure false) (hw : swappedStores targets e env = pure sw)
    (h : wpAny C.M A (eval e env) (fun v s1 => wpAny C.M A (assignStores env v sw ((assignEach targets env).map (·.2))) Q E s1) E s) : wpAny C.M A (exec (.Assign targets e pos) env) Q E s := by
  rw [arm_exec_Assign, hs]
  refine wpAny_bind (wpAny_standAt (wpAny_bind (wpAny_pure ?_)))
  rw [if_neg Bool.false_ne_true]
  refine wpAny_bind (wpAny_mono h (fun v s1 h1 => ?_) fun _ _ e => e)
  rw [hw]
  exact wpAny_bind (wpAny_pure h1)
theorem sb_assign2 {x y : Str} {p q tp : Pos} {n : Nat} {e : Expr} {R : Rl α} {S : Rl β} {a : α} {b : β} (r : Rm 1 A) (he : PE C A env X O V e (rT2 R S) (a, b)) (hx : Stores env x) (hy : Stores env y)
    (hrest : SB C A env ρ G X O ((y, S.at b) :: (x, R.at a) :: V) rest P) (hw : swappedStores [.Tuple [.Name x p, .Name y q] n tp] e env = pure none := by rfl)
    (hs : swapsWithSole [.Tuple [.Name x p, .Name y q] n tp] e pos.line env = pure false := by rfl) : SB C A env ρ G X O V (.Assign [.Tuple [.Name x p, .Name y q] n tp] e pos :: rest) P := fun s f =>
  wpAny_execs_cons (assign_any hs hw (wpAny_mono (he s f.kn) (fun v s1 h1 => by
    obtain ⟨g, u1, u2, hv, r1, r2⟩ := h1
    show wpAny _ _ (do assignAll v [assign (.Tuple [.Name x p, .Name y q] n tp) env]; pure Flow.next) _ _ _
    exact wpAny_bind (wpAny_mono ((f.keeps g).assign2 r (F1 := R.at a) (F2 := S.at b) hx hy hv r1 r2) (fun _ s2 q2 => wpAny_pure (hrest s2 q2)) fun _ _ e => e)) fun _ _ e => e))
/-- x, y = e, f where both names are the frame's own: the stores go the other way round -/
theorem sb_swap2 {x y : Str} {p q tp : Pos} {n : Nat} {e : Expr} {R : Rl α} {S : Rl β} {a : α} {b : β} (r : Rm 1 A) (he : PE C A env X O V e (rT2 R S) (a, b)) (hx : Stores env x) (hy : Stores env y)
    (hrest : SB C A env ρ G X O ((x, R.at a) :: (y, S.at b) :: V) rest P) (hw : swappedStores [.Tuple [.Name x p, .Name y q] n tp] e env = pure (some [x, y]) := by rfl)
    (hs : swapsWithSole [.Tuple [.Name x p, .Name y q] n tp] e pos.line env = pure false := by rfl) : SB C A env ρ G X O V (.Assign [.Tuple [.Name x p, .Name y q] n tp] e pos :: rest) P := fun s f =>
  wpAny_execs_cons (assign_any hs hw (wpAny_mono (he s f.kn) (fun v s1 h1 => by
    obtain ⟨g, u1, u2, ⟨t, k, rfl, gt⟩, r1, r2⟩ := h1
    show wpAny _ _ (do
      rule "assign.swapped-stores"
      let items ← unpackItems (.ref t) 2 none
      assignInOrder ([x, y].reverse.map fun n => bindName env n) items.reverse
      pure Flow.next) _ _ _
    refine wpAny_bind (wpAny_rule (wpAny_bind ?_))
    refine wpAny_unpackItems_tuple (items := [u1, u2].toArray) r.hd ⟨_, fz_le _ _ gt, rfl, _, rfl⟩ fun h0 hs0 => ?_
    have g0 : Keeps s1 { s1 with heap := h0 } := keeps_heap (sb_gr hs0)
    refine wpAny_bind (wpAny_mono ((f.keeps (keeps_trans g g0)).two (t1 := fun v => bindName env y v) (t2 := fun v => bindName env x v) (F1 := S.at b) (F2 := R.at a) hy hx (S.mono (fz_gr (keeps_gr g0)) r2) (R.mono (fz_gr (keeps_gr g0)) r1)
      (fun _ _ _ _ h => wpAny_bindName h) (fun _ _ _ _ h => wpAny_bindName h)) (fun _ s2 q2 => wpAny_pure (hrest s2 q2)) fun _ _ e => e)) fun _ _ e => e))
/-- x = y = z = e -/
theorem sb_assign3 {x y z : Str} {p q pz : Pos} {e : Expr} {R : Rl α} {a : α} (he : PE C A env X O V e R a) (hx : Stores env x) (hy : Stores env y) (hz : Stores env z)
    (hrest : SB C A env ρ G X O ((z, R.at a) :: (y, R.at a) :: (x, R.at a) :: V) rest P) (hw : swappedStores [.Name x p, .Name y q, .Name z pz] e env = pure none := by rfl)
    (hs : swapsWithSole [.Name x p, .Name y q, .Name z pz] e pos.line env = pure false := by rfl) : SB C A env ρ G X O V (.Assign [.Name x p, .Name y q, .Name z pz] e pos :: rest) P := fun s f =>
  wpAny_execs_cons (assign_any hs hw (wpAny_mono (he s f.kn) (fun v s1 h1 => by
    obtain ⟨g, hr⟩ := h1
    show wpAny _ _ (do
      let _ ← (do holding [v] (assign (.Name x p) env v); (do holding [v] (assign (.Name y q) env v); assign (.Name z pz) env v))
      pure Flow.next) _ _ _
    refine wpAny_bind (wpAny_bind (wpAny_holding (wpAny_mono ((f.keeps g).assignName (F := R.at a) hx hr) (fun _ s2 q2 => ?_) fun _ _ e => e)))
    have r2 := R.mono (kb_le (f.keeps g) q2.2) hr
    refine wpAny_bind (wpAny_holding (wpAny_mono (q2.1.assignName (F := R.at a) hy r2) (fun _ s3 q3 => ?_) fun _ _ e => e))
    have r3 := R.mono (kb_le q2.1 q3.2) r2
    exact wpAny_mono (q3.1.assignName (F := R.at a) hz r3) (fun _ s4 q4 => wpAny_pure (hrest s4 q4.1)) fun _ _ e => e) fun _ _ e => e))

/-! choices -/
noncomputable def PN (P : Flow → Shared → Prop) (N : Shared → Prop) : Flow → Shared → Prop
  | .next, s => N s
  | f, s => P f s
theorem sb_if {test : Expr} {body orelse : List Stmt} {b : Bool} (ht : PT C A env X O V test b) (h1 : b = true → SB C A env ρ G X O V body (PN P (FS C env ρ G X O V'))) (h2 : b = false → SB C A env ρ G X O V orelse (PN P (FS C env ρ G X O V')))
    (hrest : SB C A env ρ G X O V' rest P) : SB C A env ρ G X O V (.If test body orelse pos :: rest) P := fun s f =>
  wpAny_execs_cons (wpAny_If (wpAny_mono (ht s f.kn) (fun c s1 q => by
    obtain ⟨g, rfl⟩ := q
    cases c with
    | true => exact wpAny_mono (h1 rfl s1 (f.keeps g)) (fun fl s2 q => by cases fl <;> first | exact hrest s2 q | exact q) fun _ _ e => e
    | false => exact wpAny_mono (h2 rfl s1 (f.keeps g)) (fun fl s2 q => by cases fl <;> first | exact hrest s2 q | exact q) fun _ _ e => e) fun _ _ e => e))
/-- a test that does not hold, nothing else -/
theorem sb_skip {test : Expr} {body : List Stmt} (ht : PT C A env X O V test false) (hrest : SB C A env ρ G X O V rest P) : SB C A env ρ G X O V (.If test body [] pos :: rest) P :=
  sb_if (V' := V) ht (fun h => by cases h) (fun _ => sb_nil fun s f => f) hrest
/-! loops -/
theorem sb_whileO {test : Expr} {body : List Stmt} (m : ι → Nat) (Oo : ι → Own) (Vv : ι → Vars) (bv : ι → Bool) (I : ι → Prop) {i₀ : ι} (h₀ : I i₀) (hV : VSub (Vv i₀) V) (ht : ∀ i, I i → PT C A env X (Oo i) (Vv i) test (bv i))
    (turn : ∀ i, I i → bv i = true → SB C A env ρ G X (Oo i) (Vv i) body (fun fl s' => match fl with | .next | .cont => ∃ j, I j ∧ m j < m i ∧ FS C env ρ G X (Oo j) (Vv j) s' | .brk => False | .ret v => P (.ret v) s'))
    (done : ∀ i, I i → bv i = false → SB C A env ρ G X (Oo i) (Vv i) rest P) : SB C A env ρ G X (Oo i₀) V (.While test body [] pos :: rest) P := fun s f =>
  wpAny_execs_cons (wpAny_While (codeAny_whileLoop (R := fun r s' => match r with | .ok fl => (match fl with | .next => wpAny C.M A (execs rest env) P (fun _ _ => False) s' | fl => P fl s') | .error e => cameBackBy C.M A env (fun _ _ => False) e s')
    (fun n s' => ∃ i, n = m i ∧ I i ∧ FS C env ρ G X (Oo i) (Vv i) s') (fun n s' hI => by
      obtain ⟨i, rfl, hi, fs⟩ := hI
      refine wpAny_mono (ht i hi s' fs.kn) (fun b s1 q => ?_) fun _ _ e => e.elim
      obtain ⟨g, rfl⟩ := q
      cases hb : bv i with
      | true =>
        rw [if_pos rfl]
        refine wpAny_mono (turn i hi hb s1 (fs.keeps g)) (fun fl s2 q => ?_) fun _ _ e => e.elim
        cases fl with
        | next => obtain ⟨j, hj, hm, f2⟩ := q; exact ⟨m j, hm, j, rfl, hj, f2⟩
        | cont => obtain ⟨j, hj, hm, f2⟩ := q; exact ⟨m j, hm, j, rfl, hj, f2⟩
        | brk => exact q.elim
        | ret v => exact q
      | false =>
        rw [if_neg Bool.false_ne_true]
        exact wpAny_execs_nil (done i hi hb s1 (fs.keeps g))) (m i₀) ⟨i₀, rfl, h₀, f.sub hV⟩))
theorem sb_while {test : Expr} {body : List Stmt} (m : ι → Nat) (Vv : ι → Vars) (bv : ι → Bool) (I : ι → Prop) {i₀ : ι} (h₀ : I i₀) (hV : VSub (Vv i₀) V) (ht : ∀ i, I i → PT C A env X O (Vv i) test (bv i))
    (turn : ∀ i, I i → bv i = true → SB C A env ρ G X O (Vv i) body (fun fl s' => match fl with | .next | .cont => ∃ j, I j ∧ m j < m i ∧ FS C env ρ G X O (Vv j) s' | .brk => False | .ret v => P (.ret v) s'))
    (done : ∀ i, I i → bv i = false → SB C A env ρ G X O (Vv i) rest P) : SB C A env ρ G X O V (.While test body [] pos :: rest) P :=
  sb_whileO m (fun _ => O) Vv bv I h₀ hV ht turn done
end
end Mine

namespace Mine
open PySem PySem.Calls PyProof.Rows PySem.W

noncomputable def AsgR {α : Type} (C : Cx) (A : Around) (env : Env) (target : Expr) (R : Rl α) (B : α → Vars) : Prop :=
  ∀ ρ G X O V s v a, FS C env ρ G X O V s → R.r (fz X s.heap) a v → wpAny C.M A (assign target env v) (fun _ s' => FS C env ρ G X O (B a ++ V) s') (fun _ _ => False) s
section
variable {C : Cx} {A : Around} {env : Env} {ρ : Rst} {G G' : PM} {X X' : List Addr} {O : Own} {V V' : Vars} {α β γ δ σ ι : Type} {pos : Pos} {rest : List Stmt} {P : Flow → Shared → Prop}
theorem asg_name {x : Str} {p : Pos} {R : Rl α} (hx : Stores env x) : AsgR C A env (.Name x p) R (fun a => [(x, R.at a)]) := fun ρ G X O V s v a f hr =>
  wpAny_mono (f.assignName (F := R.at a) hx hr) (fun _ s' q => q.1) fun _ _ e => e
theorem asg_t2 {x y : Str} {p q tp : Pos} {n : Nat} {R : Rl α} {S : Rl β} (r : Rm 1 A) (hx : Stores env x) (hy : Stores env y) : AsgR C A env (.Tuple [.Name x p, .Name y q] n tp) (rT2 R S) (fun a => [(y, S.at a.2), (x, R.at a.1)]) := fun ρ G X O V s v a f hr => by
  obtain ⟨u1, u2, hv, r1, r2⟩ := hr
  exact f.assign2 r (F1 := R.at a.1) (F2 := S.at a.2) hx hy hv r1 r2
theorem fz_perm {X X' : List Addr} {h : Heap} (hm : ∀ b, b ∈ X ↔ b ∈ X') : fz X h = fz X' h := by
  funext b; unfold fz; by_cases m : b ∈ X
  · rw [if_pos m, if_pos ((hm b).mp m)]
  · rw [if_neg m, if_neg fun m' => m ((hm b).mpr m')]
theorem FS.perm {s : Shared} (f : FS C env ρ G X O V s) (hm : ∀ b, b ∈ X ↔ b ∈ X') : FS C env ρ G X' O V s :=
  ⟨⟨f.kn.base, f.kn.fn, f.kn.gl, f.kn.bi, fun a m => f.kn.alive a ((hm a).mpr m), by rw [← fz_perm hm]; exact f.kn.vars, by rw [← fz_perm hm]; exact f.kn.own⟩, f.rs, (hm _).mp f.lx, f.fr, fun c m => (hm c).mp (f.cx c m), f.ap,
    fun a m => ⟨(hm a).mp (f.ox a m).1, (f.ox a m).2⟩, f.on, f.keep, f.gn, f.bs⟩
theorem FS.up {s : Shared} (f : FS C env ρ G X O V s) (le : Le G G') (hk : ∀ b o, G' b = some o → s.heap.get? b = some o) (hn : ∀ b ∈ env.locals :: (env.cells.map (·.2) ++ O.map (·.1)), G' b = none) : FS C env ρ G' X O V s :=
  ⟨f.kn, f.rs, f.lx, f.fr, f.cx, f.ap, f.ox, f.on, hk, hn, fun h k => f.bs h fun b o e => k b o (le b o e)⟩
theorem FS.down {s : Shared} (f : FS C env ρ G' X O V s) (le : Le G G') (hbs : ∀ h : Heap, (∀ b o, G b = some o → h.get? b = some o) → C.In h) : FS C env ρ G X O V s :=
  ⟨f.kn, f.rs, f.lx, f.fr, f.cx, f.ap, f.ox, f.on, fun b o e => f.keep b o (le b o e), (fun b m => by
    cases e : G b with
    | none => rfl
    | some o => have := f.gn b m; rw [le b o e] at this; cases this), hbs⟩
/-- objects outside the frame, but within X, are changed -/
theorem FS.touch {s s' : Shared} {W : List Addr} (f : FS C env ρ G X O V s) (kb : KB W s s') (hW : ∀ b ∈ W, b ∈ X) (h1 : ∀ b ∈ env.locals :: (env.cells.map (·.2) ++ O.map (·.1)), b ∉ W) (h4 : ∀ d ∈ W, G d = none) (hl : ∀ d ∈ W, ∃ o, s'.heap.get? d = some o) : FS C env ρ G X O V s' := by
  have keep : ∀ b o, G b = some o → s'.heap.get? b = some o := fun b o e => kb_get kb (fun m => by rw [h4 b m] at e; cases e) (f.keep b o e)
  have hL : env.locals ∉ W := h1 _ (.head _)
  have hc : ∀ c ∈ env.cells.map (·.2), c ∉ W := fun c m => h1 _ (.tail _ (List.mem_append_left _ m))
  have ho : ∀ c ∈ O.map (·.1), c ∉ W := fun c m => h1 _ (.tail _ (List.mem_append_right _ m))
  have hcl : ∀ x c, env.cells.lookup x = some c → c ∉ W := fun x c e => hc c (List.mem_map.mpr ⟨_, mem_of_lookup e, rfl⟩)
  refine ⟨⟨f.bs _ keep, f.kn.fn, f.kn.gl, f.kn.bi, fun a m => ?_, fun x F e => ?_, fun a F e => ?_⟩, rst_kb f.rs kb, f.lx, ⟨?_, fun c m => ?_⟩, f.cx, f.ap, f.ox, f.on, keep, f.gn, f.bs⟩
  · by_cases h : a ∈ W
    · exact hl a h
    · obtain ⟨o, e⟩ := f.kn.alive a m; exact ⟨o, kb_get kb h e⟩
  · obtain ⟨v, sv, hr⟩ := f.kn.vars x F e
    refine ⟨v, ?_, F.mono (kb_fz kb hW) hr⟩
    cases sv with
    | loc hk m hn hv =>
      obtain ⟨o, es, ep, ho, r⟩ := hn
      exact .loc hk m ⟨o, es, ep, kb_get kb hL ho, r⟩ hv
    | cel hk c hc hv =>
      obtain ⟨o, ho, hd⟩ := hv
      exact .cel hk c hc ⟨o, kb_get kb (hcl x c hc) ho, hd⟩
    | fre hk hd' c hc hv =>
      obtain ⟨o, ho, hd⟩ := hv
      exact .fre hk hd' c hc ⟨o, kb_get kb (hcl x c hc) ho, hd⟩
  · obtain ⟨o, p, q⟩ := f.kn.own a F e
    exact ⟨o, kb_get kb (ho a (lookup_key e)) p, F.mono (kb_fz kb hW) q⟩
  · obtain ⟨m, o, es, ep, ho, r⟩ := f.fr.ns; exact ⟨m, o, es, ep, kb_get kb hL ho, r⟩
  · obtain ⟨v, o, ho, hd⟩ := f.fr.cell c m; exact ⟨v, o, kb_get kb (hc c m) ho, hd⟩

/-- what a loop's body leaves -/
noncomputable def TurnP (C : Cx) (env : Env) (ρ : Rst) (G : PM) (X : List Addr) (Xx : ι → List Addr) (Oo : ι → Own) (Vv : ι → Vars) (J Jb : ι → Prop) (P : Flow → Shared → Prop) : Flow → Shared → Prop := fun fl s' => match fl with
  | .next | .cont => ∃ j', J j' ∧ FS C env ρ G (Xx j' ++ X) (Oo j') (Vv j') s'
  | .brk => ∃ j', Jb j' ∧ FS C env ρ G (Xx j' ++ X) (Oo j') (Vv j') s'
  | .ret v => P (.ret v) s'
theorem sb_for {target iter : Expr} {body : List Stmt} {S : Rl σ} {xv : σ} {R : Rl α} {xs : List α} {X₀ : List Addr} (J : Nat → ι → Prop) (Jb : ι → Prop) (Xx : ι → List Addr) (Oo : ι → Own) (Vv : ι → Vars) (B : α → Vars) {j₀ : ι}
    (hsrc : PE C A env (Xx j₀ ++ X₀) (Oo j₀) V iter S xv) (hit : IterR C A target S xv R xs) (htgt : AsgR C A env target R B) (hX : ∀ j, ∀ b ∈ Xx j, b ∈ (Oo j).map (·.1)) (h0 : J 0 j₀) (hV : VSub (Vv j₀) V)
    (turn : ∀ G' X' i j a, (∀ b ∈ X₀, b ∈ X') → (∀ b ∈ Xx j, b ∉ X₀ → b ∉ X') → J i j → xs[i]? = some a → SB C A env ρ G' (Xx j ++ X') (Oo j) (B a ++ Vv j) body (TurnP C env ρ G' X' Xx Oo Vv (J (i + 1)) Jb P))
    (hrest : ∀ j, J xs.length j ∨ Jb j → SB C A env ρ G (Xx j ++ X₀) (Oo j) (Vv j) rest P)
    (hs : ∀ x, foldedSetIterable iter env x = pure x := by intro _; rfl) : SB C A env ρ G (Xx j₀ ++ X₀) (Oo j₀) V (.For target iter body [] pos :: rest) P := fun s f => by
  refine wpAny_execs_cons (wpAny_For ((hsrc s f.kn).use fun v s1 g1 r1 => ?_) hs)
  have f1 := f.keeps g1
  refine (hit _ s1 v f1.kn.base f1.kn.alive r1).use fun it s2 g2 q => ?_
  obtain ⟨wr, fp, St, W, st0, hwr, hfp⟩ := q
  have hwX : ∀ b ∈ Xx j₀ ++ X₀, b ∉ wr := fun b m n => by
    obtain ⟨o, e⟩ := f1.kn.alive b m; rw [hwr b n] at e; cases e
  have hGw : ∀ d ∈ wr, G d = none := fun d m => by
    cases e : G d with
    | none => rfl
    | some o => have := f1.keep d o e; rw [hwr d m] at this; cases this
  have hmm : ∀ (T : List Addr) b, b ∈ wr ++ (T ++ X₀) ↔ b ∈ T ++ (wr ++ X₀) := fun T b => by simp only [List.mem_append]; exact ⟨fun h => h.elim (fun h => .inr (.inl h)) fun h => h.elim .inl fun h => .inr (.inr h), fun h => h.elim (fun h => .inr (.inl h)) fun h => h.elim .inl fun h => .inr (.inr h)⟩
  have f2 : FS C env ρ G (wr ++ (Xx j₀ ++ X₀)) (Oo j₀) V s2 := f1.grow g2 hwr fun d m => W.live 0 _ st0 d (W.sub d m)
  let Inv : Nat → Shared → Prop := fun n s => ∃ i j, n = xs.length - i ∧ i ≤ xs.length ∧ J i j ∧ FS C env ρ G (Xx j ++ (wr ++ X₀)) (Oo j) (Vv j) s ∧ St i s.heap ∧ (∀ b ∈ env.locals :: (env.cells.map (·.2) ++ (Oo j).map (·.1)), b ∉ fp) ∧
    Le (fz (Xx j₀ ++ X₀) s1.heap) (fz (Xx j ++ (wr ++ X₀)) s.heap)
  have inX : ∀ {X : List Addr} {O : Own} {V : Vars} {G : PM} {s : Shared}, FS C env ρ G X O V s → ∀ b ∈ env.locals :: (env.cells.map (·.2) ++ O.map (·.1)), b ∈ X := fun f b m =>
    (List.mem_cons.mp m).elim (fun e => e ▸ f.lx) fun m => (List.mem_append.mp m).elim (f.cx b) fun m => (f.ox b m).1
  -- leaving the loop
  have leave : ∀ j s s', FS C env ρ G (Xx j ++ (wr ++ X₀)) (Oo j) (Vv j) s → (∀ b ∈ env.locals :: (env.cells.map (·.2) ++ (Oo j).map (·.1)), b ∉ fp) → KB wr s s' → FS C env ρ G (Xx j ++ X₀) (Oo j) (Vv j) s' := fun j s s' fs hn kb => by
    have hw : ∀ b ∈ env.locals :: (env.cells.map (·.2) ++ (Oo j).map (·.1)), b ∉ wr := fun b m n => hn b m (W.sub b n)
    have back : ∀ b, b ∈ Xx j ++ (wr ++ X₀) → b ∉ wr → b ∈ Xx j ++ X₀ := fun b m n => (List.mem_append.mp ((hmm (Xx j) b).mpr m)).elim (fun h => absurd h n) id
    have hL := hw env.locals (.head _)
    have hC : ∀ c ∈ env.cells.map (·.2), c ∉ wr := fun c m => hw c (.tail _ (List.mem_append_left _ m))
    have hO : ∀ c ∈ (Oo j).map (·.1), c ∉ wr := fun c m => hw c (.tail _ (List.mem_append_right _ m))
    refine (fs.perm fun b => (hmm (Xx j) b).symm).drop kb hL hC hO hGw (fun x m n => ?_) (back _ fs.lx hL) (fun c m => back c (fs.cx c m) (hC c m)) (fun a m => back a (fs.ox a m).1 (hO a m)) fun x c e => hC c (List.mem_map.mpr ⟨_, mem_of_lookup e, rfl⟩)
    rcases List.mem_append.mp m with m | m
    · exact hO x (hX j x m) n
    · exact hwX x (List.mem_append_right _ m) n
  refine codeAny_forLoop_any (R := fun r s' => match r with | .ok fl => (match fl with | .next => wpAny C.M A (execs rest env) P (fun _ _ => False) s' | fl => P fl s') | .error e => cameBackBy C.M A env _ e s') Inv (fun n s hI => ?_) xs.length ?_
  · obtain ⟨i, j, rfl, hi, hj, fs, st, hn, hle⟩ := hI
    have hw : ∀ b ∈ env.locals :: (env.cells.map (·.2) ++ (Oo j).map (·.1)), b ∉ wr := fun b m n => hn b m (W.sub b n)
    have hwY : ∀ b ∈ wr, b ∈ Xx j ++ (wr ++ X₀) := fun b m => List.mem_append_right _ (List.mem_append_left _ m)
    by_cases hlt : i < xs.length
    · have hx : xs[i]? = some xs[i] := List.getElem?_eq_getElem hlt
      refine wpAny_mono (W.item (Xx j ++ (wr ++ X₀)) i s _ st hle fs.kn.alive hwY hx) (fun r s3 q => ?_) fun _ _ e => e.elim
      obtain ⟨v, rfl, kb3, q⟩ := q
      refine wpAny_mono q (fun _ s4 q4 => ?_) fun _ _ e => e.elim
      obtain ⟨kb4, hr, st4⟩ := q4
      have f4 : FS C env ρ G (Xx j ++ (wr ++ X₀)) (Oo j) (Vv j) s4 := fs.touch kb4 hwY hw hGw fun d m => W.live _ _ st4 d (W.sub d m)
      let G' : PM := fun b => if b ∈ fp ∨ b ∉ Xx j ++ (wr ++ X₀) then s4.heap.get? b else G b
      have leG : Le G G' := fun b o e => by
        show (if _ then _ else _) = _
        by_cases c : b ∈ fp ∨ b ∉ Xx j ++ (wr ++ X₀)
        · rw [if_pos c]; exact f4.keep b o e
        · rw [if_neg c]; exact e
      have keep' : ∀ b o, G' b = some o → s4.heap.get? b = some o := fun b o e => by
        by_cases c : b ∈ fp ∨ b ∉ Xx j ++ (wr ++ X₀)
        · exact ((if_pos c).symm.trans e : s4.heap.get? b = some o)
        · exact f4.keep b o ((if_neg c).symm.trans e : G b = some o)
      have f5 : FS C env ρ G' (Xx j ++ (wr ++ X₀)) (Oo j) (Vv j) s4 := f4.up leG keep' fun b m => by
        show (if _ then _ else _) = _
        rw [if_neg fun c => c.elim (hn b m) fun c => c (inX f4 b m)]; exact f4.gn b m
      refine wpAny_mono (htgt _ _ _ _ _ _ _ _ f5 hr) (fun _ s6 f6 => ?_) fun _ _ e => e.elim
      have after : ∀ j' s', FS C env ρ G' (Xx j' ++ (wr ++ X₀)) (Oo j') (Vv j') s' → FS C env ρ G (Xx j' ++ (wr ++ X₀)) (Oo j') (Vv j') s' ∧ St (i + 1) s'.heap ∧ (∀ b ∈ env.locals :: (env.cells.map (·.2) ++ (Oo j').map (·.1)), b ∉ fp) ∧
          Le (fz (Xx j₀ ++ X₀) s1.heap) (fz (Xx j' ++ (wr ++ X₀)) s'.heap) := fun j' s' f' => by
        have hfpG : ∀ b ∈ fp, G' b = s4.heap.get? b := fun b m => if_pos (.inl m)
        refine ⟨f'.down leG f4.bs, W.frame _ _ _ st4 fun b m o e => f'.keep b o ((hfpG b m).trans e), fun b m n => ?_, hle.trans ((kb_fz kb4 hwY).trans (fz_but fun b o n e => ?_))⟩
        · obtain ⟨o, e⟩ := W.live _ _ st4 b n
          have := f'.gn b m; rw [hfpG b n, e] at this; cases this
        · have e' : G' b = some o := (if_pos (.inr n)).trans e
          refine ⟨f'.keep b o e', fun m => ?_⟩
          rcases List.mem_append.mp m with m | m
          · have := f'.gn b (.tail _ (List.mem_append_right _ (hX j' b m))); rw [e'] at this; cases this
          · exact n (List.mem_append_right _ m)
      refine wpAny_mono (turn G' (wr ++ X₀) i j _ (fun b m => List.mem_append_right _ m) (fun b m n m' => (List.mem_append.mp m').elim (hw b (.tail _ (List.mem_append_right _ (hX j b m)))) n) hj hx s6 f6) (fun fl s7 q7 => ?_) fun _ _ e => e.elim
      have nx : (∃ j', J (i + 1) j' ∧ FS C env ρ G' (Xx j' ++ (wr ++ X₀)) (Oo j') (Vv j') s7) → ∃ m, m < xs.length - i ∧ Inv m s7 := fun ⟨j', hj', f'⟩ => by
        obtain ⟨a, b, c, d⟩ := after j' s7 f'
        exact ⟨xs.length - (i + 1), by omega, i + 1, j', rfl, hlt, hj', a, b, c, d⟩
      cases fl with
      | next => exact nx q7
      | cont => exact nx q7
      | brk =>
        obtain ⟨j', hj', f'⟩ := q7
        obtain ⟨a, _, c, _⟩ := after j' s7 f'
        exact hrest j' (.inr hj') s7 (leave j' s7 s7 a c kb_refl)
      | ret v => exact q7
    · have hi' : i = xs.length := by omega
      subst hi'
      refine wpAny_mono (W.done s st) (fun r s3 q => ?_) fun _ _ e => e.elim
      obtain ⟨rfl, kb⟩ := q
      exact wpAny_execs_nil (hrest j (.inl hj) s3 (leave j s s3 fs hn kb))
  · refine ⟨0, j₀, rfl, Nat.zero_le _, h0, (f2.sub hV).perm (hmm _), st0, fun b m n => ?_, fz_but fun b o n e => ⟨keeps_gr g2 b o e, fun m => ?_⟩⟩
    · have mX := inX f1 b m
      exact (hfp b n).elim (hwX b mX) fun h => h mX
    · rcases List.mem_append.mp ((hmm _ b).mpr m) with m | m
      · rw [hwr b m] at e; cases e
      · exact n m
/-- a loop that ends as its items end, with no new list -/
theorem sb_forN {target iter : Expr} {body : List Stmt} {S : Rl σ} {xv : σ} {R : Rl α} {xs : List α} (Oo : Nat → Own) (Vv : Nat → Vars) (B : α → Vars)
    (hsrc : PE C A env X (Oo 0) V iter S xv) (hit : IterR C A target S xv R xs) (htgt : AsgR C A env target R B) (hV : VSub (Vv 0) V)
    (turn : ∀ G' X' i a, (∀ b ∈ X, b ∈ X') → xs[i]? = some a → SB C A env ρ G' X' (Oo i) (B a ++ Vv i) body (PN (fun _ _ => False) (FS C env ρ G' X' (Oo (i + 1)) (Vv (i + 1)))))
    (hrest : SB C A env ρ G X (Oo xs.length) (Vv xs.length) rest P)
    (hs : ∀ x, foldedSetIterable iter env x = pure x := by intro _; rfl) : SB C A env ρ G X (Oo 0) V (.For target iter body [] pos :: rest) P :=
  sb_for (ι := Nat) (X₀ := X) (fun i j => j = i) (fun _ => False) (fun _ => []) Oo Vv B (j₀ := 0) hsrc hit htgt (fun _ b m => by cases m) rfl hV
    (fun G' X' i j a hX _ e hx s f => by subst e; exact wpAny_mono (turn G' X' j a hX hx s f) (fun fl s' q => by cases fl <;> first | exact ⟨_, rfl, q⟩ | exact q.elim) fun _ _ e => e)
    (fun j e s f => by rcases e with rfl | e; exact hrest s f; exact e.elim) hs
end
end Mine

namespace Mine
open PySem PySem.Calls PyProof.Rows PySem.W

/-- a list object that only this frame knows -/
noncomputable def ocList {α : Type} (R : Rl α) (xs : List α) : Oc := ⟨fun G o => ∃ vs n, o = { cls := .type "list", data := .seq vs.toArray n } ∧ All2 R G xs vs, fun k h => by obtain ⟨vs, n, e, a⟩ := h; exact ⟨vs, n, e, a.mono k⟩⟩
noncomputable def Flat {α : Type} (R : Rl α) : Prop := ∀ G G' x v, R.r G x v → R.r G' x v
theorem flat_int : Flat rInt := fun _ _ _ _ h => h
section
variable {C : Cx} {A : Around} {env : Env} {ρ : Rst} {G G' : PM} {X X' : List Addr} {O : Own} {V V' : Vars} {α β γ δ σ ι : Type} {pos : Pos} {rest : List Stmt} {P : Flow → Shared → Prop}
theorem Kn.thaw {s : Shared} {x : Str} {a : Addr} {R : Rl α} {xs : List α} (k : Kn C env X O V s) (hv : V.lookup x = some (rVal.at (.ref a))) (ho : O.lookup a = some (ocList R xs)) (hX : ∀ b ∈ X', b ∈ X) (ha : a ∉ X') :
    Kn C env X' O ((x, (rList R).at xs) :: V) s := by
  have le : Le (fz X s.heap) (fz X' s.heap) := fz_sub hX
  refine ⟨k.base, k.fn, k.gl, k.bi, fun b m => k.alive b (hX b m), fun y F e => ?_, fun b F e => let ⟨o, p, q⟩ := k.own b F e; ⟨o, p, F.mono le q⟩⟩
  rcases lookup_cons_some e with ⟨rfl, rfl⟩ | ⟨_, e⟩
  · obtain ⟨v, sv, rfl⟩ := k.vars _ _ hv
    obtain ⟨o, p, vs, n, rfl, al⟩ := k.own _ _ ho
    exact ⟨_, sv, vs, ⟨a, n, rfl, fz_of p ha⟩, al.mono le⟩
  · obtain ⟨v, sv, r⟩ := k.vars _ _ e; exact ⟨v, sv, F.mono le r⟩
theorem pe_thaw {x : Str} {a : Addr} {R : Rl α} {xs : List α} {e : Expr} {T : Rl β} {t : β} (hT : Flat T) (hv : V.lookup x = some (rVal.at (.ref a))) (ho : O.lookup a = some (ocList R xs))
    (h : ∀ X', PE C A env X' O ((x, (rList R).at xs) :: V) e T t) : PE C A env X O V e T t := fun s k =>
  (h (X.filter (· ≠ a)) s (k.thaw hv ho (fun b m => (List.mem_filter.mp m).1) fun m => by simp at m)).mono fun v s' _ r => hT _ _ _ _ r
theorem pt_thaw {x : Str} {a : Addr} {R : Rl α} {xs : List α} {e : Expr} {t : Bool} (hv : V.lookup x = some (rVal.at (.ref a))) (ho : O.lookup a = some (ocList R xs))
    (h : ∀ X', PT C A env X' O ((x, (rList R).at xs) :: V) e t) : PT C A env X O V e t := fun s k =>
  h (X.filter (· ≠ a)) s (k.thaw hv ho (fun b m => (List.mem_filter.mp m).1) fun m => by simp at m)
theorem FS.freeze {s : Shared} {x : Str} {a : Addr} {R : Rl α} {xs : List α} (f : FS C env ρ G (a :: X) ((a, ocList R xs) :: O) V s) (hv : V.lookup x = some (rVal.at (.ref a))) (ha : a ∉ X) : FS C env ρ G X O ((x, (rList R).at xs) :: V) s := by
  have hon := List.nodup_cons.mp f.on
  have k := f.kn.thaw (X' := X) hv (by rw [List.lookup_cons, beq_self_eq_true]) (fun b m => .tail _ m) ha
  have ox := f.ox a (.head _)
  have back : ∀ b, b ∈ a :: X → b ≠ a → b ∈ X := fun b m n => (List.mem_cons.mp m).elim (fun e => absurd e n) id
  refine ⟨⟨k.base, k.fn, k.gl, k.bi, k.alive, k.vars, fun b F e => k.own b F ?_⟩, f.rs, back _ f.lx fun e => ox.2 (e ▸ .head _), f.fr, fun c m => back c (f.cx c m) fun e => ox.2 (e ▸ .tail _ m), f.ap, fun b m => ⟨back b (f.ox b (.tail _ m)).1 fun e => hon.1 (e ▸ m), (f.ox b (.tail _ m)).2⟩,
    hon.2, f.keep, fun b m => f.gn b ?_, f.bs⟩
  · rw [List.lookup_cons]
    have : (b == a) = false := by
      cases hb : b == a with
      | false => rfl
      | true => exact absurd (eq_of_beq hb ▸ lookup_key e) hon.1
    rw [this]; exact e
  · rcases List.mem_cons.mp m with m | m
    · exact m ▸ .head _
    · rcases List.mem_append.mp m with m | m
      · exact .tail _ (List.mem_append_left _ m)
      · exact .tail _ (List.mem_append_right _ (.tail _ m))
theorem sb_freeze {x : Str} {a : Addr} {R : Rl α} {xs : List α} (hv : V.lookup x = some (rVal.at (.ref a))) (ha : a ∉ X) (h : SB C A env ρ G X O ((x, (rList R).at xs) :: V) rest P) : SB C A env ρ G (a :: X) ((a, ocList R xs) :: O) V rest P := fun s f => h s (f.freeze hv ha)
/-- a new object that this frame alone knows -/
theorem FS.own {s s' : Shared} {a : Addr} {F : Oc} {o : Obj} (f : FS C env ρ G X O V s) (g : Keeps s s') (hn : s.heap.get? a = none) (ho : s'.heap.get? a = some o) (hF : F.r (fz X s.heap) o) : FS C env ρ G (a :: X) ((a, F) :: O) V s' ∧ a ∉ X := by
  have f1 := f.grow (Ds := [a]) g (fun d m => by rw [List.mem_singleton.mp m]; exact hn) (fun d m => by rw [List.mem_singleton.mp m]; exact ⟨o, ho⟩)
  have haX : a ∉ X := fun m => by obtain ⟨o, e⟩ := f.kn.alive a m; rw [hn] at e; cases e
  have hGa : G a = none := by
    cases e : G a with
    | none => rfl
    | some o => have := f.keep a o e; rw [hn] at this; cases this
  have hlive : ∀ b ∈ env.locals :: env.cells.map (·.2), b ≠ a := fun b m e => by
    rcases List.mem_cons.mp m with m | m
    · exact haX (e ▸ m ▸ f.lx)
    · exact haX (e ▸ f.cx b m)
  have hx : ∀ m ∈ env.locals :: (env.cells.map (·.2) ++ ((a, F) :: O).map (·.1)), m = a ∨ m ∈ env.locals :: (env.cells.map (·.2) ++ O.map (·.1)) := fun m h => by
    rcases List.mem_cons.mp h with h | h
    · exact .inr (h ▸ .head _)
    · rcases List.mem_append.mp h with h | h
      · exact .inr (.tail _ (List.mem_append_left _ h))
      · rcases List.mem_cons.mp h with h | h
        · exact .inl h
        · exact .inr (.tail _ (List.mem_append_right _ h))
  have hOa : a ∉ O.map (·.1) := fun m => haX (f.ox a m).1
  refine ⟨⟨⟨f1.kn.base, f1.kn.fn, f1.kn.gl, f1.kn.bi, f1.kn.alive, f1.kn.vars, fun b F' e => ?_⟩, f1.rs, f1.lx, f1.fr, f1.cx, f1.ap, fun b m => ?_, List.nodup_cons.mpr ⟨hOa, f1.on⟩, f1.keep, fun b m => (hx b m).elim (fun e => e ▸ hGa) (f1.gn b), f1.bs⟩, haX⟩
  · rw [List.lookup_cons] at e
    cases hb : b == a with
    | true =>
      rw [hb] at e; cases e
      obtain rfl := eq_of_beq hb
      refine ⟨o, ho, F.mono (fz_but fun c oc n e => ⟨keeps_gr g c oc e, fun m => ?_⟩) hF⟩
      rcases List.mem_cons.mp m with rfl | m
      · rw [hn] at e; cases e
      · exact n m
    | false => rw [hb] at e; exact f1.kn.own b F' e
  · rcases List.mem_cons.mp m with rfl | m
    · exact ⟨.head _, fun m => hlive _ m rfl⟩
    · exact f1.ox b m
theorem sb_newlist {x : Str} {p p' : Pos} {es : List Expr} {R : Rl α} {xs : List α} (h : PL C A env X O V es (xs.map R.at)) (hz : xs.length ≤ sizeLine) (hx : Stores env x)
    (hrest : ∀ a, a ∉ X → SB C A env ρ G (a :: X) ((a, ocList R xs) :: O) ((x, rVal.at (.ref a)) :: V) rest P)
    (hs : swapsWith (.List es p') (some (.Name x p)) pos.line env = pure false := by rfl) : SB C A env ρ G X O V (.Assign [.Name x p] (.List es p') pos :: rest) P := fun s f =>
  wpAny_execs_cons (wpAny_Assign_Name (List_ (wpAny_mono (h.2 p' s f.kn) (fun vs s1 h1 => by
    have f1 := f.keeps h1.1
    refine wpAny_newObj_type ?_ (by show vs.toArray.size ≤ sizeLine; rw [List.size_toArray, (allF_map h1.2).length]; exact hz)
    obtain ⟨f2, ha⟩ := f1.own (F := ocList R xs) (keeps_heap (gr_push (o := { cls := .type "list", data := .seq vs.toArray }))) new_none (Heap.get?_push_size _ rfl) ⟨vs, _, rfl, allF_map h1.2⟩
    exact wpAny_mono (f2.store (F := rVal.at (.ref s1.heap.objs.size)) hx rfl) (fun _ s2 q2 => hrest _ ha s2 q2.1) fun _ _ x => x) fun _ _ x => x)) hs)
/-- the object a is changed -/
theorem FS.set {s s' : Shared} {a : Addr} {F F' : Oc} {o' : Obj} (f : FS C env ρ G X ((a, F) :: O) V s) (kb : KB [a] s s') (ho : s'.heap.get? a = some o') (hF : F'.r (fz X s'.heap) o') : FS C env ρ G X ((a, F') :: O) V s' := by
  have haX := (f.ox a (.head _)).1
  have hon := List.nodup_cons.mp f.on
  have hW : ∀ b ∈ [a], b ∈ X := fun b m => List.mem_singleton.mp m ▸ haX
  have keep : ∀ b o, G b = some o → s'.heap.get? b = some o := fun b o e => kb_get kb (fun m => by rw [List.mem_singleton.mp m, f.gn a (.tail _ (List.mem_append_right _ (.head _)))] at e; cases e) (f.keep b o e)
  have hL : env.locals ∉ [a] := fun m => (f.ox a (.head _)).2 (List.mem_singleton.mp m ▸ .head _)
  have hc : ∀ c ∈ env.cells.map (·.2), c ∉ [a] := fun c m n => (f.ox a (.head _)).2 (List.mem_singleton.mp n ▸ .tail _ m)
  have hcl : ∀ x c, env.cells.lookup x = some c → c ∉ [a] := fun x c e => hc c (List.mem_map.mpr ⟨_, mem_of_lookup e, rfl⟩)
  refine ⟨⟨f.bs _ keep, f.kn.fn, f.kn.gl, f.kn.bi, fun b m => ?_, fun x F e => ?_, fun b F e => ?_⟩, rst_kb f.rs kb, f.lx, ⟨?_, fun c m => ?_⟩, f.cx, f.ap, f.ox, f.on, keep, f.gn, f.bs⟩
  · by_cases h : b ∈ [a]
    · exact List.mem_singleton.mp h ▸ ⟨_, ho⟩
    · obtain ⟨o, e⟩ := f.kn.alive b m; exact ⟨o, kb_get kb h e⟩
  · obtain ⟨v, sv, hr⟩ := f.kn.vars x F e
    refine ⟨v, ?_, F.mono (kb_fz kb hW) hr⟩
    cases sv with
    | loc hk m hn hv =>
      obtain ⟨o, es, ep, ho, r⟩ := hn
      exact .loc hk m ⟨o, es, ep, kb_get kb hL ho, r⟩ hv
    | cel hk c hc hv =>
      obtain ⟨o, ho, hd⟩ := hv
      exact .cel hk c hc ⟨o, kb_get kb (hcl x c hc) ho, hd⟩
    | fre hk hd' c hc hv =>
      obtain ⟨o, ho, hd⟩ := hv
      exact .fre hk hd' c hc ⟨o, kb_get kb (hcl x c hc) ho, hd⟩
  · rw [List.lookup_cons] at e
    cases hb : b == a with
    | true => rw [hb] at e; cases e; exact eq_of_beq hb ▸ ⟨_, ho, hF⟩
    | false =>
      rw [hb] at e
      obtain ⟨o, p, q⟩ := f.kn.own b F (by rw [List.lookup_cons, hb]; exact e)
      exact ⟨o, kb_get kb (fun m => by rw [List.mem_singleton.mp m, beq_self_eq_true] at hb; cases hb) p, F.mono (kb_fz kb hW) q⟩
  · obtain ⟨m, o, es, ep, ho, r⟩ := f.fr.ns; exact ⟨m, o, es, ep, kb_get kb hL ho, r⟩
  · obtain ⟨v, o, ho, hd⟩ := f.fr.cell c m; exact ⟨v, o, kb_get kb (hc c m) ho, hd⟩
theorem FS.oswap {s : Shared} {p q : Addr × Oc} (f : FS C env ρ G X (p :: q :: O) V s) : FS C env ρ G X (q :: p :: O) V s := by
  have hn : q.1 ≠ p.1 := fun e => (List.nodup_cons.mp f.on).1 (List.mem_cons.mpr (.inl e.symm))
  have hm : ∀ b, b ∈ (q :: p :: O).map (·.1) → b ∈ (p :: q :: O).map (·.1) := fun b m => by
    simp only [List.map_cons, List.mem_cons] at m ⊢; rcases m with h | h | h
    · exact .inr (.inl h)
    · exact .inl h
    · exact .inr (.inr h)
  refine ⟨⟨f.kn.base, f.kn.fn, f.kn.gl, f.kn.bi, f.kn.alive, f.kn.vars, fun b F e => f.kn.own b F ?_⟩, f.rs, f.lx, f.fr, f.cx, f.ap, fun a m => f.ox a (hm a m), (List.Perm.swap _ _ _).nodup_iff.mp f.on, f.keep, fun b m => f.gn b ?_, f.bs⟩
  · rw [← e]; obtain ⟨p1, p2⟩ := p; obtain ⟨q1, q2⟩ := q
    simp only [List.lookup_cons]
    cases h1 : b == p1 <;> cases h2 : b == q1 <;> try rfl
    exact absurd ((eq_of_beq h2).symm.trans (eq_of_beq h1)) hn
  · rcases List.mem_cons.mp m with m | m
    · exact m ▸ .head _
    · exact .tail _ ((List.mem_append.mp m).elim (fun m => List.mem_append_left _ m) fun m => List.mem_append_right _ (hm b m))
theorem sb_oswap {p q : Addr × Oc} (h : SB C A env ρ G X (q :: p :: O) V rest P) : SB C A env ρ G X (p :: q :: O) V rest P := fun s f => h s f.oswap
theorem kb_sb {s : Shared} {a : Addr} {h' : Heap} (hs : Heap.SameBut a s.heap h') : KB [a] s { s with heap := h' } := ⟨h', s.toks, rfl, fun b o n e => (hs.2 b fun q => n (q ▸ .head _)).trans e⟩
/-- x.append(e) -/
theorem sb_append {x : Str} {p apos cpos : Pos} {a : Addr} {e : Expr} {R : Rl α} {xs : List α} {y : α} (hv : V.lookup x = some (rVal.at (.ref a))) (he : PE C A env X ((a, ocList R xs) :: O) V e R y) (hz : xs.length ≤ sizeLine)
    (hrest : SB C A env ρ G X ((a, ocList R (xs ++ [y])) :: O) V rest P) (hd : (x == ("__debug__" : Str)) = false := by decide)
    (hbase : attributeBase (.Name x p) "append" env (eval (.Name x p) env) = eval (.Name x p) env := by rfl)
    (hfew : ((backTo cpos (starEach [e] env)).all (fun x => !x.1) && (backToKw cpos (keywordEach [] env)).all (fun x => x.1.isSome)
      && decide (([e] : List Expr).length + ([] : List Keyword).length + (if ([] : List Keyword).isEmpty then 0 else 1) < 30)) = true := by rfl)
    (hline : (apos.endLine == cpos.line) = true := by rfl) (htrees : backTo cpos (starEach [e] env) = [(false, eval e env)] := by rfl)
    (hi : interactive env = false := by rfl) (hs : swapsWith (.Call (.Attribute (.Name x p) "append" apos) [e] [] cpos) none pos.line env = pure false := by rfl) :
    SB C A env ρ G X ((a, ocList R xs) :: O) V (.Expr (.Call (.Attribute (.Name x p) "append" apos) [e] [] cpos) pos :: rest) P := fun s f => by
  refine wpAny_execs_cons (wpAny_Expr_any (wpAny_Call_append hbase hfew hline htrees ?_) hi hs)
  obtain ⟨v, sv, rfl⟩ := f.kn.vars _ _ hv
  refine wpAny_Name (sv.load f.kn.fn ?_) hd
  have own : ∀ {s : Shared}, FS C env ρ G X ((a, ocList R xs) :: O) V s → ∃ vs n, s.heap.get? a = some { cls := .type "list", data := .seq vs.toArray n } ∧ All2 R (fz X s.heap) xs vs := fun f => by
    obtain ⟨o, p, vs, n, rfl, al⟩ := f.kn.own a _ (by rw [List.lookup_cons, beq_self_eq_true]); exact ⟨vs, n, p, al⟩
  obtain ⟨vs, n, hp, _⟩ := own f
  refine ⟨a, vs.toArray, rfl, ⟨_, n, hp, rfl, rfl, rfl⟩, ?_⟩
  refine (he s f.kn).use fun y s1 g1 r1 => ?_
  have f1 := f.keeps g1
  obtain ⟨us, m, hp1, al⟩ := own f1
  refine append_ev ⟨m, hp1⟩ (al.length ▸ hz) fun h' hl hsb => ?_
  obtain ⟨k, hl⟩ := hl
  have kb := kb_sb hsb
  have le := kb_fz kb (Y := X) fun b m => List.mem_singleton.mp m ▸ (f1.ox a (.head _)).1
  exact hrest _ (f1.set kb hl ⟨_, _, rfl, (al.mono le).append ⟨R.mono le r1, trivial⟩⟩)
/-- l[i] = v -/
theorem set_ev {s : Shared} {l : Addr} {us : List Value} {v : Value} {i : Int} {t : Tok} {Q : Unit → Shared → Prop} {E : Value → Shared → Prop} (hl : s.heap.PlainList l us.toArray) (h0 : 0 ≤ i) (hz : i < 2 ^ 63) (hi : i < us.length)
    (h : ∀ h', h'.PlainList l (us.set i.toNat v).toArray → Heap.SameBut l s.heap h' → Q () { s with heap := h' }) : wpAny C.M A (setItem (.ref l) (.int i t) v) Q E s := by
  obtain ⟨n, ho⟩ := hl
  have ty := (Heap.PlainList.isList ⟨n, ho⟩ : s.heap.IsList l us.toArray).typeIs
  unfold setItem
  try with_reducible refine wpAny_holding ?_
  first | refine wpAny_bind (wpAny_pure ?_) | skip
  refine wpAny_bind (wpAny_sequenceKey ty (by decide) ?_)
  refine wpAny_bind (wpAny_callSpecial?_slot (name := Str.ofString "__setitem__") ty slot_list_setitem (wpAny_call_entry slot_list_setitem ty entry_list_setitem ?_ (args_list_setitem _ _ _)))
  show wpAny _ _ (Builtin.List.listSubscript? (.int i t) >>= _) _ _ s
  refine wpAny_bind (wpAny_listSubscript_int (fitsIndex_of h0 hz) ?_)
  clear hz
  obtain ⟨j, rfl⟩ := Int.eq_ofNat_of_zero_le h0
  have hj : j < us.length := by omega
  show wpAny _ _ ((seqItemAt l j >>= fun r => pure (r.map (j, ·))) >>= _) _ _ s
  refine wpAny_bind (wpAny_bind (wpAny_seqItemAt ho rfl (wpAny_pure ?_)))
  rw [show us.toArray[j]? = some us[j] by simp [hj]]
  refine wpAny_bind (wpAny_setSeqItemAt ho rfl ?_)
  have fin := h (s.heap.update l (Obj.mapSeq (·.setIfInBounds j v))) ⟨_, (Heap.get?_update_self _ ho (Obj.isFreed_of_seq (Obj.data_mapSeq (o := { cls := .type "list", data := .seq us.toArray n }) rfl _).choose_spec)).trans (by simp only [Obj.mapSeq, List.setIfInBounds_toArray]; rfl)⟩ (Heap.SameBut.update ..)
  first
    | exact wpAny_bind (wpAny_pure (wpAny_pure ⟨.none, rfl, wpAny_pure fin⟩))
    | exact wpAny_pure ⟨.none, rfl, wpAny_pure fin⟩
end
end Mine

namespace Mine
open PySem PySem.Calls PyProof.Rows PySem.W

section
variable {C : Cx} {A : Around} {env : Env} {ρ : Rst} {G G' : PM} {X X' : List Addr} {O : Own} {V V' : Vars} {α β γ δ σ ι : Type} {pos : Pos} {rest : List Stmt} {P : Flow → Shared → Prop}
/-! ranges -/
theorem f_range1 {n : Int} {k : Nat} (hk : n = k) (hz : n < 2 ^ 62) : CallR C A (.type "range") [rInt.at n] rRange (0, 1, k) := fun X s vs _ hl al => by
  obtain ⟨v, rfl, t, rfl⟩ := al.one
  exact call_range_1 ⟨keeps_mk gr_push, _, n, _, t, _, rfl, fz_new hl rfl, small_one (by omega) (by omega) (by omega) hz, by rw [rangeSize_one]; show (if 0 < n then n - 0 else 0) = (k : Int); split <;> omega⟩
theorem f_range2 {a b : Int} {k : Nat} (hk : (if a < b then b - a else 0) = (k : Int)) (ha : -(2 ^ 62) ≤ a) (ha' : a < 2 ^ 62) (hb : -(2 ^ 62) ≤ b) (hz : b < 2 ^ 62) : CallR C A (.type "range") [rInt.at a, rInt.at b] rRange (a, 1, k) := fun X s vs _ hl al => by
  obtain ⟨v, u, rfl, ⟨t, rfl⟩, t', rfl⟩ := al.two
  exact call_range_2 ⟨keeps_mk gr_push, _, b, t, t', _, rfl, fz_new hl rfl, small_one ha ha' hb hz, by rw [rangeSize_one]; exact hk⟩
theorem f_range3 {a b c : Int} {k : Nat} (hc : c ≠ 0) (hp : Builtin.divisionGoesByPylong (b - a) c = false) (hk : Builtin.Range.rangeSize a b c = (k : Int)) (hs : Builtin.Range.small a b c = true) : CallR C A (.type "range") [rInt.at a, rInt.at b, rInt.at c] rRange (a, c, k) := fun X s vs _ hl al => by
  obtain ⟨v, u, z, rfl, ⟨t, rfl⟩, ⟨t', rfl⟩, t'', rfl⟩ := al.three
  exact call_range_3 hc ⟨keeps_mk gr_push, _, b, t, t', t'', rfl, fz_new hl rfl, hs, hk⟩ (.inl hp)
theorem iter_up {k : Nat} : rangeL (0, 1, k) = (List.range k).map fun i : Nat => (i : Int) := by simp [rangeL]

/-! stores into a list of this frame -/
theorem own_list {s : Shared} {a : Addr} {R : Rl α} {xs : List α} (f : FS C env ρ G X ((a, ocList R xs) :: O) V s) : ∃ vs n, s.heap.get? a = some { cls := .type "list", data := .seq vs.toArray n } ∧ All2 R (fz X s.heap) xs vs := by
  obtain ⟨o, p, vs, n, rfl, al⟩ := f.kn.own a _ (by rw [List.lookup_cons, beq_self_eq_true]); exact ⟨vs, n, p, al⟩
theorem All2.set {R : Rl α} {G : PM} : ∀ {xs : List α} {vs : List Value} (i : Nat) {x : α} {v : Value}, All2 R G xs vs → R.r G x v → All2 R G (xs.set i x) (vs.set i v)
  | [], [], _, _, _, _, _ => trivial
  | _ :: _, _ :: _, 0, _, _, h, k => ⟨k, h.2⟩
  | _ :: _, _ :: _, i + 1, _, _, h, k => ⟨h.1, All2.set i h.2 k⟩
  | [], _ :: _, _, _, _, h, _ => h.elim
  | _ :: _, [], _, _, _, h, _ => h.elim
/-- x[i] += e, the ints of a list -/
theorem sb_augitem {x : Str} {p tp : Pos} {a : Addr} {ie e : Expr} {xs : List Int} {i y d : Int} (hv : V.lookup x = some (rVal.at (.ref a))) (hi : PE C A env X ((a, ocList rInt xs) :: O) V ie rInt i) (he : PE C A env X ((a, ocList rInt xs) :: O) V e rInt d)
    (h0 : 0 ≤ i) (hz : i < 2 ^ 63) (hx : xs[i.toNat]? = some y)
    (hrest : SB C A env ρ G X ((a, ocList rInt (xs.set i.toNat (y + d))) :: O) V rest P) (hd : (x == ("__debug__" : Str)) = false := by decide)
    (ha : ∀ ov iv new, augStore ie ov iv new = (do holding [new, ov, iv] (setItem ov iv new); release [new, ov, iv] []; pure .next) := by intros; rfl) :
    SB C A env ρ G X ((a, ocList rInt xs) :: O) V (.AugAssign (.Subscript (.Name x p) ie tp) .Add e pos :: rest) P := fun s f => by
  refine wpAny_execs_cons (wpAny_AugAssign_SubscriptAny ?_ ha)
  obtain ⟨v, sv, rfl⟩ := f.kn.vars _ _ hv
  refine wpAny_Name (sv.load f.kn.fn ?_) hd
  refine (hi s f.kn).use fun v1 s1 g1 r1 => ?_
  obtain ⟨t1, rfl⟩ := r1
  have f1 := f.keeps g1
  obtain ⟨vs, n, hp, al⟩ := own_list f1
  obtain ⟨u, hu, tu, rfl⟩ := al.get hx
  refine wpAny_getItem_list (Heap.PlainList.isList ⟨n, hp⟩) h0 hz (by simpa using hu) ?_
  refine (he s1 f1.kn).use fun v2 s2 g2 r2 => ?_
  obtain ⟨t2, rfl⟩ := r2
  have f2 := (f1.keeps g2).keeps (keeps_tok (t := s2.toks + 1))
  refine PyProof.Rows.iadd_int ?_
  obtain ⟨us, m, hq, al2⟩ := own_list f2
  refine set_ev (us := us) ⟨m, hq⟩ h0 hz (by rw [al2.length]; have := (List.getElem?_eq_some_iff.mp hx).1; omega) fun h' hl hsb => ?_
  obtain ⟨k, hl⟩ := hl
  have kb := kb_sb hsb
  have le := kb_fz kb (Y := X) fun b m => List.mem_singleton.mp m ▸ (f2.ox a (.head _)).1
  exact hrest _ (f2.set kb hl ⟨_, _, rfl, (al2.mono le).set _ ⟨_, rfl⟩⟩)
/-- x[i] = e -/
theorem sb_setitem {x : Str} {p tp : Pos} {a : Addr} {ie e : Expr} {R : Rl α} {xs : List α} {i : Int} {y : α} (hv : V.lookup x = some (rVal.at (.ref a))) (he : PE C A env X ((a, ocList R xs) :: O) V e R y) (hi : PE C A env X ((a, ocList R xs) :: O) V ie rInt i)
    (h0 : 0 ≤ i) (hz : i < 2 ^ 63) (hx : i < xs.length)
    (hrest : SB C A env ρ G X ((a, ocList R (xs.set i.toNat y)) :: O) V rest P) (hd : (x == ("__debug__" : Str)) = false := by decide)
    (hs : swapsWith e (some (.Subscript (.Name x p) ie tp)) pos.line env = pure false := by rfl) :
    SB C A env ρ G X ((a, ocList R xs) :: O) V (.Assign [.Subscript (.Name x p) ie tp] e pos :: rest) P := fun s f => by
  refine wpAny_execs_cons (wpAny_Assign_Subscript ?_ hs)
  refine (he s f.kn).use fun v1 s1 g1 r1 => ?_
  have f1 := f.keeps g1
  obtain ⟨v, sv, rfl⟩ := f1.kn.vars _ _ hv
  refine wpAny_Name (sv.load f.kn.fn ?_) hd
  refine (hi s1 f1.kn).use fun v2 s2 g2 r2 => ?_
  obtain ⟨t2, rfl⟩ := r2
  have f2 := f1.keeps g2
  obtain ⟨us, m, hq, al2⟩ := own_list f2
  refine set_ev (us := us) ⟨m, hq⟩ h0 hz (by rw [al2.length]; exact hx) fun h' hl hsb => ?_
  obtain ⟨k, hl⟩ := hl
  have kb := kb_sb hsb
  have le := kb_fz kb (Y := X) fun b m => List.mem_singleton.mp m ▸ (f2.ox a (.head _)).1
  exact hrest _ (f2.set kb hl ⟨_, _, rfl, (al2.mono le).set _ (R.mono (Le.trans (fz_gr (keeps_gr g2)) le) r1)⟩)
/-- what is known of names, by look-up alone -/
theorem Kn.look {s : Shared} (k : Kn C env X O V s) (h : ∀ x F, V'.lookup x = some F → V.lookup x = some F) : Kn C env X O V' s := ⟨k.base, k.fn, k.gl, k.bi, k.alive, fun x F e => k.vars x F (h x F e), k.own⟩
theorem FS.look {s : Shared} (f : FS C env ρ G X O V s) (h : ∀ x F, V'.lookup x = some F → V.lookup x = some F) : FS C env ρ G X O V' s := ⟨f.kn.look h, f.rs, f.lx, f.fr, f.cx, f.ap, f.ox, f.on, f.keep, f.gn, f.bs⟩
theorem look_twice {x y : Str} {F F' G : Fc} {V : Vars} (h : ((x, F) :: V).lookup y = some G) : ((x, F) :: (x, F') :: V).lookup y = some G := by
  rw [List.lookup_cons] at h ⊢
  cases hb : y == x with
  | true => rw [hb] at h; exact h
  | false => rw [hb] at h; simp only; rw [List.lookup_cons, hb]; exact h
/-- x = x + e: a new list of this frame -/
theorem sb_ownadd {x : Str} {p q : Pos} {a : Addr} {e : Expr} {R : Rl α} {xs ys : List α} {p' : Pos} (hv : V.lookup x = some (rVal.at (.ref a))) (ha : a ∉ X)
    (he : PE C A env X O ((x, (rList R).at xs) :: V) e (rList R) ys) (hz : xs.length + ys.length ≤ sizeLine) (hx : Stores env x)
    (hrest : ∀ b, b ∉ X → SB C A env ρ G (b :: X) ((b, ocList R (xs ++ ys)) :: O) ((x, rVal.at (.ref b)) :: V) rest P) (hd : (x == ("__debug__" : Str)) = false := by decide)
    (hs : swapsWith (.BinOp (.Name x q) .Add e p') (some (.Name x p)) pos.line env = pure false := by rfl) :
    SB C A env ρ G (a :: X) ((a, ocList R xs) :: O) V (.Assign [.Name x p] (.BinOp (.Name x q) .Add e p') pos :: rest) P := fun s f => by
  have f0 := f.freeze hv ha
  refine wpAny_execs_cons (wpAny_Assign_Name (wpAny_BinOp ?_) hs)
  obtain ⟨v, sv, vs, ⟨a', n, rfl, ga⟩, al⟩ := f0.kn.vars x _ (by rw [List.lookup_cons, beq_self_eq_true])
  refine wpAny_Name (sv.load f.kn.fn ?_) hd
  refine (he s f0.kn).use fun v2 s2 g2 r2 => ?_
  obtain ⟨us, ⟨b, m, rfl, gb⟩, al2⟩ := r2
  have f2 := f0.keeps g2
  have al' := al.mono (fz_gr (X := X) (keeps_gr g2))
  refine PySem.P.add_list (n := n) (n2 := m) (keeps_gr g2 _ _ (fz_le _ _ ga)) (fz_le _ _ gb) ?_ (by rw [List.size_toArray, List.size_toArray, al.length, al2.length]; exact hz)
  obtain ⟨f3, hb⟩ := f2.own (F := ocList R (xs ++ ys)) (keeps_heap (gr_push (o := { cls := .type "list", data := .seq (vs.toArray ++ us.toArray) }))) new_none (Heap.get?_push_size _ rfl) ⟨vs ++ us, _, by simp; rfl, al'.append al2⟩
  exact wpAny_mono (f3.store (F := rVal.at (.ref s2.heap.objs.size)) hx rfl) (fun _ s4 q4 => hrest _ hb s4 (q4.1.look fun _ _ e => look_twice e)) fun _ _ x => x
/-- a choice after which lists may be others -/
theorem sb_ifJ {test : Expr} {body orelse : List Stmt} {b : Bool} (N : Shared → Prop) (ht : PT C A env X O V test b) (h1 : b = true → SB C A env ρ G X O V body (PN P N)) (h2 : b = false → SB C A env ρ G X O V orelse (PN P N))
    (hrest : ∀ s, N s → wpAny C.M A (execs rest env) P (fun _ _ => False) s) : SB C A env ρ G X O V (.If test body orelse pos :: rest) P := fun s f =>
  wpAny_execs_cons (wpAny_If (wpAny_mono (ht s f.kn) (fun c s1 q => by
    obtain ⟨g, rfl⟩ := q
    cases c with
    | true => exact wpAny_mono (h1 rfl s1 (f.keeps g)) (fun fl s2 q => by cases fl <;> first | exact hrest s2 q | exact q) fun _ _ e => e
    | false => exact wpAny_mono (h2 rfl s1 (f.keeps g)) (fun fl s2 q => by cases fl <;> first | exact hrest s2 q | exact q) fun _ _ e => e) fun _ _ e => e))
end
end Mine

namespace Mine
open PySem PySem.Calls PyProof.Rows PySem.W

/-! the own names of an object -/
noncomputable def FieldsR (P : Params) (G : PM) : List (Str × Fc) → List DictEntry → Prop
  | [], [] => True
  | f :: fs, e :: es => (∃ t v, e = ⟨PyData.keyHash P f.1, .str f.1 t, v⟩ ∧ f.2.r G v) ∧ FieldsR P G fs es
  | _, _ => False
theorem FieldsR.mono {P : Params} {G G' : PM} (k : Le G G') : ∀ {fs : List (Str × Fc)} {es : List DictEntry}, FieldsR P G fs es → FieldsR P G' fs es
  | [], [], _ => trivial
  | f :: _, _ :: _, h => ⟨let ⟨t, v, e, r⟩ := h.1; ⟨t, v, e, f.2.mono k r⟩, FieldsR.mono k h.2⟩
  | [], _ :: _, h => h.elim
  | _ :: _, [], h => h.elim
theorem FieldsR.length {P : Params} {G : PM} : ∀ {fs : List (Str × Fc)} {es : List DictEntry}, FieldsR P G fs es → es.length = fs.length
  | [], [], _ => rfl
  | _ :: _, _ :: _, h => by rw [List.length_cons, List.length_cons, FieldsR.length h.2]
  | [], _ :: _, h => h.elim
  | _ :: _, [], h => h.elim
theorem FieldsR.snoc {P : Params} {G : PM} {nm : Str} {F : Fc} {t : Tok} {v : Value} (hv : F.r G v) : ∀ {fs : List (Str × Fc)} {es : List DictEntry}, FieldsR P G fs es → FieldsR P G (fs ++ [(nm, F)]) (es ++ [⟨PyData.keyHash P nm, .str nm t, v⟩])
  | [], [], _ => ⟨⟨t, v, rfl, hv⟩, trivial⟩
  | _ :: _, _ :: _, h => ⟨h.1, FieldsR.snoc hv h.2⟩
  | [], _ :: _, h => h.elim
  | _ :: _, [], h => h.elim
theorem isStr_str {a b : Str} {t : Tok} : (Value.str a t).isStr b = (a == b) := by
  first
    | rfl
    | (unfold Value.isStr; rfl)
theorem FieldsR.keys {P : Params} {G : PM} : ∀ {fs : List (Str × Fc)} {es : List DictEntry}, FieldsR P G fs es → ∀ e ∈ es, ∃ nm t, e.key = .str nm t ∧ nm ∈ fs.map (·.1)
  | [], [], _, _, m => by cases m
  | f :: _, _ :: _, h, e, m => by
    rcases List.mem_cons.mp m with rfl | m
    · obtain ⟨t, v, rfl, _⟩ := h.1; exact ⟨f.1, t, rfl, .head _⟩
    · obtain ⟨nm, t, a, b⟩ := FieldsR.keys h.2 e m; exact ⟨nm, t, a, .tail _ b⟩
  | [], _ :: _, h, _, _ => h.elim
  | _ :: _, [], h, _, _ => h.elim
theorem FieldsR.find {P : Params} {G : PM} {nm : Str} : ∀ {fs : List (Str × Fc)} {es : List DictEntry}, FieldsR P G fs es → ∀ {F : Fc}, fs.lookup nm = some F → ∃ e, es.find? (·.key.isStr nm) = some e ∧ F.r G e.val
  | [], [], _, _, e => by cases e
  | f :: fs, e :: es, h, F, hl => by
    obtain ⟨t, v, rfl, hr⟩ := h.1
    rw [List.lookup_cons] at hl
    rw [List.find?_cons]
    cases hb : nm == f.1 with
    | true =>
      rw [hb] at hl; cases hl
      rw [show (Value.str f.1 t).isStr nm = true by rw [isStr_str, (eq_of_beq hb), beq_self_eq_true]]
      exact ⟨_, rfl, hr⟩
    | false =>
      rw [hb] at hl
      rw [show (Value.str f.1 t).isStr nm = false by
        rw [isStr_str]
        cases hc : f.1 == nm with
        | false => rfl
        | true => rw [eq_of_beq hc, beq_self_eq_true] at hb; cases hb]
      exact FieldsR.find h.2 hl
  | [], _ :: _, h, _, _ => h.elim
  | _ :: _, [], h, _, _ => h.elim
theorem FieldsR.nofind {P : Params} {G : PM} {nm : Str} {fs : List (Str × Fc)} {es : List DictEntry} (h : FieldsR P G fs es) (hn : nm ∉ fs.map (·.1)) : es.find? (·.key.isStr nm) = none := by
  rw [List.find?_eq_none]
  intro e m
  obtain ⟨k, t, a, b⟩ := h.keys e m
  rw [a, isStr_str]
  intro c; exact hn (eq_of_beq c ▸ b)
theorem FieldsR.noref {P : Params} {G : PM} {fs : List (Str × Fc)} {es : List DictEntry} (h : FieldsR P G fs es) : es.any (·.refKey) = false := by
  rw [List.any_eq_false]
  intro e m
  obtain ⟨k, t, a, b⟩ := h.keys e m
  unfold DictEntry.refKey
  rw [a]; simp
abbrev dObj (es : List DictEntry) (n : Nat) : Obj := { cls := .type "dict", data := .dict es.toArray n }
theorem look_some {P : Params} {G : PM} {nm : Str} {fs : List (Str × Fc)} {es : List DictEntry} {n : Nat} (h : FieldsR P G fs es) {F : Fc} (hl : fs.lookup nm = some F) : ∃ v, lookIn nm (dObj es n) = some (some v) ∧ F.r G v := by
  obtain ⟨e, he, hr⟩ := h.find hl
  exact ⟨e.val, by show (match es.toArray.toList.find? _ with | some e => _ | none => _) = _; rw [show es.toArray.toList = es from rfl, he], hr⟩
theorem look_none {P : Params} {G : PM} {nm : Str} {fs : List (Str × Fc)} {es : List DictEntry} {n : Nat} (h : FieldsR P G fs es) (hn : nm ∉ fs.map (·.1)) : lookIn nm (dObj es n) = some none := by
  show (match es.toArray.toList.find? _ with | some e => _ | none => _) = _
  rw [show es.toArray.toList = es from rfl, h.nofind hn]
  show (if es.any (·.refKey) = true then _ else _) = _
  rw [h.noref]; rfl
theorem put_new {P : Params} {G : PM} {nm : Str} {fs : List (Str × Fc)} {es : List DictEntry} {n : Nat} {k v : Value} (h : FieldsR P G fs es) (hn : nm ∉ fs.map (·.1)) : Obj.putName nm (PyData.keyHash P nm) k v (dObj es n) = dObj (es ++ [⟨PyData.keyHash P nm, k, v⟩]) (n + 1) := by
  rw [Obj.putName_eq]
  show (match es.toArray.findIdx? (·.key.isStr nm) with | some i => _ | none => _) = _
  have : es.toArray.findIdx? (·.key.isStr nm) = none := by
    rw [Array.findIdx?_eq_none_iff]
    intro e m
    obtain ⟨k', t, a, b⟩ := h.keys e (by simpa using m)
    rw [a, isStr_str]
    cases hc : k' == nm with
    | false => rfl
    | true => exact absurd (eq_of_beq hc ▸ b) hn
  rw [this]
  simp [dObj]
noncomputable def ocDict (P : Params) (fs : List (Str × Fc)) : Oc := ⟨fun G o => ∃ es n, o = dObj es n ∧ FieldsR P G fs es, fun k h => by obtain ⟨es, n, e, a⟩ := h; exact ⟨es, n, e, a.mono k⟩⟩

section
variable {C : Cx} {A : Around} {env : Env} {ρ : Rst} {G G' : PM} {X X' : List Addr} {O : Own} {V V' : Vars} {α β γ δ σ ι : Type} {pos : Pos} {rest : List Stmt} {P : Flow → Shared → Prop}
/-- storing a new name on an object of a class of the text -/
structure SetOk (K : Frag) (cl : Addr) (name : Str) : Prop where
  sa : findIn K (.ref cl) "__setattr__" = some (some (.builtin "object.__setattr__"))
  pl : plainOver K cl = true
  tk : takerIn K cl name = some none
  hd : (clsIn K cl).any (·.hasDict) = true
theorem setattr_ev {s : Shared} {x dx cl : Addr} {ox : Obj} {es : List DictEntry} {n : Nat} {fs : List (Str × Fc)} {G : PM} {name : Str} {v : Value} {Q : Unit → Shared → Prop} {E : Value → Shared → Prop} (X : C.K.In s.heap) (I : InstAt s.heap x ox cl (some (dObj es n))) (hdx : ox.dict = some dx)
    (S : SetOk C.K cl name) (hf : FieldsR C.w.params G fs es) (hn : name ∉ fs.map (·.1)) (hz : es.length < 1000)
    (h : ∀ h' t, h'.get? dx = some (dObj (es ++ [⟨PyData.keyHash C.w.params name, .str name t, v⟩]) (n + 1)) → Heap.SameBut dx s.heap h' → ∀ tk, Q () { s with heap := h', toks := tk }) :
    wpAny C.M A (setAttr (.ref x) name v) Q E s := by
  refine set_plain X I S.sa ?_
  have X1 : C.K.In ({ s with toks := s.toks + 1 } : Shared).heap := X
  have I1 : InstAt ({ s with toks := s.toks + 1 } : Shared).heap x ox cl (some (dObj es n)) := I
  refine osa_open X1 I1 S.pl S.tk fun b => ?_
  obtain ⟨cd, hc, hd'⟩ := any_some S.hd
  have D : s.heap.get? dx = some (dObj es n) := by have := I.dict; rw [hdx] at this; exact this
  have put := put_new (n := n) (k := Value.str name (s.toks + 1)) (v := v) hf hn
  have D' : (s.heap.update dx (Obj.putName name (PyData.keyHash C.w.params name) (.str name (s.toks + 1)) v)).get? dx = some (dObj (es ++ [⟨PyData.keyHash C.w.params name, .str name (s.toks + 1), v⟩]) (n + 1)) := by
    rw [Heap.get?_update_self _ D (by rw [put]; rfl), put]
  obtain ⟨hx, hcl, hn', -⟩ := I
  obtain ⟨oc, odi, oda, osl⟩ := ox
  dsimp only at hcl hdx
  subst hcl hdx
  refine wpAny_bind (wpAny_pure (wpAny_bind (wpAny_bind (wpAny_loadPart hx (wpAny_bind ((looks_clsIn X1 hc).here ?_))))))
  rw [hd']
  refine wpAny_pure (a := some dx) (wpAny_bind (wpAny_pure (wpAny_bind ?_)))
  unfold nsSet
  refine wpAny_bind (wpAny_bind (wpAny_askSetting (wpAny_pure (wpAny_bind (wpAny_mkText (wpAny_bind (wpAny_loadPart D ?_)))))))
  have c : (!es.toArray.any (·.key.isStr name) && es.toArray.any (·.refKey)) = false := by
    rw [← Array.any_toList, ← Array.any_toList, hf.noref, Bool.and_false]
  dsimp only
  rw [aRefKeyMayBeTheName_at, c]
  refine wpAny_updatePart D ?_
  refine wpAny_bind (wpAny_lookBehind D' (pastItsLine_dict (by rw [List.size_toArray, List.length_append, sizeLine_eq]; simp only [List.length_cons, List.length_nil]; omega)) ?_)
  exact wpAny_pure (h _ _ D' (Heap.SameBut.update ..) _)
end
end Mine

namespace Mine
open PySem PySem.Calls PyProof.Rows PySem.W
/-- a call of a def of the text that may write objects of its caller -/
theorem callO_code {C : Cx} {A : Around} {fa : Addr} {o : Obj} {fd : FuncData} {body : List Stmt} {names : List Str} {vals : List Value} {args : Args} {Fs : List Fc} {s : Shared} {X : List Addr} {O : Own} {R : Result → Shared → Prop}
    (r : Rm 1 A) (hK : C.K.lookup fa = some o) (hd : o.data = .func fd) (hb : fd.body = .stmts body) (hg : fd.globals = mainGlobals) (hbi : fd.builtins = builtinsNs) (hclo : fd.closure = []) (hcode : codeIn C.K fd.code fd.qualname = true)
    (hbind : BindsTo s fd args (names.zip vals)) (hlen : names.length = vals.length) (hnd : names.Nodup) (hkinds : ∀ n ∈ names, fd.scope.names.lookup n = some .local ∨ fd.scope.names.lookup n = some .cell)
    (hck : ((cellsFrom 0 fd.scope.names []).map (·.1)).Nodup) (hS : C.In s.heap) (hl : Live X s) (hbs : ∀ h' : Heap, (∀ b o, fz (O.map (·.1)) s.heap b = some o → h'.get? b = some o) → C.In h') (hOX : ∀ a ∈ O.map (·.1), a ∈ X) (hOn : (O.map (·.1)).Nodup) (hown : ∀ a F, O.lookup a = some F → ∃ o, s.heap.get? a = some o ∧ F.r (fz X s.heap) o) (al : AllF (fz X s.heap) Fs vals)
    (h : ∀ L X', (∀ b ∈ X, b ∈ X') → SB C (A.deeper (callEnvC fd L fa)) (callEnvC fd L fa) (Rst.same s) (fz (O.map (·.1)) s.heap) X' O (names.zip Fs) body (fun fl s' => R (.ok (.ret (match fl with | .ret v => v | _ => .none))) s'))
    (hco : fd.scope.isCoroutine = false) (hgen : fd.scope.isGenerator = false) (hk : fd.scope.kind = .function) : codeAny C.M A (.call (.ref fa) args) R s :=
  callR_code (Rst.same s) ⟨s.heap, s.toks, rfl⟩ r hK hd hb hg hbi hclo hcode hbind hlen hnd hkinds hck hS hl hbs hOX hOn hown al h hco hgen hk

/-- the object x of the class cl, its own names in the dict dx -/
noncomputable def rIns (cl : Addr) : Rl (Addr × Addr) := ⟨fun G p v => v = .ref p.1 ∧ G p.1 = some (instObj cl p.2), fun k h => ⟨h.1, k _ _ h.2⟩⟩
/-- an object that is no longer written -/
noncomputable def rObj (P : Params) (cl : Addr) (fs : List (Str × Fc)) : Rl Unit := ⟨fun G _ v => ∃ x dx es n, v = .ref x ∧ G x = some (instObj cl dx) ∧ G dx = some (dObj es n) ∧ FieldsR P G fs es, fun k h => by
  obtain ⟨x, dx, es, n, a, b, c, d⟩ := h; exact ⟨x, dx, es, n, a, k _ _ b, k _ _ c, d.mono k⟩⟩
structure GetOk (K : Frag) (cl : Addr) (name : Str) : Prop where
  ga : findIn K (.ref cl) "__getattribute__" = some (some (.builtin "object.__getattribute__"))
  gx : findIn K (.ref cl) "__getattr__" = some none
  hd : hasDictIn K cl = true
  no : findIn K (.ref cl) name = some none
/-- what may be handed out of an attribute -/
noncomputable def Hand {α : Type} (R : Rl α) : Prop := ∀ G x v, R.r G x v → handedIn v = true
theorem hand_int : Hand rInt := fun _ _ _ ⟨_, e⟩ => e ▸ rfl
theorem hand_txt : Hand rTxt := fun _ _ _ ⟨_, e⟩ => e ▸ rfl
theorem hand_t2 {α β : Type} {R : Rl α} {S : Rl β} : Hand (rT2 R S) := fun _ _ _ h => by obtain ⟨_, _, ⟨_, _, e, _⟩, _⟩ := h; exact e ▸ rfl
section
variable {C : Cx} {A : Around} {env : Env} {ρ : Rst} {G G' : PM} {X X' : List Addr} {O : Own} {V V' : Vars} {α β γ δ σ ι : Type} {pos : Pos} {rest : List Stmt} {P : Flow → Shared → Prop}
/-- self.name = e -/
theorem sb_setattr {x nm : Str} {p tp : Pos} {e : Expr} {cl a dx : Addr} {fs : List (Str × Fc)} {R : Rl α} {y : α} (hv : V.lookup x = some ((rIns cl).at (a, dx))) (he : PE C A env X ((dx, ocDict C.w.params fs) :: O) V e R y) (S : SetOk C.K cl nm) (hn : nm ∉ fs.map (·.1)) (hz : fs.length < 1000)
    (hrest : SB C A env ρ G X ((dx, ocDict C.w.params (fs ++ [(nm, R.at y)])) :: O) V rest P) (hd : (x == ("__debug__" : Str)) = false := by decide)
    (hs : swapsWith e (some (.Attribute (.Name x p) nm tp)) pos.line env = pure false := by rfl) :
    SB C A env ρ G X ((dx, ocDict C.w.params fs) :: O) V (.Assign [.Attribute (.Name x p) nm tp] e pos :: rest) P := fun s f => by
  refine wpAny_execs_cons (plainObj_wpAny_Assign_Attribute ?_ hs)
  refine (he s f.kn).use fun v1 s1 g1 r1 => ?_
  have f1 := f.keeps g1
  obtain ⟨v, sv, rfl, hx⟩ := f1.kn.vars _ _ hv
  refine wpAny_Name (sv.load f.kn.fn ?_) hd
  obtain ⟨o, ho, es, n, rfl, hf⟩ := f1.kn.own dx _ (by rw [List.lookup_cons, beq_self_eq_true])
  refine setattr_ev f1.kn.base.k ⟨fz_le _ _ hx, rfl, rfl, ho⟩ rfl S hf hn (by rw [hf.length]; exact hz) fun h' t ho' hsb tk => ?_
  have kb : KB [dx] s1 { s1 with heap := h', toks := tk } := ⟨h', tk, rfl, fun b o n e => (hsb.2 b fun q => n (q ▸ .head _)).trans e⟩
  have le := kb_fz kb (Y := X) fun b m => List.mem_singleton.mp m ▸ (f1.ox dx (.head _)).1
  exact hrest _ (f1.set kb ho' ⟨_, _, rfl, (hf.mono le).snoc (R.mono le r1)⟩)
theorem getattr_ev {s : Shared} {x cl : Addr} {ox : Obj} {es : List DictEntry} {n : Nat} {fs : List (Str × Fc)} {G : PM} {name : Str} {R : Rl α} {y : α} (X : C.K.In s.heap) (I : InstAt s.heap x ox cl (some (dObj es n))) (S : GetOk C.K cl name) (hf : FieldsR C.w.params G fs es)
    (hl : fs.lookup name = some (R.at y)) (hh : Hand R) : Ev C A (getAttr (.ref x) name true) s fun v s' => R.r G y v := by
  obtain ⟨v, e, hr⟩ := look_some hf hl
  exact get_value X I S.ga (findObj_own (attr := none) S.hd S.no rfl e) (hh _ _ _ hr) ⟨keeps_tok, hr⟩
/-- self.name, while the object is written -/
theorem pe_attr_own {x nm : Str} {p : Pos} {cl a dx : Addr} {fs : List (Str × Fc)} {R : Rl α} {y : α} (hv : V.lookup x = some ((rIns cl).at (a, dx))) (ho : O.lookup dx = some (ocDict C.w.params fs)) (S : GetOk C.K cl nm) (hl : fs.lookup nm = some (R.at y)) (hh : Hand R)
    (hd : (x == ("__debug__" : Str)) = false := by decide)
    (he : eval (.Attribute (.Name x p) nm pos) env = (do
      let o ← eval (.Name x p) env
      standAt pos.atName
      let r ← holding [o] (getAttr o nm true)
      letTemporaryGo (.Name x p) o r
      pure r) := by with_unfolding_all rfl) : PE C A env X O V (.Attribute (.Name x p) nm pos) R y := fun s k => by
  obtain ⟨v, sv, rfl, hx⟩ := k.vars _ _ hv
  obtain ⟨o, ho, es, n, rfl, hf⟩ := k.own dx _ ho
  refine Attribute_Name_ (wpAny_Name (sv.load k.fn ?_) hd) he
  exact (getattr_ev k.base.k ⟨fz_le _ _ hx, rfl, rfl, ho⟩ S hf hl hh).mono fun v s' g r => R.mono (fz_gr (keeps_gr g)) r
/-- e.name of an object that stays -/
theorem pe_attr {e : Expr} {nm : Str} {cl : Addr} {fs : List (Str × Fc)} {R : Rl α} {y : α} (hv : PE C A env X O V e (rObj C.w.params cl fs) ()) (S : GetOk C.K cl nm) (hl : fs.lookup nm = some (R.at y)) (hh : Hand R)
    (he : eval (.Attribute e nm pos) env = (do
      let o ← eval e env
      standAt pos.atName
      let r ← holding [o] (getAttr o nm true)
      letTemporaryGo e o r
      pure r) := by with_unfolding_all rfl) : PE C A env X O V (.Attribute e nm pos) R y := fun s k =>
  Attribute_any_ (wpAny_mono (hv s k) (fun v s1 h1 => by
    obtain ⟨g, x, dx, es, n, rfl, hx, hdx, hf⟩ := h1
    exact wpAny_mono (getattr_ev (k.keeps g).base.k ⟨fz_le _ _ hx, rfl, rfl, fz_le _ _ hdx⟩ S hf hl hh) (fun v s' q => ⟨keeps_trans g q.1, R.mono (fz_gr (keeps_gr q.1)) q.2⟩) fun _ _ x => x) fun _ _ x => x) he
/-- a name of a class -/
theorem pe_clsattr {e : Expr} {nm : Str} {cl : Addr} {mc v : Value} {R : Rl α} {y : α} (hv : PE C A env X O V e rVal (.ref cl)) (hr : readsIn C.K cl mc = true) (hf : findCls C.K (.ref cl) mc nm = some (.val v)) (hh : handedIn v = true) (hR : ∀ G, R.r G y v)
    (he : eval (.Attribute e nm pos) env = (do
      let o ← eval e env
      standAt pos.atName
      let r ← holding [o] (getAttr o nm true)
      letTemporaryGo e o r
      pure r) := by with_unfolding_all rfl) : PE C A env X O V (.Attribute e nm pos) R y := fun s k =>
  Attribute_any_ (wpAny_mono (hv s k) (fun u s1 h1 => by
    obtain ⟨g, rfl⟩ := h1
    exact cls_value (k.keeps g).base.k hr hf hh ⟨keeps_trans g keeps_tok, hR _⟩) fun _ _ x => x) he
end
end Mine

namespace Mine
open PySem PySem.Calls PyProof.Rows PySem.W
section
variable {C : Cx} {A : Around} {env : Env} {ρ : Rst} {G G' : PM} {X X' : List Addr} {O : Own} {V V' : Vars} {α β γ δ σ ι : Type} {pos : Pos} {rest : List Stmt} {P : Flow → Shared → Prop}
/-- a call whatever it does -/
theorem callWith_any {es : List Expr} {Fs : List Fc} {f : Value} {first : List Value} {s : Shared} {Q : Value → Shared → Prop} (ha : PL C A env X O V es Fs) (k : Kn C env X O V s) (hf : Keepy C f)
    (h : ∀ vs s', Keeps s s' → AllF (fz X s'.heap) Fs vs → wpAny C.M A (call f (first ++ vs)) Q (fun _ _ => False) s') : wpAny C.M A (callWith pos f first (backTo pos (starEach es env)) []) Q (fun _ _ => False) s := by
  have hp := any_backTo (pos := pos) ha.1
  refine callWith_of (P := C.In) (by rw [hp]; rfl) hf ?_
  have go : ∀ (ts : List (Bool × Sem Value)), wpAny C.M A (spliced ts) (fun vs s' => C.In s'.heap ∧ wpAny C.M A (call f (first ++ vs)) Q (fun _ _ => False) s') (fun _ _ => False) s → ts.any (·.1) = false →
      wpAny C.M A (evalArgs f true ts []) (fun a s₁ => C.In s₁.heap ∧ wpAny C.M A (call f (first ++ a.pos) a.kw) Q (fun _ _ => False) s₁) (fun _ _ => False) s := fun ts hw hn => by
    cases ts with
    | nil => exact evalArgs_nil3 (by
        have : wpAny C.M A (Pure.pure []) (fun vs s' => C.In s'.heap ∧ wpAny C.M A (call f (first ++ vs)) Q (fun _ _ => False) s') (fun _ _ => False) s := hw
        exact ⟨k.base, by
          intro Γ p hΓ
          have := this Γ p hΓ
          rw [Sem.wp_pure'] at this
          exact this.2 Γ p hΓ⟩)
    | cons t r =>
      obtain ⟨b, t⟩ := t
      have : b = false := by
        have h' : (b || r.any (·.1)) = false := hn
        exact (Bool.or_eq_false_iff.mp h').1
      subst this
      exact evalArgs_plain hw
  refine go _ ?_ hp
  exact wpAny_mono (ha.2 pos s k) (fun vs s' h1 => ⟨(k.keeps h1.1).base, h vs s' h1.1 h1.2⟩) fun _ _ x => x
structure MethOk (K : Frag) (cl : Addr) (name : Str) (fa : Addr) : Prop where
  ga : findIn K (.ref cl) "__getattribute__" = some (some (.builtin "object.__getattribute__"))
  gx : findIn K (.ref cl) "__getattr__" = some none
  fn : findIn K (.ref cl) name = some (some (.ref fa))
  ty : typeIn K (.ref fa) = some (.type "function")
  kp : keepIn K (.ref fa) = true
/-- o.name(..) of an object that stays -/
theorem pe_method {o : Expr} {name : Str} {apos : Pos} {es : List Expr} {Fs : List Fc} {cl fa : Addr} {fs : List (Str × Fc)} {R : Rl α} {x : α} {pl : Sem Bool} (ho : PE C A env X O V o (rObj C.w.params cl fs) ()) (M : MethOk C.K cl name fa) (hn : name ∉ fs.map (·.1))
    (ha : PL C A env X O V es Fs) (hc : CallR C A (.ref fa) ((rObj C.w.params cl fs).at () :: Fs) R x)
    (he : eval (.Call (.Attribute o name apos) es [] pos) env = (do
      let ov ← eval o env
      standAt apos.atName
      let (f, first) ← holding [ov] (getMethod ov name pl)
      callWith pos f first (backTo pos (starEach es env)) []) := by rfl) :
    PE C A env X O V (.Call (.Attribute o name apos) es [] pos) R x := fun s k => by
  refine MethodCall_ (wpAny_mono (ho s k) (fun v s1 h1 => ?_) fun _ _ e => e) he
  obtain ⟨g1, hr⟩ := h1
  have hr' := hr
  obtain ⟨a, dx, en, n, rfl, hx, hdx, hf⟩ := hr
  have k1 := k.keeps g1
  refine method_fn k1.base.k (⟨fz_le _ _ hx, rfl, rfl, fz_le _ _ hdx⟩ : PySem.W.InstAt _ _ _ _ (some (dObj en n))) M.ga M.gx M.fn M.ty (by show (lookIn name (dObj en n)).map _ = _; rw [look_none hf hn]; rfl) ?_
  refine callWith_any ha k1 (keepy_K M.kp) fun vs s2 g2 al => ?_
  have k2 := k1.keeps g2
  exact wpAny_mono (hc X s2 (.ref a :: vs) k2.base k2.alive ⟨(rObj C.w.params cl fs).mono (fz_gr (keeps_gr g2)) hr', al⟩) (fun u s3 q => ⟨keeps_trans g1 (keeps_trans g2 q.1), q.2⟩) fun _ _ e => e
end
end Mine

namespace Mine
open PySem PySem.Calls PyProof.Rows PySem.W
/-- what the heap that k_head wrote holds; a structure, so that no definition below names that heap -/
structure At (a : Addr) (P : Params) (o : Obj) : Prop where
  h : (hd.heap_1 P).lookup a = some o
noncomputable def q2 (P : Params) : {o // At 2 P o} := ⟨_, ⟨rfl⟩⟩
noncomputable def q3 (P : Params) : {o // At 3 P o} := ⟨_, ⟨rfl⟩⟩
noncomputable def q25 (P : Params) : {o // At 25 P o} := ⟨_, ⟨rfl⟩⟩
noncomputable def q30 (P : Params) : {o // At 30 P o} := ⟨_, ⟨rfl⟩⟩
noncomputable def q37 (P : Params) : {o // At 37 P o} := ⟨_, ⟨rfl⟩⟩
noncomputable def q38 (P : Params) : {o // At 38 P o} := ⟨_, ⟨rfl⟩⟩
noncomputable def q44 (P : Params) : {o // At 44 P o} := ⟨_, ⟨rfl⟩⟩
noncomputable def q45 (P : Params) : {o // At 45 P o} := ⟨_, ⟨rfl⟩⟩
noncomputable def q46 (P : Params) : {o // At 46 P o} := ⟨_, ⟨rfl⟩⟩
noncomputable def q52 (P : Params) : {o // At 52 P o} := ⟨_, ⟨rfl⟩⟩
noncomputable def q53 (P : Params) : {o // At 53 P o} := ⟨_, ⟨rfl⟩⟩
noncomputable def q60 (P : Params) : {o // At 60 P o} := ⟨_, ⟨rfl⟩⟩
noncomputable def q61 (P : Params) : {o // At 61 P o} := ⟨_, ⟨rfl⟩⟩
noncomputable def q67 (P : Params) : {o // At 67 P o} := ⟨_, ⟨rfl⟩⟩
noncomputable def q68 (P : Params) : {o // At 68 P o} := ⟨_, ⟨rfl⟩⟩
noncomputable def q97 (P : Params) : {o // At 97 P o} := ⟨_, ⟨rfl⟩⟩
noncomputable def q98 (P : Params) : {o // At 98 P o} := ⟨_, ⟨rfl⟩⟩
noncomputable def q100 (P : Params) : {o // At 100 P o} := ⟨_, ⟨rfl⟩⟩
noncomputable def q101 (P : Params) : {o // At 101 P o} := ⟨_, ⟨rfl⟩⟩
noncomputable def q111 (P : Params) : {o // At 111 P o} := ⟨_, ⟨rfl⟩⟩
noncomputable def q112 (P : Params) : {o // At 112 P o} := ⟨_, ⟨rfl⟩⟩
noncomputable def q128 (P : Params) : {o // At 128 P o} := ⟨_, ⟨rfl⟩⟩
noncomputable def q129 (P : Params) : {o // At 129 P o} := ⟨_, ⟨rfl⟩⟩
noncomputable def q142 (P : Params) : {o // At 142 P o} := ⟨_, ⟨rfl⟩⟩
noncomputable def q143 (P : Params) : {o // At 143 P o} := ⟨_, ⟨rfl⟩⟩
noncomputable def q173 (P : Params) : {o // At 173 P o} := ⟨_, ⟨rfl⟩⟩
noncomputable def q174 (P : Params) : {o // At 174 P o} := ⟨_, ⟨rfl⟩⟩
noncomputable def q184 (P : Params) : {o // At 184 P o} := ⟨_, ⟨rfl⟩⟩
noncomputable def q185 (P : Params) : {o // At 185 P o} := ⟨_, ⟨rfl⟩⟩
noncomputable def q191 (P : Params) : {o // At 191 P o} := ⟨_, ⟨rfl⟩⟩
noncomputable def q192 (P : Params) : {o // At 192 P o} := ⟨_, ⟨rfl⟩⟩
noncomputable def q196 (P : Params) : {o // At 196 P o} := ⟨_, ⟨rfl⟩⟩
noncomputable def q197 (P : Params) : {o // At 197 P o} := ⟨_, ⟨rfl⟩⟩
noncomputable def Kf (P : Params) : Frag := [(2, (q2 P).1), (3, (q3 P).1), (25, (q25 P).1), (30, (q30 P).1), (37, (q37 P).1), (38, (q38 P).1), (44, (q44 P).1), (45, (q45 P).1), (46, (q46 P).1), (52, (q52 P).1), (53, (q53 P).1), (60, (q60 P).1), (61, (q61 P).1), (67, (q67 P).1), (68, (q68 P).1), (97, (q97 P).1), (98, (q98 P).1), (100, (q100 P).1), (101, (q101 P).1), (111, (q111 P).1), (112, (q112 P).1), (128, (q128 P).1), (129, (q129 P).1), (142, (q142 P).1), (143, (q143 P).1), (173, (q173 P).1), (174, (q174 P).1), (184, (q184 P).1), (185, (q185 P).1), (191, (q191 P).1), (192, (q192 P).1), (196, (q196 P).1), (197, (q197 P).1), (4, { cls := .type "module", dict := some 0 })]
noncomputable def dataFn (d : Data) : Option FuncData := match d with
  | .func fd => some fd
  | _ => none
noncomputable def fnBody (b : FuncBody) : List Stmt := match b with
  | .stmts l => l
  | _ => []
noncomputable def o38 (P : Params) : {o // (Kf P).lookup 38 = some o} := ⟨(q38 P).1, rfl⟩
noncomputable def fd38 (P : Params) : {fd // (o38 P).1.data = .func fd} := ⟨(dataFn (o38 P).1.data).get rfl, rfl⟩
noncomputable def body38 (P : Params) : {b // (fd38 P).1.body = .stmts b} := ⟨fnBody (fd38 P).1.body, rfl⟩
noncomputable def o45 (P : Params) : {o // (Kf P).lookup 45 = some o} := ⟨(q45 P).1, rfl⟩
noncomputable def fd45 (P : Params) : {fd // (o45 P).1.data = .func fd} := ⟨(dataFn (o45 P).1.data).get rfl, rfl⟩
noncomputable def body45 (P : Params) : {b // (fd45 P).1.body = .stmts b} := ⟨fnBody (fd45 P).1.body, rfl⟩
noncomputable def o53 (P : Params) : {o // (Kf P).lookup 53 = some o} := ⟨(q53 P).1, rfl⟩
noncomputable def fd53 (P : Params) : {fd // (o53 P).1.data = .func fd} := ⟨(dataFn (o53 P).1.data).get rfl, rfl⟩
noncomputable def body53 (P : Params) : {b // (fd53 P).1.body = .stmts b} := ⟨fnBody (fd53 P).1.body, rfl⟩
noncomputable def o61 (P : Params) : {o // (Kf P).lookup 61 = some o} := ⟨(q61 P).1, rfl⟩
noncomputable def fd61 (P : Params) : {fd // (o61 P).1.data = .func fd} := ⟨(dataFn (o61 P).1.data).get rfl, rfl⟩
noncomputable def body61 (P : Params) : {b // (fd61 P).1.body = .stmts b} := ⟨fnBody (fd61 P).1.body, rfl⟩
noncomputable def o68 (P : Params) : {o // (Kf P).lookup 68 = some o} := ⟨(q68 P).1, rfl⟩
noncomputable def fd68 (P : Params) : {fd // (o68 P).1.data = .func fd} := ⟨(dataFn (o68 P).1.data).get rfl, rfl⟩
noncomputable def body68 (P : Params) : {b // (fd68 P).1.body = .stmts b} := ⟨fnBody (fd68 P).1.body, rfl⟩
noncomputable def o98 (P : Params) : {o // (Kf P).lookup 98 = some o} := ⟨(q98 P).1, rfl⟩
noncomputable def fd98 (P : Params) : {fd // (o98 P).1.data = .func fd} := ⟨(dataFn (o98 P).1.data).get rfl, rfl⟩
noncomputable def body98 (P : Params) : {b // (fd98 P).1.body = .stmts b} := ⟨fnBody (fd98 P).1.body, rfl⟩
noncomputable def o112 (P : Params) : {o // (Kf P).lookup 112 = some o} := ⟨(q112 P).1, rfl⟩
noncomputable def fd112 (P : Params) : {fd // (o112 P).1.data = .func fd} := ⟨(dataFn (o112 P).1.data).get rfl, rfl⟩
noncomputable def body112 (P : Params) : {b // (fd112 P).1.body = .stmts b} := ⟨fnBody (fd112 P).1.body, rfl⟩
noncomputable def o129 (P : Params) : {o // (Kf P).lookup 129 = some o} := ⟨(q129 P).1, rfl⟩
noncomputable def fd129 (P : Params) : {fd // (o129 P).1.data = .func fd} := ⟨(dataFn (o129 P).1.data).get rfl, rfl⟩
noncomputable def body129 (P : Params) : {b // (fd129 P).1.body = .stmts b} := ⟨fnBody (fd129 P).1.body, rfl⟩
noncomputable def o143 (P : Params) : {o // (Kf P).lookup 143 = some o} := ⟨(q143 P).1, rfl⟩
noncomputable def fd143 (P : Params) : {fd // (o143 P).1.data = .func fd} := ⟨(dataFn (o143 P).1.data).get rfl, rfl⟩
noncomputable def body143 (P : Params) : {b // (fd143 P).1.body = .stmts b} := ⟨fnBody (fd143 P).1.body, rfl⟩
noncomputable def o185 (P : Params) : {o // (Kf P).lookup 185 = some o} := ⟨(q185 P).1, rfl⟩
noncomputable def fd185 (P : Params) : {fd // (o185 P).1.data = .func fd} := ⟨(dataFn (o185 P).1.data).get rfl, rfl⟩
noncomputable def body185 (P : Params) : {b // (fd185 P).1.body = .stmts b} := ⟨fnBody (fd185 P).1.body, rfl⟩
noncomputable def o192 (P : Params) : {o // (Kf P).lookup 192 = some o} := ⟨(q192 P).1, rfl⟩
noncomputable def fd192 (P : Params) : {fd // (o192 P).1.data = .func fd} := ⟨(dataFn (o192 P).1.data).get rfl, rfl⟩
noncomputable def body192 (P : Params) : {b // (fd192 P).1.body = .stmts b} := ⟨fnBody (fd192 P).1.body, rfl⟩
noncomputable def o197 (P : Params) : {o // (Kf P).lookup 197 = some o} := ⟨(q197 P).1, rfl⟩
noncomputable def fd197 (P : Params) : {fd // (o197 P).1.data = .func fd} := ⟨(dataFn (o197 P).1.data).get rfl, rfl⟩
noncomputable def body197 (P : Params) : {b // (fd197 P).1.body = .stmts b} := ⟨fnBody (fd197 P).1.body, rfl⟩
end Mine

namespace Mine
open PySem PySem.Calls PyProof.Rows PySem.W
/-- what the module's top holds -/
structure Lw (C : Cx) : Prop where
  k : C.K = Kf C.w.params
  prog : C.prog = PySem.Challenge.pw_xj0026_02
  bn : ∀ x ∈ (["abs", "int", "divmod", "len", "range", "max", "sum", "ord", "chr", "tuple", "str", "zip", "sorted", "super", "list"] : List Str), C.mg x = none
  bm : C.mg "__builtins__" = some (.ref 4)
  int2ap : C.mg "Int2AP" = some (.ref 112)
theorem kinds_of {l : List (Str × NameKind)} {names : List Str} (h : (names.all fun n => match l.lookup n with | some .local | some .cell => true | _ => false) = true) : ∀ n ∈ names, l.lookup n = some .local ∨ l.lookup n = some .cell := fun n hn => by
  have := List.all_eq_true.mp h n hn
  revert this
  cases l.lookup n with
  | none => intro h; cases h
  | some k => cases k <;> first | exact fun _ => .inl rfl | exact fun _ => .inr rfl | (intro h; cases h)
theorem divmod16 (n : Nat) : ((n : Int).fdiv 16, (n : Int).fmod 16) = (((n / 16 : Nat) : Int), ((n % 16 : Nat) : Int)) := by
  rw [Int.fdiv_eq_ediv_of_nonneg _ (by decide), Int.fmod_eq_emod_of_nonneg _ (by decide)]; rfl
noncomputable def APl : List UInt8 := [65, 66, 67, 68, 69, 70, 71, 72, 73, 74, 75, 76, 77, 78, 79, 80]
theorem cut_ap (m : Nat) : (cut APl (some m) (some (m + 1))).length ≤ 1 := by
  simp only [cut, Option.getD_some, List.length_take]; omega
noncomputable def apF : Nat → Nat → List UInt8 → List UInt8
  | 0, _, v => v
  | f + 1, n, v => if n = 0 then v else apF f (n / 16) (cut APl (some (n % 16)) (some (n % 16 + 1)) ++ v)
theorem int2ap_call {C : Cx} {A : Around} (H : Lw C) (r : Rm 4 A) {n : Int} {f : Nat} (hf : n.natAbs < 16 ^ f) (hf2 : f < 1000) : CallR C A (.ref 112) [rInt.at n] rB (apF f n.natAbs []) := fun X s vs hS hl al => by
  obtain ⟨v, rfl, hv⟩ := al.one
  refine call_ev (o := (o112 C.w.params).1) (fd := (fd112 C.w.params).1) (body := (body112 C.w.params).1) (names := ["num"]) (Fs := [rInt.at n]) (X := X) (r.less (by decide)) (by rw [H.k]; exact (o112 _).2) (fd112 _).2 (body112 _).2 rfl rfl rfl (by rw [H.k]; rfl) (BindsTo.of_eq rfl) rfl (by decide) (kinds_of rfl) (of_decide_eq_true rfl) hS hl al ?_ rfl rfl rfl
  intro L X' hX
  have r2 : Rm 3 (A.deeper (callEnvC (fd112 C.w.params).1 L 112)) := r.deeper
  generalize A.deeper (callEnvC (fd112 C.w.params).1 L 112) = B at r2
  refine sb_assign (pe_bytesL) (.inl rfl) ?_
  refine sb_assign (pe_bytesL (b := APl)) (.inl rfl) ?_
  refine sb_assign (pe_call (pe_builtin (H.bn _ (by decide)) boot_int (by decide) rfl) keepy_type (pl_cons (pe_call (pe_builtin (H.bn _ (by decide)) boot_abs (by decide) rfl) keepy_builtin (pl_cons (pe_name rfl) pl_nil) f_abs) pl_nil) f_int) (.inl rfl) ?_
  refine sb_while (ι := Nat × Nat × List UInt8) (fun j => j.1) (fun j => [("num", rInt.at (j.2.1 : Int)), ("val", rB.at j.2.2), ("AP", rB.at APl)]) (fun j => (j.2.1 : Int) != 0) (fun j => j.2.1 < 16 ^ j.1 ∧ j.1 + j.2.2.length < 1000 ∧ apF j.1 j.2.1 j.2.2 = apF f n.natAbs [])
    (i₀ := (f, n.natAbs, [])) ⟨hf, by simpa using hf2, rfl⟩ ?_ (fun j _ => pt_int (pe_name rfl)) ?_ ?_
  · refine ⟨?_, rfl, rfl, trivial⟩
    rw [show ((n.natAbs : Nat) : Int) = if n < 0 then -n else n by split <;> omega]; rfl
  · intro j hj hb
    obtain ⟨k, m, v⟩ := j
    obtain ⟨hlt, hlen, hap⟩ := hj
    simp only at hlt hlen hap hb
    have hm : m ≠ 0 := by simpa using hb
    obtain ⟨k, rfl⟩ : ∃ k', k = k' + 1 := by
      cases k with
      | zero => simp at hlt; omega
      | succ k => exact ⟨k, rfl⟩
    have hc := cut_ap (m % 16)
    refine sb_assign2 (r2.less (by decide)) ((pe_call (pe_builtin (H.bn _ (by decide)) boot_divmod (by decide) rfl) keepy_builtin (pl_cons (pe_name rfl) (pl_cons pe_int pl_nil)) (f_divmod (by decide) (PyProof.noPylong_small (by decide)))).cast (divmod16 m)) (.inl rfl) (.inl rfl) ?_
    refine sb_assign (pe_bin (pe_slice_bytes (pe_name rfl) (pp_some (pe_name rfl) rfl) (pp_some (n := m % 16 + 1) (pe_bin (pe_name rfl) pe_int b_add_int) (by omega)) (by decide)) (pe_name rfl) (b_add_bytes (by simp only [cut] at hc ⊢; omega))) (.inl rfl) ?_
    refine sb_nil fun s f' => ⟨(k, m / 16, cut APl (some (m % 16)) (some (m % 16 + 1)) ++ v), ⟨?_, ?_, ?_⟩, Nat.lt_succ_self k, f'.sub ⟨rfl, rfl, rfl, trivial⟩⟩
    · show m / 16 < 16 ^ k
      exact Nat.div_lt_of_lt_mul (by rw [Nat.pow_succ] at hlt; omega)
    · show k + (cut APl (some (m % 16)) (some (m % 16 + 1)) ++ v).length < 1000
      rw [List.length_append]; omega
    · rw [← hap]; show _ = apF (k + 1) m v; rw [apF, if_neg hm]
  · intro j hj hb
    obtain ⟨k, m, v⟩ := j
    obtain ⟨hlt, hlen, hap⟩ := hj
    simp only at hlt hlen hap hb
    have hm : m = 0 := by simpa using hb
    refine sb_return (pe_name rfl) fun s u f' hr => ⟨keeps_FS f', ?_⟩
    rw [← hap]
    have : apF k m v = v := by
      subst hm; cases k with
      | zero => rfl
      | succ k => rw [apF, if_pos rfl]
    rw [this]; exact hr
end Mine

namespace Mine
open PySem PySem.Calls PyProof.Rows PySem.W
noncomputable def divF : Nat → Nat → Nat → List Int → List Int
  | 0, _, _, row => row
  | f + 1, u, l, row => if l = 0 then row else divF f l (u % l) (row ++ [((u / l : Nat) : Int)])
theorem divF_zero (f u : Nat) (row : List Int) : divF f u 0 row = row := by cases f with
  | zero => rfl
  | succ f => rw [divF, if_pos rfl]
theorem divisions_call {C : Cx} {A : Around} (H : Lw C) (r : Rm 4 A) {u l f : Nat} (hf : l < f) (hf2 : f < 1000) (hu : u < 1000000) : CallR C A (.ref 185) [rInt.at (u : Int), rInt.at (l : Int)] (rList rInt) (divF f u l []) := fun X s vs hS hl al => by
  obtain ⟨v, v', rfl, hv, hv'⟩ := al.two
  refine call_ev (o := (o185 C.w.params).1) (fd := (fd185 C.w.params).1) (body := (body185 C.w.params).1) (names := ["upper", "lower"]) (Fs := [rInt.at (u : Int), rInt.at (l : Int)]) (X := X) (r.less (by decide)) (by rw [H.k]; exact (o185 _).2) (fd185 _).2 (body185 _).2 rfl rfl rfl (by rw [H.k]; rfl) (BindsTo.of_eq rfl) rfl (by decide) (kinds_of rfl) (of_decide_eq_true rfl) hS hl al ?_ rfl rfl rfl
  intro L X' hX
  have r2 : Rm 3 (A.deeper (callEnvC (fd185 C.w.params).1 L 185)) := r.deeper
  generalize A.deeper (callEnvC (fd185 C.w.params).1 L 185) = B at r2
  refine sb_newlist (R := rInt) (xs := []) pl_nil (by decide) (.inl rfl) fun a ha => ?_
  refine sb_whileO (ι := Nat × Nat × Nat × List Int) (fun j => j.1) (fun j => [(a, ocList rInt j.2.2.2)]) (fun j => [("row", rVal.at (.ref a)), ("upper", rInt.at (j.2.1 : Int)), ("lower", rInt.at (j.2.2.1 : Int))]) (fun j => decide ((0 : Int) < j.2.2.1))
    (fun j => j.2.2.1 < j.1 ∧ j.2.1 < 1000000 ∧ j.1 + j.2.2.2.length < 1000 ∧ divF j.1 j.2.1 j.2.2.1 j.2.2.2 = divF f u l [])
    (i₀ := (f, u, l, [])) ⟨hf, hu, by simpa using hf2, rfl⟩ ⟨rfl, rfl, rfl, trivial⟩ (fun j _ => pt_cmp (pe_name rfl) pe_int c_gt_int) ?_ ?_
  · intro j hj hb
    obtain ⟨k, m, n, row⟩ := j
    obtain ⟨hlt, hm, hlen, hap⟩ := hj
    simp only at hlt hlen hap hb hm
    have hn : 0 < n := by simpa using hb
    obtain ⟨k, rfl⟩ : ∃ k', k = k' + 1 := ⟨k - 1, by omega⟩
    have hnz : (n : Int) ≠ 0 := by omega
    have hp : Builtin.divisionGoesByPylong (m : Int) (n : Int) = false := PyProof.noPylong_small (by omega)
    refine sb_append rfl ((pe_bin (pe_name rfl) (pe_name rfl) (b_div_int hnz hp)).cast (y := ((m / n : Nat) : Int)) (by rw [Int.fdiv_eq_ediv_of_nonneg _ (by omega)]; rfl)) (Nat.le_trans (by show row.length ≤ 1000; omega) (by decide : 1000 ≤ sizeLine)) ?_
    refine sb_swap2 (r2.less (by decide)) (pe_t2 (pl_cons (pe_name rfl) (pl_cons ((pe_bin (pe_name rfl) (pe_name rfl) (b_mod_int hnz)).cast (y := ((m % n : Nat) : Int)) (by rw [Int.fmod_eq_emod_of_nonneg _ (by omega)]; rfl)) pl_nil))) (.inl rfl) (.inl rfl) ?_
    refine sb_nil fun s f' => ⟨(k, n, m % n, row ++ [((m / n : Nat) : Int)]), ⟨?_, ?_, ?_, ?_⟩, Nat.lt_succ_self k, f'.sub ⟨rfl, rfl, rfl, trivial⟩⟩
    · show m % n < k
      have := Nat.mod_lt m hn; omega
    · show n < 1000000; omega
    · show k + (row ++ [((m / n : Nat) : Int)]).length < 1000
      rw [List.length_append]; simp only [List.length_cons, List.length_nil]; omega
    · rw [← hap]; show _ = divF (k + 1) m n row; rw [divF, if_neg (by omega)]
  · intro j hj hb
    obtain ⟨k, m, n, row⟩ := j
    obtain ⟨hlt, hm, hlen, hap⟩ := hj
    simp only at hlt hlen hap hb
    have hn : n = 0 := by simpa using hb
    subst hn
    refine sb_freeze (x := "row") rfl ha (sb_return (pe_name rfl) fun s w f' hr => ⟨keeps_FS f', ?_⟩)
    rw [← hap, divF_zero]
    exact (rList rInt).mono (fz_sub hX) hr
end Mine

namespace Mine
open PySem PySem.Calls PyProof.Rows PySem.W
/-! what Whitespace reads of a text -/
noncomputable def bump (c : List Int) (b : Nat) : List Int :=
  let c' := if c.length ≤ b then c ++ List.replicate (b - c.length + 1) 0 else c
  c'.set b (c'.getD b 0 + 1)
abbrev WsS := Nat × Nat × Nat × List Int
noncomputable def wsF : List Nat → WsS → WsS
  | [], j => j
  | ch :: r, j => if ch = 32 then wsF r (j.1 + 1, j.2.1, j.2.2.1 + 1, j.2.2.2) else if ch = 9 then wsF r (j.1 + 1, j.2.1 + 1, 0, bump j.2.2.2 j.2.2.1) else j
noncomputable def wsFs (t : List Nat) : List (Str × Fc) :=
  let j := wsF t (0, 0, 0, [])
  [("raw", rTxt.at t), ("n", rInt.at (j.1 : Int)), ("nt", rInt.at (j.2.1 : Int)), ("norm", (rT2 (rTupN rInt) rInt).at (j.2.2.2, (j.2.2.1 : Int))), ("is_simple", rBool.at (decide ((j.2.2.2.length : Int) ≤ 1)))]
theorem Rm.make {k : Nat} {A : Around} (r : Rm (k + 1) A) (c : Addr) (vals : List Value) : Rm k (A.under (.builtin "type.__call__" ⟨.ref c :: vals, []⟩)) :=
  ⟨r.hd, by have := r.dp; show A.depth + 1 + k < _; omega, by have := r.un; show A.units + 1 + 8 * k < _; omega⟩
section
variable {C : Cx} {A : Around} {env : Env} {ρ : Rst} {G G' : PM} {X X' : List Addr} {O : Own} {V V' : Vars} {α β γ δ σ ι : Type} {pos : Pos} {rest : List Stmt} {P : Flow → Shared → Prop}
theorem look_hd {β : Type} {a : Addr} {F : β} {O : List (Addr × β)} : ((a, F) :: O).lookup a = some F := by rw [List.lookup_cons, beq_self_eq_true]
theorem sb_ifLast {test : Expr} {body orelse : List Stmt} {b : Bool} (ht : PT C A env X O V test b) (h1 : b = true → SB C A env ρ G X O V body P) (h2 : b = false → SB C A env ρ G X O V orelse P) : SB C A env ρ G X O V [.If test body orelse pos] P := fun s f =>
  wpAny_execs_cons (wpAny_If (wpAny_mono (ht s f.kn) (fun c s1 q => by
    obtain ⟨g, rfl⟩ := q
    cases c with
    | true => exact wpAny_mono (h1 rfl s1 (f.keeps g)) (fun fl s2 q => by cases fl <;> first | exact wpAny_execs_nil q | exact q) fun _ _ e => e
    | false => exact wpAny_mono (h2 rfl s1 (f.keeps g)) (fun fl s2 q => by cases fl <;> first | exact wpAny_execs_nil q | exact q) fun _ _ e => e) fun _ _ e => e))
theorem sb_break (h : ∀ s, FS C env ρ G X O V s → P .brk s) : SB C A env ρ G X O V (.Break pos :: rest) P := fun s f => wpAny_execs_cons (wpAny_Break (h s f))
end
theorem tn_c {a b : Nat} (h : a ≤ b) : ((b : Int) - (a : Int) + 1).toNat = b - a + 1 := by
  rw [show (b : Int) - (a : Int) + 1 = ((b - a + 1 : Nat) : Int) by rw [Int.natCast_add, Int.natCast_sub h]; rfl, Int.toNat_natCast]
theorem ws_call {C : Cx} {A : Around} (H : Lw C) (hW : C.mg "Whitespace" = some (.ref 174)) (r : Rm 6 A) {t : List Nat} (ht : ∀ c ∈ t, c < 128) (hz : t.length < 1000) : CallR C A (.ref 174) [rTxt.at t] (rObj C.w.params 174 (wsFs t)) () := fun X s vs hS hl al => by
  obtain ⟨v, rfl, hv⟩ := al.one
  obtain ⟨h, g, d, tk, os⟩ := s
  have hK : C.K.In h := hS.k
  have hm : makesIn C.K 174 = true := by rw [H.k]; rfl
  have hi : Looks C.M h (typeLookup (.ref 174) "__init__") (some (.ref 129)) := looks_findIn hK (by rw [H.k]; rfl)
  have hf : typeIn C.K (.ref 129) = some (.type "function") := by rw [H.k]; rfl
  refine wpAny_call (make_core (makes_of hK hm) hi (fun self => bind_fn hK self hf) (.inl rfl) ?_)
  generalize hdx : h.objs.size = dx
  have k1 : Gr h ((h.push emptyDict).push (instObj 174 dx)) := fun b o e => Heap.get?_push_of_some _ (Heap.get?_push_of_some _ e)
  have hd0 : ((h.push emptyDict).push (instObj 174 dx)).get? dx = some (dObj [] 0) := by subst hdx; heap_get
  have hx0 : ((h.push emptyDict).push (instObj 174 dx)).get? (dx + 1) = some (instObj 174 dx) := by subst hdx; heap_get
  have hdn : h.get? dx = none := by subst hdx; exact new_none (s := ⟨h, g, d, tk, os⟩)
  have hxd : dx + 1 ≠ dx := Nat.succ_ne_self dx
  have hdX : dx ∉ X := fun m => by obtain ⟨o, e⟩ := hl dx m; rw [show (⟨h, g, d, tk, os⟩ : Shared).heap.get? dx = h.get? dx from rfl, hdn] at e; cases e
  generalize ((h.push emptyDict).push (instObj 174 dx)) = h1 at k1 hd0 hx0 ⊢
  have hS1 : C.In h1 := hS.keeps k1
  have le1 : Le (fz X h) (fz (dx :: X) h1) := fz_but fun b o n e => ⟨k1 b o e, fun m => (List.mem_cons.mp m).elim (fun q => by rw [q, hdn] at e; cases e) n⟩
  refine callO_code (s := ⟨h1, g, d, tk, os⟩) (o := (o129 C.w.params).1) (fd := (fd129 C.w.params).1) (body := (body129 C.w.params).1) (names := ["self", "ws"]) (vals := [.ref (dx + 1), v]) (Fs := [(rIns 174).at (dx + 1, dx), rTxt.at t]) (X := dx :: X) (O := [(dx, ocDict C.w.params [])])
    (A := A.under _) ((r.make 174 [v]).less (by decide)) (by rw [H.k]; exact (o129 _).2) (fd129 _).2 (body129 _).2 rfl rfl rfl (by rw [H.k]; rfl) (BindsTo.of_eq rfl) rfl (by decide) (kinds_of rfl) (of_decide_eq_true rfl) hS1 ?_ ?_ ?_ ?_ ?_ ?_ ?_ rfl rfl rfl
  · intro b m
    rcases List.mem_cons.mp m with rfl | m
    · exact ⟨_, hd0⟩
    · obtain ⟨o, e⟩ := hl b m; exact ⟨o, k1 b o e⟩
  · intro h' k
    refine hS.keeps fun b o e => k b o (fz_of (k1 b o e) fun m => ?_)
    rw [List.mem_singleton.mp m] at e
    rw [show (⟨h, g, d, tk, os⟩ : Shared).heap.get? dx = h.get? dx from rfl, hdn] at e; cases e
  · intro a m; rw [List.mem_singleton.mp m]; exact .head _
  · exact List.nodup_cons.mpr ⟨by simp, List.nodup_nil⟩
  · intro a F e
    rw [List.lookup_cons] at e
    cases hb : a == dx with
    | true => rw [hb] at e; cases e; rw [eq_of_beq hb]; exact ⟨_, hd0, [], 0, rfl, trivial⟩
    | false => rw [hb] at e; cases e
  · exact ⟨⟨rfl, fz_of hx0 fun m => (List.mem_cons.mp m).elim hxd fun m => by
      obtain ⟨o, e⟩ := hl _ m
      have := Heap.lt_size e
      subst hdx; exact absurd this (Nat.not_lt.mpr (Nat.le_succ _))⟩, (rTxt.mono le1 hv), trivial⟩
  intro L X' hX
  have r2 : Rm 4 ((A.under (.builtin "type.__call__" ⟨.ref 174 :: [v], []⟩)).deeper (callEnvC (fd129 C.w.params).1 L 129)) := (r.make 174 [v]).deeper
  generalize (A.under (.builtin "type.__call__" ⟨.ref 174 :: [v], []⟩)).deeper (callEnvC (fd129 C.w.params).1 L 129) = B at r2
  have so : ∀ nm : Str, (findIn (Kf C.w.params) (.ref 174) "__setattr__" = some (some (.builtin "object.__setattr__")) ∧ plainOver (Kf C.w.params) 174 = true ∧ takerIn (Kf C.w.params) 174 nm = some none ∧ (clsIn (Kf C.w.params) 174).any (·.hasDict) = true) → SetOk C.K 174 nm := fun nm q => by rw [H.k]; exact ⟨q.1, q.2.1, q.2.2.1, q.2.2.2⟩
  have go : ∀ nm : Str, (findIn (Kf C.w.params) (.ref 174) "__getattribute__" = some (some (.builtin "object.__getattribute__")) ∧ findIn (Kf C.w.params) (.ref 174) "__getattr__" = some none ∧ hasDictIn (Kf C.w.params) 174 = true ∧ findIn (Kf C.w.params) (.ref 174) nm = some none) → GetOk C.K 174 nm := fun nm q => by rw [H.k]; exact ⟨q.1, q.2.1, q.2.2.1, q.2.2.2⟩
  have hlen : ∀ {xs : List Int}, xs.length ≤ 4000 → xs.length < 2 ^ 62 := fun h => by omega
  have lenK : C.mg "len" = none := H.bn _ (by decide)
  refine sb_setattr (nm := "raw") rfl (pe_name rfl) (so _ ⟨rfl, rfl, rfl, rfl⟩) (of_decide_eq_true rfl) (of_decide_eq_true rfl) ?_
  refine sb_swap2 (R := rTxt) (S := rTxt) (a := [32]) (b := [9]) (r2.less (by decide)) (pe_t2 (pl_cons (pe_clsattr (mc := .type "type") (R := rTxt) (y := [32]) (pe_global hW rfl) (by rw [H.k]; rfl) (by rw [H.k]; rfl) rfl (fun G => ⟨_, rfl⟩)) (pl_cons (pe_clsattr (mc := .type "type") (R := rTxt) (y := [9]) (pe_global hW rfl) (by rw [H.k]; rfl) (by rw [H.k]; rfl) rfl (fun G => ⟨_, rfl⟩)) pl_nil))) (.inl rfl) (.inl rfl) ?_
  refine sb_newlist (R := rInt) (xs := []) pl_nil (by decide) (.inl rfl) fun a ha => ?_
  refine sb_assign3 pe_int (.inl rfl) (.inl rfl) (.inl rfl) ?_
  let fs1 : List (Str × Fc) := [("raw", rTxt.at t)]
  let Vv : Addr × WsS → Vars := fun j => [("count", rVal.at (.ref j.1)), ("b", rInt.at (j.2.2.2.1 : Int)), ("n", rInt.at (j.2.1 : Int)), ("nt", rInt.at (j.2.2.1 : Int)), ("S", rTxt.at [32]), ("T", rTxt.at [9]), ("self", (rIns 174).at (dx + 1, dx)), ("ws", rTxt.at t)]
  let Oo : Addr × WsS → Own := fun j => [(j.1, ocList rInt j.2.2.2.2), (dx, ocDict C.w.params fs1)]
  refine sb_for (ι := Addr × WsS) (xs := t.map fun c => [c]) (R := rTxt) (S := rTxt) (xv := t) (X₀ := X') (fun i j => wsF (t.drop i) j.2 = wsF t (0, 0, 0, []) ∧ j.1 ∉ X' ∧ j.2.2.2.1 ≤ i ∧ j.2.2.2.2.length ≤ i + 1) (fun j => j.2 = wsF t (0, 0, 0, []) ∧ j.1 ∉ X' ∧ j.2.2.2.2.length ≤ 2000) (fun j => [j.1]) Oo Vv
    (fun c => [("ch", rTxt.at c)]) (j₀ := (a, 0, 0, 0, [])) ?_ (iter_txt (.inl ⟨_, _, rfl⟩) (r2.less (by decide)) ht) (asg_name (.inl rfl)) (fun j b m => by rw [List.mem_singleton.mp m]; exact .head _) ⟨rfl, ha, Nat.le_refl _, by simp⟩ ⟨rfl, rfl, rfl, rfl, rfl, rfl, rfl, rfl, trivial⟩ ?_ ?_
  · exact pe_attr_own (cl := 174) rfl (by rw [List.lookup_cons, show (dx == a) = false from beq_false_of_ne fun e => ha (e ▸ hX dx (.head _))]; exact look_hd) (go _ ⟨rfl, rfl, rfl, rfl⟩) rfl hand_txt
  · intro G' X2 i j c hX2 hXx hJ hx
    obtain ⟨a, n, nt, b, cnt⟩ := j
    obtain ⟨hJ, haj, hb, hc⟩ := hJ
    simp only at hb hc hJ haj
    have ha2 : a ∉ X2 := hXx a (.head _) haj
    rw [List.getElem?_map, Option.map_eq_some_iff] at hx
    obtain ⟨c, hx, rfl⟩ := hx
    have hi : i < t.length := (List.getElem?_eq_some_iff.mp hx).1
    have hdrop : t.drop i = c :: t.drop (i + 1) := by rw [List.drop_eq_getElem_cons hi, (List.getElem?_eq_some_iff.mp hx).2]
    rw [hdrop] at hJ
    refine sb_ifLast (pt_cmp (pe_name rfl) (pe_name rfl) c_eq_txt) (fun ht => ?_) fun ht => ?_
    · have hc32 : c = 32 := by simpa using ht
      refine sb_assign ((pe_bin (pe_name rfl) pe_int b_add_int).cast (y := ((n + 1 : Nat) : Int)) rfl) (.inl rfl) (sb_assign ((pe_bin (pe_name rfl) pe_int b_add_int).cast (y := ((b + 1 : Nat) : Int)) rfl) (.inl rfl) (sb_nil fun s f => ?_))
      refine ⟨(a, n + 1, nt, b + 1, cnt), ⟨?_, haj, Nat.succ_le_succ hb, Nat.le_succ_of_le hc⟩, f.sub ⟨rfl, rfl, rfl, rfl, rfl, rfl, rfl, rfl, trivial⟩⟩
      rw [← hJ, wsF, if_pos hc32]
    have n32 : c ≠ 32 := by simpa using ht
    refine sb_ifLast (pt_cmp (pe_name rfl) (pe_name rfl) c_eq_txt) (fun ht => ?_) fun ht => ?_
    · have hc9 : c = 9 := by simpa using ht
      refine sb_assign ((pe_bin (pe_name rfl) pe_int b_add_int).cast (y := ((n + 1 : Nat) : Int)) rfl) (.inl rfl) (sb_assign ((pe_bin (pe_name rfl) pe_int b_add_int).cast (y := ((nt + 1 : Nat) : Int)) rfl) (.inl rfl) ?_)
      have hn1 : (n : Int) + 1 = ((n + 1 : Nat) : Int) := rfl
      have hcl : b < (if cnt.length ≤ b then cnt ++ List.replicate (b - cnt.length + 1) 0 else cnt).length := by
        split
        · rw [List.length_append, List.length_replicate]; omega
        · omega
      have hcl2 : (if cnt.length ≤ b then cnt ++ List.replicate (b - cnt.length + 1) 0 else cnt).length ≤ i + 2 := by
        split
        · rw [List.length_append, List.length_replicate]; omega
        · omega
      generalize hc' : (if cnt.length ≤ b then cnt ++ List.replicate (b - cnt.length + 1) 0 else cnt) = cnt' at hcl hcl2
      refine sb_ifJ (fun s => ∃ a', a' ∉ X2 ∧ FS C (callEnvC (fd129 C.w.params).1 L 129) (Rst.same ⟨h1, g, d, tk, os⟩) G' (a' :: X2) [(a', ocList rInt cnt'), (dx, ocDict C.w.params fs1)] (Vv (a', n + 1, nt + 1, b, cnt)) s) (b := decide ((cnt.length : Int) ≤ b)) (pt_thaw (x := "count") rfl look_hd fun X3 => pt_cmp (pe_name rfl) (pe_call (pe_builtin lenK boot_len (by decide) rfl) keepy_builtin (pl_cons (pe_name (R := rList rInt) (a := cnt) rfl) pl_nil) (f_len_list (hlen (by omega)))) c_ge_int) (fun hle => ?_) (fun hgt => ?_) ?_
      · have hle : cnt.length ≤ b := by have := of_decide_eq_true hle; omega
        rw [if_pos hle] at hc'
        have hm1 : (b : Int) - (cnt.length : Int) + 1 < 2 ^ 24 := by omega
        have hm2 : - 2 ^ 24 < (b : Int) - (cnt.length : Int) + 1 := by omega
        have hm3 : ([0] : List Int).length * ((b : Int) - (cnt.length : Int) + 1).toNat ≤ 2 ^ 24 := by simp only [List.length_cons, List.length_nil]; omega
        refine sb_ownadd (R := rInt) (xs := cnt) (ys := List.replicate (b - cnt.length + 1) 0) rfl ha2 ((pe_bin (pe_list (R := rInt) (xs := [0]) (pl_cons pe_int pl_nil) (by decide)) (pe_bin (pe_bin (pe_name rfl) (pe_call (pe_builtin lenK boot_len (by decide) rfl) keepy_builtin (pl_cons (pe_name (R := rList rInt) (a := cnt) rfl) pl_nil) (f_len_list (hlen (by omega)))) b_sub_int) pe_int b_add_int) (b_mul_list (n := (b : Int) - (cnt.length : Int) + 1) hm1 hm2 hm3)).cast ?_) (by rw [List.length_replicate]; exact Nat.le_trans (by omega : _ ≤ 2000) (by decide)) (.inl rfl) fun a' ha' => sb_nil fun s f => ⟨a', ha', hc' ▸ f.sub ⟨rfl, rfl, rfl, rfl, rfl, rfl, rfl, rfl, trivial⟩⟩
        rw [show (((b : Int) - (cnt.length : Int) + 1).toNat) = b - cnt.length + 1 from tn_c hle]
        generalize b - cnt.length + 1 = k
        induction k with
        | zero => rfl
        | succ k ih => rw [List.replicate_succ, List.flatten_cons, ih]; rfl
      · have hgt : ¬ cnt.length ≤ b := by have := of_decide_eq_false hgt; omega
        rw [if_neg hgt] at hc'
        exact sb_nil fun s f => ⟨a, ha2, hc' ▸ f.sub ⟨rfl, rfl, rfl, rfl, rfl, rfl, rfl, rfl, trivial⟩⟩
      · rintro s ⟨a', ha', f'⟩
        refine (?_ : SB C _ _ _ _ _ _ _ _ _) s f'
        have hget : cnt'[b]? = some (cnt'.getD b 0) := by rw [List.getD_eq_getElem?_getD, List.getElem?_eq_getElem hcl]; rfl
        refine sb_setitem (R := rInt) (xs := cnt') (i := (b : Int)) (y := cnt'.getD b 0 + 1) rfl (pe_thaw (x := "count") flat_int rfl look_hd fun X3 => pe_bin (pe_item_list (R := rInt) (xs := cnt') (i := (b : Int)) (pe_name rfl) (pe_name rfl) (by omega) hget (by omega)) pe_int b_add_int) (pe_name rfl) (by omega) (by omega) (by omega) (sb_assign pe_int (.inl rfl) (sb_nil fun s f => ?_))
        refine ⟨(a', n + 1, nt + 1, 0, cnt'.set b (cnt'.getD b 0 + 1)), ⟨?_, fun m => ha' (hX2 _ m), Nat.zero_le _, by rw [List.length_set]; exact hcl2⟩, f.sub ⟨rfl, rfl, rfl, rfl, rfl, rfl, rfl, rfl, trivial⟩⟩
        rw [← hJ, wsF, if_neg n32, if_pos hc9]
        show _ = wsF _ (n + 1, nt + 1, 0, bump cnt b)
        rw [bump, hc']
    · refine sb_break fun s f => ⟨(a, n, nt, b, cnt), ⟨?_, haj, by show cnt.length ≤ 2000; omega⟩, f.sub ⟨rfl, rfl, rfl, rfl, rfl, rfl, rfl, rfl, trivial⟩⟩
      have n9 : c ≠ 9 := by simpa using ht
      rw [← hJ, wsF, if_neg n32, if_neg n9]
  · intro j hj
    obtain ⟨a, n, nt, b, cnt⟩ := j
    have hj : (n, nt, b, cnt) = wsF t (0, 0, 0, []) ∧ a ∉ X' ∧ cnt.length ≤ 2000 := by
      rcases hj with ⟨h1, h0, _, h2⟩ | h
      · rw [show (t.map fun c => [c]).length = t.length by simp, List.drop_length] at h1
        exact ⟨h1, h0, Nat.le_trans h2 (by rw [List.length_map]; omega)⟩
      · exact h
    obtain ⟨hj, haX, hcl⟩ := hj
    have haD : a ≠ dx := fun e => haX (e ▸ hX dx (.head _))
    refine sb_freeze (x := "count") rfl haX ?_
    refine sb_setattr (nm := "n") (cl := 174) rfl (pe_name rfl) (so _ ⟨rfl, rfl, rfl, rfl⟩) (of_decide_eq_true rfl) (of_decide_eq_true rfl) ?_
    refine sb_setattr (nm := "nt") (cl := 174) rfl (pe_name rfl) (so _ ⟨rfl, rfl, rfl, rfl⟩) (of_decide_eq_true rfl) (of_decide_eq_true rfl) ?_
    refine sb_setattr (nm := "norm") (cl := 174) rfl (pe_t2 (pl_cons (pe_call (pe_builtin (H.bn _ (by decide)) boot_tuple (by decide) rfl) keepy_type (pl_cons (pe_name rfl) pl_nil) (f_tuple (xs := cnt) (Nat.le_trans hcl (by decide)))) (pl_cons (pe_name rfl) pl_nil))) (so _ ⟨rfl, rfl, rfl, rfl⟩) (of_decide_eq_true rfl) (of_decide_eq_true rfl) ?_
    refine sb_setattr (nm := "is_simple") (cl := 174) rfl (pe_cmp (pe_call (pe_builtin lenK boot_len (by decide) rfl) keepy_builtin (pl_cons (pe_name rfl) pl_nil) (f_len_list (hlen (Nat.le_trans hcl (by decide))))) pe_int c_le_int) (so _ ⟨rfl, rfl, rfl, rfl⟩) (of_decide_eq_true rfl) (of_decide_eq_true rfl) ?_
    refine sb_nil fun s' f' => ⟨rfl, ?_, ?_⟩
    · obtain ⟨h2, t2, e2⟩ := f'.rs
      subst e2
      exact keeps_mk fun b o e => f'.keep b o (fz_of (k1 b o e) fun m => by rw [List.mem_singleton.mp m] at e; rw [show (⟨h, g, d, tk, os⟩ : Shared).heap.get? dx = h.get? dx from rfl, hdn] at e; cases e)
    · obtain ⟨o, ho, es, k, rfl, hf⟩ := f'.kn.own dx _ look_hd
      have hxX : dx + 1 ∉ X := fun m => by
        obtain ⟨o, e⟩ := hl _ m
        have := Heap.lt_size e
        subst hdx; exact absurd this (Nat.not_lt.mpr (Nat.le_succ _))
      refine ⟨dx + 1, dx, es, k, by rw [← hdx], fz_of (f'.keep _ _ (fz_of hx0 fun m => hxd (List.mem_singleton.mp m))) hxX, fz_of ho hdX, ?_⟩
      have := hf.mono (fz_sub (X := X) (Y := X') (h := s'.heap) fun b m => hX b (.tail _ m))
      rw [wsFs, ← hj]
      exact this
end Mine

namespace Mine
open PySem PySem.Calls PyProof.Rows PySem.W
theorem mulok {a b : Int} (h1 : -(2 ^ 64) < a) (h2 : a < 2 ^ 64) : IntMulOk a b := .of_left (intBits_le_64 h1 h2)
noncomputable def ilF (ts : Nat) (c : List Int) : Nat → Int
  | 0 => 0
  | k + 1 => ilF ts c k + (((ts + k) / ts : Nat) : Int) * c.getD (ts + k) 0
noncomputable def indF (ts : Nat) (j : WsS) : Int := (j.2.2.1 : Int) + (ts : Int) * (ilF ts j.2.2.2 (j.2.2.2.length - ts) + (j.2.1 : Int))
theorem rangeL_get {a c : Int} {n i : Nat} {x : Int} (h : (rangeL (a, c, n))[i]? = some x) : i < n ∧ x = a + i * c := by
  unfold rangeL at h
  rw [List.getElem?_map, Option.map_eq_some_iff] at h
  obtain ⟨k, h1, h2⟩ := h
  have h3 := (List.getElem?_eq_some_iff.mp h1)
  obtain ⟨h4, h5⟩ := h3
  rw [List.getElem_range] at h5
  rw [List.length_range] at h4
  subst h5
  exact ⟨h4, h2.symm⟩
theorem rangeL_len {x : Int × Int × Nat} : (rangeL x).length = x.2.2 := by simp [rangeL]
theorem bump_len (c : List Int) (b : Nat) : (bump c b).length = max c.length (b + 1) := by
  unfold bump
  simp only [List.length_set]
  split
  · rename_i h
    rw [List.length_append, List.length_replicate, Nat.max_eq_right (Nat.le_succ_of_le h), ← Nat.add_assoc, Nat.add_sub_cancel' h]
  · rename_i h
    exact (Nat.max_eq_left (Nat.lt_of_not_le h)).symm
theorem wsF_len (M : Nat) : ∀ (t : List Nat) (j : WsS), j.2.2.1 + t.length + 1 ≤ M → j.2.2.2.length ≤ M → (wsF t j).2.2.2.length ≤ M
  | [], j, _, h => by rw [wsF]; exact h
  | c :: r, (n, nt, b, cn), h1, h2 => by
    have h1 : b + (r.length + 1) + 1 ≤ M := h1
    rw [wsF]
    by_cases h : c = 32
    · rw [if_pos h]
      exact wsF_len M r (n + 1, nt, b + 1, cn) (by show b + 1 + r.length + 1 ≤ M; omega) h2
    · rw [if_neg h]
      by_cases h9 : c = 9
      · rw [if_pos h9]
        refine wsF_len M r (n + 1, nt + 1, 0, bump cn b) (by show 0 + r.length + 1 ≤ M; omega) ?_
        show (bump cn b).length ≤ M
        rw [bump_len]; exact Nat.max_le.mpr ⟨h2, by omega⟩
      · rw [if_neg h9]; exact h2
theorem indent_call {C : Cx} {A : Around} (H : Lw C) (r : Rm 4 A) {t : List Nat} (hz : t.length < 1000) {ts : Nat} (h0 : 0 < ts) (hts : ts < 1000) : CallR C A (.ref 143) [(rObj C.w.params 174 (wsFs t)).at (), rInt.at (ts : Int)] rInt (indF ts (wsF t (0, 0, 0, []))) := fun X s vs hS hl al => by
  obtain ⟨v, v', rfl, hv, hv'⟩ := al.two
  refine call_ev (o := (o143 C.w.params).1) (fd := (fd143 C.w.params).1) (body := (body143 C.w.params).1) (names := ["self", "tabsize"]) (Fs := [(rObj C.w.params 174 (wsFs t)).at (), rInt.at (ts : Int)]) (X := X) (r.less (by decide)) (by rw [H.k]; exact (o143 _).2) (fd143 _).2 (body143 _).2 rfl rfl rfl (by rw [H.k]; rfl) (BindsTo.of_eq rfl) rfl (by decide) (kinds_of rfl) (of_decide_eq_true rfl) hS hl al ?_ rfl rfl rfl
  intro L X' hX
  have r2 : Rm 3 (A.deeper (callEnvC (fd143 C.w.params).1 L 143)) := r.deeper
  generalize A.deeper (callEnvC (fd143 C.w.params).1 L 143) = B at r2
  have go : ∀ nm : Str, (findIn (Kf C.w.params) (.ref 174) "__getattribute__" = some (some (.builtin "object.__getattribute__")) ∧ findIn (Kf C.w.params) (.ref 174) "__getattr__" = some none ∧ hasDictIn (Kf C.w.params) 174 = true ∧ findIn (Kf C.w.params) (.ref 174) nm = some none) → GetOk C.K 174 nm := fun nm q => by rw [H.k]; exact ⟨q.1, q.2.1, q.2.2.1, q.2.2.2⟩
  have lenK : C.mg "len" = none := H.bn _ (by decide)
  have hlen := wsF_len 1000 t (0, 0, 0, []) (by show 0 + t.length + 1 ≤ 1000; omega) (Nat.zero_le _)
  obtain ⟨⟨n, nt, b, c⟩, hj⟩ : ∃ j, j = wsF t (0, 0, 0, []) := ⟨_, rfl⟩
  rw [← hj] at hlen ⊢
  have hcl : c.length ≤ 1000 := hlen
  have hfs : (wsFs t).lookup (Str.ofString "norm") = some ((rT2 (rTupN rInt) rInt).at (c, (b : Int))) := by unfold wsFs; rw [← hj]; rfl
  have hfn : (wsFs t).lookup (Str.ofString "nt") = some (rInt.at (nt : Int)) := by unfold wsFs; rw [← hj]; rfl
  refine sb_assign2 (r2.less (by decide)) (pe_attr (cl := 174) (R := rT2 (rTupN rInt) rInt) (y := (c, (b : Int))) (pe_name rfl) (go _ ⟨rfl, rfl, rfl, rfl⟩) hfs hand_t2) (.inl rfl) (.inl rfl) ?_
  refine sb_assign pe_int (.inl rfl) ?_
  refine sb_forN (xs := rangeL ((ts : Int), 1, c.length - ts)) (fun _ => []) (fun i => [("il", rInt.at (ilF ts c i)), ("count", (rTupN rInt).at c), ("trailing", rInt.at (b : Int)), ("self", (rObj C.w.params 174 (wsFs t)).at ()), ("tabsize", rInt.at (ts : Int))]) (fun x => [("i", rInt.at x)])
    (pe_call (pe_builtin (H.bn _ (by decide)) boot_range (by decide) rfl) keepy_type (pl_cons (pe_name rfl) (pl_cons (pe_call (pe_builtin lenK boot_len (by decide) rfl) keepy_builtin (pl_cons (pe_name rfl) pl_nil) (f_len_tupN (by omega))) pl_nil)) (f_range2 (a := (ts : Int)) (b := (c.length : Int)) (k := c.length - ts) (by split <;> omega) (by omega) (by omega) (by omega) (by omega)))
    (iter_range (.inl ⟨_, _, rfl⟩) (r2.less (by decide))) (asg_name (.inl rfl)) ⟨rfl, rfl, rfl, rfl, rfl, trivial⟩ ?_ ?_
  · intro G' X2 i x hX2 hx
    have hi : i < c.length - ts := by have := (List.getElem?_eq_some_iff.mp hx).1; simpa [rangeL] using this
    have hxe : x = ((ts + i : Nat) : Int) := by
      rw [(rangeL_get hx).2]; simp
    subst hxe
    have hget : c[((ts + i : Nat) : Int).toNat]? = some (c.getD (ts + i) 0) := by rw [Int.toNat_natCast, List.getD_eq_getElem?_getD, List.getElem?_eq_getElem (by omega)]; rfl
    have hnz : (ts : Int) ≠ 0 := by omega
    have hp : Builtin.divisionGoesByPylong ((ts + i : Nat) : Int) (ts : Int) = false := PyProof.noPylong_small (by omega)
    have hdl : (ts + i) / ts ≤ 2000 := Nat.le_trans (Nat.div_le_self _ _) (by omega)
    have hd1 : -(2 ^ 64) < (((ts + i) / ts : Nat) : Int) := Int.lt_of_lt_of_le (by decide) (Int.natCast_nonneg _)
    have hd2 : (((ts + i) / ts : Nat) : Int) < 2 ^ 64 := Int.lt_of_le_of_lt (Int.ofNat_le.mpr hdl) (by decide)
    refine sb_assign (pe_bin (pe_name rfl) (pe_bin ((pe_bin (pe_name rfl) (pe_name rfl) (b_div_int hnz hp)).cast (y := (((ts + i) / ts : Nat) : Int)) (by rw [Int.fdiv_eq_ediv_of_nonneg _ (by omega)]; rfl)) (pe_item_tupN (pe_name rfl) (pe_name rfl) (by omega) hget (by omega)) (b_mul_int (mulok hd1 hd2))) b_add_int) (.inl rfl) (sb_nil fun s f => f.sub ⟨rfl, rfl, rfl, rfl, rfl, trivial⟩)
  · have hr : (rangeL ((ts : Int), 1, c.length - ts)).length = c.length - ts := by simp [rangeL]
    rw [hr]
    refine sb_return (pe_bin (pe_name rfl) (pe_bin (pe_name rfl) (pe_bin (pe_name rfl) (pe_attr (cl := 174) (R := rInt) (y := (nt : Int)) (pe_name rfl) (go _ ⟨rfl, rfl, rfl, rfl⟩) hfn hand_int) b_add_int) (b_mul_int (mulok (by omega) (by omega)))) b_add_int) fun s w f' hr => ⟨keeps_FS f', hr⟩
end Mine

namespace Mine
open PySem PySem.Calls PyProof.Rows PySem.W
theorem flat_rep (c : Nat) : ∀ k, (List.replicate k [c]).flatten = List.replicate k c
  | 0 => rfl
  | k + 1 => by rw [List.replicate_succ, List.flatten_cons, flat_rep c k]; rfl
theorem pe_strL {C : Cx} {A : Around} {env : Env} {X : List Addr} {O : Own} {V : Vars} {pos : Pos} {x : Str} {k : Nat} {l : List Nat} (h : x = tx l) : PE C A env X O V (.Constant (.str x) k pos) rTxt l := fun s _ => Calls.Constant_str ⟨keeps_tok, _, by rw [h]⟩
noncomputable def leadT (l u b : Nat) : List Nat := List.replicate l 32 ++ [9] ++ List.replicate u 32 ++ [9] ++ List.replicate b 32 ++ [120, 9, 32]
theorem wsF_sp (r : List Nat) : ∀ (k : Nat) (n nt b : Nat) (c : List Int), wsF (List.replicate k 32 ++ r) (n, nt, b, c) = wsF r (n + k, nt, b + k, c)
  | 0, n, nt, b, c => rfl
  | k + 1, n, nt, b, c => by
    rw [List.replicate_succ, List.cons_append, wsF, if_pos rfl]
    show wsF (List.replicate k 32 ++ r) (n + 1, nt, b + 1, c) = _
    rw [wsF_sp r k]; rw [show n + 1 + k = n + (k + 1) by omega, show b + 1 + k = b + (k + 1) by omega]
theorem wsF_lead (l u b : Nat) : ∃ n, wsF (leadT l u b) (0, 0, 0, []) = (n, 2, b, bump (bump [] l) u) := by
  refine ⟨0 + l + 1 + u + 1 + b, ?_⟩
  unfold leadT
  simp only [List.append_assoc]
  rw [wsF_sp]
  show wsF (9 :: _) _ = _
  rw [wsF, if_neg (by decide), if_pos rfl]
  show wsF (List.replicate u 32 ++ ([9] ++ (List.replicate b 32 ++ [120, 9, 32]))) (0 + l + 1, 0 + 1, 0, bump [] (0 + l)) = _
  rw [wsF_sp]
  show wsF (9 :: _) _ = _
  rw [wsF, if_neg (by decide), if_pos rfl]
  show wsF (List.replicate b 32 ++ [120, 9, 32]) (0 + l + 1 + u + 1, 0 + 1 + 1, 0, bump (bump [] (0 + l)) (0 + u)) = _
  rw [wsF_sp]
  show wsF (120 :: _) _ = _
  rw [wsF, if_neg (by decide), if_neg (by decide)]
  simp
theorem bump_get (c : List Int) (b i : Nat) : (bump c b).getD i 0 = c.getD i 0 + if i = b then 1 else 0 := by
  have key : ∀ c' : List Int, b < c'.length → (∀ i, c'.getD i 0 = c.getD i 0) → (c'.set b (c'.getD b 0 + 1)).getD i 0 = c.getD i 0 + if i = b then 1 else 0 := fun c' hb he => by
    simp only [List.getD_eq_getElem?_getD, List.getElem?_set] at he ⊢
    by_cases h : i = b
    · subst h; rw [if_pos rfl, if_pos hb, if_pos rfl, Option.getD_some, he]
    · rw [if_neg (fun e => h e.symm), if_neg h, he, Int.add_zero]
  unfold bump
  split
  · refine key _ (by rw [List.length_append, List.length_replicate]; omega) fun i => ?_
    simp only [List.getD_eq_getElem?_getD, List.getElem?_append]
    split
    · rfl
    · rename_i hh
      rw [List.getElem?_eq_none (l := c) (by omega), Option.getD_none]
      rw [List.getElem?_replicate]; split <;> rfl
  · exact key _ (by omega) fun _ => rfl
theorem il_two (l u : Nat) (hl : 0 < l) : ∀ m, ilF l (bump (bump [] l) u) m = (if 0 < m then 1 else 0) + (if l ≤ u ∧ u < l + m then ((u / l : Nat) : Int) else 0)
  | 0 => by
    rw [ilF, if_neg (Nat.lt_irrefl 0), if_neg (by omega)]; rfl
  | m + 1 => by
    rw [ilF, il_two l u hl m, bump_get, bump_get, List.getD_nil, if_pos (Nat.succ_pos m)]
    by_cases h0 : m = 0
    · subst h0
      rw [if_neg (Nat.lt_irrefl 0), if_neg (by omega : ¬ (l ≤ u ∧ u < l + 0)), Nat.add_zero, Nat.div_self hl, if_pos rfl]
      by_cases hu : l = u
      · subst hu; rw [if_pos rfl, if_pos (by omega), Nat.div_self hl]; rfl
      · rw [if_neg hu, if_neg (by omega)]; rfl
    · rw [if_pos (Nat.pos_of_ne_zero h0), if_neg (by omega : ¬ l + m = l)]
      by_cases hu : l + m = u
      · rw [if_pos hu, if_neg (by omega), if_pos (by omega), hu]; simp
      · rw [if_neg hu]
        by_cases hc : l ≤ u ∧ u < l + m
        · rw [if_pos hc, if_pos (by omega)]; simp
        · rw [if_neg hc, if_neg (by omega)]; simp
theorem ind_lead (l u b : Nat) (hl : 0 < l) : indF l (wsF (leadT l u b) (0, 0, 0, [])) = (b : Int) + (l : Int) * (((u / l : Nat) : Int) + 3) := by
  obtain ⟨n, e⟩ := wsF_lead l u b
  rw [e]
  show (b : Int) + (l : Int) * (ilF l (bump (bump [] l) u) ((bump (bump [] l) u).length - l) + (2 : Nat)) = _
  rw [il_two l u hl, bump_len, bump_len, if_pos (by rw [List.length_nil]; exact Nat.sub_pos_of_lt (Nat.lt_of_lt_of_le (Nat.lt_succ_self l) (Nat.le_trans (Nat.le_max_right 0 (l + 1)) (Nat.le_max_left _ _))))]
  by_cases h : l ≤ u
  · rw [if_pos ⟨h, by omega⟩]; generalize u / l = q; rw [show (1 : Int) + (q : Int) + ((2 : Nat) : Int) = (q : Int) + 3 by omega]
  · rw [if_neg (fun q => h q.1), Nat.div_eq_of_lt (by omega)]; rfl
theorem leadT_len (l u b : Nat) : (leadT l u b).length = l + u + b + 5 := by simp [leadT]; omega
theorem leadT_lt (l u b : Nat) : ∀ c ∈ leadT l u b, c < 128 := fun c hc => by
  simp only [leadT, List.mem_append, List.mem_replicate, List.mem_cons, List.not_mem_nil, or_false] at hc
  omega
theorem stops_call {C : Cx} {A : Around} (H : Lw C) (hW : C.mg "Whitespace" = some (.ref 174)) (r : Rm 12 A) {u l b : Nat} (hu : u < 300) (hl : l < 300) (hb : b < 100) : CallR C A (.ref 192) [rInt.at (u : Int), rInt.at (l : Int), rInt.at (b : Int)] (rList rInt) (divF 12 u l []) := fun X s vs hS hlv al => by
  obtain ⟨v, v', v'', rfl, hv, hv', hv''⟩ := al.three
  refine call_ev (o := (o192 C.w.params).1) (fd := (fd192 C.w.params).1) (body := (body192 C.w.params).1) (names := ["upper", "lower", "behind"]) (Fs := [rInt.at (u : Int), rInt.at (l : Int), rInt.at (b : Int)]) (X := X) (r.less (by decide)) (by rw [H.k]; exact (o192 _).2) (fd192 _).2 (body192 _).2 rfl rfl rfl (by rw [H.k]; rfl) (BindsTo.of_eq rfl) rfl (by decide) (kinds_of rfl) (of_decide_eq_true rfl) hS hlv al ?_ rfl rfl rfl
  intro L X' hX
  have r2 : Rm 11 (A.deeper (callEnvC (fd192 C.w.params).1 L 192)) := r.deeper
  generalize A.deeper (callEnvC (fd192 C.w.params).1 L 192) = B at r2
  have lenK : C.mg "len" = none := H.bn _ (by decide)
  refine sb_newlist (R := rInt) (xs := []) pl_nil (by decide) (.inl rfl) fun a ha => ?_
  refine sb_whileO (ι := Nat × Nat × Nat × List Int) (fun j => j.1) (fun j => [(a, ocList rInt j.2.2.2)]) (fun j => [("row", rVal.at (.ref a)), ("upper", rInt.at (j.2.1 : Int)), ("lower", rInt.at (j.2.2.1 : Int)), ("behind", rInt.at (b : Int))]) (fun j => decide ((0 : Int) < j.2.2.1) && decide ((j.2.2.2.length : Int) < 12))
    (fun j => j.2.1 < 300 ∧ j.2.2.1 < 300 ∧ j.1 + j.2.2.2.length = 12 ∧ divF j.1 j.2.1 j.2.2.1 j.2.2.2 = divF 12 u l [])
    (i₀ := (12, u, l, [])) ⟨hu, hl, rfl, rfl⟩ ⟨rfl, rfl, rfl, rfl, trivial⟩ (fun j hj => pt_and (pt_cmp (pe_name rfl) pe_int c_gt_int) fun _ => pt_thaw (x := "row") rfl look_hd fun X3 => pt_cmp (pe_call (pe_builtin lenK boot_len (by decide) rfl) keepy_builtin (pl_cons (pe_name (R := rList rInt) rfl) pl_nil) (f_len_list (xs := j.2.2.2) (by have := hj.2.2.1; omega))) pe_int c_lt_int) ?_ ?_
  · intro j hj hbv
    obtain ⟨k, m, n, row⟩ := j
    obtain ⟨hm, hn, hlen, hap⟩ := hj
    simp only at hm hn hlen hap hbv
    have hn0 : 0 < n := by have := (Bool.and_eq_true_iff.mp hbv).1; have := of_decide_eq_true this; omega
    have hr12 : row.length < 12 := by have := (Bool.and_eq_true_iff.mp hbv).2; have := of_decide_eq_true this; omega
    obtain ⟨k, rfl⟩ : ∃ k', k = k' + 1 := ⟨k - 1, by omega⟩
    have hnz : (n : Int) ≠ 0 := by omega
    have hsp : ∀ q : Nat, q < 300 → q ≤ sizeLine := fun q h => Nat.le_trans (Nat.le_of_lt h) (by decide)
    have ht : leadT n m b = ((((List.replicate n 32 ++ [9]) ++ List.replicate m 32) ++ [9]) ++ List.replicate b 32) ++ [120, 9, 32] := rfl
    have sz : ∀ q : Nat, q ≤ 5000 → q ≤ sizeLine := fun q h => Nat.le_trans h (by decide)
    have spaces : ∀ (X : List Addr) (O : Own) (V : Vars) (x : Str) (q : Nat) (p1 p2 p3 : Pos) (kk : Nat), q < 300 → V.lookup x = some (rInt.at (q : Int)) → (x == ("__debug__" : Str)) = false → PE C B (callEnvC (fd192 C.w.params).1 L 192) X O V (.BinOp (.Constant (.str (Str.ofString " ")) kk p1) .Mult (.Name x p2) p3) rTxt (List.replicate q 32) := fun X O V x q p1 p2 p3 kk hq hv hd =>
      (pe_bin (pe_strL (l := [32]) rfl) (pe_name hv hd) (b_mul_txt (by omega) (by omega) (by decide) (by simp; exact sz _ (by omega)))).cast (by rw [Int.toNat_natCast, flat_rep])
    refine sb_assign (R := rObj C.w.params 174 (wsFs (leadT n m b))) (a := ()) (pe_call (pe_global hW rfl) (keepy_K (by rw [H.k]; rfl)) (pl_cons (pe_bin (pe_bin (pe_bin (pe_bin (pe_bin (spaces _ _ _ _ n _ _ _ _ hn rfl rfl) (pe_strL (l := [9]) rfl) (b_add_txt (by simp; exact sz _ (by omega)))) (spaces _ _ _ _ m _ _ _ _ hm rfl rfl) (b_add_txt (by simp; exact sz _ (by omega)))) (pe_strL (l := [9]) rfl) (b_add_txt (by simp; exact sz _ (by omega)))) (spaces _ _ _ _ b _ _ _ _ (by omega) rfl rfl) (b_add_txt (by simp; exact sz _ (by omega)))) (pe_strL (l := [120, 9, 32]) rfl) (b_add_txt (by simp; exact sz _ (by omega)))) pl_nil) (ws_call (t := leadT n m b) H hW (r2.less (by decide)) (leadT_lt n m b) (by rw [leadT_len]; omega))) (.inl rfl) ?_
    have M : MethOk C.K 174 "indent_level" 143 := by rw [H.k]; exact ⟨rfl, rfl, rfl, rfl, rfl⟩
    generalize hq : m / n = q
    have hql : q < 300 := hq ▸ Nat.lt_of_le_of_lt (Nat.div_le_self m n) hm
    have hval : indF n (wsF (leadT n m b) (0, 0, 0, [])) - (b : Int) = (n : Int) * ((q : Int) + 3) := by rw [ind_lead n m b hn0, hq]; omega
    have hp : Builtin.divisionGoesByPylong (indF n (wsF (leadT n m b) (0, 0, 0, [])) - (b : Int)) (n : Int) = false := PyProof.noPylong_small (by omega)
    have hq1 : -(2 ^ 64) < (q : Int) + 3 - 3 := by omega
    have hq2 : (q : Int) + 3 - 3 < 2 ^ 64 := by omega
    have hmod : (m : Int) - ((q : Int) + 3 - 3) * (n : Int) = ((m % n : Nat) : Int) := by
      have e : n * (m / n) + m % n = m := Nat.div_add_mod m n
      rw [hq] at e
      have e2 : (m : Int) = (n : Int) * (q : Int) + ((m % n : Nat) : Int) := by rw [← Int.natCast_mul, ← Int.natCast_add, e]
      rw [show (q : Int) + 3 - 3 = q by omega, Int.mul_comm (q : Int)]; omega
    refine sb_assign2 (a := (q : Int) + 3) (b := (0 : Int)) (r2.less (by decide)) ((pe_call (pe_builtin (H.bn _ (by decide)) boot_divmod (by decide) rfl) keepy_builtin (pl_cons (pe_bin (pe_method (cl := 174) (fs := wsFs (leadT n m b)) (pe_name rfl) M (of_decide_eq_true rfl) (pl_cons (pe_name rfl) pl_nil) (indent_call (t := leadT n m b) H (r2.less (by decide)) (by rw [leadT_len]; omega) hn0 (by omega))) (pe_name rfl) b_sub_int) (pl_cons (pe_name rfl) pl_nil)) (f_divmod hnz hp)).cast (by rw [hval, Int.mul_fdiv_cancel_left _ hnz, Int.mul_fmod_right])) (.inl rfl) (.inl rfl) ?_
    refine sb_append (R := rInt) (xs := row) (y := (q : Int)) rfl (pe_if (pt_cmp (pe_name rfl) pe_int c_eq_int) (fun _ => (pe_bin (pe_name rfl) pe_int b_sub_int).cast (by omega)) (fun h => by cases h)) (sz _ (by omega)) ?_
    refine sb_swap2 (r2.less (by decide)) (pe_t2 (pl_cons (pe_name rfl) (pl_cons ((pe_bin (pe_name rfl) (pe_bin (pe_bin (pe_name rfl) pe_int b_sub_int) (pe_name rfl) (b_mul_int (mulok hq1 hq2))) b_sub_int).cast hmod) pl_nil))) (.inl rfl) (.inl rfl) ?_
    refine sb_nil fun s f' => ⟨(k, n, m % n, row ++ [(q : Int)]), ⟨hn, Nat.lt_trans (Nat.mod_lt m hn0) hn, ?_, ?_⟩, Nat.lt_succ_self k, f'.sub ⟨rfl, rfl, rfl, rfl, trivial⟩⟩
    · show k + (row ++ [(q : Int)]).length = 12
      rw [List.length_append]; simp only [List.length_cons, List.length_nil]; omega
    · rw [← hap]; show _ = divF (k + 1) m n row; rw [divF, if_neg (by omega), hq]
  · intro j hj hbv
    obtain ⟨k, m, n, row⟩ := j
    obtain ⟨hm, hn, hlen, hap⟩ := hj
    simp only at hm hn hlen hap hbv
    refine sb_freeze (x := "row") rfl ha (sb_return (pe_name rfl) fun s w f' hr => ⟨keeps_FS f', ?_⟩)
    rw [← hap]
    have : divF k m n row = row := by
      by_cases h0 : n = 0
      · subst h0; exact divF_zero ..
      · have : k = 0 := by
          have h1 : decide ((0 : Int) < n) = true := decide_eq_true (by omega)
          rw [h1, Bool.true_and] at hbv
          have := of_decide_eq_false hbv; omega
        subst this; rfl
    rw [this]
    exact (rList rInt).mono (fz_sub hX) hr
end Mine

namespace Mine
open PySem PySem.Calls PyProof.Rows PySem.W
/-- a class of the text whose one base is list -/
structure LCls (K : Frag) (cl : Addr) : Prop where
  obj : ∃ cd sl, K.lookup cl = some ⟨.type "type", none, .cls cd, sl⟩ ∧ cd.abstract = false ∧ cd.hasDel = false ∧ cd.hasDict = true ∧ sl.toList[4]? = some (some (.builtin "list.__new__")) ∧ cd.mro = [.ref cl, .type "list", .type "object"]
  qual : ∀ {cd sl}, K.lookup cl = some ⟨.type "type", none, .cls cd, sl⟩ → cd.qualname = Str.ofString "_Accumulator"
  call : specialIn K (.ref cl) "__call__" = some (some (.builtin "type.__call__"))
  typ : instIn K (.ref cl) (.type "type") = some true
abbrev lObj (cl dx : Addr) (vs : List Value) (n : Nat) : Obj := { cls := .ref cl, dict := some dx, data := .seq vs.toArray n }
theorem ln_split : splitId "list.__new__" = some ("list", "__new__") := by decide +kernel
theorem ln_kind : builtinKind "list.__new__" = some .builtinFn := by decide +kernel
theorem ln_row : Manifest.signature? "list.__new__" = some ⟨.any, "list", "list", .cls, [⟨"args", .varPos, false⟩, ⟨"kwargs", .varKw, false⟩]⟩ := by kernel_rfl
section
variable {prog : Program} {w : World} {A : Around} {K : Frag} {cl : Addr} {R : Result → Shared → Prop} {h : Heap} {g : Array GenState} {d : Drawn} {t : Nat} {os : OsState}
theorem LCls.made {M : Model} (Y : LCls K cl) (X : K.In h) : Looks M h (Bind.madeBy (.ref cl)) (some "list.__new__") := by
  obtain ⟨cd, sl, hC, e1, e2, e3, e4, e5⟩ := Y.obj
  have hc : clsIn K cl = some cd := by unfold clsIn; rw [hC]
  have hm : Looks M h (mroOf (.ref cl)) cd.mro := (looks_clsIn X hc).andThen .now
  intro A Q E s k q
  unfold Bind.madeBy
  refine wpAny_bind (hm A _ E s k ?_)
  rw [e5, List.forIn_cons]
  refine wpAny_bind (wpAny_bind (wpAny_bind (wpAny_bind (wpAny_loadPart (k _ _ (X _ _ hC)) (wpAny_pure ?_)))))
  dsimp only
  rw [← Array.getElem?_toList, e4]
  exact wpAny_pure (wpAny_pure (wpAny_pure q))
theorem LCls.base {M : Model} (Y : LCls K cl) (X : K.In h) : Looks M h (Bind.staticBase (.ref cl)) (.ref cl) := by
  have made := Y.made (M := M) X
  obtain ⟨cd, sl, hC, e1, e2, e3, e4, e5⟩ := Y.obj
  have hc : clsIn K cl = some cd := by unfold clsIn; rw [hC]
  have hm : Looks M h (mroOf (.ref cl)) cd.mro := (looks_clsIn X hc).andThen .now
  intro A Q E s k q
  unfold Bind.staticBase
  refine wpAny_bind (hm A _ E s k ?_)
  rw [e5, List.forIn_cons]
  exact wpAny_bind (wpAny_bind (wpAny_bind (made A _ E s k (wpAny_pure (wpAny_pure (wpAny_pure q))))))
theorem LCls.sub {M : Model} (Y : LCls K cl) (X : K.In h) {b : Value} (hb : b = .ref cl ∨ b = .type "list" ∨ b = .type "object") : Looks M h (isSubtype (.ref cl) b) true := by
  obtain ⟨cd, sl, hC, e1, e2, e3, e4, e5⟩ := Y.obj
  have hc : clsIn K cl = some cd := by unfold clsIn; rw [hC]
  refine looks_mroIn X ?_
  unfold mroIn
  rw [hc, Option.bind_some, e5, if_neg (by simp)]
  rcases hb with rfl | rfl | rfl <;> simp
theorem newL {rest : List Value} (Y : LCls K cl) (X : K.In h)
    (hq : R (.ok (.ret (.ref (h.objs.size + 1)))) ⟨(h.push emptyDict).push (lObj cl h.objs.size [] 0), g, d, t, os⟩) :
    codeAny (model prog w) A (.call (.builtin "list.__new__") ⟨.ref cl :: rest, []⟩) R ⟨h, g, d, t, os⟩ := by
  have made := Y.made (M := model prog w) X
  have base := Y.base (M := model prog w) X
  have subl := Y.sub (M := model prog w) X (b := .type "list") (.inr (.inl rfl))
  obtain ⟨cd, sl, hC, e1, e2, e3, e4, e5⟩ := Y.obj
  have hC := X _ _ hC
  refine codeAny_of_tree ?_
  show wpAny _ A.in1 (do checkBuiltinCall "list.__new__" ⟨.ref cl :: rest, []⟩; again (.builtin "list.__new__" ⟨.ref cl :: rest, []⟩)) _ _ _
  refine wpAny_bind ?_
  simp only [checkBuiltinCall, ln_kind, ln_split, ln_row]
  have here : Looks (model prog w) h (Bind.madeHere "list.__new__" (.ref cl)) () := base.andThen (made.andThen (Looks.of_pure (by simp only [Option.map_some, bne_self_eq_false, Bool.false_eq_true, if_false])))
  have args : Bind.checkArgs "list.__new__" ⟨.any, "list", "list", .cls, [⟨"args", .varPos, false⟩, ⟨"kwargs", .varKw, false⟩]⟩ ⟨.ref cl :: rest, []⟩ = pure () := by kernel_rfl
  rw [args]
  repeat (first | simp only [bne_self_eq_false, Bool.false_eq_true, if_false] | lk)
  refine ⟨plainId_quiet PySem.F.plain_list_new _, codeAny_builtin_stack PySem.F.entry_list_new rfl fun p st => ?_⟩
  rw [Around.under_plainId PySem.F.plain_list_new _]
  have hown := owner_list_new
  simp only [hown]
  have ty : Looks (model prog w) h (isType (.ref cl)) true := fun A Q E s k q => ks_wpAny_isType_cls (k _ _ hC) rfl q
  refine wpAny_bind (ty.at ?_)
  rw [Bool.not_true, if_neg Bool.false_ne_true]
  refine wpAny_bind (subl.at ?_)
  rw [Bool.not_true, if_neg Bool.false_ne_true]
  refine wpAny_bind (wpAny_pure ?_)
  rw [show (!typeHasDict (.ref cl)) = false from rfl, if_neg Bool.false_ne_true]
  show wpAny _ _ ((newObjAsIs (.type "dict") (.dict #[]) none) >>= _) _ _ _
  unfold newObjAsIs
  refine wpAny_bind (wpAny_bind (wpAny_alloc (wpAny_pure ?_)))
  show wpAny _ _ (newObj (.ref cl) (.seq #[]) (some h.objs.size) >>= _) _ _ _
  refine wpAny_bind ?_
  show wpAny _ _ (newObjAsIs (.ref cl) (.seq #[]) (some h.objs.size)) _ _ _
  unfold newObjAsIs classHasDel
  refine wpAny_bind (wpAny_alloc (wpAny_bind (wpAny_bind (wpAny_load (Heap.get?_push_of_some _ (Heap.get?_push_of_some _ hC)) (wpAny_pure ?_)))))
  rw [e2]
  refine wpAny_pure (wpAny_pure ?_)
  show R _ _
  rw [Heap.size_push]
  exact hq
theorem makeL {rest : List Value} {init : Value} (Y : LCls K cl) (X : K.In h) (hi : Looks (model prog w) h (typeLookup (.ref cl) "__init__") (some init)) (hb : ∀ self, Looks (model prog w) h (bindSpecial init self) (init, [self]))
    (hq : codeAny (model prog w) (A.under (.builtin "type.__call__" ⟨.ref cl :: rest, []⟩)) (.call init ⟨.ref (h.objs.size + 1) :: rest, []⟩) (InitBack (h.objs.size + 1) R) ⟨(h.push emptyDict).push (lObj cl h.objs.size [] 0), g, d, t, os⟩) :
    codeAny (model prog w) A (.call (.ref cl) ⟨rest, []⟩) R ⟨h, g, d, t, os⟩ := by
  have made := Y.made (M := model prog w) X
  have self := Y.sub (M := model prog w) X (b := .ref cl) (.inl rfl)
  have call := looks_specialIn (M := model prog w) X Y.call
  have typ := looks_instIn (M := model prog w) X Y.typ
  obtain ⟨cd, sl, hC, e1, e2, e3, e4, e5⟩ := Y.obj
  have hC := X _ _ hC
  have e4' : cd.mro.isEmpty = false := by rw [e5]; rfl
  refine codeAny_of_tree ?_
  show wpAny _ _ (callAny (.ref cl) _) _ _ _
  refine nd_load hC ?_
  show wpAny _ _ (callAny.viaDunder (.ref cl) _) _ _ _
  unfold callAny.viaDunder
  refine wpAny_bind (call.at ?_)
  dsimp only
  rw [tc_bind]
  refine wpAny_bind (wpAny_pure (wpAny_bind (wpAny_pure ?_)))
  refine wpAny_pure (a := Fin.again (.call (.builtin "type.__call__") ⟨.ref cl :: rest, []⟩)) (And.intro rfl ?_)
  refine codeAny_call_builtin_at (Code.quiet_builtin _ (by decide +kernel)) entry_typeCall (check_slot tc_kind tc_split typ (tc_args _ _ _) ?_)
  unfold Builtin.«type.__call__»
  have hm : Looks (model prog w) h (mroOf (.ref cl)) cd.mro := ((Looks.ld (part := none) hC).andThen .now).andThen .now
  repeat (first | simp only [e4', Bool.false_eq_true, if_false] | with_reducible refine wpAny_call ?_ | lk)
  refine newL Y X ?_
  have k : ∀ b o, h.get? b = some o → ((h.push emptyDict).push (lObj cl h.objs.size [] 0)).get? b = some o := fun b o e => Heap.get?_push_of_some _ (Heap.get?_push_of_some _ e)
  have hx : ((h.push emptyDict).push (lObj cl h.objs.size [] 0)).get? (h.objs.size + 1) = some (lObj cl h.objs.size [] 0) := by heap_get
  have t1 : Looks (model prog w) ((h.push emptyDict).push (lObj cl h.objs.size [] 0)) (typeOf (.ref (h.objs.size + 1))) (.ref cl) := (Looks.ld hx).andThen .now
  have s1 := self.keeps k
  have i1 := hi.keeps k
  have b1 := (hb (.ref (h.objs.size + 1))).keeps k
  unfold isInstance callSpecial? specialOf
  repeat (first | with_reducible refine wpAny_call ?_ | lk)
  refine codeAny_mono hq fun r s' z => ?_
  rcases r with e | (v | _ | _ | _) <;> first | exact z | exact z.elim | skip
  obtain ⟨rfl, z⟩ := z
  exact wpAny_pure (wpAny_pure z)
end
end Mine

namespace Mine
open PySem PySem.Calls PyProof.Rows PySem.W
theorem wd_slot : Slot "wrapper_descriptor" "__get__" "wrapper_descriptor.__get__" := .of (owner := "wrapper_descriptor") (n := "__get__") (by rw [typeLookup_type, builtinLookup_eq_fast]; kernel_rfl) (by decide +kernel) (by decide +kernel) (by decide +kernel)
    (by first | exact .inl (by decide +kernel) | exact .inr (by decide +kernel)) (by rw [isSubtype_type]; kernel_rfl)
theorem wd_entry : entryFor table "wrapper_descriptor.__get__" = some Builtin.«wrapper_descriptor.__get__» := entryFor_of_tree (by kernel_rfl)
theorem wd_args (a b c : Value) : argsOk "wrapper_descriptor.__get__" ⟨[a, b, c], []⟩ := by unfold argsOk; kernel_rfl
theorem md_slot : Slot "method_descriptor" "__get__" "method_descriptor.__get__" := .of (owner := "method_descriptor") (n := "__get__") (by rw [typeLookup_type, builtinLookup_eq_fast]; kernel_rfl) (by decide +kernel) (by decide +kernel) (by decide +kernel)
    (by first | exact .inl (by decide +kernel) | exact .inr (by decide +kernel)) (by rw [isSubtype_type]; kernel_rfl)
theorem md_entry : entryFor table "method_descriptor.__get__" = some Builtin.«method_descriptor.__get__» := entryFor_of_tree (by kernel_rfl)
theorem md_args (a b c : Value) : argsOk "method_descriptor.__get__" ⟨[a, b, c], []⟩ := by unfold argsOk; kernel_rfl
theorem ty_init : typeOf (.builtin "list.__init__") = pure (.type "wrapper_descriptor") := by kernel_rfl
theorem ty_len : typeOf (.builtin "list.__len__") = pure (.type "wrapper_descriptor") := by kernel_rfl
theorem ty_pop : typeOf (.builtin "list.pop") = pure (.type "method_descriptor") := by kernel_rfl
abbrev boundObj (bt id : String) (x : Addr) : Obj := { cls := .type bt, data := .fields #[.builtin id, .ref x] }
section
variable {prog : Program} {w : World} {A : Around} {E : Value → Shared → Prop} {h : Heap} {g : Array GenState} {d : Drawn} {t : Nat} {os : OsState} {x : Addr} {tp : Value} {Q : Value → Shared → Prop}
theorem own_init : (".".intercalate ("list.__init__".cutAt '.').dropLast) = "list" := by decide +kernel
theorem own_len : (".".intercalate ("list.__len__".cutAt '.').dropLast) = "list" := by decide +kernel
theorem own_pop : (".".intercalate ("list.pop".cutAt '.').dropLast) = "list" := by decide +kernel
theorem told_pop : Manifest.toldItsClass.contains "list.pop" = false := by decide +kernel
variable {K : Frag} {cl dx : Addr} {vs : List Value} {n : Nat}
theorem wd_init (hx : h.get? x = some (lObj cl dx vs n)) (sub : Looks (model prog w) h (isSubtype (.ref cl) (.type "list")) true) (hq : Q (.ref h.objs.size) ⟨h.push (boundObj "method-wrapper" "list.__init__" x), g, d, t, os⟩) :
    wpAny (model prog w) A (call (.builtin "wrapper_descriptor.__get__") [.builtin "list.__init__", .ref x, tp]) Q E ⟨h, g, d, t, os⟩ := by
  refine wpAny_call_entry wd_slot ty_init wd_entry ?_ (wd_args _ _ _)
  unfold Builtin.«wrapper_descriptor.__get__»
  have hown := own_init
  iterate 20 lk
  repeat (first | simp only [hown, Bool.not_true, Bool.false_eq_true, if_false] | lk)
  exact ⟨_, rfl, hq⟩
theorem wd_len (hx : h.get? x = some (lObj cl dx vs n)) (sub : Looks (model prog w) h (isSubtype (.ref cl) (.type "list")) true) (hq : Q (.ref h.objs.size) ⟨h.push (boundObj "method-wrapper" "list.__len__" x), g, d, t, os⟩) :
    wpAny (model prog w) A (call (.builtin "wrapper_descriptor.__get__") [.builtin "list.__len__", .ref x, tp]) Q E ⟨h, g, d, t, os⟩ := by
  refine wpAny_call_entry wd_slot ty_len wd_entry ?_ (wd_args _ _ _)
  unfold Builtin.«wrapper_descriptor.__get__»
  have hown := own_len
  iterate 20 lk
  repeat (first | simp only [hown, Bool.not_true, Bool.false_eq_true, if_false] | lk)
  exact ⟨_, rfl, hq⟩
theorem md_pop (hx : h.get? x = some (lObj cl dx vs n)) (sub : Looks (model prog w) h (isSubtype (.ref cl) (.type "list")) true) (hq : Q (.ref h.objs.size) ⟨h.push (boundObj "builtin_function_or_method" "list.pop" x), g, d, t, os⟩) :
    wpAny (model prog w) A (call (.builtin "method_descriptor.__get__") [.builtin "list.pop", .ref x, .ref cl]) Q E ⟨h, g, d, t, os⟩ := by
  refine wpAny_call_entry md_slot ty_pop md_entry ?_ (md_args _ _ _)
  unfold Builtin.«method_descriptor.__get__»
  have hown := own_pop
  have told := told_pop
  iterate 20 lk

  repeat (first | simp only [hown, Bool.not_true, Bool.false_eq_true, if_false] | lk)
  exact ⟨_, rfl, hq⟩
end
end Mine

namespace Mine
open PySem PySem.Calls PyProof.Rows PySem.W
section
variable {prog : Program} {w : World} {A : Around} {E : Value → Shared → Prop} {h : Heap} {g : Array GenState} {d : Drawn} {t : Nat} {os : OsState} {x so : Addr} {K : Frag} {cl dx : Addr} {vs : List Value} {n : Nat}
/-- a builtin of list, asked of super() -/
theorem sup_ga {id bt gid T : String} {name : Str} {tk : Tok} {Q : Fin → Shared → Prop} (Y : LCls K cl) (X : K.In h) (ho : nsIn K cStatics "thirdparty.any" = some none)
    (hso : h.get? so = some (ks_superObj cl x cl)) (hf : alongIn K name [.type "list", .type "object"] = some (some (.builtin id))) (hT : typeOf (.builtin id) = pure (.type T)) (hg : typeLookup (.type T) "__get__" = pure (some (.builtin gid))) (hxC : x ≠ cl) (hn : (name == ("__class__" : Str)) = false)
    (hget : ∀ (A : Around) (E : Value → Shared → Prop) (t : Nat) (Q : Value → Shared → Prop), Q (.ref h.objs.size) ⟨h.push (boundObj bt id x), g, d, t, os⟩ → wpAny (model prog w) A (call (.builtin gid) [.builtin id, .ref x, .ref cl]) Q E ⟨h, g, d, t, os⟩)
    (hq : Q (.done (.ret (.ref h.objs.size))) ⟨h.push (boundObj bt id x), g, d, t, os⟩) :
    wpAny (model prog w) A (Builtin.«super.__getattribute__» ⟨[.ref so, .str name tk], []⟩) Q E ⟨h, g, d, t, os⟩ := by
  have hno : Looks (model prog w) h (opaqueClassAbove (.ref cl)) none := looks_opaque X ho
  obtain ⟨cd, sl, hC, e1, e2, e3, e4, e5⟩ := Y.obj
  have hc : clsIn K cl = some cd := by unfold clsIn; rw [hC]
  have hm : Looks (model prog w) h (mroOf (.ref cl)) [.ref cl, .type "list", .type "object"] := e5 ▸ (looks_clsIn X hc).andThen .now
  have hne : (Value.ref x == Value.ref cl) = false := by simp [hxC]
  have hTf : (⟨h, g, d, t, os⟩ : Shared).TypeIs (.builtin id) T := hT
  have hdt : (ks_superObj cl x cl).data = .fields #[.ref cl, .ref x, .ref cl] := rfl
  have f0 : (#[.ref cl, .ref x, .ref cl] : Array Value)[0]? = some (.ref cl) := rfl
  have f1 : (#[.ref cl, .ref x, .ref cl] : Array Value)[1]? = some (.ref x) := rfl
  have f2 : (#[.ref cl, .ref x, .ref cl] : Array Value)[2]? = some (.ref cl) := rfl
  have hl : ([.ref cl, .type "list", .type "object"].dropWhile (· != .ref cl)).drop 1 = ([.type "list", .type "object"] : List Value) := by simp
  unfold Builtin.«super.__getattribute__»
  repeat (first
    | (with_reducible refine wpAny_field hso hdt f0 ?_) | (with_reducible refine wpAny_field hso hdt f1 ?_) | (with_reducible refine wpAny_field hso hdt f2 ?_)
    | (with_reducible refine ks_wpAny_notOpaque hno ?_)
    | (with_reducible refine Looks.at hm ?_; rw [hl])
    | (refine ks_forIn_along X (fun _ _ => rfl) rfl ?_ hf)
    | (with_reducible refine wpAny_typeOf hTf ?_)
    | (with_reducible refine wpAny_of_eq hg ?_)
    | (with_reducible refine hget _ _ _ _ ?_)
    | (with_reducible refine ⟨_, rfl, ?_⟩)
    | (simp only [hn, hne, Bool.or_false, Bool.false_eq_true, if_false])
    | wp_step
    | dsimp only)
  all_goals exact hq
theorem sup_method {id bt gid T : String} {name : Str} {pl : Sem Bool} {Q : Value × List Value → Shared → Prop} (Y : LCls K cl) (X : K.In h) (ho : nsIn K cStatics "thirdparty.any" = some none)
    (hso : h.get? so = some (ks_superObj cl x cl)) (hf : alongIn K name [.type "list", .type "object"] = some (some (.builtin id))) (hT : typeOf (.builtin id) = pure (.type T)) (hg : typeLookup (.type T) "__get__" = pure (some (.builtin gid))) (hxC : x ≠ cl) (hn : (name == ("__class__" : Str)) = false)
    (hget : ∀ (A : Around) (E : Value → Shared → Prop) (t : Nat) (Q : Value → Shared → Prop), Q (.ref h.objs.size) ⟨h.push (boundObj bt id x), g, d, t, os⟩ → wpAny (model prog w) A (call (.builtin gid) [.builtin id, .ref x, .ref cl]) Q E ⟨h, g, d, t, os⟩)
    (hq : Q (.ref h.objs.size, []) ⟨h.push (boundObj bt id x), g, d, t + 1, os⟩) :
    wpAny (model prog w) A (getMethod (.ref so) name pl) Q E ⟨h, g, d, t, os⟩ := by
  have hlk := F.ks_slot_super_ga.lookup
  have hcan := F.ks_canon_super_ga
  have hT' : ∀ t', (⟨h, g, d, t', os⟩ : Shared).TypeIs (.ref so) "super" := fun _ => ⟨_, hso, rfl⟩
  unfold getMethod
  refine wpAny_bind (wpAny_specialOf (hT' _) hlk ?_)
  show wpAny _ _ (if (Manifest.canonical "super.__getattribute__" != "object.__getattribute__") = true then _ else _) _ _ _
  rw [if_pos hcan]
  unfold getAttr getAttrBy
  refine wpAny_bind (wpAny_bind (wpAny_mkText (wpAny_holding (wpAny_bind (wpAny_typeOf (hT' _) (wpAny_bind (wpAny_of_eq hlk ?_)))))))
  show wpAny _ _ (getAttrByItsOwn (.ref so) (.str name t) (.type "super") (.builtin "super.__getattribute__") true false) _ _ _
  unfold getAttrByItsOwn hookBefore callGetattribute boundAndCalled
  refine wpAny_bind (wpAny_of_eq (show (if onTheHeap (.type "super") then typeLookup (.type "super") "__getattr__" else pure none) = pure none from rfl) ?_)
  refine wpAny_bind (wpAny_attempt (wpAny_holding ?_))
  show wpAny _ _ (bindSpecial (.builtin "super.__getattribute__") (.ref so) >>= _) _ _ _
  refine wpAny_bind (wpAny_of_eq (F.ks_slot_super_ga.bind _) ?_)
  refine wpAny_mono (Q := fun v s' => v = .ref h.objs.size ∧ s' = ⟨h.push (boundObj bt id x), g, d, t + 1, os⟩) (E := fun _ _ => False)
    (wpAny_call_entry F.ks_slot_super_ga (hT' _) F.ks_entry_super_ga (sup_ga Y X ho hso hf hT hg hxC hn hget ⟨_, rfl, rfl, rfl⟩) (F.ks_gaArgs_super _ _)) (fun v s' hv => ?_) fun _ _ z => z.elim
  obtain ⟨rfl, rfl⟩ := hv
  exact wpAny_pure (wpAny_pure hq)
end
end Mine

namespace Mine
open PySem PySem.Calls PyProof.Rows PySem.W
theorem ent_init : entryFor table "list.__init__" = some Builtin.«list.__init__» := entryFor_of_tree (by kernel_rfl)
theorem ent_len : entryFor table "list.__len__" = some Builtin.«list.__len__» := entryFor_of_tree (by kernel_rfl)
theorem ent_pop : entryFor table "list.pop" = some Builtin.«list.pop» := entryFor_of_tree (by kernel_rfl)
theorem chk_init (a : Value) : checkBoundCall "list.__init__" ⟨[a], []⟩ = pure () := by kernel_rfl
theorem chk_len (a : Value) : checkBoundCall "list.__len__" ⟨[a], []⟩ = pure () := by kernel_rfl
theorem pl_init : plainId "list.__init__" = true := by decide +kernel
theorem pl_len : plainId "list.__len__" = true := by decide +kernel
theorem pl_pop : plainId "list.pop" = true := by decide +kernel
section
variable {prog : Program} {w : World} {A : Around} {E : Value → Shared → Prop} {h : Heap} {g : Array GenState} {d : Drawn} {t : Nat} {os : OsState} {x b : Addr} {K : Frag} {cl dx : Addr} {vs : List Value} {n : Nat} {Q : Value → Shared → Prop}
theorem call_len (hb : h.get? b = some (boundObj "method-wrapper" "list.__len__" x)) (hx : h.get? x = some (lObj cl dx vs n)) (hq : Q (.int vs.length t) ⟨h, g, d, t + 1, os⟩) :
    wpAny (model prog w) A (call (.ref b) []) Q E ⟨h, g, d, t, os⟩ := by
  refine wpAny_call (codeAny_of_tree ?_)
  show wpAny _ A.in1 (callAny (.ref b) ⟨[], []⟩) _ _ _
  unfold callAny
  refine wpAny_bind (wpAny_load hb ?_)
  show wpAny _ _ (checkBoundCall "list.__len__" ⟨[.ref x], []⟩ >>= fun _ => again (.builtin "list.__len__" ⟨[.ref x], []⟩)) _ _ _
  refine wpAny_bind (wpAny_of_eq (chk_len (.ref x)) ?_)
  refine wpAny_pure ⟨plainId_quiet pl_len _, codeAny_builtin ent_len ?_⟩
  rw [Around.under_plainId pl_len _]
  unfold Builtin.«list.__len__»
  repeat lk
  rw [List.size_toArray]; exact hq
theorem call_init (hb : h.get? b = some (boundObj "method-wrapper" "list.__init__" x)) (hx : h.get? x = some (lObj cl dx [] 0)) (hq : ∀ h', h'.get? x = some (lObj cl dx [] 0) → Heap.SameBut x h h' → Q .none ⟨h', g, d, t, os⟩) :
    wpAny (model prog w) A (call (.ref b) []) Q E ⟨h, g, d, t, os⟩ := by
  refine wpAny_call (codeAny_of_tree ?_)
  show wpAny _ A.in1 (callAny (.ref b) ⟨[], []⟩) _ _ _
  unfold callAny
  refine wpAny_bind (wpAny_load hb ?_)
  show wpAny _ _ (checkBoundCall "list.__init__" ⟨[.ref x], []⟩ >>= fun _ => again (.builtin "list.__init__" ⟨[.ref x], []⟩)) _ _ _
  refine wpAny_bind (wpAny_of_eq (chk_init (.ref x)) ?_)
  refine wpAny_pure ⟨plainId_quiet pl_init _, codeAny_builtin ent_init ?_⟩
  rw [Around.under_plainId pl_init _]
  unfold Builtin.«list.__init__»
  repeat lk
  have hx' : (h.update x (Obj.mapSeq fun _ => #[])).get? x = some (lObj cl dx [] 0) := Heap.get?_update_self _ hx rfl
  refine wpAny_updatePart hx (wpAny_lookBehind (o := lObj cl dx [] 0) hx' (pastItsLine_seq (by decide)) ?_)
  repeat lk
  exact hq _ hx' (Heap.SameBut.update ..)
theorem LCls.notmod {M : Model} (Y : LCls K cl) (X : K.In h) : Looks M h (isSubtype (.ref cl) (.type "module")) false := by
  obtain ⟨cd, sl, hC, e1, e2, e3, e4, e5⟩ := Y.obj
  have hc : clsIn K cl = some cd := by unfold clsIn; rw [hC]
  refine looks_mroIn X ?_
  unfold mroIn
  rw [hc, Option.bind_some, e5, if_neg (by simp)]
  simp
theorem pop_row : Manifest.signature? "list.pop" = some ⟨.positional, "list.pop", "pop", .self, [⟨"index", .posOnly, false⟩]⟩ := by kernel_rfl
theorem pop_kind : builtinKind "list.pop" = some .method := by decide +kernel
theorem pop_var : Manifest.varargsMethods.contains "list.pop" = false := by decide +kernel
theorem pop_args (a : Value) : Bind.checkArgs "list.pop" ⟨.positional, toString (Str.ofString "_Accumulator").toString ++ toString "." ++ toString (Bind.lastOf "list.pop"), "pop", .self, [⟨"index", .posOnly, false⟩]⟩ ⟨[a], []⟩ = pure () := by kernel_rfl
theorem chk_pop {Q : Unit → Shared → Prop} (Y : LCls K cl) (X : K.In h) (hx : h.get? x = some (lObj cl dx vs n)) (hq : Q () ⟨h, g, d, t, os⟩) : wpAny (model prog w) A (checkBoundCall "list.pop" ⟨[.ref x], []⟩) Q E ⟨h, g, d, t, os⟩ := by
  have nm := Y.notmod (M := model prog w) X
  obtain ⟨cd, sl, hC, e1, e2, e3, e4, e5⟩ := Y.obj
  have qn := Y.qual hC
  have hC := X _ _ hC
  unfold checkBoundCall
  simp only [pop_row, pop_kind]
  have ii : Looks (model prog w) h (isInstance (.ref x) (.type "module")) false := ((Looks.ld hx).andThen .now).andThen nm
  have it : Looks (model prog w) h (isType (.ref x)) false := fun A Q E s k q => ks_wpAny_isType_inst (k _ _ hx) (fun c e => by cases e) q
  refine wpAny_bind (ii.at ?_)
  rw [pop_var, Bool.false_or, if_neg Bool.false_ne_true]
  refine wpAny_bind (it.at ?_)
  rw [if_neg Bool.false_ne_true]
  refine wpAny_bind (((Looks.ld (M := model prog w) (part := some headPart) hx).andThen .now : Looks (model prog w) h (typeOf (.ref x)) (.ref cl)).at ?_)
  dsimp only
  refine wpAny_bind (((Looks.ld (M := model prog w) (part := none) hC).andThen .now : Looks (model prog w) h (classData cl) cd).at ?_)
  refine wpAny_bind (((Looks.ld (M := model prog w) (part := some headPart) hC).andThen .now : Looks (model prog w) h (typeOf (.ref cl)) (.type "type")).at ?_)
  rw [if_pos (by rfl), qn, pop_args]
  exact wpAny_pure hq
theorem call_pop {us : List Value} {v : Value} (Y : LCls K cl) (X : K.In h) (hb : h.get? b = some (boundObj "builtin_function_or_method" "list.pop" x)) (hx : h.get? x = some (lObj cl dx (us ++ [v]) n)) (hz : us.length < 1000)
    (hq : ∀ h' m, h'.get? x = some (lObj cl dx us m) → Heap.SameBut x h h' → Q v ⟨h', g, d, t, os⟩) :
    wpAny (model prog w) A (call (.ref b) []) Q E ⟨h, g, d, t, os⟩ := by
  refine wpAny_call (codeAny_of_tree ?_)
  show wpAny _ A.in1 (callAny (.ref b) ⟨[], []⟩) _ _ _
  unfold callAny
  refine wpAny_bind (wpAny_load hb ?_)
  show wpAny _ _ (checkBoundCall "list.pop" ⟨[.ref x], []⟩ >>= fun _ => again (.builtin "list.pop" ⟨[.ref x], []⟩)) _ _ _
  refine wpAny_bind (chk_pop Y X hx ?_)
  refine wpAny_pure ⟨plainId_quiet pl_pop _, codeAny_builtin ent_pop ?_⟩
  rw [Around.under_plainId pl_pop _]
  unfold Builtin.«list.pop»
  repeat lk
  rw [if_neg (by simp)]
  have e : ((seqIndex? (-1) (us ++ [v]).toArray.size).bind fun k => Option.map (fun x => (k, x)) (us ++ [v]).toArray[k]?) = some (us.length, v) := by
    have : seqIndex? (-1) (us ++ [v]).toArray.size = some us.length := by
      rw [List.size_toArray, List.length_append, List.length_cons, List.length_nil]
      unfold seqIndex?
      simp; omega
    rw [this]; simp
  rw [e]
  repeat lk
  have hx' : (h.update x (Obj.mapSeq (·.eraseIdxIfInBounds us.length))).get? x = some (lObj cl dx us (n + 1)) := by
    rw [Heap.get?_update_self _ hx (Obj.isFreed_of_seq (Obj.data_mapSeq (o := lObj cl dx (us ++ [v]) n) rfl _).choose_spec)]
    have e2 : (us ++ [v]).toArray.eraseIdxIfInBounds us.length = us.toArray := by
      simp
      rw [List.eraseIdx_append_of_length_le (Nat.le_refl _), Nat.sub_self]; simp
    simp only [Obj.mapSeq, e2, List.size_toArray, List.length_append, List.length_cons, List.length_nil]
    rw [if_neg (by simp)]
  refine wpAny_updatePart hx (wpAny_lookBehind (o := lObj cl dx us (n + 1)) hx' (pastItsLine_seq (by rw [List.size_toArray, sizeLine_eq]; omega)) ?_)
  repeat lk
  exact hq _ _ hx' (Heap.SameBut.update ..)
end
end Mine

namespace Mine
open PySem PySem.Calls PyProof.Rows PySem.W
/-- a method of the class cl that asks super() -/
structure SupFn (C : Cx) (cl f : Addr) (fd : FuncData) : Prop where
  fn : ∃ o, C.K.lookup f = some o ∧ o.data = .func fd
  clo : ∃ cc oc od sl, fd.closure = [(("__class__" : Str), cc)] ∧ C.K.lookup cc = some ⟨oc, od, .cell (some (.ref cl)), sl⟩
  code : ∃ ca o vs file tf, fd.code = .ref ca ∧ C.K.lookup ca = some o ∧ o.data = .fields vs ∧ vs[2]? = some (.str file tf) ∧ ((C.prog.main.file : Str) == file) = true
  sup : fd.scope.names.lookup ("super" : Str) = some .globalImplicit
  cls : fd.scope.names.lookup ("__class__" : Str) = some .free
  slf : fd.scope.names.lookup ("self" : Str) = some .local
  knd : fd.scope.kind = .function
  par : ∃ ar, (fd.params.posonlyargs ++ fd.params.args).head? = some ar ∧ ar.arg = ("self" : Str)
  gl : fd.globals = mainGlobals
  bi : fd.builtins = builtinsNs
  top : (C.prog.main.scope.names.lookup ("super" : Str)).isSome = false
  mg : C.mg "super" = none
  op : nsIn C.K cStatics "thirdparty.any" = some none
section
variable {C : Cx} {A : Around} {E : Value → Shared → Prop} {h : Heap} {g : Array GenState} {d : Drawn} {t : Nat} {os : OsState} {x : Addr} {cl dx f L : Addr} {fd : FuncData} {vs : List Value} {n : Nat}
theorem keeper_bound {M : Model} {b : Addr} {bt id : String} (hbt : bt = "builtin_function_or_method" ∨ bt = "method-wrapper") (hb : h.get? b = some (boundObj bt id x)) : Looks M h (keeperOf (.ref b)) .machine := by
  refine (Looks.ld hb).andThen ?_
  show Looks M h (if (Value.type bt != Value.type "method") = true then pure (if (Value.type bt == Value.type "builtin_function_or_method" || Value.type bt == Value.type "method-wrapper") = true then Keeper.machine else Keeper.caller) else _) .machine
  rcases hbt with rfl | rfl
  · rw [if_pos (by decide), if_pos (by decide)]; exact .now
  · rw [if_pos (by decide), if_pos (by decide)]; exact .now
theorem sup_node {id bt gid T : String} {name : Str} {apos pos p0 p1 : Pos} {body : List Stmt} {m : Str → Option Value} {pl : Sem Bool} {Q : Value → Shared → Prop} (S : SupFn C cl f fd) (Y : LCls C.K cl) (X : C.In h) (hns : h.Ns L m) (hm : m "self" = some (.ref x)) (hx : h.get? x = some (lObj cl dx vs n)) (hxC : x ≠ cl)
    (hf : alongIn C.K name [.type "list", .type "object"] = some (some (.builtin id))) (hT : typeOf (.builtin id) = pure (.type T)) (hg : typeLookup (.type T) "__get__" = pure (some (.builtin gid))) (hn : (name == ("__class__" : Str)) = false) (hbt : bt = "builtin_function_or_method" ∨ bt = "method-wrapper")
    (hget : ∀ (h : Heap), h.get? x = some (lObj cl dx vs n) → C.K.In h → ∀ (A : Around) (E : Value → Shared → Prop) (t : Nat) (Q : Value → Shared → Prop), Q (.ref h.objs.size) ⟨h.push (boundObj bt id x), g, d, t, os⟩ → wpAny C.M A (call (.builtin gid) [.builtin id, .ref x, .ref cl]) Q E ⟨h, g, d, t, os⟩)
    (hq : ∀ h' t' b, Gr h h' → h'.get? b = some (boundObj bt id x) → wpAny C.M A (call (.ref b) []) Q E ⟨h', g, d, t', os⟩)
    (he : eval (.Call (.Attribute (.Call (.Name "super" p0) [] [] p1) name apos) [] [] pos) (callEnv fd L f) = (do
        let ov ← attributeBase (.Call (.Name "super" p0) [] [] p1) name (callEnv fd L f) (eval (.Call (.Name "super" p0) [] [] p1) (callEnv fd L f))
        standAt apos.atName
        let (f', first) ← holding [ov] (getMethod ov name pl)
        callWith pos f' first (backTo pos (starEach [] (callEnv fd L f))) [])) :
    _root_.PySem.wpAt C.M A (.func body (callEnv fd L f)) (eval (.Call (.Attribute (.Call (.Name "super" p0) [] [] p1) name apos) [] [] pos) (callEnv fd L f)) Q E ⟨h, g, d, t, os⟩ := by
  obtain ⟨o, hfo, hfd⟩ := S.fn
  obtain ⟨cc, oc, od, sl, hclo, hcell⟩ := S.clo
  obtain ⟨ca, oa, vs', file, tf, hcode, hca, hoa, hvs, hfile⟩ := S.code
  obtain ⟨ar, har, hara⟩ := S.par
  have hsub := Y.sub (M := C.M) X.k (b := .ref cl) (.inl rfl)
  have Y' := Y
  obtain ⟨cd, sl', hC, e1, e2, e3, e4, e5⟩ := Y.obj
  have hC := X.k _ _ hC
  have hks : (callEnv fd L f).kindOf "super" = some .globalImplicit := S.sup
  have hkc : (callEnv fd L f).kindOf "__class__" = some .free := S.cls
  have hkf : (callEnv fd L f).scope.kind = .function := S.knd
  refine ks_wpAt_MethodCall (pl := pl) ?_ he
  refine ks_wpAt_super_base hks hkc hn rfl (X.k _ _ hfo) hfd har hcode (X.k _ _ hca) hoa hvs hfile S.top ?_
  refine ks_loadName_global hkf hks (loadGlobal_builtin (env := callEnv fd L f) (by rw [show (callEnv fd L f).globals = mainGlobals from S.gl]; exact X.t.g) S.mg (by rw [show (callEnv fd L f).builtins = builtinsNs from S.bi]; exact X.t.b) ((X.t.builtins _ (by decide +kernel)).trans (by decide +kernel : bootBuiltins "super" = some (.type "super"))) ⟨rfl, ?_⟩)
  refine wpAny_loadName_free hkf hkc (by rw [show (callEnv fd L f).cells = fd.closure from rfl, hclo]; rfl) ⟨_, X.k _ _ hcell, rfl⟩ ?_
  rw [hara]
  refine wpAny_loadName_local hkf S.slf hns hm ?_
  refine ks_wpAny_isType_cls hC rfl ⟨rfl, ?_⟩
  refine ks_wpAny_call_super hC rfl hx rfl (fun c e => by cases e) hsub fun h1 hso k1 => ?_
  have X1 := X.keeps k1
  refine sup_method (T := T) Y' X1.k S.op hso hf hT hg hxC hn (fun A E t Q q => hget h1 (k1 _ _ hx) X1.k A E t Q q) ?_
  have hb : (h1.push (boundObj bt id x)).get? h1.objs.size = some (boundObj bt id x) := Heap.get?_push_size _ rfl
  refine callWith_of (P := fun h2 => h2.get? h1.objs.size = some (boundObj bt id x)) rfl (fun h2 e => ⟨.machine, .inr (.inl rfl), keeper_bound hbt e⟩) (evalArgs_nil3 ⟨hb, ?_⟩)
  exact hq _ _ _ (fun b o e => Heap.get?_push_of_some _ (k1 b o e)) hb
end
end Mine

namespace Mine
open PySem PySem.Calls PyProof.Rows PySem.W PySem.Builtin PySem.Builtin.ObjectAttr
theorem refuse_list (self : Value) : refuseLoop self "__setattr__" [.type "list", .type "object"] = pure () := by
  unfold refuseLoop
  kernel_rfl
section
variable {C : Cx} {A : Around} {E : Value → Shared → Prop} {s : Shared} {x cl dx : Addr} {vs : List Value} {n : Nat}
theorem setattrL_ev {es : List DictEntry} {m : Nat} {fs : List (Str × Fc)} {G : PM} {name : Str} {v : Value} {Q : Unit → Shared → Prop} (X : C.K.In s.heap) (Y : LCls C.K cl) (hx : s.heap.get? x = some (lObj cl dx vs n)) (D : s.heap.get? dx = some (dObj es m))
    (sa : findIn C.K (.ref cl) "__setattr__" = some (some (.builtin "object.__setattr__"))) (tk : takerIn C.K cl name = some none) (hf : FieldsR C.w.params G fs es) (hn : name ∉ fs.map (·.1)) (hz : es.length < 1000)
    (h : ∀ h' t, h'.get? dx = some (dObj (es ++ [⟨PyData.keyHash C.w.params name, .str name t, v⟩]) (m + 1)) → Heap.SameBut dx s.heap h' → ∀ tk, Q () { s with heap := h', toks := tk }) :
    wpAny C.M A (setAttr (.ref x) name v) Q E s := by
  have I : PySem.W.InstAt s.heap x (lObj cl dx vs n) cl (some (dObj es m)) := ⟨hx, rfl, rfl, D⟩
  refine set_plain X I sa ?_
  have X1 : C.K.In ({ s with toks := s.toks + 1 } : Shared).heap := X
  have I1 : PySem.W.InstAt ({ s with toks := s.toks + 1 } : Shared).heap x (lObj cl dx vs n) cl (some (dObj es m)) := I
  have SF := PySem.F.store_object
  have sub : Looks C.M ({ s with toks := s.toks + 1 } : Shared).heap (isInstance (.ref x) (.type "object")) true := I1.type.andThen (Y.sub X (.inr (.inr rfl)))
  obtain ⟨cd, sl, hC, e1, e2, e3, e4, e5⟩ := Y.obj
  have hc : clsIn C.K cl = some cd := by unfold clsIn; rw [hC]
  refine codeAny_call_builtin SF.slot.plain SF.entry (@check_slot C.M _ _ { s with toks := s.toks + 1 } "object.__setattr__" "object" "__setattr__" (.ref x) [.str name s.toks, v] [] _ SF.kind SF.split sub (SF.args (.ref x) (.str name s.toks) v) ?_)
  obtain ⟨attr, ha, hr⟩ := Option.bind_eq_some_iff.mp tk
  have hm : Looks C.M ({ s with toks := s.toks + 1 } : Shared).heap (mroOf (.ref cl)) cd.mro := (looks_clsIn X1 hc).andThen .now
  have L3 : Looks C.M ({ s with toks := s.toks + 1 } : Shared).heap (storeTaker? attr) none := by
    cases attr with
    | none => exact .now
    | some a =>
      obtain ⟨b, hb, e⟩ := Option.map_eq_some_iff.mp hr
      refine (looks_takesIn X1 hb).andThen ?_
      cases b with
      | true => cases e
      | false => exact .now
  rw [osa_eq, refuse_eq]
  refine wpAny_bind (wpAny_bind (I1.type.here (wpAny_bind (hm.here ?_))))
  rw [e5, refuseLoop_ref, refuse_list]
  refine wpAny_pure (wpAny_bind (I1.type.here (wpAny_bind ((looks_findIn X1 ha).here (wpAny_bind (L3.here ?_))))))
  have put := put_new (n := m) (k := Value.str name (s.toks + 1)) (v := v) hf hn
  have D' : (s.heap.update dx (Obj.putName name (PyData.keyHash C.w.params name) (.str name (s.toks + 1)) v)).get? dx = some (dObj (es ++ [⟨PyData.keyHash C.w.params name, .str name (s.toks + 1), v⟩]) (m + 1)) := by
    rw [Heap.get?_update_self _ D (by rw [put]; rfl), put]
  refine wpAny_bind (wpAny_pure (wpAny_bind (wpAny_bind (wpAny_loadPart hx (wpAny_bind ((looks_clsIn X1 hc).here ?_))))))
  rw [e3]
  refine wpAny_pure (a := some dx) (wpAny_bind (wpAny_pure (wpAny_bind ?_)))
  unfold nsSet
  refine wpAny_bind (wpAny_bind (wpAny_askSetting (wpAny_pure (wpAny_bind (wpAny_mkText (wpAny_bind (wpAny_loadPart D ?_)))))))
  have c : (!es.toArray.any (·.key.isStr name) && es.toArray.any (·.refKey)) = false := by
    rw [← Array.any_toList, ← Array.any_toList, hf.noref, Bool.and_false]
  dsimp only
  rw [aRefKeyMayBeTheName_at, c]
  refine wpAny_updatePart D ?_
  refine wpAny_bind (wpAny_lookBehind D' (pastItsLine_dict (by rw [List.size_toArray, List.length_append, sizeLine_eq]; simp only [List.length_cons, List.length_nil]; omega)) ?_)
  exact wpAny_pure (h _ _ D' (Heap.SameBut.update ..) _)
end
end Mine

namespace Mine
open PySem PySem.Calls PyProof.Rows PySem.W
theorem lcls {C : Cx} (H : Lw C) : LCls C.K 101 := by
  rw [H.k]
  exact ⟨⟨_, _, rfl, rfl, rfl, rfl, rfl, rfl⟩, fun e => by cases (show (Kf C.w.params).lookup 101 = _ from e); rfl, rfl, rfl⟩
theorem sup38 {C : Cx} (H : Lw C) : SupFn C 101 38 (fd38 C.w.params).1 where
  fn := by rw [H.k]; exact ⟨_, (o38 _).2, (fd38 _).2⟩
  clo := by rw [H.k]; exact ⟨25, _, _, _, rfl, rfl⟩
  code := by rw [H.k, H.prog]; exact ⟨37, _, _, _, _, rfl, rfl, rfl, rfl, rfl⟩
  sup := rfl
  cls := rfl
  slf := rfl
  knd := rfl
  par := ⟨_, rfl, rfl⟩
  gl := rfl
  bi := rfl
  top := by rw [H.prog]; rfl
  mg := H.bn _ (by decide)
  op := by rw [H.k]; rfl
theorem pile_init {C : Cx} {A : Around} (H : Lw C) (r : Rm 4 A) {h : Heap} {g : Array GenState} {d : Drawn} {t : Nat} {os : OsState} {x dx : Addr} {fv : Value} {R : Result → Shared → Prop} (X : C.In h) (hx : h.get? x = some (lObj 101 dx [] 0)) (hdx : h.get? dx = some (dObj [] 0)) (hne : x ≠ dx) (hx101 : x ≠ 101)
    (hbs : ∀ h' : Heap, (∀ b o, b ≠ x → b ≠ dx → h.get? b = some o → h'.get? b = some o) → C.In h')
    (hq : ∀ h' t' tk, (∀ b o, b ≠ x → b ≠ dx → h.get? b = some o → h'.get? b = some o) → h'.get? x = some (lObj 101 dx [] 0) → h'.get? dx = some (dObj [⟨PyData.keyHash C.w.params "_initial_size", .str "_initial_size" tk, fv⟩] 1) → R (.ok (.ret .none)) ⟨h', g, d, t', os⟩) :
    codeAny C.M A (.call (.ref 38) ⟨[.ref x, fv], []⟩) R ⟨h, g, d, t, os⟩ := by
  have Y := lcls H
  have S := sup38 H
  refine ks_codeAny_call_defAt (fd := (fd38 C.w.params).1) (body := (body38 C.w.params).1) (binds := [("self", .ref x), ("initial_size", fv)]) r.depth (X.k _ _ (by rw [H.k]; exact (o38 _).2)) (fd38 _).2 X.t.nolimit (codeRec_of X.k (by rw [H.k]; rfl)) (body38 _).2 (kp_binds X.k (by rw [H.k]; intro S; rfl)) (of_decide_eq_true rfl) (of_decide_eq_true rfl) (fun h0 hns k0 => ?_) rfl rfl rfl
  have hlx : ∀ {b : Addr} {o : Obj}, h.get? b = some o → b ≠ h.objs.size := fun e q => Nat.lt_irrefl _ (q ▸ Heap.lt_size e)
  have X0 := X.keeps k0
  refine ks_wpAt_execs_cons (ks_wpAt_Assign_Attr (wpAt_of_wpAny ?_) rfl)
  refine wpAny_Name (wpAny_loadName_local rfl rfl hns rfl ?_) (by decide)
  refine wpAny_Name (wpAny_loadName_local rfl rfl hns rfl ?_) (by decide)
  refine setattrL_ev (C := C) (es := []) (fs := []) (G := fun _ => none) X0.k Y (k0 _ _ hx) (k0 _ _ hdx) (by rw [H.k]; rfl) (by rw [H.k]; rfl) trivial (by simp) (by decide) fun h2 tk2 hd2 sb2 tk3 => ?_
  have hns2 : h2.Ns h.objs.size (fun y => ([(Str.ofString "self", Value.ref x), (Str.ofString "initial_size", fv)] : List (Str × Value)).reverse.lookup y) := hns.sameBut sb2 (hlx hdx).symm
  have hx2 : h2.get? x = some (lObj 101 dx [] 0) := (sb2.2 x hne).trans (k0 _ _ hx)
  have keep2 : ∀ b o, b ≠ x → b ≠ dx → h.get? b = some o → h2.get? b = some o := fun b o _ n e => (sb2.2 b n).trans (k0 b o e)
  refine ks_wpAt_execs_cons (ks_wpAt_Expr_any ?_ rfl rfl)
  refine sup_node (C := C) (id := "list.__init__") (bt := "method-wrapper") (gid := "wrapper_descriptor.__get__") (T := "wrapper_descriptor") S Y (hbs h2 keep2) hns2 rfl hx2 hx101 (by rw [H.k]; rfl) ty_init wd_slot.lookup (by decide) (.inr rfl)
    (fun h3 e3 k3 A E t Q q => wd_init e3 (Y.sub k3 (.inr (.inl rfl))) q) (fun h3 t3 b k3 hb => ?_) rfl
  refine call_init hb (k3 _ _ hx2) fun h4 hx4 sb4 => ?_
  refine wpAt_of_wpAny (wpAny_execs_nil ?_)
  exact hq h4 t3 tk2 (fun b o n1 n2 e => (sb4.2 b n1).trans (k3 b o (keep2 b o n1 n2 e))) hx4 ((sb4.2 dx hne.symm).trans (k3 _ _ hd2))
end Mine

namespace Mine
open PySem PySem.Calls PyProof.Rows PySem.W
/-- a pile -/
noncomputable def ocPile (P : Params) (cl : Addr) (first : Int) (xs : List (List Nat × List Nat)) : Oc := ⟨fun G o => ∃ dx vs n es k, o = lObj cl dx vs n ∧ All2 (rT2 rTxt rTxt) G xs vs ∧ G dx = some (dObj es k) ∧ FieldsR P G [("_initial_size", rInt.at first)] es, fun k h => by
  obtain ⟨dx, vs, n, es, m, e, a, b, c⟩ := h; exact ⟨dx, vs, n, es, m, e, a.mono k, k _ _ b, c.mono k⟩⟩
section
variable {C : Cx} {A : Around} {env : Env} {ρ : Rst} {G G' : PM} {X X' : List Addr} {O : Own} {V V' : Vars} {α β γ δ σ ι : Type} {pos : Pos} {rest : List Stmt} {P : Flow → Shared → Prop}
/-- a new object that this frame alone knows -/
theorem FS.own' {s s' : Shared} {a : Addr} {F : Oc} {o : Obj} (f : FS C env ρ G X O V s) (g : Keeps s s') (hn : s.heap.get? a = none) (ho : s'.heap.get? a = some o) (hF : F.r (fz (a :: X) s'.heap) o) : FS C env ρ G (a :: X) ((a, F) :: O) V s' ∧ a ∉ X := by
  have f1 := f.grow (Ds := [a]) g (fun d m => by rw [List.mem_singleton.mp m]; exact hn) (fun d m => by rw [List.mem_singleton.mp m]; exact ⟨o, ho⟩)
  have haX : a ∉ X := fun m => by obtain ⟨o, e⟩ := f.kn.alive a m; rw [hn] at e; cases e
  have hGa : G a = none := by
    cases e : G a with
    | none => rfl
    | some o => have := f.keep a o e; rw [hn] at this; cases this
  have hlive : ∀ b ∈ env.locals :: env.cells.map (·.2), b ≠ a := fun b m e => by
    rcases List.mem_cons.mp m with m | m
    · exact haX (e ▸ m ▸ f.lx)
    · exact haX (e ▸ f.cx b m)
  have hx : ∀ m ∈ env.locals :: (env.cells.map (·.2) ++ ((a, F) :: O).map (·.1)), m = a ∨ m ∈ env.locals :: (env.cells.map (·.2) ++ O.map (·.1)) := fun m h => by
    rcases List.mem_cons.mp h with h | h
    · exact .inr (h ▸ .head _)
    · rcases List.mem_append.mp h with h | h
      · exact .inr (.tail _ (List.mem_append_left _ h))
      · rcases List.mem_cons.mp h with h | h
        · exact .inl h
        · exact .inr (.tail _ (List.mem_append_right _ h))
  have hOa : a ∉ O.map (·.1) := fun m => haX (f.ox a m).1
  refine ⟨⟨⟨f1.kn.base, f1.kn.fn, f1.kn.gl, f1.kn.bi, f1.kn.alive, f1.kn.vars, fun b F' e => ?_⟩, f1.rs, f1.lx, f1.fr, f1.cx, f1.ap, fun b m => ?_, List.nodup_cons.mpr ⟨hOa, f1.on⟩, f1.keep, fun b m => (hx b m).elim (fun e => e ▸ hGa) (f1.gn b), f1.bs⟩, haX⟩
  · rw [List.lookup_cons] at e
    cases hb : b == a with
    | true =>
      rw [hb] at e; cases e
      obtain rfl := eq_of_beq hb
      exact ⟨o, ho, hF⟩
    | false => rw [hb] at e; exact f1.kn.own b F' e
  · rcases List.mem_cons.mp m with rfl | m
    · exact ⟨.head _, fun m => hlive _ m rfl⟩
    · exact f1.ox b m

theorem sb_newpile {x fn : Str} {p pf : Pos} {e : Expr} {first : Int} {pc : Pos} (H : Lw C) (hA : C.mg fn = some (.ref 101)) (hfn : env.kindOf fn = some .globalImplicit) (r : Rm 6 A) (he : PE C A env X O V e rInt first) (hx : Stores env x)
    (hrest : ∀ a, a ∉ X → SB C A env ρ G (a :: X) ((a, ocPile C.w.params 101 first []) :: O) ((x, rVal.at (.ref a)) :: V) rest P) (hd : (fn == ("__debug__" : Str)) = false := by decide)
    (hce : ∀ pos, eval (.Call (.Name fn pf) [e] [] pos) env = (do callWith pos (← eval (.Name fn pf) env) [] (backTo pos (starEach [e] env)) (backToKw pos (keywordEach [] env))) := by intro _; rfl)
    (hst : starEach [e] env = (false, eval e env) :: starEach [] env := by rfl)
    (hs : swapsWith (.Call (.Name fn pf) [e] [] pc) (some (.Name x p)) pos.line env = pure false := by rfl) :
    SB C A env ρ G X O V (.Assign [.Name x p] (.Call (.Name fn pf) [e] [] pc) pos :: rest) P := fun s f => by
  refine wpAny_execs_cons (wpAny_Assign_Name (Call_ ((pe_global hA hfn hd s f.kn).use fun v s1 g1 e1 => ?_) (hce _)) hs)
  cases e1
  have f1 := f.keeps g1
  refine callWith_any (first := []) (pl_cons he pl_nil hst) f1.kn (keepy_K (by rw [H.k]; rfl)) fun vs s2 g2 al => ?_
  have f2 := f1.keeps g2
  obtain ⟨v, rfl, hv⟩ := al.one
  have X2 := f2.kn.base
  obtain ⟨h, g, d, t, os⟩ := s2
  have hi : Looks C.M h (typeLookup (.ref 101) "__init__") (some (.ref 38)) := looks_findIn X2.k (by rw [H.k]; rfl)
  have hf : typeIn C.K (.ref 38) = some (.type "function") := by rw [H.k]; rfl
  refine wpAny_call (makeL (rest := [v]) (lcls H) X2.k hi (fun self => bind_fn X2.k self hf) ?_)
  have hd0 : ((h.push emptyDict).push (lObj 101 h.objs.size [] 0)).get? h.objs.size = some (dObj [] 0) := by heap_get
  have hx0 : ((h.push emptyDict).push (lObj 101 h.objs.size [] 0)).get? (h.objs.size + 1) = some (lObj 101 h.objs.size [] 0) := by heap_get
  have k1 : Gr h ((h.push emptyDict).push (lObj 101 h.objs.size [] 0)) := fun b o e => Heap.get?_push_of_some _ (Heap.get?_push_of_some _ e)
  have hnd : h.get? h.objs.size = none := new_none (s := ⟨h, g, d, t, os⟩)
  have hnx : h.get? (h.objs.size + 1) = none := by
    cases e : h.get? (h.objs.size + 1) with
    | none => rfl
    | some o => exact absurd (Heap.lt_size e) (Nat.not_lt.mpr (Nat.le_succ _))
  generalize hdx : h.objs.size = dx at *
  generalize ((h.push emptyDict).push (lObj 101 dx [] 0)) = h1 at k1 hd0 hx0 ⊢
  have keepG : ∀ {h' : Heap}, (∀ b o, b ≠ dx + 1 → b ≠ dx → h1.get? b = some o → h'.get? b = some o) → Gr h h' := fun k b o e => k b o (fun q => by rw [q, hnx] at e; cases e) (fun q => by rw [q, hnd] at e; cases e) (k1 b o e)
  have hx101 : dx + 1 ≠ 101 := fun q => by
    have : ∃ o, h.get? 101 = some o := ⟨_, X2.k _ _ (by rw [H.k]; exact rfl)⟩
    obtain ⟨o, e⟩ := this
    rw [← q, hnx] at e; cases e
  refine pile_init H ((r.make 101 [v]).less (by decide)) (X2.keeps k1) hx0 hd0 (Nat.succ_ne_self dx) hx101 (fun h' k => X2.keeps (keepG k)) fun h' t' tk k hx' hd' => ⟨rfl, ?_⟩
  have ks : Keeps (⟨h, g, d, t, os⟩ : Shared) ⟨h', g, d, t', os⟩ := ⟨h', t', rfl, keepG k⟩
  have hdX : dx ∉ (dx + 1) :: X := fun m => (List.mem_cons.mp m).elim (fun q => Nat.succ_ne_self dx q.symm) fun m => by
    obtain ⟨o, e⟩ := f2.kn.alive _ m; rw [show (⟨h, g, d, t, os⟩ : Shared).heap.get? dx = h.get? dx from rfl, hnd] at e; cases e
  obtain ⟨f3, ha⟩ := f2.own' (F := ocPile C.w.params 101 first []) ks hnx hx' ⟨dx, [], 0, _, 1, rfl, trivial, fz_of hd' hdX, ⟨⟨tk, v, rfl, hv⟩, trivial⟩⟩
  exact wpAny_mono (f3.store (F := rVal.at (.ref (dx + 1))) hx rfl) (fun _ s4 q4 => hrest _ ha s4 q4.1) fun _ _ e => e
end
end Mine

namespace Mine
open PySem PySem.Calls PyProof.Rows PySem.W
theorem check_meth {M : Model} {A : Around} {E : Value → Shared → Prop} {s : Shared} {i owner n : String} {self : Value} {rest : List Value} {kw : List (Str × Value)} {Q : Unit → Shared → Prop}
    (hk : builtinKind i = some .method) (hs : splitId i = some (owner, n)) (hi : Looks M s.heap (isInstance self (.type owner)) true) (ha : argsOk i ⟨self :: rest, kw⟩) (q : Q () s) :
    wpAny M A (checkBuiltinCall i ⟨self :: rest, kw⟩) Q E s := by
  simp only [checkBuiltinCall, hk, hs]
  refine wpAny_bind (hi.here ?_)
  simp only [Bool.not_true, Bool.false_eq_true, if_false]
  cases hsig : Manifest.signature? i with
  | none => exact wpAny_pure q
  | some sig =>
    simp only [argsOk, hsig] at ha
    have h2 : Bind.checkArgs i sig ⟨self :: rest, kw⟩ = pure () := ha
    show wpAny M A (Bind.checkArgs i sig ⟨self :: rest, kw⟩) Q E s
    rw [h2]; exact wpAny_pure q
theorem app_kind : builtinKind "list.append" = some .method := by decide +kernel
theorem app_split : splitId "list.append" = some ("list", "append") := by decide +kernel
theorem app_plain : plainId "list.append" = true := by decide +kernel
theorem app_entry : entryFor table "list.append" = some Builtin.«list.append» := entryFor_of_tree (by kernel_rfl)
theorem app_args (a b : Value) : argsOk "list.append" ⟨[a, b], []⟩ := by unfold argsOk; kernel_rfl
section
variable {prog : Program} {w : World} {A : Around} {E : Value → Shared → Prop} {s : Shared} {h : Heap} {g : Array GenState} {d : Drawn} {t : Nat} {os : OsState} {x : Addr} {K : Frag} {cl dx : Addr} {vs : List Value} {n : Nat} {od : Option Obj} {ox : Obj}
theorem canon_lga : (Manifest.canonical "list.__getattribute__" != "object.__getattribute__") = false := by decide +kernel
theorem method_fnL {f : Addr} {name : Str} {pl : Sem Bool} {Q : Value × List Value → Shared → Prop} (X : K.In s.heap) (I : PySem.W.InstAt s.heap x ox cl od) (hga : findIn K (.ref cl) "__getattribute__" = some (some (.builtin "list.__getattribute__"))) (hk : findIn K (.ref cl) "__getattr__" = some none)
    (hf : findIn K (.ref cl) name = some (some (.ref f))) (ht : typeIn K (.ref f) = some (.type "function")) (hs : shadowIn od name = some false) (h : Q (.ref f, [.ref x]) s) :
    wpAny (model prog w) A (getMethod (.ref x) name pl) Q E s := by
  have hcan := canon_lga
  unfold getMethod specialOf
  refine wpAny_bind (wpAny_bind (I.type.here ((looks_findIn X hga).here ?_)))
  dsimp only
  rw [hcan, if_neg (by decide)]
  refine wpAny_bind (wpAny_bind (I.type.here ((looks_findIn X hk).here ?_)))
  refine wpAny_bind (wpAny_bind (I.type.here ((looks_findIn X hf).here (wpAny_bind ((looks_typeIn X ht).here ?_)))))
  rw [if_neg (by decide +kernel)]
  refine wpAny_bind (wpAny_loadPart I.at_ ?_)
  have hd := I.dict
  cases e : ox.dict with
  | none => exact wpAny_bind (wpAny_rule (wpAny_pure h))
  | some dx =>
    cases od with
    | none => rw [e] at hd; exact hd.elim
    | some o =>
      rw [e] at hd
      obtain ⟨r, a, b⟩ := Option.map_eq_some_iff.mp hs
      refine wpAny_bind (wpAny_bind (wpAny_loadPart hd ?_))
      rw [nsLook_of a]
      refine wpAny_pure ?_
      rw [b]
      exact wpAny_bind (wpAny_rule (wpAny_pure h))
theorem lga_kind : builtinKind "list.__getattribute__" = some .slot := by decide +kernel
theorem lga_split : splitId "list.__getattribute__" = some ("list", "__getattribute__") := by decide +kernel
theorem lga_plain : plainId "list.__getattribute__" = true := by decide +kernel
theorem lga_entry : entryFor table "list.__getattribute__" = some Builtin.«object.__getattribute__» :=
  entryFor_alias (id' := "object.__getattribute__") (by kernel_rfl) (by first | rfl | decide +kernel) (by decide +kernel) (by kernel_rfl)
theorem lga_args (a b : Value) : argsOk "list.__getattribute__" ⟨[a, b], []⟩ := by unfold argsOk; kernel_rfl
theorem lga_bind (self : Value) : bindSpecial (.builtin "list.__getattribute__") self = pure (.builtin "list.__getattribute__", [self]) :=
  (Slot.of (T := "list") (name := "__getattribute__") (owner := "list") (n := "__getattribute__") (by rw [typeLookup_type, builtinLookup_eq_fast]; kernel_rfl) (by decide +kernel) (by decide +kernel) (by decide +kernel)
    (.inl (by decide +kernel)) (by rw [isSubtype_type]; kernel_rfl)).bind self
theorem getL_value {v : Value} {name : Str} {expr : Bool} {Q : Value → Shared → Prop} (X : K.In s.heap) (I : PySem.W.InstAt s.heap x ox cl od) (sub : Looks (model prog w) s.heap (isSubtype (.ref cl) (.type "list")) true) (hga : findIn K (.ref cl) "__getattribute__" = some (some (.builtin "list.__getattribute__"))) (hgx : findIn K (.ref cl) "__getattr__" = some none)
    (hf : findObj K cl od name = some (.value v)) (hh : handedIn v = true) (h : Q v { s with toks := s.toks + 1 }) : wpAny (model prog w) A (getAttr (.ref x) name expr) Q E s := by
  obtain ⟨hh', g, d, t, os⟩ := s
  have L0 := I.type (M := model prog w)
  have L1 := looks_findIn (M := model prog w) X hga
  have Lx := looks_findIn (M := model prog w) X hgx
  have L2 := looks_find (M := model prog w) X I hf
  unfold getAttr getAttrBy
  refine wpAny_bind (wpAny_mkText (wpAny_holding (wpAny_bind (L0.at (wpAny_bind (L1.at ?_))))))
  show wpAny _ _ (getAttrByItsOwn (.ref x) (.str name t) (.ref cl) (.builtin "list.__getattribute__") true expr) _ _ _
  unfold getAttrByItsOwn hookBefore
  refine wpAny_bind (Lx.at ?_)
  refine wpAny_bind (wpAny_attempt (wpAny_holding ?_))
  have hcg : callGetattribute (.ref x) (.str name t) (.builtin "list.__getattribute__") expr = boundAndCalled (.builtin "list.__getattribute__") (.ref x) (.str name t) := by
    unfold callGetattribute; rw [show onTheHeap (.builtin "list.__getattribute__") = false from rfl, Bool.and_false]; rfl
  rw [hcg]
  unfold boundAndCalled
  refine wpAny_bind (wpAny_of_eq (lga_bind _) ?_)
  refine wpAny_mono (Q := fun v' s' => v' = v ∧ s' = ⟨hh', g, d, t + 1, os⟩) (E := fun _ _ => False) ?_ (fun v' s' hv => ?_) fun _ _ z => z.elim
  · have ii : Looks (model prog w) hh' (isInstance (.ref x) (.type "list")) true := L0.andThen sub
    show wpAny _ _ (call (.builtin "list.__getattribute__") [.ref x, .str name t]) _ _ _
    refine wpAny_call (codeAny_call_builtin lga_plain lga_entry ?_)
    refine @check_slot (model prog w) _ _ ⟨hh', g, d, t + 1, os⟩ "list.__getattribute__" "list" "__getattribute__" (.ref x) [.str name t] [] _ lga_kind lga_split ii (lga_args _ _) ?_
    unfold Builtin.«object.__getattribute__»
    refine wpAny_bind (wpAny_pure ?_)
    refine wpAny_bind (wpAny_pure ?_)
    refine wpAny_bind (L0.at (wpAny_bind (L2.at ?_)))
    exact wpAny_pure ⟨rfl, rfl⟩
  · obtain ⟨rfl, rfl⟩ := hv
    show wpAny _ _ (handedOut v') _ _ _
    rw [handedOut_of hh]; exact wpAny_pure h
theorem method_b {id : String} {name : Str} {pl : Sem Bool} {Q : Value × List Value → Shared → Prop} (X : K.In s.heap) (I : PySem.W.InstAt s.heap x ox cl od) (hga : findIn K (.ref cl) "__getattribute__" = some (some (.builtin "list.__getattribute__"))) (hk : findIn K (.ref cl) "__getattr__" = some none)
    (hf : findIn K (.ref cl) name = some (some (.builtin id))) (ht : typeOf (.builtin id) = pure (.type "method_descriptor")) (hs : shadowIn od name = some false) (h : Q (.builtin id, [.ref x]) s) :
    wpAny (model prog w) A (getMethod (.ref x) name pl) Q E s := by
  have hcan := canon_lga
  unfold getMethod specialOf
  refine wpAny_bind (wpAny_bind (I.type.here ((looks_findIn X hga).here ?_)))
  dsimp only
  rw [hcan, if_neg (by decide)]
  refine wpAny_bind (wpAny_bind (I.type.here ((looks_findIn X hk).here ?_)))
  refine wpAny_bind (wpAny_bind (I.type.here ((looks_findIn X hf).here (wpAny_bind (wpAny_of_eq ht ?_)))))
  rw [if_neg (by decide +kernel)]
  refine wpAny_bind (wpAny_loadPart I.at_ ?_)
  have hd := I.dict
  cases e : ox.dict with
  | none => exact wpAny_bind (wpAny_rule (wpAny_pure h))
  | some dx =>
    cases od with
    | none => rw [e] at hd; exact hd.elim
    | some o =>
      rw [e] at hd
      obtain ⟨r, a, b⟩ := Option.map_eq_some_iff.mp hs
      refine wpAny_bind (wpAny_bind (wpAny_loadPart hd ?_))
      rw [nsLook_of a]
      refine wpAny_pure ?_
      rw [b]
      exact wpAny_bind (wpAny_rule (wpAny_pure h))
theorem isListL {M : Model} (Y : LCls K cl) (X : K.In h) (hx : h.get? x = some (lObj cl dx vs n)) : Looks M h (isInstance (.ref x) (.type "list")) true := ((Looks.ld hx).andThen .now).andThen (Y.sub X (.inr (.inl rfl)))
theorem appendL {v : Value} {Q : Value → Shared → Prop} (Y : LCls K cl) (X : K.In h) (hx : h.get? x = some (lObj cl dx vs n)) (hz : vs.length < 1000)
    (hq : ∀ h' m, h'.get? x = some (lObj cl dx (vs ++ [v]) m) → Heap.SameBut x h h' → Q .none ⟨h', g, d, t, os⟩) : wpAny (model prog w) A (call (.builtin "list.append") [.ref x, v]) Q E ⟨h, g, d, t, os⟩ := by
  refine wpAny_call (codeAny_call_builtin app_plain app_entry (check_meth app_kind app_split (isListL Y X hx) (app_args _ _) ?_))
  show wpAny _ _ (updateSeq x (·.push v) >>= fun _ => ret .none) _ _ _
  refine wpAny_bind (wpAny_updateSeq hx rfl (wpAny_pure ?_) (by show vs.toArray.size ≤ _; rw [List.size_toArray, sizeLine_eq]; omega) (by show (vs.toArray.push v).size ≤ _; rw [Array.size_push, List.size_toArray, sizeLine_eq]; omega))
  refine hq _ (if (vs.toArray.push v).size == vs.toArray.size then n else n + 1) ?_ (Heap.SameBut.update ..)
  rw [Heap.get?_update_self _ hx (Obj.isFreed_of_seq (Obj.data_mapSeq (o := lObj cl dx vs n) rfl _).choose_spec)]
  simp only [Obj.mapSeq, List.push_toArray]
end
end Mine

namespace Mine
open PySem PySem.Calls PyProof.Rows PySem.W
theorem kb_FS {C : Cx} {env : Env} {s s' : Shared} {W X : List Addr} {O : Own} {V : Vars} (f : FS C env (Rst.same s) (fz W s.heap) X O V s') : KB W s s' := by
  obtain ⟨h, t, rfl⟩ := f.rs
  exact ⟨h, t, rfl, fun b o n e => f.keep b o (fz_of e n)⟩
/-- what a method is told of the object that it may write -/
structure Own1 (C : Cx) (X : List Addr) (p : Addr) (F : Oc) (s : Shared) : Prop where
  inn : C.In s.heap
  live : Live X s
  mem : p ∈ X
  bs : ∀ h' : Heap, (∀ b o, fz [p] s.heap b = some o → h'.get? b = some o) → C.In h'
  own : ∃ o, s.heap.get? p = some o ∧ F.r (fz X s.heap) o
structure MethL (K : Frag) (cl : Addr) (name : Str) (fa : Addr) : Prop where
  ga : findIn K (.ref cl) "__getattribute__" = some (some (.builtin "list.__getattribute__"))
  gx : findIn K (.ref cl) "__getattr__" = some none
  fn : findIn K (.ref cl) name = some (some (.ref fa))
  ty : typeIn K (.ref fa) = some (.type "function")
  kp : keepIn K (.ref fa) = true
noncomputable def EffR {α : Type} (C : Cx) (A : Around) (fa p : Addr) (F F' : Oc) (Fs : List Fc) (R : Rl α) (y : α) : Prop :=
  ∀ X s vs, Own1 C X p F s → AllF (fz X s.heap) Fs vs → wpAny C.M A (call (.ref fa) (.ref p :: vs)) (fun r s' => KB [p] s s' ∧ R.r (fz X s'.heap) y r ∧ ∃ o', s'.heap.get? p = some o' ∧ F'.r (fz X s'.heap) o') (fun _ _ => False) s
noncomputable def PurR {α : Type} (C : Cx) (A : Around) (fa p : Addr) (F : Oc) (Fs : List Fc) (R : Rl α) (y : α) : Prop :=
  ∀ X s vs, C.In s.heap → Live X s → (∃ o, s.heap.get? p = some o ∧ F.r (fz X s.heap) o) → AllF (fz X s.heap) Fs vs → Ev C A (call (.ref fa) (.ref p :: vs)) s fun r s' => R.r (fz X s'.heap) y r
section
variable {C : Cx} {A : Around} {env : Env} {ρ : Rst} {G G' : PM} {X X' : List Addr} {O : Own} {V V' : Vars} {α β γ δ σ ι : Type} {pos : Pos} {rest : List Stmt} {P : Flow → Shared → Prop}
theorem FS.own1 {s : Shared} {p : Addr} {F : Oc} (f : FS C env ρ G X ((p, F) :: O) V s) : Own1 C X p F s where
  inn := f.kn.base
  live := f.kn.alive
  mem := (f.ox p (.head _)).1
  bs := fun h' k => f.bs h' fun b o e => k b o (fz_of (f.keep b o e) fun m => by rw [List.mem_singleton.mp m, f.gn p (.tail _ (List.mem_append_right _ (.head _)))] at e; cases e)
  own := f.kn.own p F look_hd
theorem FS.eff {s s' : Shared} {p : Addr} {F F' : Oc} (f : FS C env ρ G X ((p, F) :: O) V s) (kb : KB [p] s s') (h : ∃ o', s'.heap.get? p = some o' ∧ F'.r (fz X s'.heap) o') : FS C env ρ G X ((p, F') :: O) V s' := let ⟨_, a, b⟩ := h; f.set kb a b
theorem pile_method {s : Shared} {p fa : Addr} {first : Int} {xs : List (List Nat × List Nat)} {G : PM} {name : Str} {pl : Sem Bool} {Q : Value × List Value → Shared → Prop} {E : Value → Shared → Prop} (X : C.In s.heap) (M : MethL C.K 101 name fa) (hn : (name == ("_initial_size" : Str)) = false)
    (ho : ∃ o, s.heap.get? p = some o ∧ (ocPile C.w.params 101 first xs).r G o) (le : Le G s.heap.get?) (h : Q (.ref fa, [.ref p]) s) : wpAny C.M A (getMethod (.ref p) name pl) Q E s := by
  obtain ⟨o, ho, dx, vs, n, es, k, rfl, al, hd, hf⟩ := ho
  refine method_fnL X.k (⟨ho, rfl, rfl, le _ _ hd⟩ : PySem.W.InstAt _ _ _ _ (some (dObj es k))) M.ga M.gx M.fn M.ty ?_ h
  show (lookIn name (dObj es k)).map _ = _
  rw [look_none hf (fun m => by rw [List.map_cons, List.map_nil, List.mem_singleton] at m; rw [m, beq_self_eq_true] at hn; cases hn)]; rfl
abbrev McEq (env : Env) (o : Expr) (name : Str) (apos pos : Pos) (es : List Expr) (pl : Sem Bool) : Prop := eval (.Call (.Attribute o name apos) es [] pos) env = (do
      let ov ← eval o env
      standAt apos.atName
      let (f, first) ← holding [ov] (getMethod ov name pl)
      callWith pos f first (backTo pos (starEach es env)) [])
/-- p.m(..), whatever it does -/
theorem meth_any {s : Shared} {x : Str} {xp apos : Pos} {p fa : Addr} {first : Int} {xs : List (List Nat × List Nat)} {name : Str} {es : List Expr} {Fs : List Fc} {pl : Sem Bool} {Q : Value → Shared → Prop} (f : FS C env ρ G X ((p, ocPile C.w.params 101 first xs) :: O) V s) (hv : V.lookup x = some (rVal.at (.ref p))) (M : MethL C.K 101 name fa) (hn : (name == ("_initial_size" : Str)) = false)
    (ha : PL C A env X ((p, ocPile C.w.params 101 first xs) :: O) V es Fs) (h : ∀ vs s', Keeps s s' → AllF (fz X s'.heap) Fs vs → wpAny C.M A (call (.ref fa) (.ref p :: vs)) Q (fun _ _ => False) s') (he : McEq env (.Name x xp) name apos pos es pl) (hd : (x == ("__debug__" : Str)) = false) :
    wpAny C.M A (eval (.Call (.Attribute (.Name x xp) name apos) es [] pos) env) Q (fun _ _ => False) s := by
  obtain ⟨v, sv, rfl⟩ := f.kn.vars _ _ hv
  refine MethodCall_ (wpAny_Name (sv.load f.kn.fn ?_) hd) he
  exact pile_method f.kn.base M hn (f.kn.own p _ look_hd) fz_le (callWith_any ha f.kn (keepy_K M.kp) h)
theorem sb_meth {x : Str} {xp apos cpos : Pos} {p fa : Addr} {first : Int} {xs ys : List (List Nat × List Nat)} {name : Str} {es : List Expr} {Fs : List Fc} {pl : Sem Bool} {R : Rl α} {y : α} (hv : V.lookup x = some (rVal.at (.ref p))) (M : MethL C.K 101 name fa)
    (ha : PL C A env X ((p, ocPile C.w.params 101 first xs) :: O) V es Fs) (hc : EffR C A fa p (ocPile C.w.params 101 first xs) (ocPile C.w.params 101 first ys) Fs R y)
    (hrest : SB C A env ρ G X ((p, ocPile C.w.params 101 first ys) :: O) V rest P) (hn : (name == ("_initial_size" : Str)) = false := by decide) (hd : (x == ("__debug__" : Str)) = false := by decide) (he : McEq env (.Name x xp) name apos cpos es pl := by rfl)
    (hi : interactive env = false := by rfl) (hs : swapsWith (.Call (.Attribute (.Name x xp) name apos) es [] cpos) none pos.line env = pure false := by rfl) :
    SB C A env ρ G X ((p, ocPile C.w.params 101 first xs) :: O) V (.Expr (.Call (.Attribute (.Name x xp) name apos) es [] cpos) pos :: rest) P := fun s f =>
  wpAny_execs_cons (wpAny_Expr_any (meth_any f hv M hn ha (fun vs s1 g al => wpAny_mono (hc X s1 vs (f.keeps g).own1 al) (fun r s2 q => hrest s2 ((f.keeps g).eff q.1 q.2.2)) fun _ _ e => e) he hd) hi hs)
theorem sb_meth_assign {x z : Str} {xp zp apos cpos : Pos} {p fa : Addr} {first : Int} {xs ys : List (List Nat × List Nat)} {name : Str} {es : List Expr} {Fs : List Fc} {pl : Sem Bool} {R : Rl α} {y : α} (hv : V.lookup x = some (rVal.at (.ref p))) (M : MethL C.K 101 name fa)
    (ha : PL C A env X ((p, ocPile C.w.params 101 first xs) :: O) V es Fs) (hc : EffR C A fa p (ocPile C.w.params 101 first xs) (ocPile C.w.params 101 first ys) Fs R y) (hz : Stores env z)
    (hrest : SB C A env ρ G X ((p, ocPile C.w.params 101 first ys) :: O) ((z, R.at y) :: V) rest P) (hn : (name == ("_initial_size" : Str)) = false := by decide) (hd : (x == ("__debug__" : Str)) = false := by decide) (he : McEq env (.Name x xp) name apos cpos es pl := by rfl)
    (hs : swapsWith (.Call (.Attribute (.Name x xp) name apos) es [] cpos) (some (.Name z zp)) pos.line env = pure false := by rfl) :
    SB C A env ρ G X ((p, ocPile C.w.params 101 first xs) :: O) V (.Assign [.Name z zp] (.Call (.Attribute (.Name x xp) name apos) es [] cpos) pos :: rest) P := fun s f =>
  wpAny_execs_cons (wpAny_Assign_Name (meth_any f hv M hn ha (fun vs s1 g al => wpAny_mono (hc X s1 vs (f.keeps g).own1 al) (fun r s2 q => wpAny_mono (((f.keeps g).eff q.1 q.2.2).store (F := R.at y) hz q.2.1) (fun _ s3 q3 => hrest s3 q3.1) fun _ _ e => e) fun _ _ e => e) he hd) hs)
/-- u, v = p.m(..) -/
theorem sb_meth_assign2 {x z1 z2 : Str} {xp zp1 zp2 tp apos cpos : Pos} {tn : Nat} {p fa : Addr} {first : Int} {xs ys : List (List Nat × List Nat)} {name : Str} {es : List Expr} {Fs : List Fc} {pl : Sem Bool} {R : Rl α} {S : Rl β} {a : α} {b : β} (r : Rm 1 A) (hv : V.lookup x = some (rVal.at (.ref p))) (M : MethL C.K 101 name fa)
    (ha : PL C A env X ((p, ocPile C.w.params 101 first xs) :: O) V es Fs) (hc : EffR C A fa p (ocPile C.w.params 101 first xs) (ocPile C.w.params 101 first ys) Fs (rT2 R S) (a, b)) (hz1 : Stores env z1) (hz2 : Stores env z2)
    (hrest : SB C A env ρ G X ((p, ocPile C.w.params 101 first ys) :: O) ((z2, S.at b) :: (z1, R.at a) :: V) rest P) (hn : (name == ("_initial_size" : Str)) = false := by decide) (hd : (x == ("__debug__" : Str)) = false := by decide) (he : McEq env (.Name x xp) name apos cpos es pl := by rfl)
    (hw : swappedStores [.Tuple [.Name z1 zp1, .Name z2 zp2] tn tp] (.Call (.Attribute (.Name x xp) name apos) es [] cpos) env = pure none := by rfl)
    (hs : swapsWithSole [.Tuple [.Name z1 zp1, .Name z2 zp2] tn tp] (.Call (.Attribute (.Name x xp) name apos) es [] cpos) pos.line env = pure false := by rfl) :
    SB C A env ρ G X ((p, ocPile C.w.params 101 first xs) :: O) V (.Assign [.Tuple [.Name z1 zp1, .Name z2 zp2] tn tp] (.Call (.Attribute (.Name x xp) name apos) es [] cpos) pos :: rest) P := fun s f =>
  wpAny_execs_cons (assign_any hs hw (meth_any f hv M hn ha (fun vs s1 g al => wpAny_mono (hc X s1 vs (f.keeps g).own1 al) (fun rv s2 q => by
    have f2 := (f.keeps g).eff q.1 q.2.2
    obtain ⟨u1, u2, hv', r1, r2⟩ := q.2.1
    show wpAny _ _ (do assignAll rv [assign (.Tuple [.Name z1 zp1, .Name z2 zp2] tn tp) env]; pure Flow.next) _ _ _
    exact wpAny_bind (wpAny_mono (f2.assign2 r (F1 := R.at a) (F2 := S.at b) hz1 hz2 hv' r1 r2) (fun _ s3 q3 => wpAny_pure (hrest s3 q3)) fun _ _ e => e)) fun _ _ e => e) he hd))
/-- p.m(..) that changes nothing -/
theorem pe_meth {x : Str} {xp apos : Pos} {p fa : Addr} {first : Int} {xs : List (List Nat × List Nat)} {name : Str} {es : List Expr} {Fs : List Fc} {pl : Sem Bool} {R : Rl α} {y : α} (hv : V.lookup x = some (rVal.at (.ref p))) (ho : O.lookup p = some (ocPile C.w.params 101 first xs)) (M : MethL C.K 101 name fa)
    (ha : PL C A env X O V es Fs) (hc : PurR C A fa p (ocPile C.w.params 101 first xs) Fs R y)
    (hn : (name == ("_initial_size" : Str)) = false := by decide) (hd : (x == ("__debug__" : Str)) = false := by decide) (he : McEq env (.Name x xp) name apos pos es pl := by rfl) :
    PE C A env X O V (.Call (.Attribute (.Name x xp) name apos) es [] pos) R y := fun s k => by
  obtain ⟨v, sv, rfl⟩ := k.vars _ _ hv
  refine MethodCall_ (wpAny_Name (sv.load k.fn ?_) hd) he
  exact pile_method k.base M hn (k.own p _ ho) fz_le (callWith_any ha k (keepy_K M.kp) fun vs s' g al => wpAny_mono (hc X s' vs (k.keeps g).base (k.keeps g).alive ((k.keeps g).own p _ ho) al) (fun v s'' q => ⟨keeps_trans g q.1, q.2⟩) fun _ _ e => e)
/-- self.append(e), self a pile -/
theorem ty_app : typeOf (.builtin "list.append") = pure (.type "method_descriptor") := by kernel_rfl
theorem sb_append_pile {x : Str} {xp apos cpos : Pos} {p : Addr} {first : Int} {xs : List (List Nat × List Nat)} {e : Expr} {y : List Nat × List Nat} {pl : Sem Bool} (H : Lw C) (hv : V.lookup x = some (rVal.at (.ref p))) (hfn : findIn C.K (.ref 101) "append" = some (some (.builtin "list.append"))) (hga : findIn C.K (.ref 101) "__getattribute__" = some (some (.builtin "list.__getattribute__"))) (hgx : findIn C.K (.ref 101) "__getattr__" = some none)
    (he : PE C A env X ((p, ocPile C.w.params 101 first xs) :: O) V e (rT2 rTxt rTxt) y) (hz : xs.length < 1000)
    (hrest : SB C A env ρ G X ((p, ocPile C.w.params 101 first (xs ++ [y])) :: O) V rest P) (hd : (x == ("__debug__" : Str)) = false := by decide) (hce : McEq env (.Name x xp) "append" apos cpos [e] pl := by rfl) (hst : starEach [e] env = (false, eval e env) :: starEach [] env := by rfl)
    (hi : interactive env = false := by rfl) (hs : swapsWith (.Call (.Attribute (.Name x xp) "append" apos) [e] [] cpos) none pos.line env = pure false := by rfl) :
    SB C A env ρ G X ((p, ocPile C.w.params 101 first xs) :: O) V (.Expr (.Call (.Attribute (.Name x xp) "append" apos) [e] [] cpos) pos :: rest) P := fun s f => by
  refine wpAny_execs_cons (wpAny_Expr_any ?_ hi hs)
  obtain ⟨v, sv, rfl⟩ := f.kn.vars _ _ hv
  refine MethodCall_ (wpAny_Name (sv.load f.kn.fn ?_) hd) hce
  obtain ⟨o, ho, dx, vs, n, es, k, rfl, al, hdx, hf⟩ := f.kn.own p _ look_hd
  refine method_b f.kn.base.k (⟨ho, rfl, rfl, fz_le _ _ hdx⟩ : PySem.W.InstAt _ _ _ _ (some (dObj es k))) hga hgx hfn ty_app ?_ ?_
  · show (lookIn _ (dObj es k)).map _ = _
    rw [look_none hf (of_decide_eq_true rfl)]; rfl
  refine callWith_any (pl_cons he pl_nil hst) f.kn keepy_builtin fun us s1 g1 al1 => ?_
  obtain ⟨u, rfl, hu⟩ := al1.one
  have f1 := f.keeps g1
  obtain ⟨o, ho, dx, vs, n, es, k, rfl, al, hdx, hf⟩ := f1.kn.own p _ look_hd
  obtain ⟨h, gg, d, t, os⟩ := s1
  refine appendL (lcls H) f1.kn.base.k ho (by rw [al.length]; exact hz) fun h' m hx' sb => ?_
  have kb : KB [p] (⟨h, gg, d, t, os⟩ : Shared) ⟨h', gg, d, t, os⟩ := ⟨h', t, rfl, fun b o n e => (sb.2 b fun q => n (q ▸ .head _)).trans e⟩
  have le := kb_fz kb (Y := X) fun b m => List.mem_singleton.mp m ▸ (f1.ox p (.head _)).1
  exact hrest _ (f1.set kb hx' ⟨dx, _, _, es, k, rfl, (al.mono le).append ⟨(rT2 rTxt rTxt).mono le hu, trivial⟩, le _ _ hdx, hf.mono le⟩)
end
theorem push_call {C : Cx} {A : Around} (H : Lw C) (r : Rm 4 A) {p : Addr} {first : Int} {xs : List (List Nat × List Nat)} {a b : List Nat} (hz : xs.length < 1000) :
    EffR C A 45 p (ocPile C.w.params 101 first xs) (ocPile C.w.params 101 first (xs ++ [(a, b)])) [rTxt.at a, rTxt.at b] rVal .none := fun X s vs W al => by
  obtain ⟨u, v, rfl, hu, hv⟩ := al.two
  refine wpAny_call (callO_code (o := (o45 C.w.params).1) (fd := (fd45 C.w.params).1) (body := (body45 C.w.params).1) (names := ["self", "fws", "string"]) (vals := [.ref p, u, v]) (Fs := [rVal.at (.ref p), rTxt.at a, rTxt.at b]) (X := X) (O := [(p, ocPile C.w.params 101 first xs)])
    (r.less (by decide)) (by rw [H.k]; exact (o45 _).2) (fd45 _).2 (body45 _).2 rfl rfl rfl (by rw [H.k]; rfl) (BindsTo.of_eq rfl) rfl (by decide) (kinds_of rfl) (of_decide_eq_true rfl) W.inn W.live W.bs (fun q m => List.mem_singleton.mp m ▸ W.mem) (List.nodup_cons.mpr ⟨by simp, List.nodup_nil⟩) (fun q F e => ?_) ⟨rfl, hu, hv, trivial⟩ ?_ rfl rfl rfl)
  · rw [List.lookup_cons] at e
    cases hb : q == p with
    | true => rw [hb] at e; cases e; rw [eq_of_beq hb]; exact W.own
    | false => rw [hb] at e; cases e
  intro L X' hX
  have r2 : Rm 3 (A.deeper (callEnvC (fd45 C.w.params).1 L 45)) := r.deeper
  generalize A.deeper (callEnvC (fd45 C.w.params).1 L 45) = B at r2
  refine sb_append_pile H rfl (by rw [H.k]; rfl) (by rw [H.k]; rfl) (by rw [H.k]; rfl) (pe_t2 (pl_cons (pe_name rfl) (pl_cons (pe_name rfl) pl_nil))) hz (sb_nil fun s' f' => ?_)
  obtain ⟨o, ho, hF⟩ := f'.kn.own p _ look_hd
  exact ⟨kb_FS f', rfl, o, ho, (ocPile C.w.params 101 first (xs ++ [(a, b)])).mono (fz_sub hX) hF⟩
end Mine

namespace Mine
open PySem PySem.Calls PyProof.Rows PySem.W
theorem gi_kind : builtinKind "list.__getitem__" = some .method := by decide +kernel
theorem gi_split : splitId "list.__getitem__" = some ("list", "__getitem__") := by decide +kernel
theorem gi_plain : plainId "list.__getitem__" = true := by decide +kernel
theorem si_kind : builtinKind "list.__setitem__" = some .slot := by decide +kernel
theorem si_split : splitId "list.__setitem__" = some ("list", "__setitem__") := by decide +kernel
theorem si_plain : plainId "list.__setitem__" = true := by decide +kernel
section
variable {prog : Program} {w : World} {A : Around} {E : Value → Shared → Prop} {s : Shared} {x sl : Addr} {K : Frag} {cl dx : Addr} {vs : List Value} {n : Nat}
theorem seqKeyL {M : Model} {h : Heap} {k : Value} {nm : Str} (Y : LCls K cl) (X : K.In h) (hx : h.get? x = some (lObj cl dx vs n)) : Looks M h (sequenceKey (.ref x) k nm) k := by
  have nd : Looks M h (isSubtype (.ref cl) (.type "collections.deque")) false := by
    obtain ⟨cd, sl, hC, e1, e2, e3, e4, e5⟩ := Y.obj
    have hc : clsIn K cl = some cd := by unfold clsIn; rw [hC]
    refine looks_mroIn X ?_
    unfold mroIn
    rw [hc, Option.bind_some, e5, if_neg (by simp)]
    simp
  unfold sequenceKey
  refine ((Looks.ld hx).andThen .now : Looks M h (typeOf (.ref x)) (.ref cl)).andThen ?_
  have an : Looks M h (seqItemTypes.anyM fun n => isSubtype (.ref cl) (.type n)) false := by
    show Looks M h (isSubtype (.ref cl) (.type "collections.deque") >>= _) false
    exact nd.andThen .now
  exact an.andThen .now
theorem getL_slice {vl vu : Value} {lo hi : Option Int} {Q : Value → Shared → Prop} (Y : LCls K cl) (X : K.In s.heap) (hx : s.heap.get? x = some (lObj cl dx vs n)) (hg : findIn K (.ref cl) "__getitem__" = some (some (.builtin "list.__getitem__")))
    (hs : s.heap.IsSliceOf sl vl vu .none) (pl : IsPart vl lo) (pu : IsPart vu hi)
    (h : Q (.ref s.heap.objs.size) { s with heap := s.heap.push { cls := .type "list", data := .seq (slicePick vs.toArray lo hi none) } })
    (hsz : vs.toArray.size ≤ sizeLine) : wpAny (model prog w) A (getItem (.ref x) (.ref sl)) Q E s := by
  obtain ⟨hh, g, d, t, os'⟩ := s
  obtain ⟨os, hos, hcs, hds⟩ := id hs
  have hTs : (⟨hh, g, d, t, os'⟩ : Shared).TypeIs (.ref sl) "slice" := ⟨os, hos, hcs⟩
  have L0 : Looks (model prog w) hh (typeOf (.ref x)) (.ref cl) := (Looks.ld hx).andThen .now
  have ps : IsPart .none none := .none
  have h0 : (none : Option Int) ≠ some 0 := by simp
  unfold getItem
  refine wpAny_holding ?_
  refine wpAny_bind ((seqKeyL Y X hx).at ?_)
  unfold callSpecial? specialOf
  refine wpAny_bind (wpAny_bind (wpAny_bind (L0.at ((looks_findIn X hg).at (wpAny_holding ?_)))))
  rw [slot_list_getitem.bind]
  refine wpAny_bind (wpAny_pure ?_)
  refine wpAny_bind (wpAny_mono (Q := Q) (E := E) (wpAny_call (codeAny_call_builtin gi_plain entry_list_getitem ?_)) (fun v s' q => wpAny_pure (wpAny_pure q)) fun _ _ e => e)
  refine @check_meth (model prog w) _ _ ⟨hh, g, d, t, os'⟩ "list.__getitem__" "list" "__getitem__" (.ref x) [.ref sl] [] _ gi_kind gi_split (isListL Y X hx) (args_list_getitem _ _) ?_
  show wpAny _ _ (Builtin.List.listSubscript? (.ref sl) >>= _) _ _ _
  refine wpAny_bind ?_
  unfold Builtin.List.listSubscript?
  refine wpAny_bind (wpAny_specialOf hTs slice_no_index ?_)
  simp only [Option.isNone_none, if_true]
  refine wpAny_pure ?_
  show wpAny _ _ (typeOf (.ref sl) >>= _) _ _ _
  refine wpAny_bind (wpAny_typeOf hTs ?_)
  rw [if_neg (by decide)]
  rw [listSliceParts_eq]
  have hstep : ¬ ((rawPart none == rawInt 0) = true) := Bool.false_ne_true
  refine wpAny_bind (wpAny_bind (wpAny_field hos hds (x := .none) rfl (wpAny_bind (wpAny_listPart ps ?_))))
  rw [if_neg hstep]
  refine wpAny_bind (wpAny_field hos hds (x := vl) rfl (wpAny_bind (wpAny_listPart pl ?_)))
  refine wpAny_bind (wpAny_field hos hds (x := vu) rfl (wpAny_bind (wpAny_listPart pu (wpAny_pure ?_))))
  refine wpAny_bind (m := Builtin.List.listItems (.ref x)) ?_
  unfold Builtin.List.listItems
  refine wpAny_bind (wpAny_seqItems hx rfl (wpAny_pure ?_))
  refine wpAny_bind (wpAny_of_eq (sliceIndices_raw lo hi none vs.toArray.size h0) ?_)
  exact wpAny_bind (wpAny_newObj_type (wpAny_pure h) (Nat.le_trans (slicePick_size_le vs.toArray lo hi none) hsz))
theorem setL_slice {vl : Value} {i : Nat} {ln : Addr} {k : Nat} {Q : Unit → Shared → Prop} (Y : LCls K cl) (X : K.In s.heap) (hx : s.heap.get? x = some (lObj cl dx vs n)) (hg : findIn K (.ref cl) "__setitem__" = some (some (.builtin "list.__setitem__")))
    (hs : s.heap.IsSliceOf sl vl .none .none) (pl : IsPart vl (some (i : Int))) (hln : s.heap.get? ln = some { cls := .type "list", data := .seq #[] k }) (hne : x ≠ ln)
    (h : ∀ h' m, h'.get? x = some (lObj cl dx (vs.take i) m) → Heap.SameBut x s.heap h' → Q () { s with heap := h' })
    (hsz : vs.length ≤ 1000) : wpAny (model prog w) A (setItem (.ref x) (.ref sl) (.ref ln)) Q E s := by
  obtain ⟨hh, g, d, t, os'⟩ := s
  obtain ⟨os, hos, hcs, hds⟩ := id hs
  have hTs : (⟨hh, g, d, t, os'⟩ : Shared).TypeIs (.ref sl) "slice" := ⟨os, hos, hcs⟩
  have hTn : (⟨hh, g, d, t, os'⟩ : Shared).TypeIs (.ref ln) "list" := ⟨_, hln, rfl⟩
  have L0 : Looks (model prog w) hh (typeOf (.ref x)) (.ref cl) := (Looks.ld hx).andThen .now
  have ps : IsPart .none none := .none
  have h0 : (none : Option Int) ≠ some 0 := by simp
  unfold setItem
  refine wpAny_holding ?_
  refine wpAny_bind ((seqKeyL Y X hx).at ?_)
  unfold callSpecial? specialOf
  refine wpAny_bind (wpAny_bind (wpAny_bind (L0.at ((looks_findIn X hg).at (wpAny_holding ?_)))))
  rw [slot_list_setitem.bind]
  refine wpAny_bind (wpAny_pure ?_)
  refine wpAny_bind (wpAny_mono (Q := fun _ s' => Q () s') (E := E) (wpAny_call (codeAny_call_builtin si_plain entry_list_setitem ?_)) (fun v s' q => wpAny_pure (wpAny_pure q)) fun _ _ e => e)
  refine @check_slot (model prog w) _ _ ⟨hh, g, d, t, os'⟩ "list.__setitem__" "list" "__setitem__" (.ref x) [.ref sl, .ref ln] [] _ si_kind si_split (isListL Y X hx) (args_list_setitem _ _ _) ?_
  show wpAny _ _ (Builtin.List.listSubscript? (.ref sl) >>= _) _ _ _
  refine wpAny_bind ?_
  unfold Builtin.List.listSubscript?
  refine wpAny_bind (wpAny_specialOf hTs slice_no_index ?_)
  simp only [Option.isNone_none, if_true]
  refine wpAny_pure ?_
  show wpAny _ _ (typeOf (.ref sl) >>= _) _ _ _
  refine wpAny_bind (wpAny_typeOf hTs ?_)
  rw [if_neg (by decide)]
  rw [listSliceParts_eq]
  have hstep : ¬ ((rawPart none == rawInt 0) = true) := Bool.false_ne_true
  refine wpAny_bind (wpAny_bind (wpAny_field hos hds (x := .none) rfl (wpAny_bind (wpAny_listPart ps ?_))))
  rw [if_neg hstep]
  refine wpAny_bind (wpAny_field hos hds (x := vl) rfl (wpAny_bind (wpAny_listPart pl ?_)))
  refine wpAny_bind (wpAny_field hos hds (x := .none) rfl (wpAny_bind (wpAny_listPart ps (wpAny_pure ?_))))
  have hsame : Builtin.List.listSameRef (.ref x) (.ref ln) = false := by show (x == ln) = false; exact beq_false_of_ne hne
  rw [hsame, if_neg Bool.false_ne_true]
  refine wpAny_bind ?_
  unfold Builtin.List.listAllItems
  refine wpAny_bind (wpAny_typeOf hTn ?_)
  rw [if_pos (by rfl)]
  unfold Builtin.List.listItems
  refine wpAny_bind (wpAny_seqItems hln rfl (wpAny_pure ?_))
  refine wpAny_bind ?_
  refine wpAny_bind (wpAny_seqItems hx rfl (wpAny_pure ?_))
  refine wpAny_bind (wpAny_of_eq (sliceIndices_raw (some (i : Int)) none none vs.toArray.size h0) ?_)
  have hb : sliceBounds (some (i : Int)) none none vs.toArray.size = (((min i vs.length : Nat) : Int), ((vs.length : Nat) : Int), 1) := by
    rw [List.size_toArray]
    unfold sliceBounds
    simp only [Option.getD_none]
    rw [if_neg (by omega : ¬ ((i : Int) < 0))]
    simp
    omega
  rw [hb]
  rw [if_pos (by rfl)]
  refine wpAny_bind (wpAny_rule ?_)
  have htl : Builtin.List.listTooLong (vs.toArray.size + (#[] : Array Value).size) = false := by
    unfold Builtin.List.listTooLong
    rw [List.size_toArray]; simp; rw [sizeLine_eq]; omega
  rw [htl, if_neg Bool.false_ne_true]
  have e1 : (vs.toArray.extract 0 ((min i vs.length : Nat) : Int).toNat ++ (#[] : Array Value) ++ vs.toArray.extract (max ((min i vs.length : Nat) : Int) ((vs.length : Nat) : Int)).toNat) = (vs.take i).toArray := by
    rw [show (max ((min i vs.length : Nat) : Int) ((vs.length : Nat) : Int)).toNat = vs.length by omega, Int.toNat_natCast]
    simp
  have hx' : (hh.update x (Obj.mapSeq (fun xs => xs.extract 0 ((min i vs.length : Nat) : Int).toNat ++ (#[] : Array Value) ++ xs.extract (max ((min i vs.length : Nat) : Int) ((vs.length : Nat) : Int)).toNat))).get? x = some (lObj cl dx (vs.take i) (if (vs.take i).toArray.size == vs.toArray.size then n else n + 1)) := by
    rw [Heap.get?_update_self _ hx (Obj.isFreed_of_seq (Obj.data_mapSeq (o := lObj cl dx vs n) rfl _).choose_spec)]
    simp only [Obj.mapSeq, e1]
  show wpAny _ _ (updateSeq x (fun xs => xs.extract 0 ((min i vs.length : Nat) : Int).toNat ++ (#[] : Array Value) ++ xs.extract (max ((min i vs.length : Nat) : Int) ((vs.length : Nat) : Int)).toNat) >>= _) _ _ _
  refine wpAny_bind (wpAny_updateSeq hx rfl ?_ (by rw [List.size_toArray, sizeLine_eq]; omega) (by rw [e1, List.size_toArray, List.length_take, sizeLine_eq]; omega))
  refine wpAny_bind (wpAny_letGo ?_)
  exact wpAny_pure (h _ _ hx' (Heap.SameBut.update ..))
end
end Mine

namespace Mine
open PySem PySem.Calls PyProof.Rows PySem.W
section
variable {C : Cx} {A : Around} {env : Env} {ρ : Rst} {G G' : PM} {X X' : List Addr} {O : Own} {V V' : Vars} {α β γ δ σ ι : Type} {pos : Pos} {rest : List Stmt} {P : Flow → Shared → Prop}
/-- self[i:], self a pile -/
theorem pe_slice_pile {x : Str} {xp pp : Pos} {p : Addr} {first : Int} {xs : List (List Nat × List Nat)} {lower upper : Option Expr} {lo hi : Option Nat} (H : Lw C) (hv : V.lookup x = some (rVal.at (.ref p))) (ho : O.lookup p = some (ocPile C.w.params 101 first xs)) (hg : findIn C.K (.ref 101) "__getitem__" = some (some (.builtin "list.__getitem__")))
    (h2 : PPart C A env X O V lower lo) (h3 : PPart C A env X O V upper hi) (hz : xs.length ≤ sizeLine) (hd : (x == ("__debug__" : Str)) = false := by decide) (ht : ∀ o r, letTemporaryGo (.Name x xp) o r = pure () := by intro _ _; rfl) :
    PE C A env X O V (.Subscript (.Name x xp) (.Slice lower upper none pp) pos) (rList (rT2 rTxt rTxt)) (cut xs lo hi) := fun s k => by
  obtain ⟨v, sv, rfl⟩ := k.vars _ _ hv
  show wpAny _ _ _ _ _ _
  rw [eval_Subscript]
  refine wpAny_bind (wpAny_Name (sv.load k.fn ?_) hd)
  refine wpAny_bind (wpAny_holding (wpAny_Slice ((h2 s k).use fun vl s1 g1 p1 => (h3 s1 (k.keeps g1)).use fun vu s2 g2 p2 => ?_)))
  rw [evalPart_none]
  refine wpAny_pure ?_
  have g12 := keeps_trans g1 g2
  have k2 := k.keeps g12
  obtain ⟨o, ho, dx, vs, n, es, m, rfl, al, hdx, hf⟩ := k2.own p _ ho
  have kp : Gr s2.heap (s2.heap.push { cls := .type "slice", data := .fields #[vl, vu, .none] }) := gr_push
  have hx3 := kp _ _ ho
  have X3 : C.K.In (s2.heap.push { cls := .type "slice", data := .fields #[vl, vu, .none] }) := (k2.base.keeps kp).k
  have fin : wpAny C.M A (operate [.ref s2.heap.objs.size, .ref p] (getItem (.ref p) (.ref s2.heap.objs.size))) (fun r s₃ => wpAny C.M A (letTemporaryGo (.Name x xp) (.ref p) r >>= fun _ => pure r) (fun v s' => Keeps s s' ∧ (rList (rT2 rTxt rTxt)).r (fz X s'.heap) (cut xs lo hi) v) (fun _ _ => False) s₃) (fun _ _ => False) { s2 with heap := s2.heap.push { cls := .type "slice", data := .fields #[vl, vu, .none] } } := by
    refine wpAny_operating (getL_slice (s := { s2 with heap := s2.heap.push { cls := .type "slice", data := .fields #[vl, vu, .none] } }) (lcls H) X3 hx3 hg (Heap.IsSliceOf.new ..) p1 p2 ?_ (by rw [List.size_toArray, al.length]; exact hz))
    refine wpAny_bind (wpAny_of_eq (ht _ _) (wpAny_pure ?_))
    have gg : Gr s2.heap ((s2.heap.push { cls := .type "slice", data := .fields #[vl, vu, .none] }).push { cls := .type "list", data := .seq (slicePick vs.toArray (lo.map fun n => (n : Int)) (hi.map fun n => (n : Int)) none) }) := fun b o e => gr_push _ _ (gr_push _ _ e)
    refine ⟨keeps_trans g12 (keeps_heap gg), cut vs lo hi, ⟨_, 0, rfl, ?_⟩, (al.cut lo hi).mono (fz_gr gg)⟩
    rw [pick_cut]
    refine fz_of (Heap.get?_push_size _ rfl) fun mem => ?_
    obtain ⟨o, e⟩ := k2.alive _ mem
    rw [Heap.size_push] at e
    exact absurd (Heap.lt_size e) (Nat.not_lt.mpr (Nat.le_succ _))
  refine wpAny_bind (wpAny_standAt (wpAny_bind ?_))
  have L0 : Looks C.M (s2.heap.push { cls := .type "slice", data := .fields #[vl, vu, .none] }) (typeOf (.ref p)) (.ref 101) := (Looks.ld hx3).andThen .now
  unfold getitemInPython specialOf
  refine wpAny_bind (wpAny_bind (L0.here ((looks_findIn X3 hg).here ?_)))
  refine wpAny_pure (a := false) ?_
  exact wpAny_bind fin
/-- self[i:] = [] -/
theorem sb_cutoff {x : Str} {xp pp lp tp : Pos} {p : Addr} {first : Int} {xs : List (List Nat × List Nat)} {lower : Expr} {i : Nat} (H : Lw C) (hv : V.lookup x = some (rVal.at (.ref p))) (hg : findIn C.K (.ref 101) "__setitem__" = some (some (.builtin "list.__setitem__")))
    (h2 : PPart C A env X ((p, ocPile C.w.params 101 first xs) :: O) V (some lower) (some i)) (hz : xs.length ≤ 1000)
    (hrest : SB C A env ρ G X ((p, ocPile C.w.params 101 first (xs.take i)) :: O) V rest P) (hd : (x == ("__debug__" : Str)) = false := by decide)
    (hs : swapsWith (.List [] lp) (some (.Subscript (.Name x xp) (.Slice (some lower) none none pp) tp)) pos.line env = pure false := by rfl) :
    SB C A env ρ G X ((p, ocPile C.w.params 101 first xs) :: O) V (.Assign [.Subscript (.Name x xp) (.Slice (some lower) none none pp) tp] (.List [] lp) pos :: rest) P := fun s f => by
  refine wpAny_execs_cons (wpAny_Assign_Subscript (List_ (args_nil ?_)) hs)
  refine wpAny_newObj_type ?_ (by show (#[] : Array Value).size ≤ sizeLine; exact Nat.zero_le _)
  have g1 : Keeps s { s with heap := s.heap.push { cls := .type "list", data := .seq #[] } } := keeps_heap gr_push
  have f1 := f.keeps g1
  obtain ⟨v, sv, rfl⟩ := f1.kn.vars _ _ hv
  refine wpAny_Name (sv.load f1.kn.fn ?_) hd
  refine wpAny_Slice ((h2 _ f1.kn).use fun vl s1 g2 p1 => ?_)
  rw [evalPart_none]
  refine wpAny_pure (wpAny_pure ?_)
  have f2 := f1.keeps g2
  have g3 : Keeps s1 { s1 with heap := s1.heap.push { cls := .type "slice", data := .fields #[vl, .none, .none] } } := keeps_heap gr_push
  have f3 := f2.keeps g3
  obtain ⟨o, ho, dx, vs, n, es, m, rfl, al, hdx, hf⟩ := f3.kn.own p _ look_hd
  have hln : (s1.heap.push { cls := .type "slice", data := .fields #[vl, .none, .none] }).get? s.heap.objs.size = some { cls := .type "list", data := .seq #[] 0 } := gr_push _ _ (keeps_gr g2 _ _ (Heap.get?_push_size _ rfl))
  have hpn : p ≠ s.heap.objs.size := fun e => by
    obtain ⟨o, e2⟩ := f.kn.alive p (f.ox p (.head _)).1
    exact Nat.lt_irrefl _ (e ▸ Heap.lt_size e2)
  refine setL_slice (s := { s1 with heap := s1.heap.push { cls := .type "slice", data := .fields #[vl, .none, .none] } }) (lcls H) f3.kn.base.k ho hg (Heap.IsSliceOf.new ..) p1 hln hpn (fun h' k hx' sb => ?_) (by rw [al.length]; exact hz)
  have kb := kb_sb (s := { s1 with heap := s1.heap.push { cls := .type "slice", data := .fields #[vl, .none, .none] } }) sb
  have le := kb_fz kb (Y := X) fun b m => List.mem_singleton.mp m ▸ (f3.ox p (.head _)).1
  exact hrest _ (f3.set kb hx' ⟨dx, _, _, es, m, rfl, (al.take i).mono le, le _ _ hdx, hf.mono le⟩)
end
end Mine

namespace Mine
open PySem PySem.Calls PyProof.Rows PySem.W
theorem popfrom_call {C : Cx} {A : Around} (H : Lw C) (r : Rm 4 A) {p : Addr} {first : Int} {xs : List (List Nat × List Nat)} {i : Nat} (hz : xs.length ≤ 1000) :
    EffR C A 53 p (ocPile C.w.params 101 first xs) (ocPile C.w.params 101 first (xs.take i)) [rInt.at (i : Int)] (rList (rT2 rTxt rTxt)) (cut xs (some i) none) := fun X s vs W al => by
  obtain ⟨u, rfl, hu⟩ := al.one
  refine wpAny_call (callO_code (o := (o53 C.w.params).1) (fd := (fd53 C.w.params).1) (body := (body53 C.w.params).1) (names := ["self", "i"]) (vals := [.ref p, u]) (Fs := [rVal.at (.ref p), rInt.at (i : Int)]) (X := X) (O := [(p, ocPile C.w.params 101 first xs)])
    (r.less (by decide)) (by rw [H.k]; exact (o53 _).2) (fd53 _).2 (body53 _).2 rfl rfl rfl (by rw [H.k]; rfl) (kp_binds W.inn.k (by rw [H.k]; intro S; rfl)) rfl (by decide) (kinds_of rfl) (of_decide_eq_true rfl) W.inn W.live W.bs (fun q m => List.mem_singleton.mp m ▸ W.mem) (List.nodup_cons.mpr ⟨by simp, List.nodup_nil⟩) (fun q F e => ?_) ⟨rfl, hu, trivial⟩ ?_ rfl rfl rfl)
  · rw [List.lookup_cons] at e
    cases hb : q == p with
    | true => rw [hb] at e; cases e; rw [eq_of_beq hb]; exact W.own
    | false => rw [hb] at e; cases e
  intro L X' hX
  have r2 : Rm 3 (A.deeper (callEnvC (fd53 C.w.params).1 L 53)) := r.deeper
  generalize A.deeper (callEnvC (fd53 C.w.params).1 L 53) = B at r2
  refine sb_assign (pe_slice_pile H (lo := some i) (hi := none) rfl look_hd (by rw [H.k]; rfl) (pp_some (pe_name rfl) rfl) pp_none (Nat.le_trans hz (by decide))) (.inl rfl) ?_
  refine sb_cutoff H (i := i) rfl (by rw [H.k]; rfl) (pp_some (pe_name rfl) rfl) hz ?_
  refine sb_return (pe_name rfl) fun s' v f' hr => ?_
  obtain ⟨o, ho, hF⟩ := f'.kn.own p _ look_hd
  exact ⟨kb_FS f', (rList (rT2 rTxt rTxt)).mono (fz_sub hX) hr, o, ho, (ocPile C.w.params 101 first (xs.take i)).mono (fz_sub hX) hF⟩
theorem sup98 {C : Cx} (H : Lw C) : SupFn C 101 98 (fd98 C.w.params).1 where
  fn := by rw [H.k]; exact ⟨_, (o98 _).2, (fd98 _).2⟩
  clo := by rw [H.k]; exact ⟨25, _, _, _, rfl, rfl⟩
  code := by rw [H.k, H.prog]; exact ⟨97, _, _, _, _, rfl, rfl, rfl, rfl, rfl⟩
  sup := rfl
  cls := rfl
  slf := rfl
  knd := rfl
  par := ⟨_, rfl, rfl⟩
  gl := rfl
  bi := rfl
  top := by rw [H.prog]; rfl
  mg := H.bn _ (by decide)
  op := by rw [H.k]; rfl
theorem ne101 {C : Cx} (H : Lw C) {h : Heap} {p dx : Addr} {vs : List Value} {n : Nat} (X : C.In h) (hx : h.get? p = some (lObj 101 dx vs n)) : p ≠ 101 := fun e => by
  obtain ⟨cd, sl, hC, _⟩ := (lcls H).obj
  have := X.k _ _ hC
  rw [← e, hx] at this
  cases this
theorem count_call {C : Cx} {A : Around} (H : Lw C) (r : Rm 4 A) {p : Addr} {first : Int} {xs : List (List Nat × List Nat)} : PurR C A 98 p (ocPile C.w.params 101 first xs) [] rInt xs.length := fun X s vs hS hl own al => by
  obtain ⟨o, hx, dx, us, n, es, m, rfl, al', hdx, hf⟩ := own
  match vs, al with
  | [], _ =>
  have Y := lcls H
  have S := sup98 H
  obtain ⟨h, g, d, t, os⟩ := s
  refine wpAny_call (ks_codeAny_call_defAt (fd := (fd98 C.w.params).1) (body := (body98 C.w.params).1) (binds := [("self", .ref p)]) r.depth (hS.k _ _ (by rw [H.k]; exact (o98 _).2)) (fd98 _).2 hS.t.nolimit (codeRec_of hS.k (by rw [H.k]; rfl)) (body98 _).2 (kp_binds hS.k (by rw [H.k]; intro S; rfl)) (of_decide_eq_true rfl) (of_decide_eq_true rfl) (fun h0 hns k0 => ?_) rfl rfl rfl)
  have X0 := hS.keeps k0
  refine ks_wpAt_execs_cons (ks_wpAt_Return_some ?_)
  refine sup_node (C := C) (id := "list.__len__") (bt := "method-wrapper") (gid := "wrapper_descriptor.__get__") (T := "wrapper_descriptor") S Y X0 hns rfl (k0 _ _ hx) (ne101 H hS hx) (by rw [H.k]; rfl) ty_len wd_slot.lookup (by decide) (.inr rfl)
    (fun h3 e3 k3 A E t Q q => wd_len e3 (Y.sub k3 (.inr (.inl rfl))) q) (fun h3 t3 b k3 hb => ?_) rfl
  refine call_len hb (k3 _ _ (k0 _ _ hx)) ⟨⟨h3, t3 + 1, rfl, fun b o e => k3 b o (k0 b o e)⟩, t3, by rw [al'.length]⟩
end Mine

namespace Mine
open PySem PySem.Calls PyProof.Rows PySem.W
theorem sup61 {C : Cx} (H : Lw C) : SupFn C 101 61 (fd61 C.w.params).1 where
  fn := by rw [H.k]; exact ⟨_, (o61 _).2, (fd61 _).2⟩
  clo := by rw [H.k]; exact ⟨25, _, _, _, rfl, rfl⟩
  code := by rw [H.k, H.prog]; exact ⟨60, _, _, _, _, rfl, rfl, rfl, rfl, rfl⟩
  sup := rfl
  cls := rfl
  slf := rfl
  knd := rfl
  par := ⟨_, rfl, rfl⟩
  gl := rfl
  bi := rfl
  top := by rw [H.prog]; rfl
  mg := H.bn _ (by decide)
  op := by rw [H.k]; rfl
theorem meth98 {C : Cx} (H : Lw C) : MethL C.K 101 "part_count" 98 := by rw [H.k]; exact ⟨rfl, rfl, rfl, rfl, rfl⟩
theorem PT.on {C : Cx} {A : Around} {env : Env} {X : List Addr} {O : Own} {V : Vars} {e : Expr} {b : Bool} {s : Shared} (h : PT C A env X O V e b) (k : Kn C env X O V s) : Ev C A (isTrue e env (eval e env)) s fun v _ => v = b := h s k
theorem PE.on {α : Type} {C : Cx} {A : Around} {env : Env} {X : List Addr} {O : Own} {V : Vars} {e : Expr} {R : Rl α} {x : α} {s : Shared} (h : PE C A env X O V e R x) (k : Kn C env X O V s) : Ev C A (eval e env) s fun v s' => R.r (fz X s'.heap) x v := h s k
/-- the frame of a method of the pile, with nothing but self -/
theorem kn_self {C : Cx} {env : Env} {p L : Addr} {first : Int} {xs : List (List Nat × List Nat)} {X : List Addr} {s s1 : Shared} {m : Str → Option Value} (hS : C.In s.heap) (hl : Live X s) (own : ∃ o, s.heap.get? p = some o ∧ (ocPile C.w.params 101 first xs).r (fz X s.heap) o) (k0 : Gr s.heap s1.heap)
    (fn : env.scope.kind = .function) (gl : env.globals = mainGlobals) (bi : env.builtins = builtinsNs) (hns : s1.heap.Ns env.locals m) (hm : m "self" = some (.ref p)) (hk : env.kindOf "self" = some .local) :
    Kn C env X [(p, ocPile C.w.params 101 first xs)] [("self", rVal.at (.ref p))] s1 where
  base := hS.keeps k0
  fn := fn
  gl := gl
  bi := bi
  alive := fun a h => let ⟨o, e⟩ := hl a h; ⟨o, k0 _ _ e⟩
  vars := fun y F e => by
    obtain ⟨rfl, rfl⟩ := lookup1 e
    exact ⟨_, .loc hk m hns hm, rfl⟩
  own := fun a F e => by
    rw [List.lookup_cons] at e
    cases hb : a == p with
    | true =>
      rw [hb] at e; cases e; rw [eq_of_beq hb]
      obtain ⟨o, a, b⟩ := own
      exact ⟨o, k0 _ _ a, (ocPile C.w.params 101 first xs).mono (fz_gr k0) b⟩
    | false => rw [hb] at e; cases e
theorem pop_empty {C : Cx} {A : Around} (H : Lw C) (r : Rm 8 A) {p : Addr} {first : Int} : PurR C A 61 p (ocPile C.w.params 101 first []) [] (rT2 rTxt rTxt) ([], []) := fun X s vs hS hl own al => by
  match vs, al with
  | [], _ =>
  obtain ⟨h, g, d, t, os⟩ := s
  refine wpAny_call (ks_codeAny_call_defAt (fd := (fd61 C.w.params).1) (body := (body61 C.w.params).1) (binds := [("self", .ref p)]) r.depth (hS.k _ _ (by rw [H.k]; exact (o61 _).2)) (fd61 _).2 hS.t.nolimit (codeRec_of hS.k (by rw [H.k]; rfl)) (body61 _).2 (kp_binds hS.k (by rw [H.k]; intro S; rfl)) (of_decide_eq_true rfl) (of_decide_eq_true rfl) (fun h0 hns k0 => ?_) rfl rfl rfl)
  refine wpAt_of_wpAny ?_
  have g0 : Keeps (⟨h, g, d, t, os⟩ : Shared) ⟨h0, g, d, t + 1, os⟩ := ⟨h0, t + 1, rfl, k0⟩
  have kn := kn_self (s1 := ⟨h0, g, d, t + 1, os⟩) (env := callEnv (fd61 C.w.params).1 h.objs.size 61) (L := h.objs.size) hS hl own k0 rfl rfl rfl hns rfl rfl
  have r2 : Rm 7 (A.deeper (callEnv (fd61 C.w.params).1 h.objs.size 61)) := r.deeper
  refine wpAny_execs_cons (wpAny_If (Ev.use (PT.on (pt_cmp (pe_meth rfl look_hd (meth98 H) pl_nil (count_call H (r2.less (by decide)))) pe_int c_eq_int) kn) fun b s1 g1 hb => ?_))
  subst hb
  have kn1 := kn.keeps g1
  refine wpAny_execs_cons (wpAny_Return_some (Ev.use (PE.on (pe_t2 (R := rTxt) (S := rTxt) (x := []) (y := []) (pl_cons (pe_strL rfl) (pl_cons (pe_strL rfl) pl_nil))) kn1) fun v s2 g2 hr => ?_))
  exact ⟨keeps_trans g0 (keeps_trans g1 g2), hr⟩
theorem pop_call {C : Cx} {A : Around} (H : Lw C) (r : Rm 8 A) {p : Addr} {first : Int} {xs : List (List Nat × List Nat)} {y : List Nat × List Nat} (hz : xs.length < 1000) : EffR C A 61 p (ocPile C.w.params 101 first (xs ++ [y])) (ocPile C.w.params 101 first xs) [] (rT2 rTxt rTxt) y := fun X s vs W al => by
  match vs, al with
  | [], _ =>
  have hS := W.inn
  obtain ⟨h, g, d, t, os⟩ := s
  refine wpAny_call (ks_codeAny_call_defAt (fd := (fd61 C.w.params).1) (body := (body61 C.w.params).1) (binds := [("self", .ref p)]) r.depth (hS.k _ _ (by rw [H.k]; exact (o61 _).2)) (fd61 _).2 hS.t.nolimit (codeRec_of hS.k (by rw [H.k]; rfl)) (body61 _).2 (kp_binds hS.k (by rw [H.k]; intro S; rfl)) (of_decide_eq_true rfl) (of_decide_eq_true rfl) (fun h0 hns k0 => ?_) rfl rfl rfl)
  have g0 : Keeps (⟨h, g, d, t, os⟩ : Shared) ⟨h0, g, d, t + 1, os⟩ := ⟨h0, t + 1, rfl, k0⟩
  have kn := kn_self (s1 := ⟨h0, g, d, t + 1, os⟩) (env := callEnv (fd61 C.w.params).1 h.objs.size 61) (L := h.objs.size) hS W.live W.own k0 rfl rfl rfl hns rfl rfl
  have r2 : Rm 7 (A.deeper (callEnv (fd61 C.w.params).1 h.objs.size 61)) := r.deeper
  have hne : ((((xs ++ [y]).length : Nat) : Int) == 0) = false := by rw [List.length_append]; simp; omega
  refine ks_wpAt_execs_cons (ks_wpAt_If (wpAt_of_wpAny (Ev.use (PT.on (pt_cmp (pe_meth rfl look_hd (meth98 H) pl_nil (count_call H (r2.less (by decide)))) pe_int c_eq_int) kn) fun b s1 g1 hb => ?_)))
  rw [hne] at hb
  subst hb
  rw [if_neg Bool.false_ne_true]
  refine wpAt_of_wpAny (wpAny_execs_nil ?_)
  refine ks_wpAt_execs_cons (ks_wpAt_Return_some ?_)
  have kn1 := kn.keeps g1
  obtain ⟨h1, t1, rfl, k1⟩ := g1
  obtain ⟨o, hx, dx, us, n, es, m, rfl, al', hdx, hf⟩ := kn1.own p _ look_hd
  have hns1 : h1.Ns h.objs.size (fun x => ([(Str.ofString "self", Value.ref p)] : List (Str × Value)).reverse.lookup x) := hns.keeps k1
  obtain ⟨vs', u, rfl, hvs', hu⟩ : ∃ vs' u, us = vs' ++ [u] ∧ All2 (rT2 rTxt rTxt) (fz X h1) xs vs' ∧ (rT2 rTxt rTxt).r (fz X h1) y u := by
    have hlen := al'.length
    rw [List.length_append] at hlen
    have h1' := al'.take xs.length
    rw [List.take_left] at h1'
    obtain ⟨u, hu, hr⟩ := al'.get (i := xs.length) (x := y) (by simp)
    refine ⟨us.take xs.length, u, ?_, h1', hr⟩
    have : us.length = xs.length + 1 := hlen
    have hd : us.drop xs.length = [u] := by
      rw [List.drop_eq_getElem_cons (by omega), List.drop_of_length_le (by omega)]
      rw [List.getElem?_eq_some_iff] at hu
      obtain ⟨_, e⟩ := hu
      rw [e]
    exact (List.take_append_drop xs.length us).symm.trans (by rw [hd])
  refine sup_node (C := C) (id := "list.pop") (bt := "builtin_function_or_method") (gid := "method_descriptor.__get__") (T := "method_descriptor") (sup61 H) (lcls H) kn1.base hns1 rfl hx (ne101 H kn1.base hx) (by rw [H.k]; rfl) ty_pop md_slot.lookup (by decide) (.inl rfl)
    (fun h3 e3 k3 A E t Q q => md_pop e3 ((lcls H).sub k3 (.inr (.inl rfl))) q) (fun h3 t3 b k3 hb => ?_) rfl
  refine call_pop (lcls H) (kn1.base.keeps k3).k hb (k3 _ _ hx) (by rw [hvs'.length]; exact hz) fun h4 m' hx4 sb4 => ?_
  have kb : KB [p] (⟨h, g, d, t, os⟩ : Shared) ⟨h4, g, d, t3, os⟩ := ⟨h4, t3, rfl, fun b o n e => (sb4.2 b fun q => n (q ▸ .head _)).trans (k3 _ _ (k1 _ _ (k0 _ _ e)))⟩
  have le : Le (fz X h1) (fz X h4) := fz_but fun b o n e => ⟨(sb4.2 b fun q => n (q ▸ W.mem)).trans (k3 _ _ e), n⟩
  exact ⟨kb, (rT2 rTxt rTxt).mono le hu, _, hx4, dx, vs', m', es, m, rfl, hvs'.mono le, le _ _ hdx, hf.mono le⟩
end Mine

namespace Mine
open PySem PySem.Calls PyProof.Rows PySem.W
section
variable {prog : Program} {w : World} {A : Around} {E : Value → Shared → Prop} {R : Result → Shared → Prop} {I : Addr} {fp wr : List Addr} {G : Array GenState → Array GenState → Prop} {n : Nat} {P : Nat → Value → Prop} {St : Nat → Shared → Prop}
theorem sum_loop_acc (W : WalksS prog w A.in1 I fp wr G n P St) (val acc : Nat → Int) (hacc : ∀ i, acc (i + 1) = acc i + val i) (hval : ∀ i v, P i v → ∃ t, v = .int (val i) t) (hfit : ∀ j, j < n → InLong (val j) ∧ InLong (acc (j + 1))) (S : Addr) (hSf : S ∉ fp) :
    ∀ (k i : Nat) (s : Shared) (tA : Tok) (c : Nat), n - i = k → i ≤ n → St i s → s.heap.get? S = some { cls := .type "list", dict := none, data := .seq #[.int (acc i) tA] c, slots := #[] } →
    (∀ s' t', Moved (S :: wr) G s s' → R (.ok (.ret (.int (acc n) t'))) s') → codeAny (model prog w) A (.builtin "sum.loop" ⟨[.ref I, .ref S, rawInt 0, rawInt 0], []⟩) R s := by
  have hSw : S ∉ wr := fun h => hSf (W.sub _ h)
  have hsub : ∀ b ∈ wr, b ∈ S :: wr := fun b hb => List.mem_cons_of_mem _ hb
  intro k
  induction k with
  | zero =>
    intro i s tA c hk hi hst hS hR
    have hin : i = n := by omega
    subst hin
    refine codeAny_builtin F.entry_sum_loop ?_
    rw [Around.under_plainId F.plain_sum_loop _]
    show wpAny _ A.in1 (seqItems? (.ref S) >>= _) _ _ s
    refine wpAny_bind (wpAny_seqItems hS rfl ?_)
    show wpAny _ A.in1 (tryCatch (pyNext (.ref I)) _ >>= _) _ _ s
    refine wpAny_bind (wpAny_tryCatch (W.done s _ _ hst fun s' hm => ?_))
    exact wpAny_pure (hR s' tA (hm.mono hsub))
  | succ k ih =>
    intro i s tA c hk hi hst hS hR
    have hlt : i < n := by omega
    refine codeAny_builtin F.entry_sum_loop ?_
    rw [Around.under_plainId F.plain_sum_loop _]
    show wpAny _ A.in1 (seqItems? (.ref S) >>= _) _ _ s
    refine wpAny_bind (wpAny_seqItems hS rfl ?_)
    show wpAny _ A.in1 (tryCatch (pyNext (.ref I)) _ >>= _) _ _ s
    refine wpAny_bind (wpAny_tryCatch (W.item i s _ _ hlt hst fun v s' hP hst' hm => ?_))
    obtain ⟨t, rfl⟩ := hval i v hP
    have hS' := hm.heap S _ hSw hS
    obtain ⟨⟨f1, f2⟩, f3, f4⟩ := hfit i hlt
    have hc : ((decide (-(2 ^ 63) ≤ val i) && decide (val i < 2 ^ 63)) && (decide (-(2 ^ 63) ≤ acc i + val i) && decide (acc i + val i < 2 ^ 63))) = true := by
      rw [hacc] at f3 f4
      simp only [Bool.and_eq_true, decide_eq_true_eq]
      exact ⟨⟨f1, f2⟩, f3, f4⟩
    show wpAny _ A.in1 (if (_ : Bool) = true then (mkInt (acc i + val i) >>= _) else _) _ _ _
    split
    · refine wpAny_bind (wpAny_mkInt ?_)
      show wpAny _ A.in1 (updateSeq S (fun _ => #[.int (acc i + val i) s'.toks]) >>= _) _ _ _
      refine wpAny_bind ?_
      refine wpAny_updateSeq hS' rfl (wpAny_pure ⟨plainId_quiet F.plain_sum_loop _, ih (i + 1) _ s'.toks _ (by omega) hlt (W.frame _ s' _ _ hst' (by first | exact Nat.le_refl _ | exact Nat.le_succ _ | omega) fun b hb o e => ?_) ((Heap.get?_update_self _ hS' rfl).trans (by rw [hacc]; rfl)) fun s'' t'' hm'' => ?_⟩)
      · exact (Heap.get?_update_other _ _ (fun h : S = b => hSf (by rw [h]; exact hb))).trans e
      · refine hR s'' t'' (Moved.trans W.gtrans ((hm.mono hsub).then_heap (by first | exact Nat.le_refl _ | exact Nat.le_succ _ | omega) fun b o hb e => ?_) hm'')
        exact (Heap.get?_update_other _ _ (fun h : S = b => hb (by rw [h]; exact List.mem_cons_self))).trans e
    · rename_i hneg
      exact absurd hc hneg
theorem args_sum2 (a b : Value) : argsOk "sum" ⟨[a, b], []⟩ := by unfold argsOk; kernel_rfl
theorem call_sum2 {s : Shared} {base : Int} {tb : Tok} {Q : Value → Shared → Prop} (hb : InLong base) (W : WalksS prog w A.in1 I fp wr G n P St) (hst : St 0 s) (hfp : ∀ b ∈ fp, b < s.heap.objs.size)
    (val acc : Nat → Int) (h0 : acc 0 = base) (hacc : ∀ i, acc (i + 1) = acc i + val i) (hval : ∀ i v, P i v → ∃ t, v = .int (val i) t) (hfit : ∀ j, j < n → InLong (val j) ∧ InLong (acc (j + 1)))
    (h : ∀ s' t', Moved wr G s s' → Q (.int (acc n) t') s') : wpAny (model prog w) A (call (.builtin "sum") [.ref I, .int base tb]) Q E s := by
  refine call_function_tree F.kind_sum F.plain_sum F.entry_sum (args_sum2 _ _) ?_
  unfold Builtin.«sum»
  simp only [List.length_cons, List.length_nil]
  rw [if_neg (by decide)]
  refine wpAny_bind (wpAny_of_eq (show Builtin.Builtins.bindParams "sum" ["start"] 0 ⟨[.int base tb], []⟩ = pure [some (.int base tb)] from rfl) ?_)
  refine wpAny_bind (W.self 0 _ _ _ hst ?_)
  have hfl : ((decide (-(2 ^ 63) ≤ base) && decide (base < 2 ^ 63))) = true := by
    simp only [Bool.and_eq_true, decide_eq_true_eq]; exact hb
  dsimp only
  split
  · refine wpAny_bind (wpAny_rule (wpAny_bind (wpAny_mkInt (wpAny_bind (wpAny_pure ?_)))))
    simp only [List.forIn_cons, List.forIn_nil]
    refine wpAny_bind (wpAny_bind (wpAny_bind (wpAny_isInstance (T := "int") (b := false) (typeIs_int _ _ _) PySem.sub_int_str ?_)))
    simp only [Bool.false_eq_true, if_false]
    refine wpAny_pure (wpAny_bind (wpAny_bind (wpAny_isInstance (T := "int") (b := false) (typeIs_int _ _ _) PySem.sub_int_bytes ?_)))
    simp only [Bool.false_eq_true, if_false]
    refine wpAny_pure (wpAny_bind (wpAny_bind (wpAny_isInstance (T := "int") (b := false) (typeIs_int _ _ _) PySem.sub_int_bytearray ?_)))
    simp only [Bool.false_eq_true, if_false]
    refine wpAny_pure (wpAny_pure ?_)
    refine wpAny_bind (wpAny_newObj_type ?_)
    have hSf : s.heap.objs.size ∉ fp := fun hm => Nat.lt_irrefl _ (hfp _ hm)
    refine wpAny_pure ⟨plainId_quiet F.plain_sum_loop _, sum_loop_acc W val acc hacc hval hfit s.heap.objs.size hSf n 0 _ s.toks 0 rfl (Nat.zero_le _)
      (W.frame 0 s _ _ hst (by first | exact Nat.le_refl _ | exact Nat.le_succ _ | omega) fun b _ o e => Heap.get?_push_of_some _ e) ((Heap.get?_push_size _ rfl).trans (by rw [h0])) fun s' t' hm => ?_⟩
    exact h s' t' (hm.drop_new (by first | exact Nat.le_refl _ | exact Nat.le_succ _ | omega))
  · rename_i hneg
    exact absurd hfl hneg
end
end Mine

namespace Mine
open PySem PySem.Calls PyProof.Rows PySem.W
section
variable {prog : Program} {w : World} {A : Around} {E : Value → Shared → Prop} {s : Shared} {x : Addr} {K : Frag} {cl dx : Addr} {vs : List Value} {n : Nat}
/-- any object that holds a row of values -/
noncomputable def IsSeq (h : Heap) (l : Addr) (items : Array Value) : Prop := ∃ o, h.get? l = some o ∧ ∃ n, o.data = .seq items n
theorem IsSeq.at {h h' : Heap} {l : Addr} {items : Array Value} (a : IsSeq h l items) (k : ∀ o, h.get? l = some o → h'.get? l = some o) : IsSeq h' l items := let ⟨o, e, r⟩ := a; ⟨o, k o e, r⟩
theorem next_item {it l : Addr} {i : Nat} {items : Array Value} {x : Value} {Q : Option Value → Shared → Prop} (hit : s.heap.IsListIter it l i) (hl : IsSeq s.heap l items) (hx : items[i]? = some x)
    (hQ : ∀ h', h'.IsListIter it l (i + 1) → Heap.SameBut it s.heap h' → Q (some x) { s with heap := h' }) : wpAny (model prog w) A (pyNext (.ref it)) Q E s := by
  obtain ⟨o, ho, hc, hd⟩ := id hit
  obtain ⟨ol, hol, nl, hdl⟩ := hl
  unfold pyNext
  refine wpAny_bind (wpAny_attempt (wpAny_callSpecial?_slot (name := Str.ofString "__next__") hit.typeIs slot_listiter_next (wpAny_call_entry slot_listiter_next hit.typeIs entry_listiter_next ?_ (args_listiter_next _))))
  show wpAny _ _ (field (.ref it) 0 >>= _) _ _ s
  refine wpAny_bind (wpAny_field ho hd (x := .ref l) rfl ?_)
  show wpAny _ _ (if (Value.ref l == Value.none) = true then _ else _) _ _ s
  rw [if_neg (show ¬ ((Value.ref l == Value.none) = true) from Bool.false_ne_true)]
  show wpAny _ _ (field (.ref it) 1 >>= _) _ _ s
  refine wpAny_bind (wpAny_field ho hd (x := .int i 0) rfl ?_)
  show wpAny _ _ (seqItems? (.ref l) >>= _) _ _ s
  refine wpAny_bind (wpAny_seqItems hol hdl ?_)
  simp only [Int.toNat_natCast, hx]
  refine wpAny_bind (wpAny_setField ho hd (by simp) (wpAny_pure ⟨x, rfl, wpAny_pure (hQ _ ?_ (Heap.SameBut.update ..))⟩))
  exact ⟨_, Heap.get?_update_self _ ho (Obj.isFreed_of_fields (Obj.data_mapFields hd _)), (Obj.cls_mapFields ..).trans hc, by rw [Obj.data_mapFields hd]; simp [rawInt]⟩
theorem next_end {it l : Addr} {i : Nat} {items : Array Value} {Q : Option Value → Shared → Prop} (hh : A.handled = none) (hit : s.heap.IsListIter it l i) (hl : IsSeq s.heap l items) (hx : items[i]? = none)
    (hQ : ∀ h', Heap.ExtBut it s.heap h' → Q none { s with heap := h' }) : wpAny (model prog w) A (pyNext (.ref it)) Q E s := by
  obtain ⟨o, ho, hc, hd⟩ := id hit
  obtain ⟨ol, hol, nl, hdl⟩ := hl
  unfold pyNext
  refine wpAny_bind (wpAny_attempt (wpAny_callSpecial?_slot (name := Str.ofString "__next__") hit.typeIs slot_listiter_next (wpAny_call_entry slot_listiter_next hit.typeIs entry_listiter_next ?_ (args_listiter_next _))))
  show wpAny _ _ (field (.ref it) 0 >>= _) _ _ s
  refine wpAny_bind (wpAny_field ho hd (x := .ref l) rfl ?_)
  show wpAny _ _ (if (Value.ref l == Value.none) = true then _ else _) _ _ s
  rw [if_neg (show ¬ ((Value.ref l == Value.none) = true) from Bool.false_ne_true)]
  show wpAny _ _ (field (.ref it) 1 >>= _) _ _ s
  refine wpAny_bind (wpAny_field ho hd (x := .int i 0) rfl ?_)
  show wpAny _ _ (seqItems? (.ref l) >>= _) _ _ s
  refine wpAny_bind (wpAny_seqItems hol hdl ?_)
  simp only [Int.toNat_natCast, hx]
  refine wpAny_bind (wpAny_rule (wpAny_bind (wpAny_setField ho hd (by simp) ?_)))
  show wpAny _ _ (newExc (.type "StopIteration") [] >>= _) _ _ _
  refine wpAny_bind ?_
  simp only [newExc, newTuple]
  refine wpAny_bind (wpAny_newObj_type ?_ (by size_fits))
  refine wpAny_bind (m := firstArgMember _ _) (wpAny_of_eq (a := Value.none) (by first | rfl | (simp only [firstArgMember]; rfl)) ?_)
  refine wpAny_newObj_type ?_ (by size_fits)
  simp only [raiseNew]
  refine wpAny_bind (wpAny_handled ?_)
  rw [show A.in1.handled = none from hh]
  refine wpAny_bind (wpAny_pure (wpAny_throw ?_))
  refine wpAny_bind (wpAny_isInstance (T := "StopIteration") (b := true) ⟨_, Heap.get?_push_size _ rfl, rfl⟩ isSubtype_stop ?_)
  exact wpAny_pure (hQ _ (((Heap.SameBut.update ..).extBut.push _).push _))
theorem walksSeq (hh : A.handled = none) (I ax : Addr) (hne : ax ≠ I) (items : Array Value) (Ts : Nat → Addr) (vals : Nat → Array Value)
    (hit : ∀ j, j < items.size → items[j]? = some (.ref (Ts j))) (hTI : ∀ j, j < items.size → Ts j ≠ I) :
    WalksU prog w A I (I :: ax :: (List.range items.size).map Ts) [I] items.size (fun j v => v = vals j)
      (fun j h => h.IsListIter I ax j ∧ IsSeq h ax items ∧ ∀ k, k < items.size → h.IsTuple (Ts k) (vals k))
      (fun j T h => (j < items.size ∧ T = Ts j) ∧ h.IsListIter I ax (j + 1) ∧ IsSeq h ax items ∧ ∀ k, k < items.size → h.IsTuple (Ts k) (vals k)) where
  sub := fun b hb => by simp at hb; simp [hb]
  frame := fun _ _ _ st hk => ⟨st.1.at fun o e => hk I (by simp) o e, st.2.1.at fun o e => hk ax (by simp) o e,
    fun k hk' => (st.2.2 k hk').at fun o e => hk (Ts k) (List.mem_cons_of_mem _ (List.mem_cons_of_mem _ (List.mem_map.mpr ⟨k, List.mem_range.mpr hk', rfl⟩))) o e⟩
  item := fun i s Q E hi st hQ => by
    refine next_item st.1 st.2.1 (x := .ref (Ts i)) (hit i hi) fun h' hit' hs' => ?_
    have tup : ∀ k, k < items.size → h'.IsTuple (Ts k) (vals k) := fun k hk' => (st.2.2 k hk').extBut hs'.extBut (hTI k hk')
    exact hQ (Ts i) (vals i) h' s.toks rfl (tup i hi) ⟨⟨hi, rfl⟩, hit', st.2.1.at fun o e => (hs'.2 ax hne).trans e, tup⟩ fun b o hb e => hs'.extBut b o (fun h => hb (by simp [h])) e
  go := fun _ _ _ _ _ s Q _ hm hQ => wpAny_letOwnedTupleGo_listiter hm.2.1 (hQ s.heap hm.2 fun _ _ _ e => e)
  apart := fun j T _ hm hmem => by
    rcases List.mem_cons.mp hmem with e | e
    · exact hTI j hm.1.1 (hm.1.2 ▸ e)
    · cases e
  done := fun s Q E st hQ => next_end hh st.1 st.2.1 (by simp) fun h' he' => hQ h' s.toks fun b o hb e => he' b o (fun h => hb (by simp [h])) e
  self := fun _ _ _ _ st hQ => wpAny_pyIter_listiter st.1 hQ
theorem it_kind : builtinKind "list.__iter__" = some .slot := by decide +kernel
theorem it_split : splitId "list.__iter__" = some ("list", "__iter__") := by decide +kernel
theorem it_plain : plainId "list.__iter__" = true := by decide +kernel
theorem iterL {Q : Value → Shared → Prop} (Y : LCls K cl) (X : K.In s.heap) (hx : s.heap.get? x = some (lObj cl dx vs n)) (hg : findIn K (.ref cl) "__iter__" = some (some (.builtin "list.__iter__")))
    (hQ : Q (.ref s.heap.objs.size) { s with heap := s.heap.push { cls := .type "list_iterator", data := .fields #[.ref x, .int 0 0] } }) : wpAny (model prog w) A (pyIter (.ref x)) Q E s := by
  obtain ⟨hh, g, d, t, os'⟩ := s
  have L0 : Looks (model prog w) hh (typeOf (.ref x)) (.ref cl) := (Looks.ld hx).andThen .now
  have L1 := looks_findIn (M := model prog w) X hg
  have hcall : ∀ {Q' : Value → Shared → Prop}, Q' (.ref hh.objs.size) ⟨hh.push { cls := .type "list_iterator", data := .fields #[.ref x, .int 0 0] }, g, d, t, os'⟩ → wpAny (model prog w) A (call (.builtin "list.__iter__") [.ref x]) Q' E ⟨hh, g, d, t, os'⟩ := fun hq => by
    refine wpAny_call (codeAny_call_builtin it_plain entry_list_iter ?_)
    refine @check_slot (model prog w) _ _ ⟨hh, g, d, t, os'⟩ "list.__iter__" "list" "__iter__" (.ref x) [] [] _ it_kind it_split (isListL Y X hx) (args_list_iter _) ?_
    show wpAny _ _ (do ret (← newFields "list_iterator" [.ref x, rawInt 0])) _ _ _
    exact wpAny_bind (wpAny_newObj_type (wpAny_pure hq))
  have fin : ∀ {refuse : Sem Value}, wpAny (model prog w) A (if (Value.builtin "list.__iter__" == Value.none) = true then (refuse >>= fun v => pure (some v)) else (call (.builtin "list.__iter__") [.ref x] >>= fun v => pure (some v)))
      (fun r s' => r = some (.ref hh.objs.size) ∧ s' = ⟨hh.push { cls := .type "list_iterator", data := .fields #[.ref x, .int 0 0] }, g, d, t, os'⟩) E ⟨hh, g, d, t, os'⟩ := by
    simp only [builtin_beq_none, Bool.false_eq_true, if_false]
    exact wpAny_bind (hcall (wpAny_pure ⟨rfl, rfl⟩))
  unfold pyIter
  refine wpAny_bind ?_
  unfold specialOf
  refine wpAny_bind (L0.at (L1.at ?_))
  dsimp only
  refine wpAny_bind (wpAny_mono (Q := fun r s' => r = some (.ref hh.objs.size) ∧ s' = ⟨hh.push { cls := .type "list_iterator", data := .fields #[.ref x, .int 0 0] }, g, d, t, os'⟩) ?_ (fun r s' q => ?_) fun _ _ e => e)
  · simp only [callSpecialIfBoundUnlessNone?, bindSpecialIfBound?]
    refine wpAny_holding (wpAny_bind (wpAny_bind ?_))
    unfold specialOf
    refine wpAny_bind (L0.at (L1.at ?_))
    simp only [slot_list_iter.bind]
    refine wpAny_bind (wpAny_askSetting (wpAny_ite ?_))
    split
    · exact wpAny_bind (wpAny_pure (wpAny_pure fin))
    · exact wpAny_tryCatch (wpAny_bind (wpAny_pure (wpAny_pure fin)))
  · obtain ⟨rfl, rfl⟩ := q
    exact wpAny_bind (wpAny_specialOf (T := "list_iterator") ⟨_, Heap.get?_push_size _ rfl, rfl⟩ slot_listiter_next.lookup (wpAny_pure hQ))
end
end Mine

namespace Mine
open PySem PySem.Calls PyProof.Rows PySem.W
noncomputable def TabS (h : Heap) (c P : Addr) : Prop := ∃ ps, h.IsCode c P ps ∧ h.TableAt c P ps
theorem passing_all : ∀ n : Nat, passing (fun _ => true) n 0 = List.range n := fun n => by unfold passing; simp
section
variable {C : Cx} {A : Around} {env : Env} {X : List Addr} {V : Vars} {α : Type} {E : Value → Shared → Prop}
theorem gen_code {s : Shared} {c P : Addr} {pos : Pos} {q : Str} {scope : Scope} {Q : Value → Shared → Prop} (hc : env.code = .ref c) (tab : TabS s.heap c P)
    (h : ∀ c' h₃ tk, Heap.ExtBut P s.heap h₃ → TabS h₃ c P → s.heap.objs.size ≤ h₃.objs.size → Q c' { s with heap := h₃, toks := tk }) : wpAny C.M A (genexprCode env pos q scope) Q E s := by
  obtain ⟨ps, hok, htab⟩ := tab
  cases hf : codeAmong pos ps.toList with
  | none => exact wpAny_genexprCodeX hc hok htab hf fun c' h' tk hx h1 h2 hok' _ htab' _ => h _ h' tk hx ⟨_, hok', htab'⟩ (Nat.le_trans h1 (Nat.le_of_lt h2))
  | some c' => exact wpAny_genexprCode_hit hc hok hf (h _ s.heap s.toks (fun _ _ _ e => e) ⟨ps, hok, htab⟩ (Nat.le_refl _))
theorem gen_pairs {s : Shared} {p c P : Addr} {first : Int} {xs : List (List Nat × List Nat)} {elt : Expr} {xa xb sn : Str} {pa pb pt sp pos : Pos} {kt : Nat} {scope : Scope} {R : Rl α} {f : List Nat × List Nat → α} {Q : Value → Shared → Prop}
    (H : Lw C) (r : Rm 4 A) (k : Kn C env X [(p, ocPile C.w.params 101 first xs)] V s) (hv : V.lookup sn = some (rVal.at (.ref p))) (hd : (sn == ("__debug__" : Str)) = false) (hcode : env.code = .ref c) (tab : TabS s.heap c P) (hP : ∀ h' : Heap, (∀ b o, b ≠ P → s.heap.get? b = some o → h'.get? b = some o) → C.In h')
    (hbare : AllBare s.gens) (hPX : P ∈ X) (hPp : p ≠ P) (hPs : P ≠ cStatics)
    (hco : scope.isCoroutine = false) (hclos : closureFor scope env = pure []) (hcell : ∀ y ∈ scope.names, y.2 ≠ .cell) (h0 : scope.names.lookup (".0" : Str) = some NameKind.local) (hxa : scope.names.lookup xa = some .local) (hxb : scope.names.lookup xb = some .local) (hab : xa ≠ xb) (hkind : scope.kind = .function) (hgi : findIn C.K (.ref 101) "__iter__" = some (some (.builtin "list.__iter__")))
    (hR : Flat R) (helt : ∀ C' code A' X' y, A'.handled = none → A'.depth ≤ A.depth + 1 → A'.units ≤ A.units + 8 → y ∈ xs → PE C A' (genEnv scope [] C' code builtinsNs env) X' [] [(xa, rTxt.at y.1), (xb, rTxt.at y.2)] elt R (f y))
    (hQ : ∀ a s' fp wr g St, WalksS C.prog C.w A.in4 a fp wr (GenOnlyQ g) xs.length (fun i y => ∃ q, xs[i]? = some q ∧ R.r (fun _ => none) (f q) y) St → St 0 s' → (∀ i t, St i t → t.TypeIs (.ref a) "generator") → (∀ b ∈ fp, b < s'.heap.objs.size) → (∀ b ∈ wr, s.heap.get? b = none) →
      s'.os = s.os → s'.drawn = s.drawn → AllBare s'.gens → (∀ b o, b ≠ P → s.heap.get? b = some o → s'.heap.get? b = some o) → TabS s'.heap c P → P ∉ wr → Q (.ref a) s')
    (hs : ∀ x, genFold (.Name sn sp) env x = pure x := by intro _; rfl) :
    wpAny C.M A (eval (.GeneratorExp elt [⟨.Tuple [.Name xa pa, .Name xb pb] kt pt, .Name sn sp, [], 0⟩] scope pos) env) Q E s := by
  refine wpAny_GeneratorExp_walksQTD r.hd hco hclos hcell h0 hxa hxb hab hkind r.depth ?_ hs
  obtain ⟨v, sv, rfl⟩ := k.vars _ _ hv
  refine wpAny_Name (sv.load k.fn ?_) hd
  obtain ⟨o, ho, dx, vs, n, es, m, rfl, al, hdx, hf⟩ := k.own p _ look_hd
  refine iterL (lcls H) k.base.k ho hgi ?_
  generalize hI : s.heap.objs.size = I
  have kp : Gr s.heap (s.heap.push { cls := .type "list_iterator", data := .fields #[.ref p, .int 0 0] }) := gr_push
  have hIit : (s.heap.push { cls := .type "list_iterator", data := .fields #[.ref p, .int 0 0] }).IsListIter I p 0 := ⟨_, hI ▸ Heap.get?_push_size _ rfl, rfl, rfl⟩
  have hsz2 : (s.heap.push { cls := .type "list_iterator", data := .fields #[.ref p, .int 0 0] }).objs.size = I + 1 := by rw [Heap.size_push, hI]
  generalize (s.heap.push { cls := .type "list_iterator", data := .fields #[.ref p, .int 0 0] }) = h2 at kp hIit hsz2 ⊢
  have hnI : s.heap.get? I = none := hI ▸ new_none
  have ltI : ∀ {b : Addr} {o : Obj}, s.heap.get? b = some o → Nat.lt b I := fun e => hI ▸ Heap.lt_size e
  have hcs : ∃ o, s.heap.get? cStatics = some o := by obtain ⟨_, ⟨o, es, ep, h1, _⟩, _⟩ := k.base.t.nolimit; exact ⟨o, h1⟩
  refine ⟨k.base.t.nolimit.keeps kp, gen_code hcode (let ⟨ps, a, b⟩ := tab; ⟨ps, a.keeps kp, b.keeps kp⟩) fun c' h₃ tk hx₃ tab₃ hsz => ?_⟩
  have kh3 : ∀ b o, b ≠ P → s.heap.get? b = some o → h₃.get? b = some o := fun b o n e => hx₃ b o n (kp b o e)
  have C3 : C.In h₃ := hP h₃ kh3
  have hsz3 : I + 1 ≤ h₃.objs.size := hsz2 ▸ hsz
  refine wpAny_builtinsFor (bm := 4) (m := C.mg) (by rw [k.gl]; exact C3.t.g) H.bm (by decide) (C3.k _ _ (by rw [H.k]; rfl)) rfl rfl rfl ?_
  have hPnI : P ≠ I := fun e => by
    obtain ⟨ps, _, _, hps⟩ := tab
    rw [e, hnI] at hps; cases hps
  have ex : ∀ j, ∃ (T : Addr) (va vb : Value), j < vs.length → vs[j]? = some (.ref T) ∧ s.heap.IsTuple T #[va, vb] ∧ T ∉ X ∧ ∃ q, xs[j]? = some q ∧ rTxt.r (fun _ => none) q.1 va ∧ rTxt.r (fun _ => none) q.2 vb := fun j => by
    by_cases hj : j < vs.length
    · have hjx : j < xs.length := by rw [← al.length]; exact hj
      obtain ⟨v, hv, u1, u2, ⟨T, n', rfl, g⟩, r1, r2⟩ := al.get (i := j) (x := xs[j]) (List.getElem?_eq_getElem hjx)
      obtain ⟨g1, g2⟩ := fz_get g
      exact ⟨T, u1, u2, fun _ => ⟨hv, ⟨_, g1, rfl, _, rfl⟩, g2, xs[j], List.getElem?_eq_getElem hjx, r1, r2⟩⟩
    · exact ⟨0, .none, .none, fun h => absurd h hj⟩
  let Ts : Nat → Addr := fun j => Classical.choose (ex j)
  have ex2 : ∀ j, ∃ (va vb : Value), j < vs.length → vs[j]? = some (.ref (Ts j)) ∧ s.heap.IsTuple (Ts j) #[va, vb] ∧ Ts j ∉ X ∧ ∃ q, xs[j]? = some q ∧ rTxt.r (fun _ => none) q.1 va ∧ rTxt.r (fun _ => none) q.2 vb := fun j => Classical.choose_spec (ex j)
  let va : Nat → Value := fun j => Classical.choose (ex2 j)
  have ex3 : ∀ j, ∃ (vb : Value), j < vs.length → vs[j]? = some (.ref (Ts j)) ∧ s.heap.IsTuple (Ts j) #[va j, vb] ∧ Ts j ∉ X ∧ ∃ q, xs[j]? = some q ∧ rTxt.r (fun _ => none) q.1 (va j) ∧ rTxt.r (fun _ => none) q.2 vb := fun j => Classical.choose_spec (ex2 j)
  let vb : Nat → Value := fun j => Classical.choose (ex3 j)
  have fact : ∀ j, j < vs.length → vs[j]? = some (.ref (Ts j)) ∧ s.heap.IsTuple (Ts j) #[va j, vb j] ∧ Ts j ∉ X ∧ ∃ q, xs[j]? = some q ∧ rTxt.r (fun _ => none) q.1 (va j) ∧ rTxt.r (fun _ => none) q.2 (vb j) := fun j => Classical.choose_spec (ex3 j)
  have hTlt : ∀ j, j < vs.length → Nat.lt (Ts j) I := fun j hj => by obtain ⟨o, e, _⟩ := (fact j hj).2.1; exact ltI e
  have hTI : ∀ j, j < vs.toArray.size → Ts j ≠ I := fun j hj => Nat.ne_of_lt (hTlt j (by simpa using hj))
  have hpI : p ≠ I := Nat.ne_of_lt (ltI ho)
  refine ⟨I, _, _, vs.toArray.size, _, _, _, fun _ => true, fun i y => ∃ q, xs[i]? = some q ∧ R.r (fun _ => none) (f q) y, rfl, fun A' hA => (walksSeq hA I p hpI vs.toArray Ts (fun j => #[va j, vb j]) (fun j hj => by simpa using (fact j (by simpa using hj)).1) hTI).bound, fun i vals e => ⟨_, _, e.2⟩,
    ⟨?_, ⟨_, kh3 _ _ hPp ho, n, rfl⟩, fun j hj => ?_⟩, ?_, ?_, ?_, ?_, ?_⟩
  · obtain ⟨o, e, r⟩ := hIit; exact ⟨o, hx₃ _ _ hPnI.symm e, r⟩
  · obtain ⟨h1, ⟨o, e, r⟩, h3, _⟩ := fact j (by simpa using hj)
    exact ⟨o, kh3 _ _ (fun q => h3 (q ▸ hPX)) e, r⟩
  · intro b hb
    rcases List.mem_cons.mp hb with rfl | hb
    · exact hsz3
    rcases List.mem_cons.mp hb with rfl | hb
    · exact Nat.lt_of_lt_of_le (ltI ho) (Nat.le_of_succ_le hsz3)
    obtain ⟨j, hj, rfl⟩ := List.mem_map.mp hb
    exact Nat.lt_of_lt_of_le (hTlt j (by simpa using hj)) (Nat.le_of_succ_le hsz3)
  · exact C3.t.nolimit
  · intro m
    obtain ⟨o, e⟩ := hcs
    rw [List.mem_singleton.mp m, hnI] at e; cases e
  · intro href hhref
    have inn : ∀ t : Shared, (∀ b ∈ List.range h₃.objs.size, b ∉ [I] → ∀ o, href.get? b = some o → t.heap.get? b = some o) → C.In t.heap := fun t hk => hP _ fun b o n e =>
      hk b (List.mem_range.mpr (Heap.lt_size (kh3 b o n e))) (fun m => Nat.lt_irrefl _ (List.mem_singleton.mp m ▸ ltI e)) o (hhref b o (kh3 b o n e))
    refine ⟨fun A' E' i ua ub t m₂ hA hD hU hPt hn hma hmb hk => ?_, fun A' E' i ua ub t m₂ hA hD hU hPt _ hn hma hmb hk => ?_⟩
    · exact wpAny_pure ⟨rfl, keeps_refl t⟩
    · have hl : [ua, ub] = [va i, vb i] := congrArg Array.toList hPt.2
      injection hl with e1 hl
      injection hl with e2 _
      subst e1 e2
      obtain ⟨_, _, _, q, hq, ra, rb⟩ := fact i (by simpa using hPt.1)
      have kn : Kn C (genEnv scope [] h₃.objs.size c' builtinsNs env) [] [] [(xa, rTxt.at q.1), (xb, rTxt.at q.2)] t :=
        { base := inn t hk, fn := hkind, gl := k.gl, bi := rfl, alive := fun a m => by cases m
          vars := fun y F e => by
            rcases lookup_cons_some e with ⟨rfl, rfl⟩ | ⟨_, e⟩
            · exact ⟨_, .loc hxa m₂ hn hma, ra⟩
            · obtain ⟨rfl, rfl⟩ := lookup1 e
              exact ⟨_, .loc hxb m₂ hn hmb, rb⟩
          own := fun a F e => by cases e }
      refine wpAny_mono (helt _ _ A' [] q hA hD hU (List.mem_of_getElem? hq) t kn) (fun y s3 h3 => ⟨⟨q, hq, hR _ _ _ _ h3.2⟩, h3.1⟩) fun _ _ e => e.elim
  · intro a h₅ tk gs hgb hag hsz5 hk5 W hat
    rw [passing_all] at W
    have hlen : (List.range vs.toArray.size).length = xs.length := by rw [List.length_range, List.size_toArray, al.length]
    rw [hlen] at W
    have hPl : Nat.lt P h₃.objs.size := by obtain ⟨ps, _, _, hps⟩ := tab₃; exact Heap.lt_size hps
    refine hQ a _ _ _ _ _ (W.imp fun j y h => ?_) hat (fun i t st => st.1.typeIs) (fun b hb => ?_) (fun b hb => ?_) rfl rfl (hbare.push hgb) (fun b o n e => hk5 _ _ (kh3 b o n e)) (let ⟨ps, x, y⟩ := tab₃; ⟨ps, x.keeps hk5, y.keeps hk5⟩) fun hb => ?_
    · obtain ⟨i, hi, q, hq, hr⟩ := h
      have hij : i = j := by
        have := (List.getElem?_eq_some_iff.mp hi).2
        simpa using this.symm
      subst hij
      exact ⟨q, hq, hr⟩
    · show b < h₅.objs.size
      rw [hsz5]
      rcases List.mem_cons.mp hb with rfl | hb
      · exact Nat.lt_succ_self _
      rcases List.mem_cons.mp hb with rfl | hb
      · exact Nat.lt_succ_of_lt hag
      · exact Nat.lt_succ_of_lt (Nat.lt_trans (List.mem_range.mp hb) hag)
    · cases e : s.heap.get? b with
      | none => rfl
      | some o =>
        have hb' := ltI e
        rcases List.mem_cons.mp hb with rfl | hb
        · exact absurd (Nat.lt_trans hb' hsz3) (Nat.lt_irrefl _)
        · rw [List.mem_singleton.mp hb] at hb'; exact absurd hb' (Nat.lt_irrefl _)
    · rcases List.mem_cons.mp hb with e | hb
      · exact Nat.lt_irrefl _ (e ▸ hPl)
      · exact hPnI (List.mem_singleton.mp hb)
end
end Mine

namespace Mine
open PySem PySem.Calls PyProof.Rows PySem.W
noncomputable def pileLen (first : Int) (xs : List (List Nat × List Nat)) : Int := first + (xs.map fun q => (q.1.length : Int) + (q.2.length : Int)).sum
theorem acc_succ (first : Int) (xs : List (List Nat × List Nat)) (i : Nat) : pileLen first (xs.take (i + 1)) = pileLen first (xs.take i) + (match xs[i]? with | some q => (q.1.length : Int) + (q.2.length : Int) | none => 0) := by
  unfold pileLen
  rw [List.take_succ]
  cases xs[i]? with
  | none => simp
  | some q => simp; omega
theorem acc_bound (first : Int) (h0 : 0 ≤ first) (h1 : first ≤ 1000) : ∀ (xs : List (List Nat × List Nat)), (∀ q ∈ xs, q.1.length + q.2.length ≤ 1000) → 0 ≤ pileLen first xs ∧ pileLen first xs ≤ 1000 + 1000 * xs.length
  | [], _ => by unfold pileLen; simp; omega
  | q :: r, h => by
    have ih := acc_bound first h0 h1 r fun q m => h q (.tail _ m)
    have hq := h q (.head _)
    have e : pileLen first (q :: r) = pileLen first r + ((q.1.length : Int) + (q.2.length : Int)) := by unfold pileLen; simp; omega
    rw [e]; simp only [List.length_cons]; omega
/-- what len, str of the pile need of the state beside the heap -/
structure GenOk (C : Cx) (X : List Addr) (c P : Addr) (s : Shared) : Prop where
  tab : TabS s.heap c P
  bs : ∀ h' : Heap, (∀ b o, b ≠ P → s.heap.get? b = some o → h'.get? b = some o) → C.In h'
  bare : AllBare s.gens
  mem : P ∈ X
structure GenAfter (c P : Addr) (s s' : Shared) : Prop where
  os : s'.os = s.os
  drawn : s'.drawn = s.drawn
  bare : AllBare s'.gens
  heap : ∀ b o, b ≠ P → s.heap.get? b = some o → s'.heap.get? b = some o
  tab : TabS s'.heap c P
theorem len_method {C : Cx} {A : Around} {E : Value → Shared → Prop} (H : Lw C) (r : Rm 8 A) {X : List Addr} {s : Shared} {p : Addr} {first : Int} {xs : List (List Nat × List Nat)} {Q : Value → Shared → Prop} (hS : C.In s.heap) (hl : Live X s) (own : ∃ o, s.heap.get? p = some o ∧ (ocPile C.w.params 101 first xs).r (fz X s.heap) o)
    (g : GenOk C X 67 63 s) (hf0 : 0 ≤ first) (hf1 : first ≤ 1000) (hz : xs.length ≤ 1000) (hq : ∀ q ∈ xs, q.1.length + q.2.length ≤ 1000)
    (hQ : ∀ s' t', GenAfter 67 63 s s' → Q (.int (pileLen first xs) t') s') : wpAny C.M A (call (.ref 68) [.ref p]) Q E s := by
  obtain ⟨h, gg, d, t, os⟩ := s
  refine wpAny_call (ks_codeAny_call_defAt (fd := (fd68 C.w.params).1) (body := (body68 C.w.params).1) (binds := [("self", .ref p)]) r.depth (hS.k _ _ (by rw [H.k]; exact (o68 _).2)) (fd68 _).2 hS.t.nolimit (codeRec_of hS.k (by rw [H.k]; rfl)) (body68 _).2 (kp_binds hS.k (by rw [H.k]; intro S; rfl)) (of_decide_eq_true rfl) (of_decide_eq_true rfl) (fun h0 hns k0 => ?_) rfl rfl rfl)
  refine wpAt_of_wpAny ?_
  have kn := kn_self (s1 := ⟨h0, gg, d, t + 1, os⟩) (env := callEnv (fd68 C.w.params).1 h.objs.size 68) (L := h.objs.size) hS hl own k0 rfl rfl rfl hns rfl rfl
  have r2 : Rm 7 (A.deeper (callEnv (fd68 C.w.params).1 h.objs.size 68)) := r.deeper
  have lenK : C.mg "len" = none := H.bn _ (by decide)
  have P63 : ∃ o, h.get? 63 = some o ∧ o.cls = .none := by obtain ⟨ps, _, _, e⟩ := g.tab; exact ⟨_, e, rfl⟩
  have hp63 : p ≠ 63 := fun e => by
    obtain ⟨o, ho, dx, us, n, es, m, rfl, _⟩ := own
    obtain ⟨o', ho', hc⟩ := P63
    rw [e] at ho
    rw [show (⟨h, gg, d, t, os⟩ : Shared).heap.get? 63 = h.get? 63 from rfl, ho'] at ho
    cases ho; cases hc
  have hcs : (63 : Addr) ≠ cStatics := by decide
  have tab0 : TabS h0 67 63 := let ⟨ps, a, b⟩ := g.tab; ⟨ps, a.keeps k0, b.keeps k0⟩
  have hbs0 : ∀ h' : Heap, (∀ b o, b ≠ 63 → h0.get? b = some o → h'.get? b = some o) → C.In h' := fun h' k => g.bs h' fun b o n e => k b o n (k0 b o e)
  refine wpAny_execs_cons (wpAny_Return_some ?_)
  refine Call_ (Ev.use (PE.on (pe_builtin (H.bn "sum" (by decide)) boot_sum (by decide) rfl) kn) fun v s1 g1 e1 => ?_) (by rfl)
  cases e1
  have kn1 := kn.keeps g1
  obtain ⟨h1, t1, rfl, k1⟩ := g1
  refine Calls.callWith_builtin rfl (Calls.evalArgs_plain ?_)
  refine Calls.spliced_cons ?_
  refine gen_pairs (C := C) (c := 67) (P := 63) (p := p) (first := first) (xs := xs) (R := rInt) (f := fun q => (q.1.length : Int) + (q.2.length : Int)) H (r2.less (by decide)) kn1 rfl (by decide) rfl (let ⟨ps, a, b⟩ := tab0; ⟨ps, a.keeps k1, b.keeps k1⟩) (fun h' k => hbs0 h' fun b o n e => k b o n (k1 b o e)) g.bare g.mem hp63 hcs rfl rfl (of_decide_eq_true rfl) rfl rfl rfl (by decide) rfl (by rw [H.k]; rfl) flat_int
    (fun C' code A' X' y hA hD hU hy => pe_bin (pe_call (pe_builtin lenK boot_len (by decide) rfl) keepy_builtin (pl_cons (pe_name rfl) pl_nil) (f_len_txt (by have := hq y hy; omega))) (pe_call (pe_builtin lenK boot_len (by decide) rfl) keepy_builtin (pl_cons (pe_name rfl) pl_nil) (f_len_txt (by have := hq y hy; omega))) b_add_int) ?_
  intro a s2 fp wr gi St W hst hty hfp hwr hos hdr hbare hk2 tab2 hPw
  have kall : ∀ b o, b ≠ 63 → h.get? b = some o → s2.heap.get? b = some o := fun b o n e => hk2 b o n (k1 b o (k0 b o e))
  have C2 : C.In s2.heap := g.bs _ kall
  obtain ⟨o, ho, dx, us, n, es, m, rfl, al, hdx, hf⟩ := own
  have hx2 : s2.heap.get? p = some (lObj 101 dx us n) := kall _ _ hp63 ho
  have hd2 : s2.heap.get? dx = some (dObj es m) := kall _ _ (fun e => (fz_get hdx).2 (e ▸ g.mem)) (fz_get hdx).1
  have hns2 : s2.heap.Ns h.objs.size (fun x => ([(Str.ofString "self", Value.ref p)] : List (Str × Value)).reverse.lookup x) := by
    obtain ⟨ob, e1, e2, e3, r⟩ := hns
    refine ⟨ob, e1, e2, hk2 _ _ (fun e => ?_) (k1 _ _ e3), r⟩
    obtain ⟨o', ho', _⟩ := P63
    have := Heap.lt_size ho'
    rw [show (⟨h, gg, d, t, os⟩ : Shared).heap.objs.size = h.objs.size from rfl] at e
    exact Nat.lt_irrefl _ (e ▸ this)
  refine Calls.spliced_cons ?_
  refine Attribute_Name_ (wpAny_Name (wpAny_loadName_local rfl rfl hns2 rfl ?_) (by decide)) (by with_unfolding_all rfl)
  obtain ⟨v, hl, tf, rfl⟩ := look_some (n := m) (nm := "_initial_size") hf (F := rInt.at first) rfl
  refine getL_value C2.k (⟨hx2, rfl, rfl, hd2⟩ : PySem.W.InstAt _ _ _ _ (some (dObj es m))) ((lcls H).sub C2.k (.inr (.inl rfl))) (by rw [H.k]; rfl) (by rw [H.k]; rfl) (findObj_own (attr := none) (by rw [H.k]; rfl) (by rw [H.k]; rfl) rfl hl) rfl ?_
  refine Calls.spliced_nil ?_
  have hst' : St 0 { s2 with toks := s2.toks + 1 } := W.frame 0 s2 s2.heap (s2.toks + 1) hst (Nat.le_succ _) fun _ _ _ e => e
  have hb1 := acc_bound first hf0 hf1
  refine call_sum2 (base := first) ⟨by omega, by omega⟩ W.in4_1 hst' hfp (fun i => match xs[i]? with | some q => (q.1.length : Int) + (q.2.length : Int) | none => 0) (fun i => pileLen first (xs.take i)) (by unfold pileLen; simp) (acc_succ first xs) (fun i v hv => ?_) (fun j hj => ?_) fun s' t' mv => ?_
  · obtain ⟨q, hq', t, rfl⟩ := hv
    exact ⟨t, by rw [hq']⟩
  · have b1 := hb1 (xs.take (j + 1)) fun q m => hq q (List.mem_of_mem_take m)
    have hlen : (xs.take (j + 1)).length ≤ 1000 := Nat.le_trans (List.length_take_le _ _) (by omega)
    have hget : xs[j]? = some xs[j] := List.getElem?_eq_getElem hj
    have hqj := hq xs[j] (List.getElem_mem hj)
    refine ⟨?_, ?_, ?_⟩
    · rw [hget]; exact ⟨by show _ ≤ ((xs[j].1.length : Int) + (xs[j].2.length : Int)); omega, by show ((xs[j].1.length : Int) + (xs[j].2.length : Int)) < _; omega⟩
    · show _ ≤ pileLen first (xs.take (j + 1)); omega
    · show pileLen first (xs.take (j + 1)) < _; omega
  · rw [List.take_length]
    have keep : ∀ b o, b ≠ 63 → h.get? b = some o → s'.heap.get? b = some o := fun b o nb e => mv.heap b o (fun mm => by
      have := hwr b mm
      rw [show (⟨h1, gg, d, t1, os⟩ : Shared).heap.get? b = h1.get? b from rfl, k1 b o (k0 b o e)] at this; cases this) (kall b o nb e)
    refine hQ s' t' ⟨mv.os.trans hos, mv.drawn.trans hdr, AllBare.movedS (s := { s2 with toks := s2.toks + 1 }) hbare mv, keep, ?_⟩
    obtain ⟨ps, ⟨oc, ws, file, tf', flags, tg, inF, text, tt, op, c1, c2, c3, c4, c5, c6, c7, c8, c9, c10, c11⟩, ⟨oc', ws', d1, d2⟩, d3⟩ := tab2
    have hc67 : (67 : Addr) ∉ wr := fun mm => by
      obtain ⟨q, hq67⟩ : ∃ o, h.get? 67 = some o := ⟨_, hS.k _ _ (by rw [H.k]; exact rfl)⟩
      have := hwr 67 mm
      rw [show (⟨h1, gg, d, t1, os⟩ : Shared).heap.get? 67 = h1.get? 67 from rfl, k1 _ _ (k0 _ _ hq67)] at this; cases this
    exact ⟨ps, ⟨oc, ws, file, tf', flags, tg, inF, text, tt, op, mv.heap _ _ hc67 c1, c2, c3, c4, c5, c6, c7, mv.heap _ _ hPw c8, c9, c10, c11⟩, ⟨oc', ws', mv.heap _ _ hc67 d1, d2⟩, mv.heap _ _ hPw d3⟩
end Mine

namespace Mine
open PySem PySem.Calls PyProof.Rows PySem.W
theorem ln2_kind : builtinKind "len" = none := by decide +kernel
theorem ln2_plain : plainId "len" = true := by decide +kernel
theorem ln2_entry : entryFor table "len" = some Builtin.«len» := entryFor_of_tree (by kernel_rfl)
theorem ln2_args (a : Value) : argsOk "len" ⟨[a], []⟩ := by unfold argsOk; kernel_rfl
theorem len_call {C : Cx} {A : Around} {E : Value → Shared → Prop} (H : Lw C) (r : Rm 9 A) {X : List Addr} {s : Shared} {p : Addr} {first : Int} {xs : List (List Nat × List Nat)} {Q : Value → Shared → Prop} (hS : C.In s.heap) (hl : Live X s) (own : ∃ o, s.heap.get? p = some o ∧ (ocPile C.w.params 101 first xs).r (fz X s.heap) o)
    (g : GenOk C X 67 63 s) (hf0 : 0 ≤ first) (hf1 : first ≤ 1000) (hz : xs.length ≤ 1000) (hq : ∀ q ∈ xs, q.1.length + q.2.length ≤ 1000)
    (hQ : ∀ s' t', GenAfter 67 63 s s' → Q (.int (pileLen first xs) t') s') : wpAny C.M A (call (.builtin "len") [.ref p]) Q E s := by
  refine call_function_tree ln2_kind ln2_plain ln2_entry (ln2_args _) ?_
  show wpAny _ A.in1 (callSpecial? (.ref p) "__len__" [] >>= _) _ _ s
  obtain ⟨o, ho, dx, us, n, es, m, rfl, al, hdx, hf⟩ := id own
  refine wpAny_bind (special_fn (f := 68) hS.k (⟨ho, rfl, rfl, fz_le _ _ hdx⟩ : PySem.W.InstAt _ _ _ _ (some (dObj es m))) (by rw [H.k]; rfl) (by rw [H.k]; rfl) ?_)
  refine len_method H r.in1 hS hl own g hf0 hf1 hz hq fun s' t' ga => ?_
  have hb := acc_bound first hf0 hf1 xs hq
  refine wpAny_bind (wpAny_holding ?_)
  refine wpAny_pure (a := pileLen first xs) ?_
  refine wpAny_bind (wpAny_letGo ?_)
  dsimp only
  rw [if_neg (by omega), if_neg (by omega)]
  show wpAny _ _ (mkInt (pileLen first xs) >>= _) _ _ _
  refine wpAny_bind (wpAny_mkInt (wpAny_pure ?_))
  exact hQ { s' with toks := s'.toks + 1 } s'.toks ⟨ga.os, ga.drawn, ga.bare, ga.heap, ga.tab⟩
end Mine

namespace Mine
/-! law 02 as plain computation -/
noncomputable def rowF (u l : Nat) : List Int := divF 12 u l []
noncomputable def numF (row : List Int) : Int := row.foldl (fun a q => a * 256 + q) 0
noncomputable def toldF (row : List Int) : List UInt8 := apF 24 (numF row).natAbs []
noncomputable def wordF (row : List Int) : List Nat := List.replicate (2 * row.length - (toldF row).length) 65 ++ (toldF row).map fun c => c.toNat
noncomputable def wordDue (row : List Int) : List Nat := (row.map fun q => [65 + q.toNat / 16, 65 + q.toNat % 16]).flatten
noncomputable def pairsF (row : List Int) : List (List Nat × List Nat) := (List.range row.length).map fun k => ([(wordF row).getD (2 * k) 0], [(wordF row).getD (2 * k + 1) 0])
noncomputable def valP (q : List Nat × List Nat) : Int := 16 * ((q.1.getD 0 0 : Nat) : Int) + ((q.2.getD 0 0 : Nat) : Int) - 1105
noncomputable def dueF (row : List Int) : List Int := row.reverse
noncomputable def leftF (row : List Int) : Int := ((row.length % 2 * 2 : Nat) : Int) - 1
noncomputable def othersF (u l : Nat) (left : Int) : List Nat := (List.range (u - 1)).map (· + 1) |>.filter fun x => (((x : Int) * (l : Int) - left).emod (u : Int)) == 0
noncomputable def sharesF (u l : Nat) : List Nat := (List.range l).map (· + 1) |>.filter fun k => u % k == 0 && l % k == 0
noncomputable def hlF : List (List Nat × List Nat) → Int × Int
  | [] => (1, 0)
  | q :: r => let s := hlF r; (valP q * s.1 + s.2, s.1)
noncomputable def chk (u l : Nat) : Bool :=
  let row := rowF u l
  let w := wordF row
  let g := u.gcd l
  let u' := u / g
  let l' := l / g
  let left := leftF row
  let n := row.length
  let half := (pairsF row).drop (n / 2)
  let hl := hlF half
  (divF 75 u l [] == row) && decide (0 < n) && decide (n ≤ 12) && (row.all fun q => decide (0 ≤ q) && decide (q < 256)) && decide ((numF row).natAbs < 16 ^ 24) && decide ((toldF row).length ≤ 2 * n) &&
  ((cut (toldF row) none (some 1)) != [65]) && (w == wordDue row) && (w.length == 2 * n) && (w.all fun c => decide (c < 128)) &&
  ((pairsF row).map valP == row) && (sharesF u l).contains g && ((sharesF u l).all fun k => decide (k ≤ g)) &&
  ((othersF u' l' left).map (fun x => divF 12 u' x []) == [dueF row]) && decide (hl.1.natAbs < 2 ^ 60) && decide (hl.2.natAbs < 2 ^ 60) &&
  ((((l' : Int) * (l' : Int) - left).emod (u' : Int)) != 0 || ((u' : Int) == (if n % 2 == 0 then hl.1 * hl.1 + hl.2 * hl.2 else hl.2 * (2 * hl.1 - (half.head?.map valP).getD 0 * hl.2))))
noncomputable def chkAll (us : List Nat) : Bool := us.all fun u => (List.range ((u - 1) / 2)).all fun k => chk u (k + 1)
end Mine

namespace Mine
open PySem PySem.Calls PyProof.Rows PySem.W
/-- the table of nested codes of __len__ -/
noncomputable def ocTab : Oc := ⟨fun _ o => ∃ ps, o = { cls := .none, data := .fields ps } ∧ TriplesOk ps.toList, fun _ h => h⟩
theorem mulok_r {a b : Int} (h1 : -(2 ^ 64) < b) (h2 : b < 2 ^ 64) : IntMulOk a b := .of_right (intBits_le_64 h1 h2)
theorem mem_up {k : Nat} {x : Int} (h : x ∈ rangeL (0, 1, k)) : ∃ i : Nat, i < k ∧ x = i := by
  rw [iter_up] at h
  obtain ⟨i, hi, rfl⟩ := List.mem_map.mp h
  exact ⟨i, List.mem_range.mp hi, rfl⟩
theorem up_map {β : Type} (k : Nat) (f : Int → β) : ((rangeL (0, 1, k)).filter fun _ => true).map f = (List.range k).map fun i : Nat => f ((i : Nat) : Int) := by
  rw [iter_up, List.filter_eq_self.mpr fun _ _ => rfl, List.map_map]; rfl
/-- the names that law 02 reads -/
structure Lw2 (C : Cx) : Prop extends Lw C where
  ws : C.mg "Whitespace" = some (.ref 174)
  acc : C.mg "_Accumulator" = some (.ref 101)
  divs : C.mg "_law_divisions" = some (.ref 185)
  stops : C.mg "_law_stops" = some (.ref 192)
noncomputable abbrev eL (P : Params) (L fa : Addr) : Env := callEnvC (fd197 P).1 L fa
theorem sizeL {n : Nat} (h : n ≤ 100000) : n ≤ sizeLine := Nat.le_trans h (by decide)
end Mine

namespace Mine
open PySem PySem.Calls PyProof.Rows PySem.W
/-- the state beside the heap: gens may grow -/
structure RhoOk (ρ : Rst) : Prop where
  bare : ∀ s, ρ.p s → AllBare s.gens
  next : ∀ s s', ρ.p s → s'.os = s.os → AllBare s'.gens → ρ.p s'
section
variable {C : Cx} {A : Around} {env : Env} {ρ : Rst} {G G' : PM} {X X' : List Addr} {O : Own} {V V' : Vars} {α β γ δ σ ι : Type} {pos : Pos} {rest : List Stmt} {P : Flow → Shared → Prop}
theorem FS.gens {s s' : Shared} (f : FS C env ρ G X O V s) (e : s'.heap = s.heap) (h : ρ.p s') : FS C env ρ G X O V s' := by
  obtain ⟨⟨a1, a2, a3, a4, a5, a6, a7⟩, b, c, d, e1, e2, e3, e4, e5, e6, e7⟩ := f
  rw [← e] at a1 a5 a6 a7 d e5
  exact ⟨⟨a1, a2, a3, a4, a5, a6, a7⟩, h, c, d, e1, e2, e3, e4, e5, e6, e7⟩
theorem tab_of {s : Shared} (H : Lw C) (hS : C.In s.heap) (h : ∃ o, s.heap.get? 63 = some o ∧ ocTab.r (fz X s.heap) o) : TabS s.heap 67 63 := by
  obtain ⟨o, ho, ps, rfl, tr⟩ := h
  have h67 := hS.k 67 _ (by rw [H.k]; exact rfl)
  exact ⟨ps, ⟨_, _, _, _, _, _, _, _, _, _, h67, rfl, rfl, rfl, rfl, rfl, rfl, ho, rfl, tr, by decide⟩, ⟨_, _, h67, rfl, rfl, rfl⟩, ho⟩
theorem of_tab {h : Heap} (t : TabS h 67 63) {F : PM} : ∃ o, h.get? 63 = some o ∧ ocTab.r F o := by
  obtain ⟨ps, ⟨o, ws, file, tf', flags, tg, inF, text, tt, op, c1, c2, c3, c4, c5, c6, c7, c8, c9, c10, c11⟩, _, hp⟩ := t
  exact ⟨_, hp, ps, rfl, c10⟩
theorem FS.genOk {s : Shared} {p : Addr} {F : Oc} (H : Lw C) (hρ : RhoOk ρ) (f : FS C env ρ G X ((p, F) :: [((63 : Addr), ocTab)]) V s) : GenOk C X 67 63 s := by
  have f' := f.oswap
  exact ⟨tab_of H f.kn.base (f'.kn.own 63 _ look_hd), fun h' k => f.bs h' fun b o e => k b o (fun q => by rw [q, f'.gn 63 (.tail _ (List.mem_append_right _ (.head _)))] at e; cases e) (f.keep b o e), hρ.bare _ f.rs, (f'.ox 63 (.head _)).1⟩
theorem FS.after {s s' : Shared} {p : Addr} {F : Oc} (hρ : RhoOk ρ) (f : FS C env ρ G X ((p, F) :: [((63 : Addr), ocTab)]) V s) (ga : GenAfter 67 63 s s') : FS C env ρ G X ((p, F) :: [((63 : Addr), ocTab)]) V s' := by
  have kb : KB [63] s { s with heap := s'.heap, toks := s'.toks } := ⟨s'.heap, s'.toks, rfl, fun b o n e => ga.heap b o (fun q => n (q ▸ .head _)) e⟩
  obtain ⟨o, ho, hF⟩ := of_tab (F := fz X s'.heap) ga.tab
  exact ((f.oswap.set (F' := ocTab) kb ho hF).oswap).gens rfl (hρ.next s s' f.rs ga.os ga.bare)
/-- if (pile.pop(), len(pile)) != (('', ''), first), the pile empty -/
theorem sb_poplen {pn fn : Str} {p : Addr} {first : Nat} {pp1 pp2 pp3 ap1 cp1 cp2 tp1 tp2 tp3 tp4 lp np1 np2 : Pos} {n1 n2 n3 k1 k2 : Nat} {body : List Stmt} {pl : Sem Bool} (H : Lw C) (hρ : RhoOk ρ) (r : Rm 20 A) (hf : first < 3)
    (hv : V.lookup pn = some (rVal.at (.ref p))) (hfi : V.lookup fn = some (rInt.at (first : Int))) (hln : env.kindOf "len" = some .globalImplicit) (hd1 : (pn == ("__debug__" : Str)) = false) (hd2 : (fn == ("__debug__" : Str)) = false) (M : MethL C.K 101 "pop" 61)
    (hrest : SB C A env ρ G X ((p, ocPile C.w.params 101 first []) :: [((63 : Addr), ocTab)]) V rest P)
    (he : McEq env (.Name pn pp1) "pop" ap1 cp1 [] pl)
    (hce : ∀ pos, eval (.Call (.Name "len" lp) [.Name pn pp2] [] pos) env = (do callWith pos (← eval (.Name "len" lp) env) [] (backTo pos (starEach [.Name pn pp2] env)) (backToKw pos (keywordEach [] env))) := by intro _; rfl) :
    SB C A env ρ G X ((p, ocPile C.w.params 101 first []) :: [((63 : Addr), ocTab)]) V
      (.If (.Compare (.Tuple [.Call (.Attribute (.Name pn pp1) "pop" ap1) [] [] cp1, .Call (.Name "len" lp) [.Name pn pp2] [] cp2] n1 tp1) [.NotEq] [.Tuple [.Tuple [.Constant (.str "") k1 np1, .Constant (.str "") k2 np2] n2 tp2, .Name fn pp3] n3 tp3] tp4) body [] pos :: rest) P := fun s f => by
  refine wpAny_execs_cons (wpAny_If (wpAny_isTrue_Compare1 (Tuple_ (args_cons (Ev.use (PE.on (pe_meth (pl := pl) hv look_hd M pl_nil (pop_empty H (r.less (by decide))) (by decide) hd1 he) f.kn) fun v1 s1 g1 r1 => args_cons ?_ rfl) rfl)) rfl))
  have f1 := f.keeps g1
  refine Call_ (Ev.use (PE.on (pe_builtin (H.bn "len" (by decide)) boot_len (by decide) hln) f1.kn) fun v2 s2 g2 e2 => ?_) (hce _)
  cases e2
  have f2 := f1.keeps g2
  have r1' := (rT2 rTxt rTxt).mono (fz_gr (X := X) (keeps_gr g2)) r1
  refine Calls.callWith_builtin rfl (Calls.evalArgs_plain (Calls.spliced_cons ?_))
  obtain ⟨v, sv, rfl⟩ := f2.kn.vars _ _ hv
  refine wpAny_Name (sv.load f2.kn.fn (Calls.spliced_nil ?_)) hd1
  refine len_call H (r.less (by decide)) f2.kn.base f2.kn.alive (f2.kn.own p _ look_hd) (f2.genOk H hρ) (by omega) (by omega) (by decide) (fun q m => by cases m) fun s3 t3 ga => ?_
  have f3 := f2.after hρ ga
  have r3 : (rT2 rTxt rTxt).r (fz X s3.heap) ([], []) v1 := (rT2 rTxt rTxt).mono (fz_but fun b o n e => ⟨ga.heap b o (fun q => n (q ▸ (f2.oswap.ox 63 (.head _)).1)) e, n⟩) r1'
  refine args_nil ?_
  refine wpAny_mono (newTuple_ev (vs := [v1, .int (pileLen first []) t3]) f3.kn.alive (sizeL (by show 2 ≤ 100000; decide))) (fun w s4 q4 => ?_) fun _ _ e => e.elim
  obtain ⟨g4, hw⟩ := q4
  have f4 := f3.keeps g4
  have rw4 : (rT2 (rT2 rTxt rTxt) rInt).r (fz X s4.heap) (([], []), (first : Int)) w := ⟨_, _, hw, (rT2 rTxt rTxt).mono (fz_gr (keeps_gr g4)) r3, t3, by rw [show pileLen (first : Int) [] = first by unfold pileLen; simp]⟩
  refine Ev.use (PE.on (pe_t2 (R := rT2 rTxt rTxt) (S := rInt) (x := ([], [])) (y := (first : Int)) (pl_cons (pe_t2 (R := rTxt) (S := rTxt) (x := []) (y := []) (pl_cons (pe_strL rfl) (pl_cons (pe_strL rfl) pl_nil))) (pl_cons (pe_name hfi hd2) pl_nil))) f4.kn) fun v5 s5 g5 r5 => ?_
  have f5 := f4.keeps g5
  have hcmp := c_ne (C := C) (A := A) (qe_t2 (qe_t2 qe_txt qe_txt) qe_int) (x := (([], []), (first : Int))) (y := (([], []), (first : Int))) (by constructor; (constructor <;> (intro c m; cases m)); trivial) (by constructor; (constructor <;> (intro c m; cases m)); trivial) (r.less (by decide)) (by decide)
  refine Ev.use (hcmp X s5 w v5 f5.kn.base f5.kn.alive ((rT2 (rT2 rTxt rTxt) rInt).mono (fz_gr (keeps_gr g5)) rw4) r5) fun vb s6 g6 hb => ?_
  rw [hb, show (!decide (((([], []), (first : Int)) : (List Nat × List Nat) × Int) = (([], []), (first : Int)))) = false by simp]
  refine wpAny_truthy_bool ?_
  exact wpAny_execs_nil (hrest s6 (f5.keeps g6))
end
end Mine

namespace Mine
open PySem PySem.Calls PyProof.Rows PySem.W
theorem take_succ_get {α : Type} {l : List α} {i : Nat} {x : α} (h : l[i]? = some x) : l.take (i + 1) = l.take i ++ [x] := by rw [List.take_succ, h]; rfl
theorem nbl {n : Int} (h : n.natAbs < 2 ^ 60) : -(2 ^ 64) < n := by omega
theorem nbu {n : Int} (h : n.natAbs < 2 ^ 60) : n < 2 ^ 64 := by omega
theorem sub_a {n i : Nat} (h : i < n) : n - i = n - 1 - i + 1 := (Nat.succ_pred_eq_of_pos (Nat.sub_pos_of_lt h)).symm.trans (by rw [Nat.sub_right_comm]; rfl)
theorem sub_b (n i : Nat) : n - (i + 1) = n - 1 - i := by rw [Nat.sub_sub, Nat.add_comm]
theorem sub_c {n i : Nat} (h : i < n) : n - (i + 1) + 1 = n - i := by rw [sub_b]; exact (sub_a h).symm
theorem half_lt {n k : Nat} (h : 0 < n) : n / 2 + (n - n / 2 - (k + 1)) < n := by
  have h1 : n / 2 < n := Nat.div_lt_self h (by decide)
  exact Nat.lt_of_lt_of_le (Nat.add_lt_add_left (Nat.sub_lt (Nat.sub_pos_of_lt h1) (Nat.succ_pos _)) _) (Nat.le_of_eq (Nat.add_sub_cancel' (Nat.le_of_lt h1)))
theorem half_a {n : Nat} (h : 0 < n) : n - n / 2 = n - n / 2 - 1 + 1 := (Nat.succ_pred_eq_of_pos (Nat.sub_pos_of_lt (Nat.div_lt_self h (by decide)))).symm
theorem sub_fit {m k : Nat} (h : m ≤ 12) : ((m - k : Nat) : Int) < 2 ^ 63 := Int.lt_of_le_of_lt (Int.ofNat_le.mpr (Nat.le_trans (Nat.sub_le _ _) h)) (by decide)
theorem len_fit {m : Nat} (h : m ≤ 12) : m < 2 ^ 62 := Nat.lt_of_le_of_lt h (by decide)
theorem int_sub {n i : Nat} (h : i < n) : (n : Int) - 1 + (i : Int) * (-1) = ((n - (i + 1) : Nat) : Int) := by rw [Int.natCast_sub h]; omega
theorem tn_a {n i : Nat} (h : i < n) : ((n : Int) - 1 - (i : Int)).toNat = n - 1 - i := by
  rw [← sub_b, show (n : Int) - 1 - (i : Int) = ((n - (i + 1) : Nat) : Int) by rw [Int.natCast_sub h]; omega, Int.toNat_natCast]
theorem tn_b {a b : Nat} (h : b ≤ 2 * a) : (2 * (a : Int) - (b : Int)).toNat = 2 * a - b := by
  rw [show 2 * (a : Int) - (b : Int) = ((2 * a - b : Nat) : Int) by rw [Int.natCast_sub h]; omega, Int.toNat_natCast]
theorem two12 {n : Nat} (h : n ≤ 12) : n + (n - n / 2) < 1000 := Nat.lt_of_le_of_lt (Nat.add_le_add h (Nat.le_trans (Nat.sub_le _ _) h)) (by decide)
theorem pairs_get {row : List Int} {i : Nat} (h : i < row.length) : (pairsF row)[i]? = some ([(wordF row).getD (2 * i) 0], [(wordF row).getD (2 * i + 1) 0]) := by
  unfold pairsF; rw [List.getElem?_map, List.getElem?_range h]; rfl
theorem pairs_len (row : List Int) : (pairsF row).length = row.length := by simp [pairsF]
noncomputable def plF (row : List Int) : Nat → List (List Nat × List Nat)
  | 0 => pairsF row
  | i + 1 => (pairsF row).take (row.length - (i + 1))
theorem plF_eq (row : List Int) : ∀ i, plF row i = (pairsF row).take (row.length - i)
  | 0 => (List.take_of_length_le (by have := pairs_len row; show (pairsF row).length ≤ row.length - 0; omega)).symm
  | _ + 1 => rfl
theorem cut_tail {α : Type} (l : List α) (i : Nat) : cut l (some i) none = l.drop i := by
  unfold cut; simp only [Option.getD_some, Option.getD_none]; exact List.take_of_length_le (by rw [List.length_drop]; omega)
theorem law2_t2 {C : Cx} {A : Around} {ρ : Rst} {G : PM} {X : List Addr} {L fa : Addr} {P : Flow → Shared → Prop} (H : Lw2 C) (hρ : RhoOk ρ) (r : Rm 24 A) {u l b f : Nat} {row : List Int} (hn0 : 0 < row.length) (hn12 : row.length ≤ 12) (hwl : (wordF row).length = 2 * row.length) (hw128 : ∀ c ∈ wordF row, c < 128) (hval : (pairsF row).map valP = row) (hf : f < 3)
    (hrest : ∀ X', (∀ b ∈ X, b ∈ X') → ∀ p, SB C A (eL C.w.params L fa) ρ G X' [(p, ocPile C.w.params 101 (f : Int) []), ((63 : Addr), ocTab)] [("turned", (rList rInt).at (dueF row)), ("half", (rList (rT2 rTxt rTxt)).at ((pairsF row).drop (row.length / 2))), ("pile", rVal.at (.ref p)), ("due", (rList rInt).at (dueF row)), ("row", (rList rInt).at row), ("lower", rInt.at (l : Int)), ("upper", rInt.at (u : Int)), ("behind", rInt.at (b : Int)), ("first", rInt.at (f : Int))] ((body197 C.w.params).1.drop 22) P) :
    SB C A (eL C.w.params L fa) ρ G X [((63 : Addr), ocTab)] [("word", rTxt.at (wordF row)), ("due", (rList rInt).at (dueF row)), ("row", (rList rInt).at row), ("lower", rInt.at (l : Int)), ("upper", rInt.at (u : Int)), ("behind", rInt.at (b : Int)), ("first", rInt.at (f : Int))]
      ((body197 C.w.params).1.drop 16) P := by
  have H1 : Lw C := H.toLw
  have lenK : C.mg "len" = none := H.bn _ (by decide)
  have Mpush : MethL C.K 101 "push" 45 := by rw [H.k]; exact ⟨rfl, rfl, rfl, rfl, rfl⟩
  have Mpf : MethL C.K 101 "pop_from" 53 := by rw [H.k]; exact ⟨rfl, rfl, rfl, rfl, rfl⟩
  have Mpop : MethL C.K 101 "pop" 61 := by rw [H.k]; exact ⟨rfl, rfl, rfl, rfl, rfl⟩
  have hpl := pairs_len row
  refine sb_newpile H1 H.acc rfl (r.less (by decide)) (pe_name rfl) (.inl rfl) fun p hp => ?_
  let VP : Vars := [("pile", rVal.at (.ref p)), ("word", rTxt.at (wordF row)), ("due", (rList rInt).at (dueF row)), ("row", (rList rInt).at row), ("lower", rInt.at (l : Int)), ("upper", rInt.at (u : Int)), ("behind", rInt.at (b : Int)), ("first", rInt.at (f : Int))]
  refine sb_forN (xs := rangeL (0, 1, row.length)) (R := rInt) (fun i => [(p, ocPile C.w.params 101 (f : Int) ((pairsF row).take i)), ((63 : Addr), ocTab)]) (fun i => VP) (fun x => [("k", rInt.at x)])
    (pe_call (pe_builtin (H.bn _ (by decide)) boot_range (by decide) rfl) keepy_type (pl_cons (pe_call (pe_builtin lenK boot_len (by decide) rfl) keepy_builtin (pl_cons (pe_name (R := rList rInt) (a := row) rfl) pl_nil) (f_len_list (by omega))) pl_nil) (f_range1 rfl (by omega)))
    (iter_range (.inl ⟨_, _, rfl⟩) (r.less (by decide))) (asg_name (.inl rfl)) ⟨rfl, rfl, rfl, rfl, rfl, rfl, rfl, rfl, trivial⟩ (fun G' X' i a hX hx => ?_) ?_
  · obtain ⟨hi, rfl⟩ := rangeL_get hx
    have hg1 : (wordF row)[2 * i]? = some ((wordF row).getD (2 * i) 0) := by rw [List.getD_eq_getElem?_getD, List.getElem?_eq_getElem (by omega)]; rfl
    have hg2 : (wordF row)[2 * i + 1]? = some ((wordF row).getD (2 * i + 1) 0) := by rw [List.getD_eq_getElem?_getD, List.getElem?_eq_getElem (by omega)]; rfl
    have hk : (0 : Int) + (i : Int) * 1 = (i : Int) := by omega
    rw [hk]
    refine sb_meth rfl Mpush (pl_cons (pe_item_txt (l := wordF row) (c := (wordF row).getD (2 * i) 0) (pe_name rfl) ((pe_bin pe_int (pe_name rfl) (b_mul_int (mulok (by decide) (by decide)))).cast (y := ((2 * i : Nat) : Int)) (by omega)) (by omega) (by rw [Int.toNat_natCast]; exact hg1) (by omega))
      (pl_cons (pe_item_txt (l := wordF row) (c := (wordF row).getD (2 * i + 1) 0) (pe_name rfl) ((pe_bin (pe_bin pe_int (pe_name rfl) (b_mul_int (mulok (by decide) (by decide)))) pe_int b_add_int).cast (y := ((2 * i + 1 : Nat) : Int)) (by omega)) (by omega) (by rw [Int.toNat_natCast]; exact hg2) (by omega)) pl_nil)) (push_call H1 (r.less (by decide)) (by rw [List.length_take]; omega)) ?_
    rw [← take_succ_get (pairs_get hi)]
    exact sb_nil fun s f => f.sub ⟨rfl, rfl, rfl, rfl, rfl, rfl, rfl, rfl, trivial⟩
  have hall : (pairsF row).take (rangeL (0, 1, row.length)).length = pairsF row := by rw [rangeL_len]; exact List.take_of_length_le (by rw [hpl]; exact Nat.le_refl _)
  rw [hall]
  -- half
  refine sb_meth_assign rfl Mpf (pl_cons ((pe_bin (pe_call (pe_builtin lenK boot_len (by decide) rfl) keepy_builtin (pl_cons (pe_name (R := rList rInt) (a := row) rfl) pl_nil) (f_len_list (by omega))) pe_int (b_div_int (by decide) (PyProof.noPylong_small (by decide)))).cast (y := ((row.length / 2 : Nat) : Int)) (by rw [Int.fdiv_eq_ediv_of_nonneg _ (by decide)]; rfl)) pl_nil) (popfrom_call H1 (r.less (by decide)) (by omega)) (.inl rfl) ?_
  rw [cut_tail]
  let half := (pairsF row).drop (row.length / 2)
  have hhl : half.length = row.length - row.length / 2 := by show ((pairsF row).drop _).length = _; rw [List.length_drop, hpl]
  have e0 : (pairsF row).take (row.length / 2) = (pairsF row).take (row.length / 2) ++ half.take 0 := by rw [List.take_zero, List.append_nil]
  rw [e0]
  let VH : Vars := ("half", (rList (rT2 rTxt rTxt)).at half) :: VP
  refine sb_forN (xs := half) (R := rT2 rTxt rTxt) (fun i => [(p, ocPile C.w.params 101 (f : Int) ((pairsF row).take (row.length / 2) ++ half.take i)), ((63 : Addr), ocTab)]) (fun i => VH) (fun y => [("letter", rTxt.at y.2), ("ahead", rTxt.at y.1)])
    (pe_name (R := rList (rT2 rTxt rTxt)) (a := half) rfl) (iter_list (.inr ⟨_, _, _, rfl⟩) (r.less (by decide))) (asg_t2 (r.less (by decide)) (.inl rfl) (.inl rfl)) ⟨rfl, rfl, rfl, rfl, rfl, rfl, rfl, rfl, rfl, trivial⟩ (fun G' X' i y hX hx => ?_) ?_
  · refine sb_meth rfl Mpush (pl_cons (pe_name rfl) (pl_cons (pe_name rfl) pl_nil)) (push_call (a := y.1) (b := y.2) H1 (r.less (by decide)) (by rw [List.length_append, List.length_take, List.length_take]; exact Nat.lt_of_le_of_lt (Nat.add_le_add (Nat.le_trans (Nat.min_le_right _ _) (Nat.le_of_eq hpl)) (Nat.le_trans (Nat.min_le_right _ _) (Nat.le_of_eq hhl))) (two12 hn12))) ?_
    rw [List.append_assoc, show (y.1, y.2) = y from rfl, ← take_succ_get hx]
    exact sb_nil fun s f => f.sub ⟨rfl, rfl, rfl, rfl, rfl, rfl, rfl, rfl, rfl, trivial⟩
  rw [List.take_length, List.take_append_drop]
  refine sb_newlist (R := rInt) (xs := []) pl_nil (by decide) (.inl rfl) fun a ha => ?_
  have hrev : ∀ i, i < row.length → (pairsF row)[row.length - 1 - i]? = some ([(wordF row).getD (2 * (row.length - 1 - i)) 0], [(wordF row).getD (2 * (row.length - 1 - i) + 1) 0]) := fun i hi => pairs_get (by omega)
  let VT : Vars := ("turned", rVal.at (.ref a)) :: VH
  refine sb_forN (xs := rangeL (0, 1, row.length)) (R := rInt) (fun i => [(a, ocList rInt ((dueF row).take i)), (p, ocPile C.w.params 101 (f : Int) (plF row i)), ((63 : Addr), ocTab)]) (fun i => VT) (fun x => [("k", rInt.at x)])
    (pe_call (pe_builtin (H.bn _ (by decide)) boot_range (by decide) rfl) keepy_type (pl_cons (pe_call (pe_builtin lenK boot_len (by decide) rfl) keepy_builtin (pl_cons (pe_name (R := rList rInt) (a := row) rfl) pl_nil) (f_len_list (by omega))) pl_nil) (f_range1 rfl (by omega)))
    (iter_range (.inl ⟨_, _, rfl⟩) (r.less (by decide))) (asg_name (.inl rfl)) ⟨rfl, rfl, rfl, rfl, rfl, rfl, rfl, rfl, rfl, rfl, trivial⟩ (fun G' X' i k hX hx => ?_) ?_
  · obtain ⟨hi, rfl⟩ := rangeL_get hx
    have hi : i < row.length := hi
    obtain ⟨c, hc⟩ : ∃ c, c = (wordF row).getD (2 * (row.length - 1 - i)) 0 := ⟨_, rfl⟩
    obtain ⟨d, hd⟩ : ∃ d, d = (wordF row).getD (2 * (row.length - 1 - i) + 1) 0 := ⟨_, rfl⟩
    have hg := hrev i hi
    rw [← hc, ← hd] at hg
    have hpl1 : plF row i = plF row (i + 1) ++ [([c], [d])] := by
      rw [plF_eq, plF_eq, show row.length - i = (row.length - 1 - i) + 1 from sub_a hi, take_succ_get hg, show row.length - (i + 1) = row.length - 1 - i from sub_b _ _]
    have hval1 : row[row.length - 1 - i]? = some (16 * (c : Int) + (d : Int) - 1105) := by
      rw [← hval, List.getElem?_map, show (List.map valP (pairsF row)).length - 1 - i = row.length - 1 - i by rw [hval], hg]; rfl
    have hdue1 : (dueF row)[i]? = some (16 * (c : Int) + (d : Int) - 1105) := by
      unfold dueF; rw [List.getElem?_reverse hi]; exact hval1
    rw [hpl1]
    refine sb_oswap (sb_meth_assign2 (R := rTxt) (S := rTxt) (a := [c]) (b := [d]) (r.less (by decide)) rfl Mpop pl_nil (pop_call H1 (r.less (by decide)) (by rw [plF_eq, List.length_take]; omega)) (.inl rfl) (.inl rfl) (sb_oswap ?_))
    refine sb_append (R := rInt) (xs := (dueF row).take i) (y := 16 * (c : Int) + (d : Int) - 1105) rfl (pe_bin (pe_bin (pe_bin pe_int (pe_call (pe_builtin (H.bn _ (by decide)) boot_ord (by decide) rfl) keepy_builtin (pl_cons (pe_name rfl) pl_nil) (f_ord (c := c))) (b_mul_int (mulok (by decide) (by decide)))) (pe_call (pe_builtin (H.bn _ (by decide)) boot_ord (by decide) rfl) keepy_builtin (pl_cons (pe_name rfl) pl_nil) (f_ord (c := d))) b_add_int) pe_int b_sub_int) (sizeL (by rw [List.length_take]; omega)) ?_
    rw [← take_succ_get hdue1]
    exact sb_nil fun s f => f.sub ⟨rfl, rfl, rfl, rfl, rfl, rfl, rfl, rfl, rfl, rfl, trivial⟩
  have hend1 : (dueF row).take (rangeL (0, 1, row.length)).length = dueF row := by rw [rangeL_len]; exact List.take_of_length_le (by simp [dueF])
  have hend2 : plF row (rangeL (0, 1, row.length)).length = [] := by rw [rangeL_len, plF_eq, Nat.sub_self, List.take_zero]
  rw [hend1, hend2]
  refine sb_freeze (x := "turned") rfl ha ?_
  exact (hrest (p :: X) (fun b m => .tail _ m) p).sub ⟨rfl, rfl, rfl, rfl, rfl, rfl, rfl, rfl, rfl, trivial⟩
end Mine

namespace Mine
open PySem PySem.Calls PyProof.Rows PySem.W
theorem fmod_nat (a b : Nat) : ((a : Int).fmod (b : Int)) = ((a % b : Nat) : Int) := by rw [Int.fmod_eq_emod_of_nonneg _ (by omega)]; rfl
theorem fdiv_nat (a b : Nat) : ((a : Int).fdiv (b : Int)) = ((a / b : Nat) : Int) := by rw [Int.fdiv_eq_ediv_of_nonneg _ (by omega)]; rfl
theorem up1 (k : Nat) : rangeL (1, 1, k) = ((List.range k).map (· + 1)).map fun n : Nat => (n : Int) := by
  unfold rangeL; rw [List.map_map]; refine List.map_congr_left fun i _ => ?_
  show (1 : Int) + (i : Int) * 1 = ((i + 1 : Nat) : Int); omega
theorem filter_cast (q : Int → Bool) (p : Nat → Bool) (h : ∀ l : List Nat, True) : ∀ l : List Nat, (∀ n ∈ l, q (n : Int) = p n) → ((l.map fun n : Nat => (n : Int)).filter q).map (fun x => x) = (l.filter p).map fun n : Nat => (n : Int)
  | [], _ => rfl
  | n :: l, hq => by
    have ih := filter_cast q p h l fun m hm => hq m (.tail _ hm)
    rw [List.map_cons, List.filter_cons, List.filter_cons, hq n (.head _)]
    cases p n with
    | true => rw [if_pos rfl, if_pos rfl, List.map_cons, List.map_cons, ih]
    | false => rw [if_neg (by decide), if_neg (by decide), ih]
theorem shares_eq (u l : Nat) : ((rangeL (1, 1, l)).filter fun x => ((u : Int).fmod x == 0) && ((l : Int).fmod x == 0)).map (fun x => x) = (sharesF u l).map fun n : Nat => (n : Int) := by
  rw [up1]
  refine filter_cast _ (fun k => u % k == 0 && l % k == 0) (fun _ => trivial) _ fun n hn => ?_
  rw [fmod_nat, fmod_nat]
  congr 1 <;> exact Bool.eq_iff_iff.mpr (by simp only [beq_iff_eq]; omega)
theorem others_eq (u l : Nat) (left : Int) : ((rangeL (1, 1, u - 1)).filter fun x => (x * (l : Int) - left).fmod (u : Int) == 0).map (fun x => x) = (othersF u l left).map fun n : Nat => (n : Int) := by
  rw [up1]
  refine filter_cast _ (fun x => (((x : Int) * (l : Int) - left).emod (u : Int)) == 0) (fun _ => trivial) _ fun n hn => ?_
  rw [Int.fmod_eq_emod_of_nonneg _ (by omega)]; rfl
section
variable {C : Cx} {A : Around} {env : Env} {ρ : Rst} {G G' : PM} {X X' : List Addr} {O : Own} {V V' : Vars} {pos : Pos} {rest : List Stmt} {P : Flow → Shared → Prop}
theorem sb_ifRet {test : Expr} {body orelse : List Stmt} (ht : PT C A env X O V test true) (h1 : SB C A env ρ G X O V body (PN P fun _ => False)) : SB C A env ρ G X O V (.If test body orelse pos :: rest) P := fun s f =>
  wpAny_execs_cons (wpAny_If (wpAny_mono (ht s f.kn) (fun c s1 q => by
    obtain ⟨g, rfl⟩ := q
    exact wpAny_mono (h1 s1 (f.keeps g)) (fun fl s2 q => by cases fl <;> first | exact q.elim | exact q) fun _ _ e => e) fun _ _ e => e))
end
set_option maxHeartbeats 4000000
theorem law2_t3 {C : Cx} {A : Around} {ρ : Rst} {G : PM} {X : List Addr} {L fa : Addr} {P : Flow → Shared → Prop} (H : Lw2 C) (hρ : RhoOk ρ) (r : Rm 24 A) {u l b f : Nat} {row : List Int} {p : Addr} {g u' l' : Nat} {left : Int} {half : List (List Nat × List Nat)} (hg : g = u.gcd l) (hu' : u' = u / g) (hl' : l' = l / g) (hleft : left = leftF row) (hhalf : half = (pairsF row).drop (row.length / 2))
    (hn0 : 0 < row.length) (hn12 : row.length ≤ 12) (hu : u < 73) (hl0 : 0 < l) (hl : l < u) (hb : b < 4) (hf : f < 3)
    (hsh : (sharesF u l).contains g = true) (hshle : ∀ k ∈ sharesF u l, k ≤ g) (hoth : (othersF u' l' left).map (fun x => divF 12 u' x []) = [dueF row]) (hb1 : (hlF half).1.natAbs < 2 ^ 60) (hb2 : (hlF half).2.natAbs < 2 ^ 60) (hval : (pairsF row).map valP = row) (hq : ∀ q ∈ row, 0 ≤ q ∧ q < 256)
    (hfin : ((((l' : Int) * (l' : Int) - left).emod (u' : Int)) != 0 || ((u' : Int) == (if row.length % 2 = 0 then (hlF half).1 * (hlF half).1 + (hlF half).2 * (hlF half).2 else (hlF half).2 * (2 * (hlF half).1 - (half.head?.map valP).getD 0 * (hlF half).2)))) = true)
    (hP : ∀ s X' O' V', FS C (eL C.w.params L fa) ρ G X' O' V' s → O'.lookup (63 : Addr) = some ocTab → P (.ret (.bool true)) s) :
    SB C A (eL C.w.params L fa) ρ G X [(p, ocPile C.w.params 101 (f : Int) []), ((63 : Addr), ocTab)] [("turned", (rList rInt).at (dueF row)), ("half", (rList (rT2 rTxt rTxt)).at half), ("pile", rVal.at (.ref p)), ("due", (rList rInt).at (dueF row)), ("row", (rList rInt).at row), ("lower", rInt.at (l : Int)), ("upper", rInt.at (u : Int)), ("behind", rInt.at (b : Int)), ("first", rInt.at (f : Int))] ((body197 C.w.params).1.drop 22) P := by
  have H1 : Lw C := H.toLw
  have lenK : C.mg "len" = none := H.bn _ (by decide)
  have Mpop : MethL C.K 101 "pop" 61 := by rw [H.k]; exact ⟨rfl, rfl, rfl, rfl, rfl⟩
  refine sb_poplen (first := f) H1 hρ (r.less (by decide)) hf rfl rfl rfl (by decide) (by decide) Mpop ?_ rfl
  have hgpos : 0 < g := by rw [hg]; exact Nat.gcd_pos_of_pos_right _ hl0
  -- share
  refine sb_assign (R := rInt) (a := (g : Int)) (pe_call (pe_builtin (H.bn _ (by decide)) boot_max (by decide) rfl) keepy_builtin (pl_cons (pe_comp (V' := [("lower", rInt.at (l : Int)), ("upper", rInt.at (u : Int))]) (R := rInt) (T := rInt) (xs := rangeL (1, 1, l)) (B := fun x => [("k", rInt.at x)]) (fun x => ((u : Int).fmod x == 0) && ((l : Int).fmod x == 0)) (fun x => x) rfl rfl (by decide)
    (pe_call (pe_builtin (H.bn _ (by decide)) boot_range (by decide) rfl) keepy_type (pl_cons pe_int (pl_cons (pe_bin (pe_name (R := rInt) (a := (l : Int)) rfl) pe_int b_add_int) pl_nil)) (f_range2 (k := l) (by split <;> omega) (by omega) (by omega) (by omega) (by omega))) (iter_range (.inl ⟨_, _, rfl⟩) (r.less (by decide))) (by rw [rangeL_len]; exact sizeL (by show l ≤ _; omega)) (fun D => tgt_local rfl rfl)
    (fun D => ⟨⟨rfl, .inl rfl, .inl rfl, rfl⟩, ⟨rfl, .inl rfl, .inl rfl, rfl⟩, trivial⟩)
    (fun D Y a ha => by
      rw [up1] at ha
      obtain ⟨n, hn, rfl⟩ := List.mem_map.mp ha
      obtain ⟨m, _, rfl⟩ := List.mem_map.mp hn
      exact pt_and (pt_cmp (pe_bin (pe_name rfl) (pe_name rfl) (b_mod_int (by omega))) pe_int c_eq_int) fun _ => pt_cmp (pe_bin (pe_name rfl) (pe_name rfl) (b_mod_int (by omega))) pe_int c_eq_int)
    (fun D Y a ha _ => pe_name rfl)) pl_nil) (f_max_ints (m := (g : Int)) (r.less (by decide)) (by rw [shares_eq]; exact List.mem_map.mpr ⟨g, List.contains_iff_mem.mp hsh, rfl⟩) (by
      rw [shares_eq]; intro x hx
      obtain ⟨k, hk, rfl⟩ := List.mem_map.mp hx
      have := hshle k hk; omega))) (.inl rfl) ?_
  -- upper, lower = (upper // share, lower // share)
  have hgle : g ≤ u := by rw [hg]; exact Nat.gcd_le_left _ (by omega)
  refine sb_assign2 (R := rInt) (S := rInt) (a := (u' : Int)) (b := (l' : Int)) (r.less (by decide)) (pe_t2 (pl_cons ((pe_bin (pe_name rfl) (pe_name rfl) (b_div_int (by omega) (PyProof.noPylong_small (by omega)))).cast (y := (u' : Int)) (by rw [fdiv_nat, hu'])) (pl_cons ((pe_bin (pe_name rfl) (pe_name rfl) (b_div_int (by omega) (PyProof.noPylong_small (by omega)))).cast (y := (l' : Int)) (by rw [fdiv_nat, hl'])) pl_nil))) (.inr ⟨rfl, _, rfl⟩) (.inr ⟨rfl, _, rfl⟩) ?_
  have hu'pos : 0 < u' := by rw [hu']; exact Nat.div_pos (by rw [hg]; exact Nat.gcd_le_left _ (by omega)) hgpos
  have hu'lt : u' < 73 := by rw [hu']; exact Nat.lt_of_le_of_lt (Nat.div_le_self _ _) hu
  have hl'lt : l' < 73 := by rw [hl']; exact Nat.lt_of_le_of_lt (Nat.div_le_self _ _) (by omega)
  -- left
  refine sb_assign ((pe_bin (pe_bin (pe_bin (pe_call (pe_builtin lenK boot_len (by decide) rfl) keepy_builtin (pl_cons (pe_name (R := rList rInt) (a := row) rfl) pl_nil) (f_len_list (by omega))) pe_int (b_mod_int (by decide))) pe_int (b_mul_int (mulok_r (by decide) (by decide)))) pe_int b_sub_int).cast (y := left) (by rw [hleft, leftF, show (2 : Int) = ((2 : Nat) : Int) from rfl, fmod_nat]; omega)) (.inr ⟨rfl, _, rfl⟩) ?_
  -- others
  refine sb_comp (V' := [("lower", rInt.at (l' : Int)), ("left", rInt.at left), ("upper", rInt.at (u' : Int))]) (xs := rangeL (1, 1, u' - 1)) (R := rInt) (T := rInt) (B := fun x => [("x", rInt.at x)]) (fun x => (x * (l' : Int) - left).fmod (u' : Int) == 0) (fun x => x) rfl rfl (by decide)
    (pe_call (pe_builtin (H.bn _ (by decide)) boot_range (by decide) rfl) keepy_type (pl_cons pe_int (pl_cons (pe_name (R := rInt) (a := (u' : Int)) rfl) pl_nil)) (f_range2 (k := u' - 1) (by split <;> omega) (by omega) (by omega) (by omega) (by omega))) (iter_range (.inl ⟨_, _, rfl⟩) (r.less (by decide))) (by rw [rangeL_len]; exact sizeL (by show u' - 1 ≤ _; omega)) (fun D => tgt_local rfl rfl)
    (fun D => ⟨⟨rfl, .inl rfl, .inl rfl, rfl⟩, ⟨rfl, .inl rfl, .inl rfl, rfl⟩, ⟨rfl, .inl rfl, .inl rfl, rfl⟩, trivial⟩)
    (fun D Y a ha => pt_cmp (pe_bin (pe_bin (pe_bin (pe_name rfl) (pe_name rfl) (b_mul_int (mulok_r (by omega) (by omega)))) (pe_name rfl) b_sub_int) (pe_name rfl) (b_mod_int (by omega))) pe_int c_eq_int)
    (fun D Y a ha _ => pe_name rfl) (.inl rfl) ?_
  rw [others_eq]
  -- if [turned] + [..] != [due, due]
  have hcomp : (((othersF u' l' left).map fun n : Nat => (n : Int)).filter fun _ => true).map (fun x => divF 12 u' x.toNat []) = [dueF row] := by
    rw [List.filter_eq_self.mpr fun _ _ => rfl, List.map_map, ← hoth]; rfl
  have hob : ∀ x ∈ othersF u' l' left, x < 73 := fun x hx => by
    have := (List.mem_filter.mp hx).1
    obtain ⟨m, hm, rfl⟩ := List.mem_map.mp this
    have := List.mem_range.mp hm; omega
  have hol : (othersF u' l' left).length = 1 := by have := congrArg List.length hoth; simpa using this
  refine sb_skip ((pt_cmp (pe_bin (pe_list (R := rList rInt) (xs := [dueF row]) (pl_cons (pe_name rfl) pl_nil) (by show 1 ≤ sizeLine; exact sizeL (by decide))) ((pe_comp (V' := [("upper", rInt.at (u' : Int)), ("behind", rInt.at (b : Int))]) (R := rInt) (T := rList rInt) (B := fun x => [("x", rInt.at x)]) (fun _ => true) (fun x => divF 12 u' x.toNat []) rfl rfl (by decide) (pe_name rfl) (iter_list (.inl ⟨_, _, rfl⟩) (r.less (by decide))) (by rw [List.length_map, hol]; exact sizeL (by decide)) (fun D => tgt_local rfl rfl)
      (fun D => ⟨⟨rfl, .inl rfl, .inl rfl, rfl⟩, ⟨rfl, .inl rfl, .inl rfl, rfl⟩, trivial⟩) (fun D Y a ha => by exact rfl)
      (fun D Y a ha _ => by
        obtain ⟨x, hx, rfl⟩ := List.mem_map.mp ha
        have hxl := hob x hx
        exact pe_call (pe_global H.stops rfl) (keepy_K (by rw [H.k]; rfl)) (pl_cons (pe_name rfl) (pl_cons (pe_name rfl) (pl_cons (pe_name rfl) pl_nil))) (stops_call H1 H.ws (r.less (by decide)) (u := u') (l := x) (b := b) (by omega) (by omega) (by omega)))).cast hcomp) (b_add_list (sizeL (by show 1 + 1 ≤ 100000; decide)))) (pe_list (R := rList rInt) (xs := [dueF row, dueF row]) (pl_cons (pe_name rfl) (pl_cons (pe_name rfl) pl_nil)) (by show 2 ≤ sizeLine; exact sizeL (by decide))) (c_ne (qe_list (qe_list qe_int)) (fun _ _ _ _ => trivial) (fun _ _ _ _ => trivial) (r.less (by decide)))).cast (by simp)) ?_
  -- if (lower*lower - left) % upper != 0: return True
  have hmul : IntMulOk (l' : Int) (l' : Int) := mulok (by omega) (by omega)
  by_cases hz : (((l' : Int) * (l' : Int) - left).emod (u' : Int)) = 0
  case neg =>
    refine sb_ifRet ((pt_cmp (pe_bin (pe_bin (pe_bin (pe_name rfl) (pe_name rfl) (b_mul_int hmul)) (pe_name rfl) b_sub_int) (pe_name rfl) (b_mod_int (by omega))) pe_int c_ne_int).cast ?_) (sb_return (R := rBool) (a := true) pe_bool fun s v f hr => ?_)
    · rw [Int.fmod_eq_emod_of_nonneg _ (by omega)]; exact bne_iff_ne.mpr hz
    · rw [show v = .bool true from hr]; exact hP _ _ _ _ f (lookup_of_mem f.on (by repeat (first | exact List.Mem.head _ | refine List.Mem.tail _ ?_)))
  refine sb_skip ((pt_cmp (pe_bin (pe_bin (pe_bin (pe_name rfl) (pe_name rfl) (b_mul_int hmul)) (pe_name rfl) b_sub_int) (pe_name rfl) (b_mod_int (by omega))) pe_int c_ne_int).cast (by rw [Int.fmod_eq_emod_of_nonneg _ (by omega)]; show ((((l' : Int) * (l' : Int) - left).emod (u' : Int)) != 0) = false; rw [hz]; rfl)) ?_
  have hfin2 : (u' : Int) = (if row.length % 2 = 0 then (hlF half).1 * (hlF half).1 + (hlF half).2 * (hlF half).2 else (hlF half).2 * (2 * (hlF half).1 - (half.head?.map valP).getD 0 * (hlF half).2)) := by
    rw [hz] at hfin; simpa using hfin
  have hhl : half.length = row.length - row.length / 2 := by rw [hhalf, List.length_drop, pairs_len]
  obtain ⟨h', hh'⟩ : ∃ h', half.length = h' + 1 := ⟨half.length - 1, by rw [hhl]; exact half_a hn0⟩
  -- high, low = (1, 0)
  refine sb_assign2 (R := rInt) (S := rInt) (a := 1) (b := 0) (r.less (by decide)) (pe_t2 (pl_cons pe_int (pl_cons pe_int pl_nil))) (.inl rfl) (.inl rfl) ?_
  have hrs : ∀ h : Nat, h < 13 → Builtin.Range.rangeSize (((h + 1 : Nat) : Int) - 1) (-1) (-1) = ((h + 1 : Nat) : Int) := by decide
  have hrsm : ∀ h : Nat, h < 13 → Builtin.Range.small (((h + 1 : Nat) : Int) - 1) (-1) (-1) = true := by decide
  let Vq : Nat → Vars := fun i => match i with
    | 0 => []
    | i + 1 => [("quotient", rInt.at (valP (half.getD (half.length - (i + 1)) ([], []))))]
  let Vv : Nat → Vars := fun i => ("high", rInt.at (hlF (half.drop (half.length - i))).1) :: ("low", rInt.at (hlF (half.drop (half.length - i))).2) :: ("half", (rList (rT2 rTxt rTxt)).at half) :: ("row", (rList rInt).at row) :: ("upper", rInt.at (u' : Int)) :: Vq i
  have hd0 : hlF (half.drop (half.length - 0)) = (1, 0) := by rw [Nat.sub_zero, List.drop_length]; rfl
  refine sb_forN (xs := rangeL (((h' + 1 : Nat) : Int) - 1, -1, h' + 1)) (R := rInt) (fun i => [(p, ocPile C.w.params 101 (f : Int) []), ((63 : Addr), ocTab)]) Vv (fun x => [("k", rInt.at x)])
    (pe_call (pe_builtin (H.bn _ (by decide)) boot_range (by decide) rfl) keepy_type (pl_cons (pe_bin ((pe_call (pe_builtin lenK boot_len (by decide) rfl) keepy_builtin (pl_cons (pe_name (R := rList (rT2 rTxt rTxt)) (a := half) rfl) pl_nil) (f_len_list (len_fit (by rw [hhl]; exact Nat.le_trans (Nat.sub_le _ _) hn12)))).cast (y := ((h' + 1 : Nat) : Int)) (by rw [hh'])) pe_int b_sub_int) (pl_cons (pe_neg pe_int) (pl_cons (pe_neg pe_int) pl_nil))) (f_range3 (k := h' + 1) (by decide) (PyProof.noPylong_small (by decide)) (hrs h' (by omega)) (hrsm h' (by omega))))
    (iter_range (.inl ⟨_, _, rfl⟩) (r.less (by decide))) (asg_name (.inl rfl)) ⟨by rw [hd0]; rfl, by rw [hd0]; rfl, rfl, rfl, rfl, trivial⟩ (fun G' X' i k hX hx => ?_) ?_
  · obtain ⟨hi, rfl⟩ := rangeL_get hx
    have hi : i < h' + 1 := hi
    have hj : half.length - (i + 1) < half.length := Nat.sub_lt (by rw [hh']; exact Nat.succ_pos _) (Nat.succ_pos _)
    obtain ⟨c, d, hcd⟩ : ∃ c d, half[half.length - (i + 1)]? = some ([c], [d]) := by
      rw [hhalf, List.getElem?_drop, List.length_drop, pairs_len]
      exact ⟨_, _, pairs_get (half_lt hn0)⟩
    have hk : (((h' + 1 : Nat) : Int) - 1 + (i : Int) * (-1)) = ((half.length - (i + 1) : Nat) : Int) := by rw [hh']; exact int_sub hi
    have hdrop : half.drop (half.length - (i + 1)) = ([c], [d]) :: half.drop (half.length - i) := by
      rw [List.drop_eq_getElem_cons hj, show half.length - (i + 1) + 1 = half.length - i from sub_c (by rw [hh']; exact hi), (List.getElem?_eq_some_iff.mp hcd).2]
    have hgd : half.getD (half.length - (i + 1)) ([], []) = ([c], [d]) := by rw [List.getD_eq_getElem?_getD, hcd]; rfl
    have hvP : valP ([c], [d]) = 16 * (c : Int) + (d : Int) - 1105 := rfl
    have hqb : 0 ≤ valP ([c], [d]) ∧ valP ([c], [d]) < 256 := by
      refine hq _ ?_
      rw [← hval]
      have : ([c], [d]) ∈ half := List.mem_of_getElem? hcd
      rw [hhalf] at this
      exact List.mem_map.mpr ⟨_, List.mem_of_mem_drop this, rfl⟩
    rw [hk]
    have item : ∀ (X : List Addr) (O : Own) (V : Vars) (p1 p2 p3 : Pos), V.lookup (Str.ofString "half") = some ((rList (rT2 rTxt rTxt)).at half) → V.lookup (Str.ofString "k") = some (rInt.at ((half.length - (i + 1) : Nat) : Int)) → PE C A (eL C.w.params L fa) X O V (.Subscript (.Name "half" p1) (.Name "k" p2) p3) (rT2 rTxt rTxt) ([c], [d]) := fun X O V p1 p2 p3 e1 e2 =>
      pe_item_list (pe_name e1) (pe_name e2) (Int.natCast_nonneg _) (by rw [Int.toNat_natCast]; exact hcd) (sub_fit (by rw [hhl]; exact Nat.le_trans (Nat.sub_le _ _) hn12))
    refine sb_assign ((pe_bin (pe_bin (pe_bin pe_int (pe_call (pe_builtin (H.bn _ (by decide)) boot_ord (by decide) rfl) keepy_builtin (pl_cons (pe_item_fst (item _ _ _ _ _ _ rfl rfl) pe_int) pl_nil) (f_ord (c := c))) (b_mul_int (mulok (by decide) (by decide)))) (pe_call (pe_builtin (H.bn _ (by decide)) boot_ord (by decide) rfl) keepy_builtin (pl_cons (pe_item_snd (item _ _ _ _ _ _ rfl rfl) pe_int) pl_nil) (f_ord (c := d))) b_add_int) pe_int b_sub_int).cast (y := valP ([c], [d])) rfl) (.inl rfl) ?_
    refine sb_swap2 (R := rInt) (S := rInt) (a := (hlF (half.drop (half.length - (i + 1)))).1) (b := (hlF (half.drop (half.length - (i + 1)))).2) (r.less (by decide)) (pe_t2 (pl_cons ((pe_bin (pe_bin (pe_name rfl) (pe_name rfl) (b_mul_int (mulok (by omega) (by omega)))) (pe_name rfl) b_add_int).cast (by rw [hdrop]; rfl)) (pl_cons ((pe_name (R := rInt) (a := (hlF (half.drop (half.length - i))).1) rfl).cast (by rw [hdrop]; rfl)) pl_nil))) (.inl rfl) (.inl rfl) ?_
    refine sb_nil fun s f => f.sub ⟨rfl, rfl, rfl, rfl, rfl, by rw [hgd]; rfl, trivial⟩
  rw [rangeL_len]
  show SB C A _ ρ G X _ (Vv (h' + 1)) _ P
  have hz0 : hlF (half.drop (half.length - (h' + 1))) = hlF half := by rw [hh', Nat.sub_self, List.drop_zero]
  have hq0 : valP (half.getD (half.length - (h' + 1)) ([], [])) = (half.head?.map valP).getD 0 := by
    rw [hh', Nat.sub_self]
    cases half with
    | nil => cases hh'
    | cons q r => rfl
  have e1 : Vv (h' + 1) = ([("high", rInt.at (hlF half).1), ("low", rInt.at (hlF half).2), ("half", (rList (rT2 rTxt rTxt)).at half), ("row", (rList rInt).at row), ("upper", rInt.at (u' : Int)), ("quotient", rInt.at ((half.head?.map valP).getD 0))] : Vars) := by
    have e2 : Vv (h' + 1) = ([("high", rInt.at (hlF (half.drop (half.length - (h' + 1)))).1), ("low", rInt.at (hlF (half.drop (half.length - (h' + 1)))).2), ("half", (rList (rT2 rTxt rTxt)).at half), ("row", (rList rInt).at row), ("upper", rInt.at (u' : Int)), ("quotient", rInt.at (valP (half.getD (half.length - (h' + 1)) ([], []))))] : Vars) := rfl
    rw [e2, hz0, hq0]
  rw [e1]
  have hidx : [(hlF half).1 * (hlF half).1 + (hlF half).2 * (hlF half).2, (hlF half).2 * (2 * (hlF half).1 - (half.head?.map valP).getD 0 * (hlF half).2)][(((row.length % 2 : Nat) : Int)).toNat]? = some (u' : Int) := by
    rw [Int.toNat_natCast, hfin2]
    rcases Nat.mod_two_eq_zero_or_one row.length with e | e <;> rw [e] <;> simp
  have hqv : -(2 ^ 64) < (half.head?.map valP).getD 0 ∧ (half.head?.map valP).getD 0 < 2 ^ 64 := by
    rw [← hq0]
    have hb0 : half[half.length - (h' + 1)]? = some (half.getD (half.length - (h' + 1)) ([], [])) := by rw [List.getD_eq_getElem?_getD, List.getElem?_eq_getElem (by omega)]; rfl
    have := hq (valP (half.getD (half.length - (h' + 1)) ([], []))) (by
      rw [← hval]
      have hm := List.mem_of_getElem? hb0
      rw [hhalf] at hm ⊢
      exact List.mem_map.mpr ⟨_, List.mem_of_mem_drop hm, rfl⟩)
    omega
  refine sb_return ((pe_cmp (pe_name rfl) (pe_item_list (R := rInt) (pe_list (R := rInt) (xs := [(hlF half).1 * (hlF half).1 + (hlF half).2 * (hlF half).2, (hlF half).2 * (2 * (hlF half).1 - (half.head?.map valP).getD 0 * (hlF half).2)])
      (pl_cons (pe_bin (pe_bin (pe_name rfl) (pe_name rfl) (b_mul_int (mulok (nbl hb1) (nbu hb1)))) (pe_bin (pe_name rfl) (pe_name rfl) (b_mul_int (mulok (nbl hb2) (nbu hb2)))) b_add_int) (pl_cons (pe_bin (pe_name rfl) (pe_bin (pe_bin pe_int (pe_name rfl) (b_mul_int (mulok (by decide) (by decide)))) (pe_bin (pe_name rfl) (pe_name rfl) (b_mul_int (mulok hqv.1 hqv.2))) b_sub_int) (b_mul_int (mulok (nbl hb2) (nbu hb2)))) pl_nil)) (by show 2 ≤ sizeLine; exact sizeL (by decide)))
      ((pe_bin (pe_call (pe_builtin lenK boot_len (by decide) rfl) keepy_builtin (pl_cons (pe_name (R := rList rInt) (a := row) rfl) pl_nil) (f_len_list (by omega))) pe_int (b_mod_int (by decide))).cast (y := ((row.length % 2 : Nat) : Int)) (by rw [show (2 : Int) = ((2 : Nat) : Int) from rfl, fmod_nat])) (Int.natCast_nonneg _) hidx (by omega)) c_eq_int).cast (y := true) (by simp)) fun s v f hr => ?_
  rw [show v = .bool true from hr]; exact hP _ _ _ _ f (lookup_of_mem f.on (by repeat (first | exact List.Mem.head _ | refine List.Mem.tail _ ?_)))
end Mine

namespace Mine
open PySem PySem.Calls PyProof.Rows PySem.W
set_option maxHeartbeats 4000000
theorem law2_tail {C : Cx} {A : Around} {ρ : Rst} {G : PM} {X : List Addr} {L fa : Addr} {P : Flow → Shared → Prop} (H : Lw2 C) (hρ : RhoOk ρ) (r : Rm 24 A) {u l b f : Nat} {c0 c1 c2 : Nat} (hc : chk u l = true) (hu : u < 73) (hl0 : 0 < l) (hl : l < u) (hb : b < 4) (hf : f < 3)
    (hP : ∀ s X' O' V', FS C (eL C.w.params L fa) ρ G X' O' V' s → O'.lookup (63 : Addr) = some ocTab → P (.ret (.bool true)) s) :
    SB C A (eL C.w.params L fa) ρ G X [((63 : Addr), ocTab)] [("lower", rInt.at (l : Int)), ("upper", rInt.at (u : Int)), ("behind", rInt.at (b : Int)), ("first", rInt.at (f : Int)), ("cells", (rList rInt).at [(c0 : Int), (c1 : Int), (c2 : Int)])]
      ((body197 C.w.params).1.drop 8) P := by
  have H1 : Lw C := H.toLw
  have lenK : C.mg "len" = none := H.bn _ (by decide)
  obtain ⟨row, hrow⟩ : ∃ row, row = rowF u l := ⟨_, rfl⟩
  simp only [chk, Bool.and_eq_true, decide_eq_true_eq, beq_iff_eq, bne_iff_ne, List.all_eq_true] at hc
  rw [← hrow] at hc
  obtain ⟨⟨⟨⟨⟨⟨⟨⟨⟨⟨⟨⟨⟨⟨⟨⟨h75, hn0⟩, hn12⟩, hq⟩, hnum⟩, htl⟩, hA⟩, hw⟩, hwl⟩, hw128⟩, hval⟩, hsh⟩, hshle⟩, hoth⟩, hb1⟩, hb2⟩, hfin⟩ := hc
  -- row = _law_divisions(upper, lower)
  refine sb_assign ((pe_call (pe_global H.divs rfl) (keepy_K (by rw [H.k]; rfl)) (pl_cons (pe_name rfl) (pl_cons (pe_name rfl) pl_nil)) (divisions_call H1 (r.less (by decide)) (f := 75) (by omega) (by decide) (by omega))).cast h75) (.inr ⟨rfl, _, rfl⟩) ?_
  -- if _law_stops(upper, lower, behind) != row
  refine sb_skip ((pt_cmp ((pe_call (pe_global H.stops rfl) (keepy_K (by rw [H.k]; rfl)) (pl_cons (pe_name rfl) (pl_cons (pe_name rfl) (pl_cons (pe_name rfl) pl_nil))) (stops_call H1 H.ws (r.less (by decide)) (by omega) (by omega) (by omega))).cast hrow.symm) (pe_name rfl) (c_ne (qe_list qe_int) (fun _ _ => trivial) (fun _ _ => trivial) (r.less (by decide)))).cast (by simp)) ?_
  -- due
  have hdue : ((rangeL (0, 1, row.length)).filter fun _ => true).map (fun k => row.getD ((row.length : Int) - 1 - k).toNat 0) = dueF row := by
    rw [up_map]
    refine List.ext_getElem (by simp [dueF]) fun i h1 h2 => ?_
    have hi : i < row.length := by simpa using h1
    simp only [List.getElem_map, List.getElem_range, dueF, List.getElem_reverse]
    rw [List.getD_eq_getElem?_getD, show ((row.length : Int) - 1 - (i : Int)).toNat = row.length - 1 - i from tn_a hi, List.getElem?_eq_getElem (by omega)]; rfl
  refine sb_comp (V' := [("row", (rList rInt).at row)]) (xs := rangeL (0, 1, row.length)) (R := rInt) (T := rInt) (B := fun x => [("k", rInt.at x)]) (fun _ => true) (fun k => row.getD ((row.length : Int) - 1 - k).toNat 0) rfl rfl (by decide)
    (pe_call (pe_builtin (H.bn _ (by decide)) boot_range (by decide) rfl) keepy_type (pl_cons (pe_call (pe_builtin lenK boot_len (by decide) rfl) keepy_builtin (pl_cons (pe_name rfl) pl_nil) (f_len_list (by omega))) pl_nil) (f_range1 rfl (by omega))) (iter_range (.inl ⟨_, _, rfl⟩) (r.less (by decide))) (by rw [rangeL_len]; exact sizeL (by show row.length ≤ _; omega))
    (fun D => tgt_local rfl rfl) (fun D => ⟨⟨rfl, .inl rfl, .inl rfl, rfl⟩, trivial⟩) (fun D Y a ha => rfl)
    (fun D Y a ha _ => by
      obtain ⟨i, hi, rfl⟩ := mem_up ha
      refine pe_item_list (pe_name rfl) (pe_bin (pe_bin (pe_call (pe_builtin lenK boot_len (by decide) rfl) keepy_builtin (pl_cons (pe_name rfl) pl_nil) (f_len_list (by omega))) pe_int b_sub_int) (pe_name rfl) b_sub_int) (by omega) ?_ (by omega)
      rw [List.getD_eq_getElem?_getD, List.getElem?_eq_getElem (by omega)]; rfl)
    (.inl rfl) ?_
  rw [hdue]
  -- number
  refine sb_assign pe_int (.inl rfl) ?_
  let VB : Vars := [("due", (rList rInt).at (dueF row)), ("row", (rList rInt).at row), ("lower", rInt.at (l : Int)), ("upper", rInt.at (u : Int)), ("behind", rInt.at (b : Int)), ("first", rInt.at (f : Int)), ("cells", (rList rInt).at [(c0 : Int), (c1 : Int), (c2 : Int)])]
  refine sb_forN (xs := row) (R := rInt) (fun _ => [((63 : Addr), ocTab)]) (fun i => ("number", rInt.at (numF (row.take i))) :: VB) (fun x => [("quotient", rInt.at x)]) (pe_name (R := rList rInt) (a := row) rfl) (iter_list (.inl ⟨_, _, rfl⟩) (r.less (by decide))) (asg_name (.inl rfl)) ⟨rfl, rfl, rfl, rfl, rfl, rfl, rfl, rfl, trivial⟩
    (fun G' X' i a hX hx => sb_assign ((pe_bin (pe_bin (pe_name rfl) pe_int (b_mul_int (mulok_r (by decide) (by decide)))) (pe_name rfl) b_add_int).cast (y := numF (row.take (i + 1))) (by rw [List.take_succ, hx]; simp [numF])) (.inl rfl) (sb_nil fun s f => f.sub ⟨rfl, rfl, rfl, rfl, rfl, rfl, rfl, rfl, trivial⟩)) ?_
  rw [List.take_length]
  -- told
  have hsg : ((1 - (c2 : Int) % 2 * 2) * numF row).natAbs = (numF row).natAbs := by
    have h2 : (c2 : Int) % 2 = 0 ∨ (c2 : Int) % 2 = 1 := by omega
    rcases h2 with e | e <;> rw [e] <;> simp
  refine sb_assign ((pe_call (pe_global H.int2ap rfl) (keepy_K (by rw [H.k]; rfl)) (pl_cons ((pe_bin (pe_bin pe_int (pe_bin (pe_bin (pe_item_list (xs := [(c0 : Int), (c1 : Int), (c2 : Int)]) (x := (c2 : Int)) (pe_name rfl) pe_int (by decide) rfl (by decide)) pe_int (b_mod_int (by decide))) pe_int (b_mul_int (mulok_r (by decide) (by decide)))) b_sub_int) (pe_name rfl) (b_mul_int (mulok (by rw [Int.fmod_eq_emod_of_nonneg _ (by decide)]; omega) (by rw [Int.fmod_eq_emod_of_nonneg _ (by decide)]; omega)))).cast (y := (1 - (c2 : Int) % 2 * 2) * numF row) (by rw [Int.fmod_eq_emod_of_nonneg _ (by decide)])) pl_nil) (int2ap_call H1 (r.less (by decide)) (f := 24) (by rw [hsg]; exact hnum) (by decide))).cast (y := toldF row) (by rw [hsg]; rfl)) (.inl rfl) ?_
  -- word
  have hjoin : (((((toldF row).map fun c => ((c.toNat : Nat) : Int)).filter fun _ => true).map fun x => [x.toNat]).flatten) = (toldF row).map fun c => c.toNat := by
    rw [List.filter_eq_self.mpr fun _ _ => rfl, List.map_map]
    induction (toldF row) with
    | nil => rfl
    | cons c r ih => simp only [List.map_cons, List.flatten_cons, ih]; rfl
  have htn : (toldF row).length ≤ 24 := by omega
  refine sb_assign ((pe_bin ((pe_bin (pe_strL (l := [65]) rfl) (pe_bin (pe_bin pe_int (pe_call (pe_builtin lenK boot_len (by decide) rfl) keepy_builtin (pl_cons (pe_name (R := rList rInt) (a := row) rfl) pl_nil) (f_len_list (by omega))) (b_mul_int (mulok (by decide) (by decide)))) (pe_call (pe_builtin lenK boot_len (by decide) rfl) keepy_builtin (pl_cons (pe_name rfl) pl_nil) (f_len_bytes (by omega))) b_sub_int) (b_mul_txt (l := [65]) (by omega) (by omega) (by decide) (sizeL (by simp only [List.length_cons, List.length_nil]; omega)))).cast (y := List.replicate (2 * row.length - (toldF row).length) 65) (by rw [flat_rep]; congr 1; exact tn_b htl))
    ((pe_join (pe_strL rfl) (pe_comp (V' := []) (R := rInt) (T := rTxt) (B := fun x => [("octet", rInt.at x)]) (fun _ => true) (fun x => [x.toNat]) rfl rfl (by decide) (pe_name rfl) (iter_bytes (l := toldF row) (.inl ⟨_, _, rfl⟩) (r.less (by decide))) (by rw [List.length_map]; exact sizeL (by omega)) (fun D => tgt_local rfl rfl) (fun D => trivial) (fun D Y a ha => by exact rfl)
      (fun D Y a ha _ => by
        obtain ⟨c, hc, rfl⟩ := List.mem_map.mp ha
        have hc' := c.toNat_lt
        exact pe_call (pe_builtin (H.bn _ (by decide)) boot_chr (by decide) rfl) keepy_builtin (pl_cons (pe_name rfl) pl_nil) (f_chr (by omega) (by omega)))) (by rw [hjoin, List.length_map]; exact sizeL (by omega))).cast hjoin) (b_add_txt (by rw [List.length_replicate, List.length_map]; exact sizeL (by omega)))).cast (y := wordF row) rfl) (.inl rfl) ?_
  -- the test of the word
  have hwd : (((row.filter fun _ => true).map fun q => [65 + q.toNat / 16, 65 + q.toNat % 16]).flatten) = wordDue row := by rw [List.filter_eq_self.mpr fun _ _ => rfl]; rfl
  have hwdl : (wordDue row).length = 2 * row.length := by rw [← hw, hwl]
  refine sb_skip ((pt_or (pt_cmp (pe_slice_bytes (lo := none) (hi := some 1) (pe_name rfl) pp_none (pp_some pe_int rfl) (sizeL (by omega))) pe_bytesL c_eq_b) fun _ => pt_cmp (pe_name rfl) ((pe_join (pe_strL rfl) (pe_comp (V' := []) (R := rInt) (T := rTxt) (B := fun x => [("quotient", rInt.at x)]) (fun _ => true) (fun q => [65 + q.toNat / 16, 65 + q.toNat % 16]) rfl rfl (by decide) (pe_name rfl) (iter_list (.inl ⟨_, _, rfl⟩) (r.less (by decide))) (sizeL (by omega)) (fun D => tgt_local rfl rfl) (fun D => trivial) (fun D Y a ha => by exact rfl)
      (fun D Y a ha _ => by
        have hqa := hq a ha
        obtain ⟨n, rfl⟩ := Int.eq_ofNat_of_zero_le hqa.1
        have hd16 : (65 : Int) + (n : Int).fdiv 16 = ((65 + n / 16 : Nat) : Int) := by rw [Int.fdiv_eq_ediv_of_nonneg _ (by decide)]; omega
        have hm16 : (65 : Int) + (n : Int).fmod 16 = ((65 + n % 16 : Nat) : Int) := by rw [Int.fmod_eq_emod_of_nonneg _ (by decide)]; omega
        exact (pe_bin (pe_call (pe_builtin (H.bn _ (by decide)) boot_chr (by decide) rfl) keepy_builtin (pl_cons (pe_bin pe_int (pe_bin (pe_name rfl) pe_int (b_div_int (by decide) (PyProof.noPylong_small (by decide)))) b_add_int) pl_nil) (f_chr (by rw [hd16]; omega) (by rw [hd16]; omega))) (pe_call (pe_builtin (H.bn _ (by decide)) boot_chr (by decide) rfl) keepy_builtin (pl_cons (pe_bin pe_int (pe_bin (pe_name rfl) pe_int (b_mod_int (by decide))) b_add_int) pl_nil) (f_chr (by rw [hm16]; omega) (by rw [hm16]; omega))) (b_add_txt (sizeL (by simp)))).cast (by rw [hd16, hm16, Int.toNat_natCast, Int.toNat_natCast]; rfl))) (by rw [hwd, hwdl]; exact sizeL (by omega))).cast hwd) c_ne_txt).cast ?_) ?_
  · have h1 : (cut (toldF row) none (some 1) == [65]) = false := by
      cases e : (cut (toldF row) none (some 1) == [65]) with
      | false => rfl
      | true => exact absurd (eq_of_beq e) hA
    rw [h1, hw]; simp
  refine SB.sub (V' := [("word", rTxt.at (wordF row)), ("due", (rList rInt).at (dueF row)), ("row", (rList rInt).at row), ("lower", rInt.at (l : Int)), ("upper", rInt.at (u : Int)), ("behind", rInt.at (b : Int)), ("first", rInt.at (f : Int))]) ?_ ⟨rfl, rfl, rfl, rfl, rfl, rfl, rfl, trivial⟩
  exact law2_t2 H hρ r hn0 hn12 hwl hw128 hval hf fun X' hX' p => law2_t3 H hρ r rfl rfl rfl rfl rfl hn0 hn12 hu hl0 hl hb hf hsh hshle hoth hb1 hb2 hval hq hfin hP
end Mine

namespace Mine
open PySem PySem.Calls PyProof.Rows PySem.W
noncomputable def grp (a n : Nat) : List Nat := (List.range n).map fun i => a + i
theorem ck1 : chkAll (grp 5 20) = true := by decide +kernel
theorem ck2 : chkAll (grp 25 12) = true := by decide +kernel
theorem ck3 : chkAll (grp 37 10) = true := by decide +kernel
theorem ck4 : chkAll (grp 47 8) = true := by decide +kernel
theorem ck5 : chkAll (grp 55 7) = true := by decide +kernel
theorem ck6 : chkAll (grp 62 6) = true := by decide +kernel
theorem ck7 : chkAll (grp 68 5) = true := by decide +kernel
theorem grp_mem {a n u : Nat} (h1 : a ≤ u) (h2 : u < a + n) : u ∈ grp a n := List.mem_map.mpr ⟨u - a, List.mem_range.mpr (by omega), by omega⟩
theorem chk_of {us : List Nat} (h : chkAll us = true) {u l : Nat} (hu : u ∈ us) (h0 : 0 < l) (hl : l ≤ (u - 1) / 2) : chk u l = true := by
  have := List.all_eq_true.mp (List.all_eq_true.mp h u hu) (l - 1) (List.mem_range.mpr (by omega))
  rw [show l - 1 + 1 = l by omega] at this; exact this
theorem chk_ok {u l : Nat} (h5 : 5 ≤ u) (h73 : u < 73) (h0 : 0 < l) (hl : l ≤ (u - 1) / 2) : chk u l = true := by
  by_cases a : u < 25
  · exact chk_of ck1 (grp_mem h5 a) h0 hl
  by_cases a : u < 37
  · exact chk_of ck2 (grp_mem (by omega) a) h0 hl
  by_cases a : u < 47
  · exact chk_of ck3 (grp_mem (by omega) a) h0 hl
  by_cases a : u < 55
  · exact chk_of ck4 (grp_mem (by omega) a) h0 hl
  by_cases a : u < 62
  · exact chk_of ck5 (grp_mem (by omega) a) h0 hl
  by_cases a : u < 68
  · exact chk_of ck6 (grp_mem (by omega) a) h0 hl
  · exact chk_of ck7 (grp_mem (by omega) (by omega)) h0 hl
noncomputable def cellsF (ns : List Int) : Nat → List Int
  | 0 => [24, 0, 5]
  | i + 1 => (cellsF ns i).set (i % 3) ((cellsF ns i).getD (i % 3) 0 + (ns.getD i 0).fmod (10 ^ 6))
theorem cellsF_ok (ns : List Int) : ∀ i, ∃ a b c : Nat, cellsF ns i = [(a : Int), (b : Int), (c : Int)]
  | 0 => ⟨24, 0, 5, rfl⟩
  | i + 1 => by
    obtain ⟨a, b, c, e⟩ := cellsF_ok ns i
    obtain ⟨m, hm⟩ : ∃ m : Nat, (ns.getD i 0).fmod (10 ^ 6) = (m : Int) := ⟨((ns.getD i 0).fmod (10 ^ 6)).toNat, (Int.toNat_of_nonneg (by rw [Int.fmod_eq_emod_of_nonneg _ (by decide)]; exact Int.emod_nonneg _ (by decide))).symm⟩
    have h3 : i % 3 = 0 ∨ i % 3 = 1 ∨ i % 3 = 2 := by omega
    rw [cellsF, e, hm]
    rcases h3 with h | h | h <;> rw [h]
    · exact ⟨a + m, b, c, rfl⟩
    · exact ⟨a, b + m, c, rfl⟩
    · exact ⟨a, b, c + m, rfl⟩
set_option maxHeartbeats 4000000
theorem law2_sb {C : Cx} {A : Around} {ρ : Rst} {G : PM} {X : List Addr} {L fa : Addr} {P : Flow → Shared → Prop} (H : Lw2 C) (hρ : RhoOk ρ) (r : Rm 24 A) {ns : List Int} (hns : ns.length ≤ 63) (hP : ∀ s X' O' V', FS C (eL C.w.params L fa) ρ G X' O' V' s → O'.lookup (63 : Addr) = some ocTab → P (.ret (.bool true)) s) :
    SB C A (eL C.w.params L fa) ρ G X [((63 : Addr), ocTab)] [("script", (rList rInt).at ns)] (body197 C.w.params).1 P := by
  have H1 : Lw C := H.toLw
  have lenK : C.mg "len" = none := H.bn _ (by decide)
  refine sb_newlist (R := rInt) (xs := [24, 0, 5]) (pl_cons pe_int (pl_cons pe_int (pl_cons pe_int pl_nil))) (sizeL (by show 3 ≤ 100000; decide)) (.inl rfl) fun a ha => ?_
  refine sb_forN (xs := rangeL (0, 1, ns.length)) (R := rInt) (fun i => [(a, ocList rInt (cellsF ns i)), ((63 : Addr), ocTab)]) (fun i => [("cells", rVal.at (.ref a)), ("script", (rList rInt).at ns)]) (fun x => [("place", rInt.at x)])
    (pe_call (pe_builtin (H.bn _ (by decide)) boot_range (by decide) rfl) keepy_type (pl_cons (pe_call (pe_builtin lenK boot_len (by decide) rfl) keepy_builtin (pl_cons (pe_name (R := rList rInt) (a := ns) rfl) pl_nil) (f_len_list (by omega))) pl_nil) (f_range1 rfl (by omega)))
    (iter_range (.inl ⟨_, _, rfl⟩) (r.less (by decide))) (asg_name (.inl rfl)) ⟨rfl, rfl, trivial⟩ (fun G' X' i k hX hx => ?_) ?_
  · obtain ⟨hi, rfl⟩ := rangeL_get hx
    have hi : i < ns.length := hi
    rw [show (0 : Int) + (i : Int) * 1 = (i : Int) by omega]
    obtain ⟨c0, c1, c2, hcs⟩ := cellsF_ok ns i
    have hget : (cellsF ns i)[(((i % 3 : Nat) : Int)).toNat]? = some ((cellsF ns i).getD (i % 3) 0) := by
      rw [Int.toNat_natCast, List.getD_eq_getElem?_getD, List.getElem?_eq_getElem (by rw [hcs]; simp; omega)]; rfl
    have hsi : ns[((i : Int)).toNat]? = some (ns.getD i 0) := by rw [Int.toNat_natCast, List.getD_eq_getElem?_getD, List.getElem?_eq_getElem hi]; rfl
    refine sb_augitem (xs := cellsF ns i) (i := ((i % 3 : Nat) : Int)) (y := (cellsF ns i).getD (i % 3) 0) (d := (ns.getD i 0).fmod (10 ^ 6)) rfl ((pe_bin (pe_name rfl) pe_int (b_mod_int (by decide))).cast (by rw [show (3 : Int) = ((3 : Nat) : Int) from rfl, fmod_nat])) (pe_bin (pe_item_list (R := rInt) (pe_name rfl) (pe_name rfl) (Int.natCast_nonneg _) hsi (by omega)) (pe_bin pe_int pe_int (b_pow_int (by decide) (by decide) (by decide))) (b_mod_int (by decide))) (Int.natCast_nonneg _) (by omega) hget ?_
    rw [Int.toNat_natCast]
    exact sb_nil fun s f => f.sub ⟨rfl, rfl, trivial⟩
  refine sb_freeze (x := "cells") rfl ha ?_
  obtain ⟨c0, c1, c2, hcs⟩ := cellsF_ok ns (rangeL (0, 1, ns.length)).length
  rw [hcs]
  obtain ⟨u, hu⟩ : ∃ u, u = 5 + c0 % 68 := ⟨_, rfl⟩
  have hu5 : 5 ≤ u := by omega
  have hu73 : u < 73 := by omega
  refine sb_assign ((pe_bin pe_int (pe_bin (pe_item_list (R := rInt) (xs := [(c0 : Int), (c1 : Int), (c2 : Int)]) (x := (c0 : Int)) (pe_name rfl) pe_int (by decide) rfl (by decide)) pe_int (b_mod_int (by decide))) b_add_int).cast (y := (u : Int)) (by rw [show (68 : Int) = ((68 : Nat) : Int) from rfl, fmod_nat]; omega)) (.inr ⟨rfl, _, rfl⟩) ?_
  -- roots
  let q : Int → Bool := fun x => ((x * x + 1).fmod (u : Int) == 0) || ((x * x - 1).fmod (u : Int) == 0)
  let R : List Int := ((rangeL (2, 1, (u + 1) / 2 - 2)).filter q).map fun x => x
  have hRm : ∀ x ∈ R, ∃ n : Nat, x = n ∧ 2 ≤ n ∧ n < (u + 1) / 2 := fun x hx => by
    obtain ⟨y, hy, rfl⟩ := List.mem_map.mp hx
    obtain ⟨i, hi⟩ := List.getElem?_of_mem (List.mem_filter.mp hy).1
    obtain ⟨hlt, e⟩ := rangeL_get hi
    have hlt : i < (u + 1) / 2 - 2 := hlt
    exact ⟨2 + i, by show y = _; rw [e]; show (2 : Int) + (i : Int) * 1 = _; omega, by omega, by omega⟩
  have hRl : R.length ≤ 100 := by
    show (((rangeL (2, 1, (u + 1) / 2 - 2)).filter q).map fun x => x).length ≤ 100
    rw [List.length_map]
    refine Nat.le_trans (List.length_filter_le _ _) ?_
    rw [rangeL_len]; show (u + 1) / 2 - 2 ≤ 100; omega
  have hu1 : (u : Int) + 1 = ((u + 1 : Nat) : Int) := rfl
  refine sb_comp (V' := [("upper", rInt.at (u : Int))]) (xs := rangeL (2, 1, (u + 1) / 2 - 2)) (R := rInt) (T := rInt) (B := fun x => [("x", rInt.at x)]) q (fun x => x) rfl rfl (by decide)
    (pe_call (pe_builtin (H.bn _ (by decide)) boot_range (by decide) rfl) keepy_type (pl_cons pe_int (pl_cons ((pe_bin (pe_bin (pe_name (R := rInt) (a := (u : Int)) rfl) pe_int b_add_int) pe_int (b_div_int (by decide) (PyProof.noPylong_small (by decide)))).cast (y := (((u + 1) / 2 : Nat) : Int)) (by rw [hu1, show (2 : Int) = ((2 : Nat) : Int) from rfl, fdiv_nat])) pl_nil)) (f_range2 (k := (u + 1) / 2 - 2) (by split <;> omega) (by omega) (by omega) (by omega) (by omega))) (iter_range (.inl ⟨_, _, rfl⟩) (r.less (by decide))) (by rw [rangeL_len]; exact sizeL (Nat.le_trans (Nat.sub_le _ _) (Nat.le_trans (Nat.div_le_self _ _) (Nat.le_trans (Nat.le_of_lt (Nat.succ_lt_succ hu73)) (by decide))))) (fun D => tgt_local rfl rfl)
    (fun D => ⟨⟨rfl, .inl rfl, .inl rfl, rfl⟩, trivial⟩)
    (fun D Y x hx => by
      obtain ⟨i, hi⟩ := List.getElem?_of_mem hx
      obtain ⟨hlt, e⟩ := rangeL_get hi
      have hlt : i < (u + 1) / 2 - 2 := hlt
      have e : x = (2 : Int) + (i : Int) * 1 := e
      exact pt_or (pt_cmp (pe_bin (pe_bin (pe_bin (pe_name rfl) (pe_name rfl) (b_mul_int (mulok (by omega) (by omega)))) pe_int b_add_int) (pe_name rfl) (b_mod_int (by omega))) pe_int c_eq_int) fun _ => pt_cmp (pe_bin (pe_bin (pe_bin (pe_name rfl) (pe_name rfl) (b_mul_int (mulok (by omega) (by omega)))) pe_int b_sub_int) (pe_name rfl) (b_mod_int (by omega))) pe_int c_eq_int)
    (fun D Y x hx _ => pe_name rfl) (.inl rfl) ?_
  show SB C A _ ρ G X _ (("roots", (rList rInt).at R) :: _) _ P
  -- lower
  have hc12 : ∀ (X : List Addr) (O : Own) (V : Vars) (p1 p2 p3 p4 p5 : Pos) (k k2 : Nat), V.lookup (Str.ofString "cells") = some ((rList rInt).at [(c0 : Int), (c1 : Int), (c2 : Int)]) → PE C A (eL C.w.params L fa) X O V (.BinOp (.Subscript (.Name "cells" p1) (.Constant (.int 1) k p2) p3) .FloorDiv (.Constant (.int 2) k2 p4) p5) rInt ((c1 / 2 : Nat) : Int) := fun X O V p1 p2 p3 p4 p5 k k2 e =>
    (pe_bin (pe_item_list (R := rInt) (xs := [(c0 : Int), (c1 : Int), (c2 : Int)]) (x := (c1 : Int)) (pe_name e) pe_int (by decide) rfl (by decide)) pe_int (b_div_int (by decide) (PyProof.noPylong_small (by decide)))).cast (by rw [show (2 : Int) = ((2 : Nat) : Int) from rfl, fdiv_nat])
  have hm1 : (u : Int) - 1 = ((u - 1 : Nat) : Int) := by omega
  obtain ⟨l0, hl0⟩ : ∃ l0, l0 = 1 + c1 / 2 % ((u - 1) / 2) := ⟨_, rfl⟩
  have hl0b : 0 < l0 ∧ l0 ≤ (u - 1) / 2 := by
    have := Nat.mod_lt (c1 / 2) (show 0 < (u - 1) / 2 by omega)
    omega
  have hdv : ((u : Int) - 1).fdiv 2 = (((u - 1) / 2 : Nat) : Int) := by rw [hm1, show (2 : Int) = ((2 : Nat) : Int) from rfl, fdiv_nat]
  refine sb_assign ((pe_bin pe_int (pe_bin (hc12 _ _ _ _ _ _ _ _ _ _ rfl) ((pe_bin (pe_bin (pe_name rfl) pe_int b_sub_int) pe_int (b_div_int (by decide) (PyProof.noPylong_small (by decide)))).cast hdv) (b_mod_int (by omega))) b_add_int).cast (y := (l0 : Int)) (by rw [fmod_nat]; omega)) (.inr ⟨rfl, _, rfl⟩) ?_
  -- if cells[1] % 2 == 0 and roots != []
  obtain ⟨cnd, hcnd⟩ : ∃ cnd, cnd = ((((c1 % 2 : Nat) : Int) == 0) && (!decide (R = []))) := ⟨_, rfl⟩
  obtain ⟨l, hl⟩ : ∃ l : Nat, l = if cnd = true then (R.getD (c1 / 2 % R.length) 0).toNat else l0 := ⟨_, rfl⟩
  have hroot : cnd = true → R[c1 / 2 % R.length]? = some (l : Int) ∧ 0 < l ∧ l ≤ (u - 1) / 2 ∧ 0 < R.length := fun h => by
    have hne : R ≠ [] := by
      rw [h] at hcnd
      have := (Bool.and_eq_true_iff.mp hcnd.symm).2
      simpa using this
    have hpos : 0 < R.length := List.length_pos_iff.mpr hne
    have hlt := Nat.mod_lt (c1 / 2) hpos
    have hg : R[c1 / 2 % R.length]? = some (R.getD (c1 / 2 % R.length) 0) := by rw [List.getD_eq_getElem?_getD, List.getElem?_eq_getElem hlt]; rfl
    obtain ⟨n, e, h2, h3⟩ := hRm _ (List.mem_of_getElem? hg)
    rw [if_pos h, e] at hl
    rw [hg, e]
    exact ⟨by rw [hl]; rfl, by rw [hl]; show 0 < n; omega, by rw [hl]; show n ≤ _; omega, hpos⟩
  have hlb : 0 < l ∧ l ≤ (u - 1) / 2 := by
    cases h : cnd with
    | true => exact ⟨(hroot h).2.1, (hroot h).2.2.1⟩
    | false => rw [h, if_neg (by decide)] at hl; rw [hl]; exact hl0b
  let VF : Vars := [("lower", rInt.at (l : Int)), ("upper", rInt.at (u : Int)), ("cells", (rList rInt).at [(c0 : Int), (c1 : Int), (c2 : Int)])]
  refine sb_if (V' := VF) (b := cnd) ((pt_and (pt_cmp ((pe_bin (pe_item_list (R := rInt) (xs := [(c0 : Int), (c1 : Int), (c2 : Int)]) (x := (c1 : Int)) (pe_name rfl) pe_int (by decide) rfl (by decide)) pe_int (b_mod_int (by decide))).cast (y := ((c1 % 2 : Nat) : Int)) (by rw [show (2 : Int) = ((2 : Nat) : Int) from rfl, fmod_nat])) pe_int c_eq_int) fun _ => pt_cmp (pe_name (R := rList rInt) (a := R) rfl) (pe_list (R := rInt) (xs := []) pl_nil (sizeL (by decide))) (c_ne (qe_list qe_int) (fun _ _ => trivial) (fun _ _ => trivial) (r.less (by decide)))).cast hcnd.symm) (fun h => ?_) (fun h => ?_) ?_
  · obtain ⟨hg, h0, h1, hpos⟩ := hroot h
    refine sb_assign (R := rInt) (a := (l : Int)) (pe_item_list (R := rInt) (xs := R) (i := ((c1 / 2 % R.length : Nat) : Int)) (pe_name rfl) ((pe_bin (hc12 _ _ _ _ _ _ _ _ _ _ rfl) (pe_call (pe_builtin lenK boot_len (by decide) rfl) keepy_builtin (pl_cons (pe_name (R := rList rInt) (a := R) rfl) pl_nil) (f_len_list (by omega))) (b_mod_int (by omega))).cast (by rw [fmod_nat])) (Int.natCast_nonneg _) (by rw [Int.toNat_natCast]; exact hg) (by have := Nat.mod_lt (c1 / 2) hpos; omega)) (.inr ⟨rfl, _, rfl⟩) (sb_nil fun s f => f.sub ⟨rfl, rfl, rfl, trivial⟩)
  · rw [h, if_neg (by decide)] at hl
    exact sb_nil fun s f => f.sub ⟨by rw [hl]; rfl, rfl, rfl, trivial⟩
  -- behind, first
  refine sb_assign ((pe_bin (pe_item_list (R := rInt) (xs := [(c0 : Int), (c1 : Int), (c2 : Int)]) (x := (c2 : Int)) (pe_name rfl) pe_int (by decide) rfl (by decide)) pe_int (b_mod_int (by decide))).cast (y := ((c2 % 4 : Nat) : Int)) (by rw [show (4 : Int) = ((4 : Nat) : Int) from rfl, fmod_nat])) (.inr ⟨rfl, _, rfl⟩) ?_
  refine sb_assign ((pe_bin ((pe_bin (pe_item_list (R := rInt) (xs := [(c0 : Int), (c1 : Int), (c2 : Int)]) (x := (c2 : Int)) (pe_name rfl) pe_int (by decide) rfl (by decide)) pe_int (b_div_int (by decide) (PyProof.noPylong_small (by decide)))).cast (y := ((c2 / 4 : Nat) : Int)) (by rw [show (4 : Int) = ((4 : Nat) : Int) from rfl, fdiv_nat])) pe_int (b_mod_int (by decide))).cast (y := ((c2 / 4 % 3 : Nat) : Int)) (by rw [show (3 : Int) = ((3 : Nat) : Int) from rfl, fmod_nat])) (.inl rfl) ?_
  exact (law2_tail (c0 := c0) (c1 := c1) (c2 := c2) H hρ r (chk_ok hu5 hu73 hlb.1 hlb.2) hu73 hlb.1 (by omega) (b := c2 % 4) (f := c2 / 4 % 3) (by omega) (by omega) hP).sub ⟨rfl, rfl, rfl, rfl, rfl, trivial⟩
end Mine

namespace Mine
open PySem PySem.Calls PyProof.Rows PySem.W
/-- what the head leaves: the fragment with the table of __len__ -/
noncomputable def Kx (P : Params) : Frag := Kf P ++ [(63, { cls := .none, data := .fields #[] })]
theorem lookup_app {β : Type} {l m : List (Addr × β)} {a : Addr} {o : β} (h : l.lookup a = some o) : (l ++ m).lookup a = some o := by
  rw [List.lookup_append, h]; rfl
noncomputable def rhoL (s₀ : Shared) : Rst := ⟨fun s => s.os = s₀.os ∧ AllBare s.gens, fun s h t x => x⟩
theorem rhoL_ok (s₀ : Shared) : RhoOk (rhoL s₀) := ⟨fun s h => h.2, fun s s' h e b => ⟨e.trans h.1, b⟩⟩
end Mine

namespace Mine
open PySem PySem.Calls PyProof.Rows PySem.W
theorem wellAll_ints {P : Params} {h : Heap} {G : PM} : ∀ {ns : List Int} {vs : List Value}, WellAll P h vs (ofPys (ns.map PyData.int)) → All2 rInt G ns vs := by
  intro ns
  induction ns with
  | nil => intro vs w; cases w; trivial
  | cons n ns ih =>
    intro vs w
    cases w with
    | cons a r =>
      cases a with
      | int _ t => exact ⟨⟨t, rfl⟩, ih r⟩
theorem well_ints {P : Params} {h : Heap} {l : Addr} {ns : List Int} (w : Well P h (.ref l) (ofPy (.list (ns.map PyData.int)))) : ∃ vs : List Value, h.get? l = some { cls := .type "list", data := .seq vs.toArray } ∧ ∀ G, All2 rInt G ns vs := by
  have w : Well P h (.ref l) (.list (ofPys (ns.map PyData.int))) := w
  cases w with
  | list hl hw => exact ⟨_, hl, fun G => wellAll_ints hw⟩
theorem Ns.at {h h' : Heap} {a : Addr} {m : Str → Option Value} (x : h.Ns a m) (k : ∀ o, h.get? a = some o → h'.get? a = some o) : h'.Ns a m := let ⟨o, es, ep, e, r⟩ := x; ⟨o, es, ep, k o e, r⟩
theorem kf63 (P : Params) : (Kf P).lookup 63 = none := by kernel_rfl
theorem law2_entry {w : World} {p : Program} {loose : List Str} {mg mb : Str → Option Value} {fa l : Addr} {ns : List Int} {R : Result → Shared → Prop} {s : Shared} (hK : (Kx w.params).In s.heap) (T : TopRead p loose mg mb s.heap)
    (hmg : mg "law" = some (.ref fa)) (hg : s.gens = #[]) (w1 : Well w.params s.heap (.ref l) (ofPy (.list (ns.map PyData.int)))) (hcond : ¬ (63 : Int) < (ns.length : Int))
    (hR : ∀ s', OldK s.heap s'.heap → s'.os = s.os → AllBare s'.gens → R (.ok (.ret (.bool true))) s') :
    codeAny (model PySem.Challenge.pw_xj0026_02 w) callerA (.call (.ref fa) ⟨[.ref l], []⟩) R s := by
  have hKf : (Kf w.params).In s.heap := fun a o e => hK a o (lookup_app e)
  let C : Cx := ⟨PySem.Challenge.pw_xj0026_02, w, Kf w.params, p, loose, mg, mb⟩
  have hS : C.In s.heap := ⟨hKf, T⟩
  have H : Lw2 C :=
    { k := rfl, prog := rfl
      bn := fun x hx => by
        simp only [List.mem_cons, List.mem_nil_iff, or_false] at hx
        rcases hx with rfl | rfl | rfl | rfl | rfl | rfl | rfl | rfl | rfl | rfl | rfl | rfl | rfl | rfl | rfl <;> exact mg_none_of hKf T.g (by kernel_rfl)
      bm := mg_of hKf T.g (by kernel_rfl)
      int2ap := mg_of hKf T.g (by kernel_rfl)
      ws := mg_of hKf T.g (by kernel_rfl)
      acc := mg_of hKf T.g (by kernel_rfl)
      divs := mg_of hKf T.g (by kernel_rfl)
      stops := mg_of hKf T.g (by kernel_rfl) }
  have hfa : fa = 197 := by
    have : mg "law" = some (.ref 197) := mg_of hKf T.g (by kernel_rfl)
    rw [hmg] at this; cases this; rfl
  subst hfa
  have h63 : s.heap.get? 63 = some { cls := .none, data := .fields #[] } := hK 63 _ (by
    show (Kf w.params ++ _).lookup 63 = _
    rw [List.lookup_append, kf63]; rfl)
  have hn : ns.length ≤ 63 := by omega
  obtain ⟨vs, hl, hvs⟩ := well_ints w1
  have hl63 : l ≠ 63 := fun e => by rw [e, h63] at hl; cases hl
  have hown : ∀ a F, ([((63 : Addr), ocTab)] : Own).lookup a = some F → ∃ o, s.heap.get? a = some o ∧ F.r (fz [63] s.heap) o := fun a F e => by
    rw [List.lookup_cons] at e
    split at e
    · rename_i hb
      have := eq_of_beq hb
      subst this
      cases e
      exact ⟨_, h63, #[], rfl, trivial⟩
    · cases e
  refine callR_code (C := C) (X := [63]) (O := [((63 : Addr), ocTab)]) (o := (o197 w.params).1) (fd := (fd197 w.params).1) (body := (body197 w.params).1) (names := ["script"]) (vals := [.ref l]) (Fs := [(rList rInt).at ns])
    (rhoL s) ⟨rfl, fun x hx => by rw [hg] at hx; simp at hx⟩ ⟨rfl, by decide, by decide⟩ (o197 _).2 (fd197 _).2 (body197 _).2 rfl rfl rfl (by kernel_rfl) (BindsTo.of_eq rfl) rfl (by decide) (kinds_of rfl) (of_decide_eq_true rfl) hS
    (fun a m => by rw [List.mem_singleton.mp m]; exact ⟨_, h63⟩) (fun h' k => ?_) (fun a m => m) (by decide) hown ⟨⟨vs, ⟨l, _, rfl, by unfold fz; rw [if_neg (by simpa using hl63)]; exact hl⟩, hvs _⟩, trivial⟩ (fun L X' hX' => ?_) rfl rfl rfl
  · have k' : ∀ b o, b ≠ 63 → s.heap.get? b = some o → h'.get? b = some o := fun b o n e => k b o (by unfold fz; rw [if_neg (by simpa using n)]; exact e)
    refine ⟨fun a o e => k' a o (fun q => by
      have e : (Kf w.params).lookup a = some o := e
      rw [q, kf63] at e; cases e) (hKf a o e), Ns.at T.g fun o => k' _ o (by decide), Ns.at T.b fun o => k' _ o (by decide), T.nolimit.at fun o => k' _ o (by decide), T.builtins, T.free⟩
  · refine law2_sb H (rhoL_ok s) (Rm.deeper (⟨rfl, by decide, by decide⟩ : Rm 25 callerA)) hn fun s' X' O' V' f h => ?_
    obtain ⟨o, ho, ps, rfl, tr⟩ := f.kn.own _ _ h
    obtain ⟨_, _, ht⟩ := tab_of (X := [63]) H.toLw hS ⟨_, h63, #[], rfl, trivial⟩
    have k : ∀ b o, b ≠ 63 → s.heap.get? b = some o → s'.heap.get? b = some o := fun b o n e => f.keep b o (by show fz [63] s.heap b = _; unfold fz; rw [if_neg (by simpa using n)]; exact e)
    refine hR s' ⟨fun b o e => ?_, fun b o e => ?_⟩ f.rs.1 f.rs.2
    · by_cases hb : b = 63
      · subst hb
        rw [h63] at e; cases e
        exact .inr (.inl ⟨ht.isCodeTable, rfl, #[], ps, rfl, by rw [ho]; simp⟩)
      · exact .inl (k b o hb e)
    · by_cases hb : b = 63
      · subst hb; exact ⟨_, ho⟩
      · exact ⟨o, k b o hb e⟩
end Mine

open PySem PySem.W PyProof.Rows
set_option maxRecDepth 100000 in
set_option maxHeartbeats 8000000 in
theorem PySem.Challenge.cw_xj0026_02_holds : PySem.Challenge.rw_xj0026_02.Holds := by
  w_on; o_law; o_head (kHook Mine.Kx [2, 3, 25, 30, 37, 38, 44, 45, 46, 52, 53, 60, 61, 67, 68, 97, 98, 100, 101, 111, 112, 128, 129, 142, 143, 173, 174, 184, 185, 191, 192, 196, 197, 4, 63] (fun _ => by kernel_rfl)); (case hw => w_witness2)
  w_strict (
    intro w s₀ s₁ mg mb G Y fa o pm cd doc dV kV ho hd hcd hD hmg hg args vals as hpre hlay hrd hwl hlo
    have KX := kIn_of Y
    have X := (Ground.X G).1
    have V := (Ground.X G).2
    refine Ground.open G ?_
    intro T B D TE TW
    try (refine guard_noD D (by decide +kernel) ?_; clear D)
    obtain ⟨_, _, M⟩ := bmod_of_top T
    wrow_args hpre hlay hrd hwl hlo
    all_goals (
      first | refine callC_kw (enter_call ?_) | refine enter_call ?_ | refine callC_kw (enter_callW ?_) | refine enter_callW ?_ | w_how
      try w_top on)
    all_goals clear hD hcd hd
    all_goals (
      refine Mine.law2_entry KX (topRead_of T) hmg hg (by assumption) (by omega) ?_
      intro s' hO hos hb
      refine ⟨.inl ⟨_, .bool true, [], rfl, fun _ => rfl, .bool true, ?_, fun _ => ⟨List.nodup_nil, fun _ h => nomatch h⟩⟩, hO, hos, hb⟩
      first | wrow_post | exact postW_of (by o_shape) (by wtm_val) (by w_fin)))
