import PyProof.Rows.All
import Wide.All
import OpenK.AllK
import Wide.FinOn
import PySem.Challenge.RW_mg0043_01
set_option Elab.async false
section PartHd
open PySem PySem.W PyProof.Rows
set_option Elab.async false
set_option maxRecDepth 100000
set_option maxHeartbeats 8000000
namespace Mine
open_top hd for PySem.Challenge.rw_mg0043_01
end Mine
end PartHd
section PartL1
open PySem PySem.W PyProof.Rows PySem.Spec PySem.Calls
set_option Elab.async false
set_option maxRecDepth 100000
set_option maxHeartbeats 4000000
set_option linter.unusedVariables false
namespace Mine

theorem kRefl (s : Shared) : Keeps s s := ⟨s.heap, s.toks, rfl, fun _ _ e => e⟩
theorem kTrans {s s' s'' : Shared} (a : Keeps s s') (b : Keeps s' s'') : Keeps s s'' := by
  obtain ⟨h, t, rfl, k⟩ := a; obtain ⟨h', t', rfl, k'⟩ := b
  exact ⟨h', t', rfl, fun b o e => k' b o (k b o e)⟩
theorem kTok {s s' : Shared} (a : Keeps s s') (n : Nat) : Keeps s { s' with toks := n } := by
  obtain ⟨h, t, rfl, k⟩ := a; exact ⟨h, n, rfl, k⟩
theorem kTok0 (s : Shared) (n : Nat) : Keeps s { s with toks := n } := kTok (kRefl s) n
theorem kHeap {s s' : Shared} (a : Keeps s s') : ∀ b o, s.heap.get? b = some o → s'.heap.get? b = some o := by
  obtain ⟨h, t, rfl, k⟩ := a; exact k
theorem kPush {s s' : Shared} (a : Keeps s s') (o : Obj) (n : Nat) : Keeps s { s' with heap := s'.heap.push o, toks := n } := by
  obtain ⟨h, t, rfl, k⟩ := a; exact ⟨h.push o, n, rfl, fun b o' e => Heap.get?_push_of_some _ (k b o' e)⟩

noncomputable def Kp (h h' : Heap) : Prop := ∀ b o, h.get? b = some o → h'.get? b = some o
theorem kpRefl (h : Heap) : Kp h h := fun _ _ e => e
theorem kpTrans {h h' h'' : Heap} (a : Kp h h') (b : Kp h' h'') : Kp h h'' := fun x o e => b x o (a x o e)
theorem kT {h : Heap} {s s' : Shared} (a : Kp h s.heap) (b : Keeps s s') : Kp h s'.heap := fun x o e => kHeap b x o (a x o e)
theorem kOf {s s' : Shared} (a : Keeps s s') : Kp s.heap s'.heap := kHeap a

structure Ev (prog : Program) (w : World) (A : Around) (env : Env) (s₀ : Heap) (e : Expr) (P : Value → Heap → Prop) : Prop where
  out : ∀ s E, Kp s₀ s.heap → wpAny (model prog w) A (eval e env) (fun v s' => P v s'.heap ∧ Keeps s s') E s
structure Ts (prog : Program) (w : World) (A : Around) (env : Env) (s₀ : Heap) (e : Expr) (b : Bool) : Prop where
  out : ∀ s E, Kp s₀ s.heap → wpAny (model prog w) A (isTrue e env (eval e env)) (fun c s' => c = b ∧ Keeps s s') E s
noncomputable def isI (i : Int) : Value → Heap → Prop := fun v _ => ∃ t, v = .int i t
noncomputable def isS (x : Str) : Value → Heap → Prop := fun v _ => ∃ t, v = .str x t
noncomputable def isB (b : Bool) : Value → Heap → Prop := fun v _ => v = .bool b
noncomputable def isV (x : Value) : Value → Heap → Prop := fun v _ => v = x

section
variable {prog : Program} {w : World} {A : Around} {env : Env} {s₀ : Heap}

theorem Ev.of {e : Expr} {P P' : Value → Heap → Prop} (h : Ev prog w A env s₀ e P) (i : ∀ v h, P v h → P' v h) : Ev prog w A env s₀ e P' :=
  .mk fun s E k => wpAny_mono (h.out s E k) (fun v s' x => ⟨i _ _ x.1, x.2⟩) fun _ _ x => x
theorem Ev.later {e : Expr} {P : Value → Heap → Prop} {s₁ : Heap} (h : Ev prog w A env s₀ e P) (k : Kp s₀ s₁) : Ev prog w A env s₁ e P :=
  .mk fun s E k' => h.out s E (kpTrans k k')
theorem Ts.later {e : Expr} {b : Bool} {s₁ : Heap} (h : Ts prog w A env s₀ e b) (k : Kp s₀ s₁) : Ts prog w A env s₁ e b :=
  .mk fun s E k' => h.out s E (kpTrans k k')

theorem Ev.int {i k pos} : Ev prog w A env s₀ (.Constant (.int i) k pos) (isI i) := .mk fun s E _ => wpAny_Constant_int ⟨⟨_, rfl⟩, kTok0 s _⟩
theorem Ev.str {x k pos} : Ev prog w A env s₀ (.Constant (.str x) k pos) (isS x) := .mk fun s E _ => Constant_str ⟨⟨_, rfl⟩, kTok0 s _⟩

theorem Ev.loc {x pos m v} {P : Value → Heap → Prop} (hk : env.scope.kind = .function) (hl : env.kindOf x = some .local) (hn : s₀.Ns env.locals m) (hv : m x = some v) (hP : ∀ h, P v h)
    (hd : (x == ("__debug__" : Str)) = false := by decide) : Ev prog w A env s₀ (.Name x pos) P := .mk fun s E k =>
  wpAny_Name (wpAny_loadName_local hk hl (hn.keeps k) hv ⟨hP _, kRefl s⟩) hd
theorem Ev.cell {x pos c v} {P : Value → Heap → Prop} (hk : env.scope.kind = .function) (hl : env.kindOf x = some .cell) (hc : env.cells.lookup x = some c) (hv : s₀.IsCell c (some v)) (hP : ∀ h, P v h)
    (hd : (x == ("__debug__" : Str)) = false := by decide) : Ev prog w A env s₀ (.Name x pos) P := .mk fun s E k =>
  wpAny_Name (wpAny_loadName_cell hk hl hc (hv.keeps k) ⟨hP _, kRefl s⟩) hd
theorem Ev.free {x pos c v} {P : Value → Heap → Prop} (hk : env.scope.kind = .function) (hl : env.kindOf x = some .free) (hc : env.cells.lookup x = some c) (hv : s₀.IsCell c (some v)) (hP : ∀ h, P v h)
    (hd : (x == ("__debug__" : Str)) = false := by decide) (hn : (x == ("__classdict__" : Str)) = false := by decide) : Ev prog w A env s₀ (.Name x pos) P := .mk fun s E k =>
  wpAny_Name (wpAny_loadName_free hk hl hc (hv.keeps k) ⟨hP _, kRefl s⟩ hn) hd
theorem Ev.glob {x pos v} {mg : Str → Option Value} {P : Value → Heap → Prop} (hk : env.scope.kind = .function) (hl : env.kindOf x = some .globalImplicit) (hg : s₀.Ns env.globals mg) (hv : mg x = some v) (hP : ∀ h, P v h)
    (hd : (x == ("__debug__" : Str)) = false := by decide) : Ev prog w A env s₀ (.Name x pos) P := .mk fun s E k =>
  Name_function_global hk hl (loadGlobal_global (hg.keeps k) hv ⟨hP _, kRefl s⟩) hd
theorem Ev.bltn {x pos v} {mg mb : Str → Option Value} {P : Value → Heap → Prop} (hk : env.scope.kind = .function) (hl : env.kindOf x = some .globalImplicit) (hg : s₀.Ns env.globals mg) (hm : mg x = none)
    (hb : s₀.Ns env.builtins mb) (hv : mb x = some v) (hP : ∀ h, P v h)
    (hd : (x == ("__debug__" : Str)) = false := by decide) : Ev prog w A env s₀ (.Name x pos) P := .mk fun s E k =>
  Name_function_global hk hl (loadGlobal_builtin (hg.keeps k) hm (hb.keeps k) hv ⟨hP _, kRefl s⟩) hd

theorem Ev.bin {l r op pos} {P Q R : Value → Heap → Prop} (hl : Ev prog w A env s₀ l P) (hr : Ev prog w A env s₀ r Q)
    (hP : ∀ v h h', P v h → P v h') (ho : ∀ a b s E, Kp s₀ s.heap → P a s.heap → Q b s.heap → wpAny (model prog w) A (binaryOp op a b) (fun v s' => R v s'.heap ∧ Keeps s s') E s) :
    Ev prog w A env s₀ (.BinOp l op r pos) R := .mk fun s E k =>
  wpAny_BinOp (wpAny_mono (hl.out s E k) (fun a s₁ x => wpAny_mono (hr.out s₁ E (kT k x.2)) (fun b s₂ y =>
    wpAny_mono (ho a b s₂ E (kT (kT k x.2) y.2) (hP _ _ _ x.1) y.1) (fun v s₃ z => ⟨z.1, kTrans x.2 (kTrans y.2 z.2)⟩) fun _ _ z => z) fun _ _ z => z) fun _ _ z => z)

theorem Ev.binI {l r op pos} {i j : Int} {R : Value → Heap → Prop} (hl : Ev prog w A env s₀ l (isI i)) (hr : Ev prog w A env s₀ r (isI j))
    (ho : ∀ t u s E, Kp s₀ s.heap → wpAny (model prog w) A (binaryOp op (.int i t) (.int j u)) (fun v s' => R v s'.heap ∧ Keeps s s') E s) : Ev prog w A env s₀ (.BinOp l op r pos) R :=
  Ev.bin hl hr (fun _ _ _ x => x) fun a b s E k ha hb => by obtain ⟨t, rfl⟩ := ha; obtain ⟨u, rfl⟩ := hb; exact ho t u s E k
theorem Ev.add {l r pos} {i j : Int} (hl : Ev prog w A env s₀ l (isI i)) (hr : Ev prog w A env s₀ r (isI j)) : Ev prog w A env s₀ (.BinOp l .Add r pos) (isI (i + j)) :=
  Ev.binI hl hr fun t u s E _ => PyProof.Rows.add_int ⟨⟨_, rfl⟩, kTok0 s _⟩
theorem Ev.sub {l r pos} {i j : Int} (hl : Ev prog w A env s₀ l (isI i)) (hr : Ev prog w A env s₀ r (isI j)) : Ev prog w A env s₀ (.BinOp l .Sub r pos) (isI (i - j)) :=
  Ev.binI hl hr fun t u s E _ => PyProof.Rows.sub_int ⟨⟨_, rfl⟩, kTok0 s _⟩
theorem Ev.mul {l r pos} {i j : Int} (hl : Ev prog w A env s₀ l (isI i)) (hr : Ev prog w A env s₀ r (isI j)) (hm : IntMulOk i j) : Ev prog w A env s₀ (.BinOp l .Mult r pos) (isI (i * j)) :=
  Ev.binI hl hr fun t u s E _ => PyProof.Rows.mul_int ⟨⟨_, rfl⟩, kTok0 s _⟩ hm
theorem Ev.mod {l r pos} {i j : Int} (hl : Ev prog w A env s₀ l (isI i)) (hr : Ev prog w A env s₀ r (isI j)) (hj : 0 < j) : Ev prog w A env s₀ (.BinOp l .Mod r pos) (isI (i % j)) :=
  Ev.binI hl hr fun t u s E _ => PyProof.Rows.mod_int (by omega) ⟨⟨_, by rw [Int.fmod_eq_emod_of_nonneg _ (Int.le_of_lt hj)]⟩, kTok0 s _⟩
theorem Ev.fdiv {l r pos} {i j : Int} (hl : Ev prog w A env s₀ l (isI i)) (hr : Ev prog w A env s₀ r (isI j)) (hj : 0 < j) (hb : Builtin.divisionGoesByPylong i j = false) : Ev prog w A env s₀ (.BinOp l .FloorDiv r pos) (isI (i / j)) :=
  Ev.binI hl hr fun t u s E _ => PyProof.Rows.floordiv_int (by omega) ⟨⟨_, by rw [Int.fdiv_eq_ediv_of_nonneg _ (Int.le_of_lt hj)]⟩, kTok0 s _⟩ (Or.inl hb)
theorem Ev.pow {l r pos} {i j : Int} (hl : Ev prog w A env s₀ l (isI i)) (hr : Ev prog w A env s₀ r (isI j)) (hj : 0 ≤ j) (hz : (Builtin.Int.intBits i : Int) * j ≤ 2 ^ 27) : Ev prog w A env s₀ (.BinOp l .Pow r pos) (isI (i ^ j.toNat)) :=
  Ev.binI hl hr fun t u s E _ => PyProof.Rows.pow_int hj hz ⟨⟨_, rfl⟩, kTok0 s _⟩
theorem Ev.and {l r pos} {i j : Int} (hl : Ev prog w A env s₀ l (isI i)) (hr : Ev prog w A env s₀ r (isI j)) : Ev prog w A env s₀ (.BinOp l .BitAnd r pos) (isI (Builtin.bitAnd i j)) :=
  Ev.binI hl hr fun t u s E _ => PyProof.Rows.and_int ⟨⟨_, rfl⟩, kTok0 s _⟩
theorem Ev.or {l r pos} {i j : Int} (hl : Ev prog w A env s₀ l (isI i)) (hr : Ev prog w A env s₀ r (isI j)) : Ev prog w A env s₀ (.BinOp l .BitOr r pos) (isI (Builtin.bitOr i j)) :=
  Ev.binI hl hr fun t u s E _ => PyProof.Rows.or_int ⟨⟨_, rfl⟩, kTok0 s _⟩
theorem Ev.xor {l r pos} {i j : Int} (hl : Ev prog w A env s₀ l (isI i)) (hr : Ev prog w A env s₀ r (isI j)) : Ev prog w A env s₀ (.BinOp l .BitXor r pos) (isI (Builtin.bitXor i j)) :=
  Ev.binI hl hr fun t u s E _ => PyProof.Rows.xor_int ⟨⟨_, rfl⟩, kTok0 s _⟩
theorem Ev.cat {l r pos} {x y : Str} (hl : Ev prog w A env s₀ l (isS x)) (hr : Ev prog w A env s₀ r (isS y)) (hz : x.length + y.length ≤ sizeLine) : Ev prog w A env s₀ (.BinOp l .Add r pos) (isS (x ++ y)) :=
  Ev.bin hl hr (fun _ _ _ x => x) fun a b s E k ha hb => by
    obtain ⟨t, rfl⟩ := ha; obtain ⟨u, rfl⟩ := hb
    exact PyProof.Rows.add_str (fun t' tk => ⟨⟨_, rfl⟩, kTok0 s _⟩) hz
theorem Ev.neg1 {pos k p} : Ev prog w A env s₀ (.UnaryOp .USub (.Constant (.int 1) k p) pos) (isI (-1)) := .mk fun s E _ =>
  wpAny_UnaryOp (wpAny_Constant_int (PyProof.Rows.neg_int ⟨⟨_, rfl⟩, kTok (kTok0 s _) _⟩))

theorem Ev.cmp {l r op pos} {P Q : Value → Heap → Prop} {b : Bool} (hl : Ev prog w A env s₀ l P) (hr : Ev prog w A env s₀ r Q)
    (hP : ∀ v h h', P v h → P v h') (ho : ∀ a b' s E, Kp s₀ s.heap → P a s.heap → Q b' s.heap → wpAny (model prog w) A (compareOp op a b') (fun v s' => v = .bool b ∧ Keeps s s') E s)
    (hm : behindInMarks op r = false) :
    Ev prog w A env s₀ (.Compare l [op] [r] pos) (isB b) ∧ Ts prog w A env s₀ (.Compare l [op] [r] pos) b := by
  refine ⟨.mk fun s E k => wpAny_Compare1 (wpAny_mono (hl.out s E k) (fun a s₁ x => wpAny_mono (hr.out s₁ E (kT k x.2)) (fun c s₂ y =>
    wpAny_mono (ho a c s₂ E (kT (kT k x.2) y.2) (hP _ _ _ x.1) y.1) (fun v s₃ z => ⟨z.1, kTrans x.2 (kTrans y.2 z.2)⟩) fun _ _ z => z) fun _ _ z => z) fun _ _ z => z) hm, ?_⟩
  exact .mk fun s E k => wpAny_isTrue_Compare1 (wpAny_mono (hl.out s E k) (fun a s₁ x => wpAny_mono (hr.out s₁ E (kT k x.2)) (fun c s₂ y =>
    wpAny_mono (ho a c s₂ E (kT (kT k x.2) y.2) (hP _ _ _ x.1) y.1) (fun v s₃ z => by
      obtain ⟨rfl, z⟩ := z; exact wpAny_truthy_bool ⟨rfl, kTrans x.2 (kTrans y.2 z)⟩) fun _ _ z => z) fun _ _ z => z) fun _ _ z => z) hm

theorem Ev.eqI {l r pos} {i j : Int} (hl : Ev prog w A env s₀ l (isI i)) (hr : Ev prog w A env s₀ r (isI j)) (hm : behindInMarks .Eq r = false := by with_unfolding_all rfl) :
    Ev prog w A env s₀ (.Compare l [.Eq] [r] pos) (isB (i == j)) ∧ Ts prog w A env s₀ (.Compare l [.Eq] [r] pos) (i == j) :=
  Ev.cmp hl hr (fun _ _ _ x => x) (fun a b s E _ ha hb => by obtain ⟨t, rfl⟩ := ha; obtain ⟨u, rfl⟩ := hb; exact PyProof.Rows.eq_int ⟨rfl, kRefl s⟩) hm
theorem Ev.ltI {l r pos} {i j : Int} (hl : Ev prog w A env s₀ l (isI i)) (hr : Ev prog w A env s₀ r (isI j)) (hm : behindInMarks .Lt r = false := by with_unfolding_all rfl) :
    Ev prog w A env s₀ (.Compare l [.Lt] [r] pos) (isB (decide (i < j))) ∧ Ts prog w A env s₀ (.Compare l [.Lt] [r] pos) (decide (i < j)) :=
  Ev.cmp hl hr (fun _ _ _ x => x) (fun a b s E _ ha hb => by obtain ⟨t, rfl⟩ := ha; obtain ⟨u, rfl⟩ := hb; exact PyProof.Rows.lt_int ⟨rfl, kRefl s⟩) hm
theorem Ev.eqS {l r pos} {x y : Str} (hl : Ev prog w A env s₀ l (isS x)) (hr : Ev prog w A env s₀ r (isS y)) (hm : behindInMarks .Eq r = false := by with_unfolding_all rfl) :
    Ev prog w A env s₀ (.Compare l [.Eq] [r] pos) (isB (x == y)) ∧ Ts prog w A env s₀ (.Compare l [.Eq] [r] pos) (x == y) :=
  Ev.cmp hl hr (fun _ _ _ x => x) (fun a b s E _ ha hb => by obtain ⟨t, rfl⟩ := ha; obtain ⟨u, rfl⟩ := hb; exact PyProof.Rows.eq_str ⟨rfl, kRefl s⟩) hm
theorem Ev.inS {l r pos} {x y : Str} (hl : Ev prog w A env s₀ l (isS y)) (hr : Ev prog w A env s₀ r (isS x)) (hm : behindInMarks .In r = false := by with_unfolding_all rfl) :
    Ev prog w A env s₀ (.Compare l [.In] [r] pos) (isB (Txt.contains x y)) ∧ Ts prog w A env s₀ (.Compare l [.In] [r] pos) (Txt.contains x y) :=
  Ev.cmp hl hr (fun _ _ _ x => x) (fun a b s E _ ha hb => by obtain ⟨t, rfl⟩ := ha; obtain ⟨u, rfl⟩ := hb; exact SB.contains ⟨rfl, kRefl s⟩) hm

theorem Ev.ite {t a b pos} {c : Bool} {P : Value → Heap → Prop} (ht : Ts prog w A env s₀ t c) (ha : c = true → Ev prog w A env s₀ a P) (hb : c = false → Ev prog w A env s₀ b P) :
    Ev prog w A env s₀ (.IfExp t a b pos) P := .mk fun s E k => by
  refine wpAny_IfExp (wpAny_mono (ht.out s E k) (fun c' s₁ x => ?_) fun _ _ z => z)
  obtain ⟨rfl, x⟩ := x
  cases c'
  · exact wpAny_mono ((hb rfl).out s₁ E (kT k x)) (fun v s' y => ⟨y.1, kTrans x y.2⟩) fun _ _ z => z
  · exact wpAny_mono ((ha rfl).out s₁ E (kT k x)) (fun v s' y => ⟨y.1, kTrans x y.2⟩) fun _ _ z => z
theorem Ts.and {a b pos} {c d : Bool} (ha : Ts prog w A env s₀ a c) (hb : c = true → Ts prog w A env s₀ b d) : Ts prog w A env s₀ (.BoolOp .And [a, b] pos) (c && d) := .mk fun s E k => by
  refine wpAny_isTrue_BoolOp (wpAny_allTrue_And_cons (wpAny_mono (ha.out s E k) (fun c' s₁ x => ?_) fun _ _ z => z))
  obtain ⟨rfl, x⟩ := x
  cases c'
  · exact ⟨rfl, x⟩
  · refine wpAny_allTrue_And_cons (wpAny_mono ((hb rfl).out s₁ E (kT k x)) (fun d' s₂ y => ?_) fun _ _ z => z)
    obtain ⟨rfl, y⟩ := y
    cases d'
    · exact ⟨rfl, kTrans x y⟩
    · exact wpAny_allTrue_And_nil ⟨rfl, kTrans x y⟩
theorem Ts.or {a b pos} {c d : Bool} (ha : Ts prog w A env s₀ a c) (hb : c = false → Ts prog w A env s₀ b d) : Ts prog w A env s₀ (.BoolOp .Or [a, b] pos) (c || d) := .mk fun s E k => by
  refine wpAny_isTrue_BoolOp (wpAny_allTrue_Or_cons (wpAny_mono (ha.out s E k) (fun c' s₁ x => ?_) fun _ _ z => z))
  obtain ⟨rfl, x⟩ := x
  cases c'
  · refine wpAny_allTrue_Or_cons (wpAny_mono ((hb rfl).out s₁ E (kT k x)) (fun d' s₂ y => ?_) fun _ _ z => z)
    obtain ⟨rfl, y⟩ := y
    cases d'
    · exact wpAny_allTrue_Or_nil ⟨rfl, kTrans x y⟩
    · exact ⟨rfl, kTrans x y⟩
  · exact ⟨rfl, x⟩
end
end Mine
end PartL1
section PartL2
open PySem PySem.W PyProof.Rows PySem.Spec PySem.Calls
set_option Elab.async false
set_option maxRecDepth 100000
set_option maxHeartbeats 4000000
set_option linter.unusedVariables false
namespace Mine
section
variable {prog : Program} {w : World} {A : Around} {env : Env} {s₀ : Heap}

theorem sizeIs : sizeLine = 16777216 := by decide

theorem Ev.itemS {value slice pos} {x : Str} {i : Int} {c : Nat} (hv : Ev prog w A env s₀ value (isS x)) (hi : Ev prog w A env s₀ slice (isI i)) (h0 : 0 ≤ i) (hc : x.cps[i.toNat]? = some c) (hz : x.length ≤ sizeLine)
    (hs : ∀ o i, subscripted slice false o i = operate [o, i] (getItem o i)) : Ev prog w A env s₀ (.Subscript value slice pos) (isS ⟨#[c]⟩) := .mk fun s E k =>
  Subscript_ (wpAny_mono (hv.out s E k) (fun o s₁ x1 => wpAny_mono (hi.out s₁ E (kT k x1.2)) (fun j s₂ y => by
    obtain ⟨⟨t, rfl⟩, k1⟩ := x1
    obtain ⟨⟨u, rfl⟩, k2⟩ := y
    have hlt : i.toNat < x.cps.size := (Array.getElem?_eq_some_iff.mp hc).1
    have hn : i < 2 ^ 63 := by rw [sizeIs] at hz; unfold Str.length at hz; omega
    refine tail_any (typeIs_str _ _ _) F.slot_str_getitem.lookup (P.getItem_str (c := c) ?_ (PySem.StrLaws.at_nonneg h0 hc) ⟨⟨_, rfl⟩, kTok (kTrans k1 k2) _⟩) (hs _ _)
    simp; omega) fun _ _ z => z) fun _ _ z => z)

theorem Ev.sliceS {value lo hi p pos} {x : Str} {a b : Nat} (hv : Ev prog w A env s₀ value (isS x)) (hl : Ev prog w A env s₀ lo (isI a)) (hh : Ev prog w A env s₀ hi (isI b)) (hab : a ≤ b) (hb : b ≤ x.length) (hz : x.length ≤ sizeLine)
    (ht : ∀ o r, letTemporaryGo value o r = pure () := by intro _ _; rfl) :
    Ev prog w A env s₀ (.Subscript value (.Slice (some lo) (some hi) none p) pos) (isS ⟨((x.cps.toList.drop a).take (b - a)).toArray⟩) := .mk fun s E k =>
  wpAny_Subscript_str_slice (wpAny_mono (hv.out s E k) (fun o s₁ x1 => evalPart_some_step (wpAny_mono (hl.out s₁ E (kT k x1.2)) (fun j s₂ y => evalPart_some_step (wpAny_mono (hh.out s₂ E (kT (kT k x1.2) y.2)) (fun j' s₃ z => by
    obtain ⟨⟨t, rfl⟩, k1⟩ := x1
    obtain ⟨⟨u, rfl⟩, k2⟩ := y
    obtain ⟨⟨u', rfl⟩, k3⟩ := z
    refine ⟨x, t, some (a, u), some (b, u'), rfl, rfl, rfl, ?_⟩
    have e := PySem.StrLaws.sliceText_nat x hab hb
    refine post_val_or_str (t := t) ⟨Nat.le_trans (Txt.slice_le x (some (a : Int)) (some (b : Int))) hz, fun t' k' => ?_⟩
    refine ⟨⟨t', ?_⟩, kPush (kTrans k1 (kTrans k2 k3)) _ _⟩
    rw [← e]; rfl) fun _ _ z => z)) fun _ _ z => z)) fun _ _ z => z) ht

noncomputable def isTupAt (i : Nat) (R : Value → Heap → Prop) : Value → Heap → Prop := fun v h => ∃ (a : Addr) (l : List Value) (x : Value), v = .ref a ∧ IsTup h a l.toArray ∧ l[i]? = some x ∧ l.length ≤ sizeLine ∧ ∀ h', Kp h h' → R x h'
theorem Ev.itemT {value slice pos} {i : Int} {R : Value → Heap → Prop} (hv : Ev prog w A env s₀ value (isTupAt i.toNat R)) (hi : Ev prog w A env s₀ slice (isI i)) (h0 : 0 ≤ i)
    (hs : ∀ o i, subscripted slice false o i = operate [o, i] (getItem o i)) : Ev prog w A env s₀ (.Subscript value slice pos) R := .mk fun s E k =>
  Subscript_ (wpAny_mono (hv.out s E k) (fun o s₁ x1 => wpAny_mono (hi.out s₁ E (kT k x1.2)) (fun j s₂ y => by
    obtain ⟨⟨a, l, x, rfl, ht, hx, hz, hR⟩, k1⟩ := x1
    obtain ⟨⟨u, rfl⟩, k2⟩ := y
    have hlt : i.toNat < l.length := (List.getElem?_eq_some_iff.mp hx).1
    rw [sizeIs] at hz
    exact item_tupleT (ht.keeps (kHeap k2)) (by omega) (by omega) (seqIndex_of h0 (by omega)) hx ⟨hR _ (kOf k2), kTrans k1 k2⟩ (hs _ _)) fun _ _ z => z) fun _ _ z => z)

theorem Ev.call1 {f np e pos} {id : String} {P R : Value → Heap → Prop} (hf : Ev prog w A env s₀ (.Name f np) (isV (.builtin id))) (he : Ev prog w A env s₀ e P)
    (hs : starEach [e] env = [(false, eval e env)]) (hc : ∀ v s E, Kp s₀ s.heap → P v s.heap → wpAny (model prog w) A (call (.builtin id) [v]) (fun r s' => R r s'.heap ∧ Keeps s s') E s) :
    Ev prog w A env s₀ (.Call (.Name f np) [e] [] pos) R := .mk fun s E k =>
  Call_name1 hs (wpAny_mono (hf.out s E k) (fun g s₁ x1 => by
    obtain ⟨rfl, k1⟩ := x1
    exact callWith_builtin1 (wpAny_mono (he.out s₁ E (kT k k1)) (fun v s₂ y => wpAny_mono (hc v s₂ E (kT (kT k k1) y.2) y.1) (fun r s₃ z => ⟨z.1, kTrans k1 (kTrans y.2 z.2)⟩) fun _ _ z => z) fun _ _ z => z)) fun _ _ z => z)

theorem Ev.lenS {f np e pos} {x : Str} (hf : Ev prog w A env s₀ (.Name f np) (isV (.builtin "len"))) (he : Ev prog w A env s₀ e (isS x)) (hz : x.length ≤ sizeLine)
    (hs : starEach [e] env = [(false, eval e env)]) : Ev prog w A env s₀ (.Call (.Name f np) [e] [] pos) (isI x.length) :=
  Ev.call1 hf he hs fun v s E k hv => by
    obtain ⟨t, rfl⟩ := hv
    exact PyProof.Rows.len_str (by rw [sizeIs] at hz; omega) ⟨⟨_, rfl⟩, kTok0 s _⟩

noncomputable def isSL (xs : List Str) : Value → Heap → Prop := fun v h => ∃ D l, v = .ref D ∧ h.IsList D (strValues l).toArray ∧ l.map (·.1) = xs
noncomputable def intValues (l : List (Int × Tok)) : List Value := l.map fun p => .int p.1 p.2
noncomputable def isIL (ns : List Int) : Value → Heap → Prop := fun v h => ∃ D l, v = .ref D ∧ h.IsList D (intValues l).toArray ∧ l.map (·.1) = ns

theorem Ev.lenL {f np e pos} {xs : List Str} (hf : Ev prog w A env s₀ (.Name f np) (isV (.builtin "len"))) (he : Ev prog w A env s₀ e (isSL xs)) (hz : xs.length ≤ sizeLine)
    (hs : starEach [e] env = [(false, eval e env)]) : Ev prog w A env s₀ (.Call (.Name f np) [e] [] pos) (isI xs.length) :=
  Ev.call1 hf he hs fun v s E k hv => by
    obtain ⟨D, l, rfl, hl, rfl⟩ := hv
    rw [sizeIs] at hz
    have e : ((strValues l).toArray.size : Int) = ((l.map (·.1)).length : Nat) := by simp [strValues]
    refine PyProof.Rows.len_list hl (by rw [e]; omega) ⟨⟨_, by rw [e]⟩, kTok (kTok0 s _) _⟩

theorem preSum_list : ∀ (l : List Int), preSum (fun i => l.getD i 0) l.length = l.sum := by
  intro l
  have : ∀ (n : Nat), n ≤ l.length → preSum (fun i => l.getD i 0) n = (l.take n).sum := by
    intro n
    induction n with
    | zero => intro _; simp [preSum]
    | succ n ih =>
      intro hn
      have hlt : n < l.length := hn
      rw [preSum, ih (by omega), List.take_add_one, List.sum_append]
      simp [List.getElem?_eq_getElem hlt, List.getD_eq_getElem?_getD]
  rw [this _ (Nat.le_refl _), List.take_length]

theorem Ev.sumL {f np e pos} {ns : List Int} (hA : A.handled = none) (hf : Ev prog w A env s₀ (.Name f np) (isV (.builtin "sum"))) (he : Ev prog w A env s₀ e (isIL ns))
    (hs : starEach [e] env = [(false, eval e env)]) : Ev prog w A env s₀ (.Call (.Name f np) [e] [] pos) (isI ns.sum) :=
  Ev.call1 hf he hs fun v s E k hv => by
    obtain ⟨D, l, rfl, hl, rfl⟩ := hv
    refine call_sum_walkG (wpAny_pyIter_list hl ?_)
    have hD : D < s.heap.objs.size := let ⟨_, ho, _⟩ := hl; Heap.lt_size ho
    refine ⟨s.heap.objs.size, _, _, _, _, _, fun i => (l.map (·.1)).getD i 0, rfl, Walks.list (A := A.in1) hA s.heap.objs.size D (Nat.ne_of_lt hD) (intValues l).toArray, ⟨⟨_, Heap.get?_push_size _ rfl, rfl, rfl⟩, ?_⟩, ?_, ?_, ?_⟩
    · obtain ⟨o, ho, r⟩ := hl; exact ⟨o, Heap.get?_push_of_some _ ho, r⟩
    · intro b hb; simp at hb; rcases hb with rfl | rfl
      · rw [Heap.size_push]; exact Nat.lt_succ_self _
      · rw [Heap.size_push]; exact Nat.lt_succ_of_lt hD
    · intro i v hv
      simp [intValues] at hv
      obtain ⟨a, b, hab, rfl⟩ := hv
      exact ⟨b, by simp [List.getD_eq_getElem?_getD, hab]⟩
    · intro h' tk t' hk
      refine ⟨⟨t', ?_⟩, ⟨h', tk, rfl, fun b o e => hk b o (by simp; exact Nat.ne_of_lt (Heap.lt_size e)) (Heap.get?_push_of_some _ e)⟩⟩
      have := preSum_list (l.map (·.1))
      simp [intValues] at this ⊢
      exact this

theorem Ev.join {sep : Str} {kc pc apos e pos} {xs : List Str} (he : Ev prog w A env s₀ e (isSL xs)) (hok : JoinOk sep xs = true)
    (hbase : attributeBase (.Constant (.str sep) kc pc) "join" env (eval (.Constant (.str sep) kc pc) env) = eval (.Constant (.str sep) kc pc) env) (hs : starEach [e] env = [(false, eval e env)]) (hline : (apos.endLine == pos.line) = true) :
    Ev prog w A env s₀ (.Call (.Attribute (.Constant (.str sep) kc pc) "join" apos) [e] [] pos) (isS (Txt.join sep xs)) := .mk fun s E k =>
  Call_method1 hbase hs hline (wpAny_mono (Ev.str.out s E k) (fun v s₁ x1 => by
    obtain ⟨⟨t, rfl⟩, k1⟩ := x1
    exact SB.join (wpAny_mono (he.out s₁ E (kT k k1)) (fun v s₂ y => by
      obtain ⟨⟨D, l, rfl, hl, hm⟩, k2⟩ := y
      exact ⟨D, l, rfl, hl, xs, hm, hok, fun t' k' => ⟨⟨t', rfl⟩, kTok (kTrans k1 k2) _⟩⟩) fun _ _ z => z)) fun _ _ z => z)

theorem Ev.inD {l r pos} {x : Str} {d : Addr} {kvs : List (Str × Value)} (hl : Ev prog w A env s₀ l (isS x)) (hr : Ev prog w A env s₀ r (isV (.ref d))) (hd : s₀.DictOf (strKind prog w) d kvs) (hdS : (d == sysModules) = false) (hm : behindInMarks .In r = false := by with_unfolding_all rfl) :
    Ev prog w A env s₀ (.Compare l [.In] [r] pos) (isB (valueAt kvs x).isSome) ∧ Ts prog w A env s₀ (.Compare l [.In] [r] pos) (valueAt kvs x).isSome :=
  Ev.cmp hl hr (fun _ _ _ x => x) (fun a b s E k ha hb => by
    obtain ⟨t, rfl⟩ := ha
    obtain rfl := hb
    exact wpAny_in_of (knd := strKind prog w) (strKind_is _ _ _ _) hdS (hd.keep k).mapOf ⟨rfl, kTok0 s _⟩) hm
theorem Ev.itemD {value slice pos} {x : Str} {d : Addr} {v : Value} {kvs : List (Str × Value)} {R : Value → Heap → Prop} (hv : Ev prog w A env s₀ value (isV (.ref d))) (hi : Ev prog w A env s₀ slice (isS x)) (hd : s₀.DictOf (strKind prog w) d kvs)
    (hx : valueAt kvs x = some v) (hR : ∀ h, R v h) (hs : ∀ o i, subscripted slice false o i = operate [o, i] (getItem o i)) : Ev prog w A env s₀ (.Subscript value slice pos) R := .mk fun s E k =>
  Subscript_ (wpAny_mono (hv.out s E k) (fun o s₁ x1 => wpAny_mono (hi.out s₁ E (kT k x1.2)) (fun j s₂ y => by
    obtain ⟨rfl, k1⟩ := x1
    obtain ⟨⟨u, rfl⟩, k2⟩ := y
    have hm := (hd.keep (kT (kT k k1) k2))
    exact tail_any hm.typeIs slot_dict_getitem.lookup (wpAny_getItem_of (knd := strKind prog w) (strKind_is _ _ _ _) hm.mapOf hx ⟨hR _, kTok (kTrans k1 k2) _⟩) (hs _ _)) fun _ _ z => z) fun _ _ z => z)
theorem Ev.get2 {o e f apos pos} {x : Str} {d : Addr} {kvs : List (Str × Value)} {dv : Value → Heap → Prop} {R : Value → Heap → Prop} (ho : Ev prog w A env s₀ o (isV (.ref d))) (he : Ev prog w A env s₀ e (isS x)) (hf : Ev prog w A env s₀ f dv) (hd : s₀.DictOf (strKind prog w) d kvs) (hdS : (d == sysModules) = false)
    (hR : ∀ v h h', dv v h → R ((valueAt kvs x).getD v) h')
    (hbase : attributeBase o "get" env (eval o env) = eval o env) (hs : starEach [e, f] env = [(false, eval e env), (false, eval f env)]) (hline : (apos.endLine == pos.line) = true) :
    Ev prog w A env s₀ (.Call (.Attribute o "get" apos) [e, f] [] pos) R := .mk fun s E k =>
  Call_method2 hbase hs hline (wpAny_mono (ho.out s E k) (fun v s₁ x1 => by
    obtain ⟨rfl, k1⟩ := x1
    have hm := (hd.keep (kT k k1))
    exact ⟨"dict", "dict.get", F.plainAttrs_dict, F.slot_dict_get, F.type_dict_get, hm.typeIs, (fun a e => by cases e; exact hm.mapOf.noDict _ rfl),
      wpAny_dict_get2 (knd := strKind prog w) hdS (wpAny_mono (he.out s₁ E (kT k k1)) (fun key s₂ y => wpAny_mono (hf.out s₂ E (kT (kT k k1) y.2)) (fun dfl s₃ z => by
        obtain ⟨⟨u, rfl⟩, k2⟩ := y
        obtain ⟨z, k3⟩ := z
        exact ⟨x, _, strKind_is _ _ _ _, (hd.keep (kT (kT (kT k k1) k2) k3)).mapOf, hR _ _ _ z, kTok (kTrans k1 (kTrans k2 k3)) _⟩) fun _ _ z => z) fun _ _ z => z)⟩) fun _ _ z => z)
theorem Ts.inD {l r pos} {x : Str} {d : Addr} {kvs : List (Str × Value)} (hl : Ev prog w A env s₀ l (isS x)) (hr : Ev prog w A env s₀ r (isV (.ref d))) (hd : s₀.DictOf (strKind prog w) d kvs) (hdS : (d == sysModules) = false) (hm : behindInMarks .In r = false := by with_unfolding_all rfl) :
    Ts prog w A env s₀ (.Compare l [.In] [r] pos) (valueAt kvs x).isSome := (Ev.inD hl hr hd hdS hm).2
theorem Ts.inS {l r pos} {x y : Str} (hl : Ev prog w A env s₀ l (isS y)) (hr : Ev prog w A env s₀ r (isS x)) (hm : behindInMarks .In r = false := by with_unfolding_all rfl) :
    Ts prog w A env s₀ (.Compare l [.In] [r] pos) (Txt.contains x y) := (Ev.inS hl hr hm).2
theorem Ts.eqI {l r pos} {i j : Int} (hl : Ev prog w A env s₀ l (isI i)) (hr : Ev prog w A env s₀ r (isI j)) (hm : behindInMarks .Eq r = false := by with_unfolding_all rfl) :
    Ts prog w A env s₀ (.Compare l [.Eq] [r] pos) (i == j) := (Ev.eqI hl hr hm).2
theorem Ts.ltI {l r pos} {i j : Int} (hl : Ev prog w A env s₀ l (isI i)) (hr : Ev prog w A env s₀ r (isI j)) (hm : behindInMarks .Lt r = false := by with_unfolding_all rfl) :
    Ts prog w A env s₀ (.Compare l [.Lt] [r] pos) (decide (i < j)) := (Ev.ltI hl hr hm).2
theorem Ts.eqS {l r pos} {x y : Str} (hl : Ev prog w A env s₀ l (isS x)) (hr : Ev prog w A env s₀ r (isS y)) (hm : behindInMarks .Eq r = false := by with_unfolding_all rfl) :
    Ts prog w A env s₀ (.Compare l [.Eq] [r] pos) (x == y) := (Ev.eqS hl hr hm).2
end
end Mine
end PartL2
section PartL3
open PySem PySem.W PyProof.Rows PySem.Spec PySem.Calls
set_option Elab.async false
set_option maxRecDepth 100000
set_option maxHeartbeats 4000000
set_option linter.unusedVariables false
namespace Mine

structure Src (prog : Program) (w : World) (A : Around) (env : Env) (s₀ : Heap) (tg : Expr) (iter : Expr) (old : List Addr) (n : Nat) (P : Nat → Value → Prop) : Prop where
  out : ∀ s E, Kp s₀ s.heap → wpAny (model prog w) A (eval iter env) (fun xv s₁ => wpAny (model prog w) A (pyIter xv) (fun it s₂ => ∃ I St, it = .ref I ∧ Walks prog w A I (I :: old) [I] n P St ∧ St 0 s₂.heap ∧
    (∀ b ∈ I :: old, b < s₂.heap.objs.size) ∧ s.heap.get? I = none ∧ Keeps s s₂ ∧ (∀ i v (s' : Shared) (Q' : Unit → Shared → Prop) E', St i s'.heap → Q' () s' → wpAny (model prog w) A (letOwnedTupleGo tg (.ref I) v) Q' E' s')) E s₁) E s

section
variable {prog : Program} {w : World} {A : Around} {env : Env} {s₀ : Heap}

theorem fresh_of {h : Heap} {a : Addr} (ha : h.objs.size ≤ a) : h.get? a = none := by
  cases e : h.get? a with
  | none => rfl
  | some o => exact absurd (Heap.lt_size e) (Nat.not_lt.mpr ha)

theorem noneBack {h h' : Heap} {a : Addr} (k : Kp h h') (e : h'.get? a = none) : h.get? a = none := by
  cases q : h.get? a with
  | none => rfl
  | some o => rw [k a o q] at e; cases e

noncomputable def isSg (s : Str) (v : Value) : Prop := ∃ u, v = .str s u
noncomputable def signs (x : Str) : List Str := x.cps.toList.map fun c => ⟨#[c]⟩
theorem Walks.re {prog : Program} {w : World} {A : Around} {I : Addr} {fp wr : List Addr} {n n' : Nat} {P P' : Nat → Value → Prop} {St : Nat → Heap → Prop} (W : Walks prog w A I fp wr n P St) (hn : n = n') (hP : ∀ i v, P i v → P' i v) : Walks prog w A I fp wr n' P' St := by
  subst hn
  exact ⟨W.sub, W.frame, fun i s Q E hi st hQ => W.item i s Q E hi st fun v h' tk hp => hQ v h' tk (hP _ _ hp), W.done, W.self⟩

theorem Src.str {e} {x : Str} {tg : Expr} (hA : A.handled = none) (htg : ∀ it v, letOwnedTupleGo tg it v = pure ()) (he : Ev prog w A env s₀ e (isS x)) : Src prog w A env s₀ tg e [] (signs x).length (fun i v => ∃ a, (signs x)[i]? = some a ∧ isSg a v) := .mk fun s E k =>
  wpAny_mono (he.out s E k) (fun v s₁ x1 => by
    obtain ⟨⟨t, rfl⟩, k1⟩ := x1
    refine wpAny_pyIter_str fun o St W h0 => ⟨_, St, rfl, Walks.re (W A hA) (by simp [signs]) (fun i v hv => ?_), h0, ?_, ?_, ?_⟩
    · obtain ⟨c, u, hc, rfl⟩ := hv
      exact ⟨⟨#[c]⟩, by simp [signs, hc], u, rfl⟩
    · intro b hb; simp at hb; subst hb; rw [Heap.size_push]; exact Nat.lt_succ_self _
    · exact noneBack (kOf k1) (fresh_of (Nat.le_refl _))
    · exact ⟨kPush k1 _ _, fun i v s' Q' E' _ q => wpAny_of_eq (htg _ _) q⟩) fun _ _ z => z

noncomputable def isIg (i : Int) (v : Value) : Prop := ∃ u, v = .int i u
noncomputable def upTo (n : Nat) : List Int := (List.range n).map fun i : Nat => (i : Int)
theorem Src.range {f np e pos} {n : Nat} {tg : Expr} (hA : A.handled = none) (htg : ∀ it v, letOwnedTupleGo tg it v = pure ()) (hf : Ev prog w A env s₀ (.Name f np) (isV (.type "range"))) (he : Ev prog w A env s₀ e (isI n)) (hn : n ≤ sizeLine)
    (hs : starEach [e] env = [(false, eval e env)]) : Src prog w A env s₀ tg (.Call (.Name f np) [e] [] pos) [] (upTo n).length (fun i v => ∃ a, (upTo n)[i]? = some a ∧ isIg a v) := .mk fun s E k =>
  Call_name1 hs (wpAny_mono (hf.out s E k) (fun g s₁ x1 => by
    obtain ⟨rfl, k1⟩ := x1
    refine callWith_type1 (wpAny_mono (he.out s₁ E (kT k k1)) (fun v s₂ y => ?_) fun _ _ z => z)
    obtain ⟨⟨t, rfl⟩, k2⟩ := y
    rw [sizeIs] at hn
    refine call_range_1 (wpAny_pyIter_range (IsRange.new ..) (small_one (by decide) (by decide) (by omega) (by omega)) ?_)
    have hsz : Builtin.Range.rangeSize 0 n 1 = (n : Int) := by rw [rangeSize_one]; split <;> omega
    refine ⟨_, _, rfl, Walks.re ((Walks.range hA _ 0 1 n).bound) (by simp [upTo]) (fun i v hv => ?_), ?_, ?_, ?_, ?_⟩
    · obtain ⟨hi, u, rfl⟩ := hv
      exact ⟨(i : Int), by simp [upTo, hi], u, by simp⟩
    · have e1 : (0 + ((0 : Nat) : Int) * 1) = 0 := by simp
      have e2 : ((n : Int) - ((0 : Nat) : Int)) = Builtin.Range.rangeSize 0 n 1 := by rw [hsz]; simp
      rw [e1, e2]
      exact Heap.get?_push_size _ rfl
    · intro b hb; simp at hb; subst hb; simp [Heap.size_push]
    · exact noneBack (kOf (kTrans k1 k2)) (fresh_of (by simp [Heap.size_push]))
    · exact ⟨kPush (kPush (kTrans k1 k2) _ _) _ _, fun i v s' Q' E' _ q => wpAny_of_eq (htg _ _) q⟩) fun _ _ z => z)
theorem Src.list {e} {tg : Expr} {D : Addr} {vs : List Value} (hA : A.handled = none) (he : Ev prog w A env s₀ e (isV (.ref D))) (hl : s₀.IsList D vs.toArray) :
    Src prog w A env s₀ tg e [D] vs.length (fun i v => vs[i]? = some v) := .mk fun s E k =>
  wpAny_mono (he.out s E k) (fun v s₁ x1 => by
    obtain ⟨rfl, k1⟩ := x1
    obtain ⟨o, ho, r⟩ := hl
    have ho' : s₁.heap.get? D = some o := kT k k1 _ _ ho
    have hD : D < s₁.heap.objs.size := Heap.lt_size ho'
    refine wpAny_pyIter_list (items := vs.toArray) ⟨o, ho', r⟩ ⟨_, _, rfl, Walks.re (Walks.list hA _ D (Nat.ne_of_lt hD) vs.toArray) (by simp) (fun i v hv => by simpa using hv), ⟨⟨_, Heap.get?_push_size _ rfl, rfl, rfl⟩, ⟨o, Heap.get?_push_of_some _ ho', r⟩⟩, ?_, ?_, ?_⟩
    · intro b hb; simp at hb; rcases hb with rfl | rfl
      · rw [Heap.size_push]; exact Nat.lt_succ_self _
      · rw [Heap.size_push]; exact Nat.lt_succ_of_lt hD
    · exact noneBack (kOf k1) (fresh_of (Nat.le_refl _))
    · exact ⟨kPush k1 _ _, fun i v s' Q' E' st q => letGo_listiter st.1 q⟩) fun _ _ z => z
theorem Src.tup {e} {tg : Expr} {D : Addr} {vs : List Value} (hA : A.handled = none) (he : Ev prog w A env s₀ e (isV (.ref D))) (hl : s₀.IsTuple D vs.toArray) :
    Src prog w A env s₀ tg e [D] vs.length (fun i v => vs[i]? = some v) := .mk fun s E k =>
  wpAny_mono (he.out s E k) (fun v s₁ x1 => by
    obtain ⟨rfl, k1⟩ := x1
    obtain ⟨o, ho, r⟩ := hl
    have ho' : s₁.heap.get? D = some o := kT k k1 _ _ ho
    have hD : D < s₁.heap.objs.size := Heap.lt_size ho'
    refine wpAny_pyIter_tuple (items := vs.toArray) ⟨o, ho', r⟩ ⟨_, _, rfl, Walks.re (Walks.tuple hA _ D (Nat.ne_of_lt hD) vs.toArray) (by simp) (fun i v hv => by simpa using hv), ⟨⟨_, Heap.get?_push_size _ rfl, rfl, rfl⟩, ⟨o, Heap.get?_push_of_some _ ho', r⟩⟩, ?_, ?_, ?_⟩
    · intro b hb; simp at hb; rcases hb with rfl | rfl
      · rw [Heap.size_push]; exact Nat.lt_succ_self _
      · rw [Heap.size_push]; exact Nat.lt_succ_of_lt hD
    · exact noneBack (kOf k1) (fresh_of (Nat.le_refl _))
    · exact ⟨kPush k1 _ _, fun i v s' Q' E' st q => letGo_tupleiter st.1 q⟩) fun _ _ z => z

theorem paired_filter {α : Type} (xs : List α) (Rl : α → Value → Prop) (dec : Value → α) (hdec : ∀ a v, Rl a v → dec v = a) (q : α → Bool) (F : α → Value → Prop) :
    ∀ (vs : List Value) (ys : List Value), vs.length = xs.length → (∀ (j : Nat) v, vs[j]? = some v → ∃ a, xs[j]? = some a ∧ Rl a v) → Paired (fun v y => F (dec v) y) (vs.filter fun v => q (dec v)) ys → Paired F (xs.filter q) ys := by
  induction xs with
  | nil => intro vs ys hl h hp; cases vs with
    | nil => cases hp; exact .nil
    | cons => simp at hl
  | cons a xs ih =>
    intro vs ys hl h hp
    cases vs with
    | nil => simp at hl
    | cons v vs =>
      obtain ⟨a', ha, hr⟩ := h 0 v rfl
      cases ha
      have hd := hdec _ _ hr
      have hl' : vs.length = xs.length := by simpa using hl
      have hh : ∀ (j : Nat) v, vs[j]? = some v → ∃ a, xs[j]? = some a ∧ Rl a v := fun j v hv => h (j + 1) v hv
      rw [List.filter_cons] at hp ⊢
      rw [hd] at hp
      cases hq : q a
      · rw [hq] at hp; simp at hp ⊢; exact ih vs ys hl' hh hp
      · rw [hq] at hp; simp at hp ⊢
        cases hp with
        | cons h1 h2 => exact .cons (by rw [hd] at h1; exact h1) (ih vs _ hl' hh h2)

theorem Ev.comp {α : Type} {elt iter x px ifs scope cl pos old} (xs : List α) (Rl : α → Value → Prop) (dec : Value → α) (hdec : ∀ a v, Rl a v → dec v = a) (q : α → Bool) (F : α → Value → Prop)
    {tg : Expr} (src : Src prog w A env s₀ tg iter old xs.length (fun i v => ∃ a, xs[i]? = some a ∧ Rl a v)) (hz : xs.length ≤ sizeLine)
    (hclos : closureFor scope env = pure cl) (hcell : ∀ y ∈ scope.names, y.2 ≠ .cell) (hkind : scope.kind = .function)
    (hnames : ∀ y ∈ scope.names, y.2 = .local → scope.names.lookup y.1 = some .local) (hx : scope.names.lookup x = some .local)
    (ht : ∀ C a v h m, Rl a v → a ∈ xs → h.Ns C m → m x = some v → Kp s₀ h → (ifs = [] ∧ q a = true) ∨ ∃ c, ifs = [c] ∧ Ts prog w A (compEnvC scope cl C env) h c (q a))
    (he : ∀ C a v h m, Rl a v → a ∈ xs → q a = true → h.Ns C m → m x = some v → Kp s₀ h → Ev prog w A (compEnvC scope cl C env) h elt (fun y _ => F a y))
    (hs : ∀ x, foldedSetIterable iter env x = pure x := by intro _; rfl) :
    Ev prog w A env s₀ (.ListComp elt [⟨.Name x px, iter, ifs, 0⟩] scope pos) (fun v h => ∃ D ys, v = .ref D ∧ h.IsList D ys ∧ Paired F (xs.filter q) ys.toList) := .mk fun s E k => by
  refine wpAny_ListComp_free (fun v => q (dec v)) (fun v y => F (dec v) y) hclos hcell hkind hnames hx (wpAny_mono (src.out s E k) (fun xv s₁ h₁ => wpAny_mono h₁ (fun it s₂ h₂ => ?_) fun _ _ z => z) fun _ _ z => z) hs
  obtain ⟨I, St, rfl, W, hst, hfp, hI, k2, _⟩ := h₂
  have hk3 : ∀ s₃ : Shared, (∀ b o, b ∉ [I] → s₂.heap.get? b = some o → s₃.heap.get? b = some o) → Kp s₀ s₃.heap := fun s₃ hk b o e =>
    hk b o (by simp; rintro rfl; rw [k _ _ e] at hI; cases hI) (kT k k2 b o e)
  refine ⟨I, _, _, _, _, St, rfl, W, hz, hst, hfp, ⟨?_, ?_⟩, ?_⟩
  · intro C i v s₃ m₃ E' _ hv hn hm hk _
    obtain ⟨a, ha, hr⟩ := hv
    have hd := hdec _ _ hr
    rcases ht C a v s₃.heap m₃ hr (List.mem_of_getElem? ha) hn hm (hk3 s₃ hk) with ⟨rfl, hq⟩ | ⟨c, rfl, hc⟩
    · exact wpAny_tests_nil ⟨by rw [hd, hq], kRefl _⟩
    · exact wpAny_tests_one (wpAny_mono (hc.out s₃ E' (kpRefl _)) (fun b s₄ y => ⟨by rw [hd]; exact y.1, y.2⟩) fun _ _ z => z)
  · intro C i v s₃ m₃ E' _ hv hp hn hm hk _
    obtain ⟨a, ha, hr⟩ := hv
    have hd := hdec _ _ hr
    rw [hd] at hp
    exact wpAny_mono ((he C a v s₃.heap m₃ hr (List.mem_of_getElem? ha) hp hn hm (hk3 s₃ hk)).out s₃ E' (kpRefl _)) (fun y s₄ z => ⟨by rw [hd]; exact z.1, z.2⟩) fun _ _ z => z
  · intro D h' tk ys vs hD hl _ hlen hP hF hk
    refine ⟨⟨D, ys, rfl, hl, paired_filter xs Rl dec hdec q F vs ys.toList hlen hP hF⟩, ?_⟩
    obtain ⟨h2, t2, rfl, kk⟩ := k2
    exact ⟨h', tk, rfl, fun b o e => hk b o (by simp; rintro rfl; rw [e] at hI; cases hI) (kk b o e)⟩

theorem paired_strs {α : Type} {G : α → Str} : ∀ {xs : List α} {ys : List Value}, Paired (fun a y => isSg (G a) y) xs ys → ∃ l, ys = strValues l ∧ l.map (·.1) = xs.map G
  | _, _, .nil => ⟨[], rfl, rfl⟩
  | _, _, .cons ⟨t, e⟩ hp => by
    obtain ⟨l, rfl, hm⟩ := paired_strs hp
    exact ⟨(_, t) :: l, by rw [e]; rfl, by simp [hm]⟩
theorem paired_ints {α : Type} {G : α → Int} : ∀ {xs : List α} {ys : List Value}, Paired (fun a y => isIg (G a) y) xs ys → ∃ l, ys = intValues l ∧ l.map (·.1) = xs.map G
  | _, _, .nil => ⟨[], rfl, rfl⟩
  | _, _, .cons ⟨t, e⟩ hp => by
    obtain ⟨l, rfl, hm⟩ := paired_ints hp
    exact ⟨(_, t) :: l, by rw [e]; rfl, by simp [hm]⟩
theorem toSL {α : Type} {G : α → Str} {xs : List α} {v : Value} {h : Heap} (x : ∃ D ys, v = .ref D ∧ h.IsList D ys ∧ Paired (fun a y => isSg (G a) y) xs ys.toList) : isSL (xs.map G) v h := by
  obtain ⟨D, ys, rfl, hl, hp⟩ := x
  obtain ⟨l, hy, hm⟩ := paired_strs hp
  exact ⟨D, l, rfl, by rw [← hy]; exact hl, hm⟩
theorem toIL {α : Type} {G : α → Int} {xs : List α} {v : Value} {h : Heap} (x : ∃ D ys, v = .ref D ∧ h.IsList D ys ∧ Paired (fun a y => isIg (G a) y) xs ys.toList) : isIL (xs.map G) v h := by
  obtain ⟨D, ys, rfl, hl, hp⟩ := x
  obtain ⟨l, hy, hm⟩ := paired_ints hp
  exact ⟨D, l, rfl, by rw [← hy]; exact hl, hm⟩
noncomputable def decS : Value → Str | .str s _ => s | _ => ⟨#[]⟩
noncomputable def decI : Value → Int | .int i _ => i | _ => 0
theorem decS_is (a : Str) (v : Value) (h : isSg a v) : decS v = a := by obtain ⟨u, rfl⟩ := h; rfl
theorem decI_is (a : Int) (v : Value) (h : isIg a v) : decI v = a := by obtain ⟨u, rfl⟩ := h; rfl

theorem Ev.pairs {P : Str → Value → Prop} : ∀ (l : List (Expr × Expr)) (xs : List Str), l.length = xs.length → (∀ (i : Nat) p x, l[i]? = some p → xs[i]? = some x → Ev prog w A env s₀ p.1 (isS x) ∧ Ev prog w A env s₀ p.2 (fun v _ => P x v)) → ∀ pos s E, Kp s₀ s.heap →
    wpAny (model prog w) A (evalPairs (l.map fun p => (eval p.1 env, do let x ← eval p.2 env; standAt pos; pure x))) (fun vs s' => ∃ kvs, Carries (strKind prog w) vs kvs ∧ kvs.map (·.1) = xs ∧ (∀ kv ∈ kvs, P kv.1 kv.2) ∧ Keeps s s') E s
  | [], [], _, _, pos, s, E, k => evalPairs_nil ⟨[], trivial, rfl, (fun _ h => nomatch h), kRefl s⟩
  | (ke, ve) :: l, x :: xs, hl, h, pos, s, E, k => by
    obtain ⟨h1, h2⟩ := h 0 (ke, ve) x rfl rfl
    refine evalPairs_cons (wpAny_mono (h1.out s E k) (fun kv s₁ y1 => wpAny_bind (wpAny_mono (h2.out s₁ E (kT k y1.2)) (fun vv s₂ y2 => wpAny_bind (wpAny_standAt (wpAny_pure ?_))) fun _ _ z => z)) fun _ _ z => z)
    obtain ⟨⟨t, rfl⟩, k1⟩ := y1
    obtain ⟨hP, k2⟩ := y2
    refine wpAny_mono (Ev.pairs l xs (by simpa using hl) (fun i p x hp hx => h (i + 1) p x hp hx) pos s₂ E (kT (kT k k1) k2)) (fun vs s₃ y3 => ?_) fun _ _ z => z
    obtain ⟨kvs, hc, hm, hall, k3⟩ := y3
    refine ⟨(x, vv) :: kvs, ⟨strKind_is _ _ _ _, rfl, hc⟩, by simp [hm], ?_, kTrans k1 (kTrans k2 k3)⟩
    intro kv hkv
    rcases List.mem_cons.mp hkv with rfl | hkv
    · exact hP
    · exact hall kv hkv
  | [], _ :: _, hl, _, _, _, _, _ => by simp at hl
  | _ :: _, [], hl, _, _, _, _, _ => by simp at hl

noncomputable def isD (prog : Program) (w : World) (xs : List Str) (P : Str → Value → Prop) : Value → Heap → Prop := fun v h => ∃ d kvs, v = .ref d ∧ h.DictOf (strKind prog w) d kvs ∧ kvs.map (·.1) = xs ∧ ∀ kv ∈ kvs, P kv.1 kv.2
theorem Ev.dict {keys values pos} {P : Str → Value → Prop} (l : List (Expr × Expr)) (xs : List Str)
    (hshape : (evalEachOpt keys env).zip ((evalEach values env).map fun v => do let x ← v; standAt pos; pure x) = (l.map fun p => (eval p.1 env, do let x ← eval p.2 env; standAt pos; pure x)).map fun p => (some p.1, p.2))
    (h0 : l ≠ []) (hlen : l.length ≤ 15) (hl : l.length = xs.length) (hnd : xs.Nodup)
    (h : ∀ (i : Nat) p x, l[i]? = some p → xs[i]? = some x → Ev prog w A env s₀ p.1 (isS x) ∧ Ev prog w A env s₀ p.2 (fun v _ => P x v)) :
    Ev prog w A env s₀ (.Dict keys values pos) (fun v h => isD prog w xs P v h ∧ ∃ d, v = .ref d ∧ s₀.get? d = none ∧ ∀ b o, s₀.get? b = some o → b < d) := .mk fun s E k => by
  refine wpAny_Dict_pairs (knd := strKind prog w) hshape (by simpa using h0) (by simpa using hlen) (wpAny_mono (Ev.pairs (P := P) l xs hl h pos _ E (kpTrans k fun _ _ e => Heap.get?_push_of_some _ e)) (fun vs s₁ y => ?_) fun _ _ z => z)
  obtain ⟨kvs, hc, hm, hall, k1⟩ := y
  refine ⟨kvs, hc, (Heap.DictOf.new _).keep (kHeap k1), fun h' hd hs => ⟨⟨⟨_, kvs, rfl, ?_, hm, hall⟩, _, rfl, noneBack k (fresh_of (Nat.le_refl _)), fun b o e => Heap.lt_size (k b o e)⟩, ?_⟩⟩
  · rw [merged_nil_of_nodup _ (by rw [hm]; exact hnd)] at hd; exact hd
  · obtain ⟨h2, t2, rfl, kk⟩ := k1
    exact ⟨h', _, rfl, fun b o e => hs.extBut b o (Nat.ne_of_lt (Heap.lt_size e)) (kk b o (Heap.get?_push_of_some _ e))⟩
end
end Mine
end PartL3
section PartL4
open PySem PySem.W PyProof.Rows PySem.Spec PySem.Calls
set_option Elab.async false
set_option maxRecDepth 100000
set_option maxHeartbeats 4000000
set_option linter.unusedVariables false
namespace Mine

noncomputable def Ch (X : List Addr) (s s' : Shared) : Prop := ∃ h' tk, s' = { s with heap := h', toks := tk } ∧ ∀ b o, b ∉ X → s.heap.get? b = some o → h'.get? b = some o
theorem Ch.refl (X : List Addr) (s : Shared) : Ch X s s := ⟨s.heap, s.toks, rfl, fun _ _ _ e => e⟩
theorem Ch.trans {X : List Addr} {s s' s'' : Shared} (a : Ch X s s') (b : Ch X s' s'') : Ch X s s'' := by
  obtain ⟨h, t, rfl, k⟩ := a; obtain ⟨h', t', rfl, k'⟩ := b
  exact ⟨h', t', rfl, fun b o hb e => k' b o hb (k b o hb e)⟩
theorem Ch.ofKeeps {X : List Addr} {s s' : Shared} (a : Keeps s s') : Ch X s s' := by
  obtain ⟨h, t, rfl, k⟩ := a; exact ⟨h, t, rfl, fun b o _ e => k b o e⟩
theorem Ch.heap {X : List Addr} {s s' : Shared} (a : Ch X s s') : ∀ b o, b ∉ X → s.heap.get? b = some o → s'.heap.get? b = some o := by
  obtain ⟨h, t, rfl, k⟩ := a; exact k
theorem Ch.weaken {X Y : List Addr} {s s' : Shared} (a : Ch X s s') (h : ∀ b ∈ X, b ∈ Y ∨ s.heap.get? b = none) : Ch Y s s' := by
  obtain ⟨h', t, rfl, k⟩ := a
  exact ⟨h', t, rfl, fun b o hb e => k b o (fun hx => (h b hx).elim hb fun hn => by rw [e] at hn; cases hn) e⟩

structure FS (h₀ : Heap) (r : Shared) (L : Addr) (S : List Addr) (m : Str → Option Value) (O : Heap → Prop) (s : Shared) : Prop where
  ch : Ch (L :: S) r s
  ns : s.heap.Ns L m
  kb : Kp h₀ s.heap
  al : ∀ b ∈ S, ∃ o, s.heap.get? b = some o
  own : O s.heap
  fr : ∀ b ∈ L :: S, h₀.get? b = none
  nd : L ∉ S
  st : ∀ h h', (∀ b ∈ S, ∀ o, h.get? b = some o → h'.get? b = some o) → O h → O h'

section
variable {h₀ : Heap} {r s s' : Shared} {L : Addr} {S : List Addr} {m m' : Str → Option Value} {O O' : Heap → Prop}

theorem FS.alL (F : FS h₀ r L S m O s) : ∃ o, s.heap.get? L = some o := let ⟨o, _, _, ho, _⟩ := F.ns; ⟨o, ho⟩
theorem FS.keeps (F : FS h₀ r L S m O s) (k : Keeps s s') : FS h₀ r L S m O s' where
  ch := F.ch.trans (.ofKeeps k)
  ns := F.ns.keeps (kHeap k)
  kb := kT F.kb k
  al := fun b hb => let ⟨o, ho⟩ := F.al b hb; ⟨o, kHeap k _ _ ho⟩
  own := F.st _ _ (fun b _ o e => kHeap k b o e) F.own
  fr := F.fr
  nd := F.nd
  st := F.st
theorem FS.other {I : List Addr} (F : FS h₀ r L S m O s) (c : Ch I s s') (hI : ∀ b ∈ I, b ∉ L :: S ∧ h₀.get? b = none ∧ r.heap.get? b = none) : FS h₀ r L S m O s' where
  ch := by
    obtain ⟨h', t, rfl, k⟩ := c
    obtain ⟨h'', t', rfl, k'⟩ := F.ch
    exact ⟨h', t, rfl, fun b o hb e => k b o (fun hi => by rw [(hI b hi).2.2] at e; cases e) (k' b o hb e)⟩
  ns := F.ns.at' fun o e => c.heap _ _ (fun hi => (hI _ hi).1 (.head _)) e
  kb := fun b o e => c.heap _ _ (fun hi => by rw [(hI _ hi).2.1] at e; cases e) (F.kb b o e)
  al := fun b hb => let ⟨o, ho⟩ := F.al b hb; ⟨o, c.heap _ _ (fun hi => (hI _ hi).1 (.tail _ hb)) ho⟩
  own := F.st _ _ (fun b hb o e => c.heap _ _ (fun hi => (hI _ hi).1 (.tail _ hb)) e) F.own
  fr := F.fr
  nd := F.nd
  st := F.st
theorem FS.alive (F : FS h₀ r L S m O s) : ∀ b ∈ L :: S, ∃ o, s.heap.get? b = some o := fun b hb => by
  rcases List.mem_cons.mp hb with rfl | hb
  · exact F.alL
  · exact F.al b hb
theorem FS.newOk (F : FS h₀ r L S m O s) {b : Addr} (hb : s.heap.get? b = none) : b ∉ L :: S ∧ h₀.get? b = none ∧ r.heap.get? b = none := by
  have h1 : b ∉ L :: S := fun hm => by obtain ⟨o, ho⟩ := F.alive b hm; rw [hb] at ho; cases ho
  refine ⟨h1, noneBack F.kb hb, ?_⟩
  cases e : r.heap.get? b with
  | none => rfl
  | some o => rw [F.ch.heap b o h1 e] at hb; cases hb
theorem FS.rebase (F : FS h₀ r L S m O s) : FS h₀ s L S m O s := ⟨.refl _ _, F.ns, F.kb, F.al, F.own, F.fr, F.nd, F.st⟩
theorem FS.trans (F : FS h₀ r L S m O s) (G : FS h₀ s L S m' O' s') : FS h₀ r L S m' O' s' := ⟨F.ch.trans G.ch, G.ns, G.kb, G.al, G.own, G.fr, G.nd, G.st⟩
theorem FS.store {h' : Heap} {tk : Nat} (F : FS h₀ r L S m O s) (hn : h'.Ns L m') (hs : Heap.SameBut L s.heap h') : FS h₀ r L S m' O { s with heap := h', toks := tk } where
  ch := F.ch.trans ⟨h', tk, rfl, fun b o hb e => hs.extBut b o (fun q => hb (q ▸ .head _)) e⟩
  ns := hn
  kb := fun b o e => hs.extBut b o (fun q => by rw [q, F.fr L (.head _)] at e; cases e) (F.kb b o e)
  al := fun b hb => let ⟨o, ho⟩ := F.al b hb; ⟨o, hs.extBut b o (fun q => F.nd (q ▸ hb)) ho⟩
  own := F.st _ _ (fun b hb o e => hs.extBut b o (fun q => F.nd (q ▸ hb)) e) F.own
  fr := F.fr
  nd := F.nd
  st := F.st
theorem FS.turn {h' : Heap} {tk : Nat} {d : Addr} (F : FS h₀ r L S m O s) (hd : d ∈ S) (hs : Heap.SameBut d s.heap h') (ha : ∃ o, h'.get? d = some o) (ho : O' h')
    (st : ∀ h h', (∀ b ∈ S, ∀ o, h.get? b = some o → h'.get? b = some o) → O' h → O' h') : FS h₀ r L S m O' { s with heap := h', toks := tk } where
  ch := F.ch.trans ⟨h', tk, rfl, fun b o hb e => hs.extBut b o (fun q => hb (q ▸ .tail _ hd)) e⟩
  ns := F.ns.at' fun o e => hs.extBut L o (fun q => F.nd (q ▸ hd)) e
  kb := fun b o e => hs.extBut b o (fun q => by rw [q, F.fr d (.tail _ hd)] at e; cases e) (F.kb b o e)
  al := fun b hb => by
    by_cases q : b = d
    · subst q; exact ha
    · obtain ⟨o, ho⟩ := F.al b hb; exact ⟨o, hs.extBut b o q ho⟩
  own := ho
  fr := F.fr
  nd := F.nd
  st := st
theorem FS.grow {d : Addr} {o : Obj} (F : FS h₀ r L S m O s) (hd : s.heap.get? d = some o) (hn : d ∉ L :: S) (h0 : h₀.get? d = none) (ho : O' s.heap)
    (st : ∀ h h', (∀ b ∈ d :: S, ∀ o, h.get? b = some o → h'.get? b = some o) → O' h → O' h') : FS h₀ r L (d :: S) m O' s where
  ch := F.ch.weaken fun b hb => .inl (by rcases List.mem_cons.mp hb with rfl | hb; exact .head _; exact .tail _ (.tail _ hb))
  ns := F.ns
  kb := F.kb
  al := fun b hb => by rcases List.mem_cons.mp hb with rfl | hb; exact ⟨_, hd⟩; exact F.al b hb
  own := ho
  fr := fun b hb => by
    rcases List.mem_cons.mp hb with rfl | hb
    · exact F.fr _ (.head _)
    · rcases List.mem_cons.mp hb with rfl | hb
      · exact h0
      · exact F.fr _ (.tail _ hb)
  nd := fun hb => by rcases List.mem_cons.mp hb with rfl | hb; exact hn (.head _); exact F.nd hb
  st := st
theorem FS.know (F : FS h₀ r L S m O s) (ho : O' s.heap) (st : ∀ h h', (∀ b ∈ S, ∀ o, h.get? b = some o → h'.get? b = some o) → O' h → O' h') : FS h₀ r L S m O' s :=
  ⟨F.ch, F.ns, F.kb, F.al, ho, F.fr, F.nd, st⟩
end

noncomputable def upd (m : Str → Option Value) (x : Str) (v : Value) : Str → Option Value := fun y => if y = x then some v else m y
theorem upd_same (m : Str → Option Value) (x : Str) (v : Value) : upd m x v x = some v := by simp [upd]
theorem upd_other {m : Str → Option Value} {x y : Str} {v : Value} (h : y ≠ x) : upd m x v y = m y := by simp [upd, h]

section
variable {prog : Program} {w : World} {A : Around} {E : Value → Shared → Prop} {env : Env} {h₀ : Heap} {r s s' : Shared} {L : Addr} {S : List Addr} {m m' : Str → Option Value} {O O' : Heap → Prop}

theorem stLocal {x v} {Q : Unit → Shared → Prop} (F : FS h₀ r L S m O s) (hl : env.kindOf x = some .local) (hL : env.locals = L) (hp : env.scope.kind = .function)
    (h : ∀ s', FS h₀ r L S (upd m x v) O s' → Q () s') : wpAny (model prog w) A (storeName env x v) Q E s := by
  subst hL
  exact wpAny_storeName_local hl F.ns (fun h' hn hs => h _ (F.store hn hs)) (by rw [hp]; rfl)
theorem stCell {x v c v₀} {Q : Unit → Shared → Prop} (F : FS h₀ r L S m O s) (hl : env.kindOf x = some .cell) (hp : env.scope.kind = .function) (hc : env.cells.lookup x = some c) (hcS : c ∈ S) (hv : s.heap.IsCell c v₀)
    (ho : ∀ h', h'.IsCell c (some v) → Heap.SameBut c s.heap h' → O' h') (st : ∀ h h', (∀ b ∈ S, ∀ o, h.get? b = some o → h'.get? b = some o) → O' h → O' h')
    (h : ∀ s', FS h₀ r L S m O' s' → Q () s') : wpAny (model prog w) A (storeName env x v) Q E s :=
  wpAny_storeName_cell hp hl hc hv fun h' hc' hs => h _ (F.turn (tk := s.toks) hcS hs (let ⟨o, ho, _⟩ := hc'; ⟨o, ho⟩) (ho h' hc' hs) st)

theorem xAssign {x px e pos} {P : Value → Heap → Prop} {Q : Flow → Shared → Prop} (F : FS h₀ r L S m O s) (he : Ev prog w A env s.heap e P) (hl : env.kindOf x = some .local) (hL : env.locals = L) (hp : env.scope.kind = .function)
    (h : ∀ v (s₁ : Shared), Keeps s s₁ → P v s₁.heap → FS h₀ r L S m O s₁ → ∀ s', FS h₀ r L S (upd m x v) O s' → Ch [L] s₁ s' → Q .next s')
    (hs : swapsWith e (some (.Name x px)) pos.line env = pure false := by rfl) : wpAny (model prog w) A (exec (.Assign [.Name x px] e pos) env) Q E s := by
  subst hL
  refine wpAny_Assign_Name (wpAny_mono (he.out s E (kpRefl _)) (fun v s₁ y => ?_) fun _ _ z => z) hs
  have F₁ := F.keeps y.2
  refine wpAny_storeName_local hl F₁.ns (fun h' hn hsb => h v s₁ y.2 y.1 F₁ _ (F₁.store hn hsb) ⟨h', _, rfl, fun b o hb e => hsb.extBut b o (by simpa using hb) e⟩) (by rw [hp]; rfl)
theorem xAug {x px op e pos v₀} {P R : Value → Heap → Prop} {Q : Flow → Shared → Prop} (F : FS h₀ r L S m O s) (hx : m x = some v₀) (he : Ev prog w A env s.heap e P) (hl : env.kindOf x = some .local) (hL : env.locals = L) (hp : env.scope.kind = .function)
    (ho : ∀ b (s : Shared) E, P b s.heap → wpAny (model prog w) A (inplaceOp op v₀ b) (fun v s' => R v s'.heap ∧ Keeps s s') E s)
    (h : ∀ v (s₁ : Shared), R v s₁.heap → ∀ s', FS h₀ r L S (upd m x v) O s' → Q .next s') : wpAny (model prog w) A (exec (.AugAssign (.Name x px) op e pos) env) Q E s := by
  subst hL
  refine wpAny_AugAssign_Name (wpAny_loadName_local hp hl F.ns hx (wpAny_mono (he.out s E (kpRefl _)) (fun b s₁ y => wpAny_mono (ho b s₁ E y.1) (fun v s₂ z => ?_) fun _ _ z => z) fun _ _ z => z))
  have F₂ := F.keeps (kTrans y.2 z.2)
  exact wpAny_storeName_local hl F₂.ns (fun h' hn hsb => h v s₂ z.1 _ (F₂.store hn hsb)) (by rw [hp]; rfl)
theorem xIf {t a b pos} {c : Bool} {Q : Flow → Shared → Prop} (F : FS h₀ r L S m O s) (ht : Ts prog w A env s.heap t c)
    (h1 : c = true → ∀ s', FS h₀ r L S m O s' → wpAny (model prog w) A (execs a env) Q E s') (h2 : c = false → ∀ s', FS h₀ r L S m O s' → wpAny (model prog w) A (execs b env) Q E s') :
    wpAny (model prog w) A (exec (.If t a b pos) env) Q E s := by
  refine wpAny_If (wpAny_mono (ht.out s E (kpRefl _)) (fun c' s₁ y => ?_) fun _ _ z => z)
  obtain ⟨rfl, k⟩ := y
  cases c'
  · exact h2 rfl _ (F.keeps k)
  · exact h1 rfl _ (F.keeps k)
theorem xRet {e pos} {P : Value → Heap → Prop} {Q : Flow → Shared → Prop} (F : FS h₀ r L S m O s) (he : Ev prog w A env s.heap e P) (h : ∀ v s', P v s'.heap → FS h₀ r L S m O s' → Q (.ret v) s') :
    wpAny (model prog w) A (exec (.Return (some e) pos) env) Q E s :=
  wpAny_Return_some (wpAny_mono (he.out s E (kpRefl _)) (fun v s₁ y => h v s₁ y.1 (F.keeps y.2)) fun _ _ z => z)

structure Lp (h₀ : Heap) (r : Shared) (L : Addr) (S : List Addr) (J : Nat → (Str → Option Value) → (Heap → Prop) → Prop) (St : Nat → Heap → Prop) (n k : Nat) (s : Shared) (i : Nat) (m : Str → Option Value) (O : Heap → Prop) : Prop where
  k : k = n - i
  le : i ≤ n
  j : J i m O
  F : FS h₀ r L S m O s
  st : St i s.heap
theorem xFor {tg iter body orelse pos old n} {P : Nat → Value → Prop} {Q : Flow → Shared → Prop} (F : FS h₀ r L S m O s) (src : Src prog w A env s.heap tg iter old n P) (hold : ∀ b ∈ old, b ∉ L :: S)
    (J : Nat → (Str → Option Value) → (Heap → Prop) → Prop) (B : (Str → Option Value) → (Heap → Prop) → Prop) (j0 : J 0 m O)
    (turn : ∀ i v m₁ O₁ s₁ E', i < n → P i v → J i m₁ O₁ → FS h₀ s₁ L S m₁ O₁ s₁ → wpAny (model prog w) A (assign tg env v) (fun _ s₂ => wpAny (model prog w) A (execs body env) (fun f s₃ => match f with
      | .next | .cont => ∃ m₃ O₃, J (i + 1) m₃ O₃ ∧ FS h₀ s₁ L S m₃ O₃ s₃
      | .brk => ∃ m₃ O₃, B m₃ O₃ ∧ FS h₀ s₁ L S m₃ O₃ s₃
      | .ret _ => False) E' s₂) E' s₁)
    (done : ∀ m₁ O₁ s₁ E', J n m₁ O₁ → FS h₀ r L S m₁ O₁ s₁ → wpAny (model prog w) A (execs orelse env) Q E' s₁)
    (brk : ∀ m₁ O₁ s₁, B m₁ O₁ → FS h₀ r L S m₁ O₁ s₁ → Q .next s₁)
    (hs : ∀ x, foldedSetIterable iter env x = pure x := by intro _; rfl) : wpAny (model prog w) A (exec (.For tg iter body orelse pos) env) Q E s := by
  refine wpAny_For (wpAny_mono (src.out s E (kpRefl _)) (fun xv s₁ h₁ => wpAny_mono h₁ (fun it s₂ h₂ => ?_) fun _ _ z => z) fun _ _ z => z) hs
  obtain ⟨I, St, rfl, W, hst, hfp, hI, k2, lg⟩ := h₂
  have hIo := F.newOk hI
  have hI1 : ∀ b ∈ [I], b ∉ L :: S ∧ h₀.get? b = none ∧ r.heap.get? b = none := fun b hb => by rw [List.mem_singleton.mp hb]; exact hIo
  have hfpo : ∀ b ∈ I :: old, b ∉ L :: S := fun b hb => by
    rcases List.mem_cons.mp hb with rfl | hb
    · exact hIo.1
    · exact hold b hb
  refine codeAny_forLoop_any (fun k s' => ∃ i m₁ O₁, Lp h₀ r L S J St n k s' i m₁ O₁) (fun k s' hk => ?_) n ⟨0, m, O, rfl, Nat.zero_le _, j0, F.keeps k2, hst⟩
  clear hst k2 F
  obtain ⟨i, m₁, O₁, rfl, hi, hj, F', st'⟩ := hk
  rcases Nat.lt_or_ge i n with hlt | hge
  · refine W.item i s' _ _ hlt st' fun v h' tk hp st'' hk => ?_
    have F₃ := F'.other (s' := { s' with heap := h', toks := tk }) ⟨h', tk, rfl, fun b o hb e => hk b o hb e⟩ hI1
    clear F' hk
    refine lg (i + 1) v _ _ _ st'' (wpAny_mono (turn i v m₁ O₁ _ _ hlt hp hj F₃.rebase) (fun _ s₄ h₄ => wpAny_mono h₄ (fun f s₅ h₅ => ?_) fun _ _ z => z) fun _ _ z => z)
    have go : (∃ m₃ O₃, J (i + 1) m₃ O₃ ∧ FS h₀ _ L S m₃ O₃ s₅) → ∃ k', k' < n - i ∧ ∃ i' m₃ O₃, Lp h₀ r L S J St n k' s₅ i' m₃ O₃ := fun ⟨m₃, O₃, hj', F₅⟩ =>
      ⟨n - (i + 1), Nat.sub_succ_lt_self _ _ hlt, i + 1, m₃, O₃, rfl, hlt, hj', F₃.trans F₅, W.frame _ _ _ st'' fun b hb o e => F₅.ch.heap b o (hfpo b hb) e⟩
    cases f with
    | next => exact go h₅
    | cont => exact go h₅
    | brk =>
      obtain ⟨m₃, O₃, hb', F₅⟩ := h₅
      exact brk m₃ O₃ _ hb' (F₃.trans F₅)
    | ret v => exact h₅.elim
  · obtain rfl : i = n := Nat.le_antisymm hi hge
    exact W.done s' _ _ st' fun h' tk hk => done m₁ O₁ _ _ hj (F'.other ⟨h', tk, rfl, fun b o hb e => hk b o hb e⟩ hI1)

theorem xWhile {test body pos} {Q : Flow → Shared → Prop} (F : FS h₀ r L S m O s) (J : Nat → List Addr → (Str → Option Value) → (Heap → Prop) → Prop) (n₀ : Nat) (j0 : J n₀ S m O)
    (turn : ∀ n S₁ m₁ O₁ s₁ E', J n S₁ m₁ O₁ → FS h₀ r L S₁ m₁ O₁ s₁ → ∃ b, Ts prog w A env s₁.heap test b ∧
      (b = true → ∀ s₂, FS h₀ r L S₁ m₁ O₁ s₂ → wpAny (model prog w) A (execs body env) (fun f s₃ => match f with
        | .next | .cont => ∃ n' S₃ m₃ O₃, n' < n ∧ J n' S₃ m₃ O₃ ∧ FS h₀ r L S₃ m₃ O₃ s₃
        | _ => False) E' s₂) ∧ (b = false → ∀ s₂, FS h₀ r L S₁ m₁ O₁ s₂ → Q .next s₂)) :
    wpAny (model prog w) A (exec (.While test body [] pos) env) Q E s := by
  refine wpAny_While (codeAny_whileLoop (fun n s' => ∃ S₁ m₁ O₁, J n S₁ m₁ O₁ ∧ FS h₀ r L S₁ m₁ O₁ s') (fun n s' hI => ?_) n₀ ⟨S, m, O, j0, F⟩)
  obtain ⟨S₁, m₁, O₁, hj, F'⟩ := hI
  obtain ⟨b, ht, h1, h2⟩ := turn n S₁ m₁ O₁ s' (notedBy (model prog w) A env fun e s'' => (fun (r : Result) s' => match r with | .ok f => Q f s' | .error e => cameBackBy (model prog w) A env E e s') (.error e) s'') hj F'
  refine wpAny_mono (ht.out s' _ (kpRefl _)) (fun b' s₂ y => ?_) fun _ _ z => z
  obtain ⟨rfl, k⟩ := y
  cases b'
  · exact wpAny_execs_nil (h2 rfl _ (F'.keeps k))
  · refine wpAny_mono (h1 rfl _ (F'.keeps k)) (fun f s₃ h₃ => ?_) fun _ _ z => z
    cases f with
    | next => obtain ⟨n', S₃, m₃, O₃, hn, hj', F₃⟩ := h₃; exact ⟨n', hn, S₃, m₃, O₃, hj', F₃⟩
    | cont => obtain ⟨n', S₃, m₃, O₃, hn, hj', F₃⟩ := h₃; exact ⟨n', hn, S₃, m₃, O₃, hj', F₃⟩
    | brk => exact h₃.elim
    | ret v => exact h₃.elim

theorem lvI {x pos i t} (F : FS h₀ r L S m O s) (hv : m x = some (.int i t)) (hk : env.scope.kind = .function := by rfl) (hl : env.kindOf x = some .local := by rfl) (hL : env.locals = L := by rfl) (hd : (x == ("__debug__" : Str)) = false := by decide) :
    Ev prog w A env s.heap (.Name x pos) (isI i) := by subst hL; exact Ev.loc hk hl F.ns hv (fun _ => ⟨_, rfl⟩) hd
theorem lvS {x pos y t} (F : FS h₀ r L S m O s) (hv : m x = some (.str y t)) (hk : env.scope.kind = .function := by rfl) (hl : env.kindOf x = some .local := by rfl) (hL : env.locals = L := by rfl) (hd : (x == ("__debug__" : Str)) = false := by decide) :
    Ev prog w A env s.heap (.Name x pos) (isS y) := by subst hL; exact Ev.loc hk hl F.ns hv (fun _ => ⟨_, rfl⟩) hd
theorem lvR {x pos a} (F : FS h₀ r L S m O s) (hv : m x = some (.ref a)) (hk : env.scope.kind = .function := by rfl) (hl : env.kindOf x = some .local := by rfl) (hL : env.locals = L := by rfl) (hd : (x == ("__debug__" : Str)) = false := by decide) :
    Ev prog w A env s.heap (.Name x pos) (isV (.ref a)) := by subst hL; exact Ev.loc hk hl F.ns hv (fun _ => rfl) hd
end
end Mine
end PartL4
section PartL5
open PySem PySem.W PyProof.Rows PySem.Spec PySem.Calls
set_option Elab.async false
set_option maxRecDepth 100000
set_option maxHeartbeats 4000000
set_option linter.unusedVariables false
namespace Mine
section
variable {h₀ : Heap} {r s s' : Shared} {L : Addr} {S : List Addr} {m m' : Str → Option Value} {O O' : Heap → Prop}
theorem FS.out (F : FS s.heap r L S m O s') (k : Keeps s r) : Keeps s s' := by
  obtain ⟨h, t, rfl, _⟩ := k
  obtain ⟨h', t', rfl, _⟩ := F.ch
  exact ⟨h', t', rfl, F.kb⟩
end

structure Fn (prog : Program) (w : World) (A : Around) (s₀ : Heap) (f : Addr) (args : List Value) (P : Value → Heap → Prop) : Prop where
  out : ∀ s E, Kp s₀ s.heap → wpAny (model prog w) A (call (.ref f) args) (fun v s' => P v s'.heap ∧ Keeps s s') E s

section
variable {prog : Program} {w : World} {A : Around} {E : Value → Shared → Prop} {s : Shared} {s₀ : Heap} {env : Env}
  {name qual : Str} {params : Arguments} {body : List Stmt} {scope : Scope} {dV kV doc pm cdv ct oc : Value} {an od : Option Addr} {osl : Array (Option Value)} {f : Addr} {args : List Value} {binds : List (Str × Value)} {K : Frag} {P : Value → Heap → Prop}

theorem Fn.of (X : K.In s₀) (T : s₀.NoLimit) (hroom : A.depth < recursionLimit)
    (ho : K.lookup f = some ⟨oc, od, .func (fnOf name qual params body scope dV kV doc pm an cdv ct), osl⟩) (hcd : codeIn K cdv qual = true)
    (hbind : ∀ s, BindsTo s (fnOf name qual params body scope dV kV doc pm an cdv ct) ⟨args, []⟩ binds)
    (hkind : (binds.all fun y => scope.names.lookup y.1 == some .local || scope.names.lookup y.1 == some .cell) = true)
    (hnd : ((cellsFrom 0 scope.names []).map (·.1)).Nodup)
    (hco : scope.isCoroutine = false) (hgen : scope.isGenerator = false) (hk : scope.kind = .function)
    (h : ∀ s L s₁ E', Kp s₀ s.heap → Keeps s s₁ → FS s.heap s₁ L ((cellsFrom (L + 1) scope.names []).map (·.2)) (bindL (envOfC qual scope L f cdv).kindOf binds fun _ => none)
        (fun h => ∀ n c, (cellsFrom (L + 1) scope.names []).lookup n = some c → h.IsCell c (bindC (envOfC qual scope L f cdv).kindOf binds (fun _ => none) n)) s₁ →
      wpAny (model prog w) (A.deeper (envOfC qual scope L f cdv)) (execs body (envOfC qual scope L f cdv))
        (fun fl s' => P (match fl with | .ret v => v | _ => .none) s'.heap ∧ Keeps s s') E' s₁) : Fn prog w A s₀ f args P := .mk fun s E k => by
  refine wpAny_call ?_
  refine codeAny_call_function hroom ((X.keeps k) _ _ ho) rfl hco hgen rfl (codeRec_of (X.keeps k) hcd) (hbind _ _ _ _ _ ?_)
  refine wpAny_newFunctionEnv_cells hk (kindsX hkind _) fun env' he s' x => ?_
  subst he
  refine ⟨(T.keeps k).keeps x.toInCall.keep, codeAny_func ?_⟩
  have hm : ∀ n c, (cellsFrom (s.heap.objs.size + 1) scope.names []).lookup n = some c → c ∈ (cellsFrom (s.heap.objs.size + 1) scope.names []).map (·.2) := fun n c hc => List.mem_map.mpr ⟨(n, c), mem_of_lookup hc, rfl⟩
  have habove : ∀ b ∈ (cellsFrom (s.heap.objs.size + 1) scope.names []).map (·.2), s.heap.objs.size < b := fun b hb => by
    obtain ⟨⟨n, c⟩, hc, rfl⟩ := List.mem_map.mp hb
    exact x.above n c hc
  have hk1 : Keeps s s' := by obtain ⟨h₁, tk, rfl, q⟩ := x.done; exact ⟨h₁, tk, rfl, q⟩
  refine wpAny_mono (h s s.heap.objs.size s' _ k hk1 ⟨.refl _ _, x.toInCall.ns, x.toInCall.keep, ?_, x.cell, ?_, ?_, ?_⟩) (fun fl s'' hl => by cases fl <;> exact hl) fun _ _ y => y
  · intro b hb
    obtain ⟨⟨n, c⟩, hc, rfl⟩ := List.mem_map.mp hb
    obtain ⟨o, ho, _⟩ := x.cell n c (lookup_of_mem_nodup (cellsFrom_names scope.names 0 (s.heap.objs.size + 1) [] [] rfl ▸ hnd) hc)
    exact ⟨o, ho⟩
  · intro b hb
    rcases List.mem_cons.mp hb with rfl | hb
    · exact fresh_of (Nat.le_refl _)
    · exact fresh_of (Nat.le_of_lt (habove b hb))
  · intro hb; exact Nat.lt_irrefl _ (habove _ hb)
  · intro h h' hk ho n c hc
    obtain ⟨o, hoo, hd⟩ := ho n c hc
    exact ⟨o, hk c (hm n c hc) o hoo, hd⟩

theorem Ev.callF {g np es pos o fd} (hf : Ev prog w A env s₀ (.Name g np) (isV (.ref f))) (ho : s₀.get? f = some o) (hod : o.data = .func fd)
    (t : Sem Value) (ts : List (Sem Value)) (htr : backTo pos (starEach es env) = (t :: ts).map fun t => (false, t))
    (h : ∀ s E, Kp s₀ s.heap → wpAny (model prog w) A (spliced ((t :: ts).map fun t => (false, t))) (fun vs s' => Keeps s s' ∧ Fn prog w A s'.heap f vs P) E s) :
    Ev prog w A env s₀ (.Call (.Name g np) es [] pos) P := .mk fun s E k => by
  refine wpAny_Call_NameR (wpAny_mono (hf.out s E k) (fun v s₁ y => ?_) fun _ _ z => z)
  obtain ⟨rfl, k1⟩ := y
  rw [htr]
  refine callWith_function (o := o) (fd := fd) (evalArgs_plain (wpAny_mono (h s₁ E (kT k k1)) (fun vs s₂ z => ⟨⟨kT (kT k k1) z.1 _ _ ho, hod⟩, ?_⟩) fun _ _ z => z))
  exact wpAny_mono (z.2.out s₂ E (kpRefl _)) (fun v s₃ q => ⟨q.1, kTrans k1 (kTrans z.1 q.2)⟩) fun _ _ z => z
theorem Ev.callF1 {g np e pos o fd} {P1 : Value → Heap → Prop} (hf : Ev prog w A env s₀ (.Name g np) (isV (.ref f))) (ho : s₀.get? f = some o) (hod : o.data = .func fd) (h1 : Ev prog w A env s₀ e P1)
    (hfn : ∀ v h, Kp s₀ h → P1 v h → Fn prog w A h f [v] P) (htr : backTo pos (starEach [e] env) = [(false, eval e env)] := by rfl) : Ev prog w A env s₀ (.Call (.Name g np) [e] [] pos) P :=
  Ev.callF hf ho hod _ [] htr fun s E k => spliced_cons (wpAny_mono (h1.out s E k) (fun v s₁ y => spliced_nil ⟨y.2, hfn v _ (kT k y.2) y.1⟩) fun _ _ z => z)
theorem Ev.callF2 {g np e1 e2 pos o fd} {P1 P2 : Value → Heap → Prop} (hf : Ev prog w A env s₀ (.Name g np) (isV (.ref f))) (ho : s₀.get? f = some o) (hod : o.data = .func fd) (h1 : Ev prog w A env s₀ e1 P1) (h2 : Ev prog w A env s₀ e2 P2)
    (hP1 : ∀ v h h', P1 v h → P1 v h') (hfn : ∀ v1 v2 h, Kp s₀ h → P1 v1 h → P2 v2 h → Fn prog w A h f [v1, v2] P) (htr : backTo pos (starEach [e1, e2] env) = [(false, eval e1 env), (false, eval e2 env)] := by rfl) :
    Ev prog w A env s₀ (.Call (.Name g np) [e1, e2] [] pos) P :=
  Ev.callF hf ho hod _ [eval e2 env] htr fun s E k => spliced_cons (wpAny_mono (h1.out s E k) (fun v s₁ y => spliced_cons (wpAny_mono (h2.out s₁ E (kT k y.2)) (fun v2 s₂ y2 =>
    spliced_nil ⟨kTrans y.2 y2.2, hfn v v2 _ (kT (kT k y.2) y2.2) (hP1 _ _ _ y.1) y2.1⟩) fun _ _ z => z)) fun _ _ z => z)
theorem Ev.callF3 {g np e1 e2 e3 pos o fd} {P1 P2 P3 : Value → Heap → Prop} (hf : Ev prog w A env s₀ (.Name g np) (isV (.ref f))) (ho : s₀.get? f = some o) (hod : o.data = .func fd) (h1 : Ev prog w A env s₀ e1 P1) (h2 : Ev prog w A env s₀ e2 P2) (h3 : Ev prog w A env s₀ e3 P3)
    (hP1 : ∀ v h h', P1 v h → P1 v h') (hP2 : ∀ v h h', P2 v h → P2 v h') (hfn : ∀ v1 v2 v3 h, Kp s₀ h → P1 v1 h → P2 v2 h → P3 v3 h → Fn prog w A h f [v1, v2, v3] P)
    (htr : backTo pos (starEach [e1, e2, e3] env) = [(false, eval e1 env), (false, eval e2 env), (false, eval e3 env)] := by rfl) :
    Ev prog w A env s₀ (.Call (.Name g np) [e1, e2, e3] [] pos) P :=
  Ev.callF hf ho hod _ [eval e2 env, eval e3 env] htr fun s E k => spliced_cons (wpAny_mono (h1.out s E k) (fun v s₁ y => spliced_cons (wpAny_mono (h2.out s₁ E (kT k y.2)) (fun v2 s₂ y2 =>
    spliced_cons (wpAny_mono (h3.out s₂ E (kT (kT k y.2) y2.2)) (fun v3 s₃ y3 =>
    spliced_nil ⟨kTrans y.2 (kTrans y2.2 y3.2), hfn v v2 v3 _ (kT (kT (kT k y.2) y2.2) y3.2) (hP1 _ _ _ y.1) (hP2 _ _ _ y2.1) y3.1⟩) fun _ _ z => z)) fun _ _ z => z)) fun _ _ z => z)
end

section
variable {prog : Program} {w : World} {A : Around} {E : Value → Shared → Prop} {env : Env} {h₀ : Heap} {r s s' : Shared} {L : Addr} {S : List Addr} {m m' : Str → Option Value} {O O' : Heap → Prop}
theorem xAppend {x px apos e pos epos D its} {P : Value → Heap → Prop} {Q : Flow → Shared → Prop} (F : FS h₀ r L S m O s) (hx : Ev prog w A env s.heap (.Name x px) (isV (.ref D))) (hD : PlainL s.heap D its) (hDS : D ∈ S) (he : Ev prog w A env s.heap e P)
    (hz : its.size ≤ sizeLine)
    (hbase : attributeBase (.Name x px) "append" env (eval (.Name x px) env) = eval (.Name x px) env)
    (htr : backTo pos (starEach [e] env) = [(false, eval e env)]) (hline : (apos.endLine == pos.line) = true) (hi : interactive env = false)
    (hsw : swapsWith (.Call (.Attribute (.Name x px) "append" apos) [e] [] pos) none epos.line env = pure false)
    (O' : Value → Heap → Prop)
    (hO : ∀ y (s₂ : Shared) h', P y s₂.heap → FS h₀ r L S m O s₂ → PlainL h' D (its.push y) → Heap.SameBut D s₂.heap h' → O' y h')
    (st : ∀ y h h', (∀ b ∈ S, ∀ o, h.get? b = some o → h'.get? b = some o) → O' y h → O' y h')
    (h : ∀ y (s₂ : Shared), P y s₂.heap → ∀ s', FS h₀ r L S m (O' y) s' → Ch [D] s₂ s' → Q .next s') :
    wpAny (model prog w) A (exec (.Expr (.Call (.Attribute (.Name x px) "append" apos) [e] [] pos) epos) env) Q E s := by
  refine wpAny_Expr ?_ hi hsw
  refine wpAny_Call_append hbase (by rw [htr]; rfl) hline htr (wpAny_mono (hx.out s E (kpRefl _)) (fun v s₁ y => ?_) fun _ _ z => z)
  obtain ⟨rfl, k1⟩ := y
  refine ⟨D, its, rfl, hD.keeps (kHeap k1), wpAny_mono (he.out s₁ E (kOf k1)) (fun y s₂ z => ?_) fun _ _ z => z⟩
  have F₂ := F.keeps (kTrans k1 z.2)
  refine list_append_plainL (hD.keeps (kHeap (kTrans k1 z.2))) (fun h' hp hs => ?_) hz
  exact h y s₂ z.1 _ (F₂.turn (tk := s₂.toks) hDS hs (let ⟨o, _, ho, _⟩ := hp; ⟨o, ho⟩) (hO y s₂ h' z.1 F₂ hp hs) (st y)) ⟨h', _, rfl, fun b o hb e => hs.extBut b o (by simpa using hb) e⟩
theorem xSetItem {o i pos' e pos d kvs} {x : Str} {P : Value → Heap → Prop} {Q : Flow → Shared → Prop} (F : FS h₀ r L S m O s) (he : Ev prog w A env s.heap e P) (hP : ∀ v h h', P v h → P v h') (ho : Ev prog w A env s.heap o (isV (.ref d))) (hi : Ev prog w A env s.heap i (isS x))
    (hd : s.heap.DictOf (strKind prog w) d kvs) (hdS : d ∈ S) (hz : kvs.length ≤ sizeLine)
    (O' : Value → Heap → Prop)
    (hO : ∀ y (s₂ : Shared) h', P y s₂.heap → FS h₀ r L S m O s₂ → h'.DictOf (strKind prog w) d (stored kvs x y) → Heap.SameBut d s₂.heap h' → O' y h')
    (st : ∀ y h h', (∀ b ∈ S, ∀ o, h.get? b = some o → h'.get? b = some o) → O' y h → O' y h')
    (h : ∀ y (s₂ : Shared), P y s₂.heap → ∀ s', FS h₀ r L S m (O' y) s' → Q .next s')
    (hs : swapsWith e (some (.Subscript o i pos')) pos.line env = pure false := by rfl) :
    wpAny (model prog w) A (exec (.Assign [.Subscript o i pos'] e pos) env) Q E s := by
  refine wpAny_Assign_Subscript (wpAny_mono (he.out s E (kpRefl _)) (fun v s₁ y => wpAny_mono (ho.out s₁ E (kOf y.2)) (fun ov s₂ z => wpAny_mono (hi.out s₂ E (kT (kOf y.2) z.2)) (fun iv s₃ q => ?_) fun _ _ z => z) fun _ _ z => z) fun _ _ z => z) hs
  obtain ⟨y, k1⟩ := y
  obtain ⟨rfl, k2⟩ := z
  obtain ⟨⟨t, rfl⟩, k3⟩ := q
  have kk := kTrans k1 (kTrans k2 k3)
  have F₃ := F.keeps kk
  refine wpAny_setItem_pairs (knd := strKind prog w) (strKind_is _ _ _ _) (hd.keep (kHeap kk)) (fun h' hd' hsb => ?_) hz
  exact h v s₃ (hP _ _ _ y) _ (F₃.turn hdS hsb (let ⟨o, _, _, ho, _⟩ := hd'; ⟨o, ho⟩) (hO v s₃ h' (hP _ _ _ y) F₃ hd' hsb) (st v))

noncomputable def TupI (h : Heap) (a : Addr) (k : Int) (wd : Str) : Prop := ∃ t u, IsTup h a #[.int k t, .str wd u]
theorem TupI.keep {h h' : Heap} {a : Addr} {k : Int} {wd : Str} (x : TupI h a k wd) (hk : ∀ o, h.get? a = some o → h'.get? a = some o) : TupI h' a k wd := by
  obtain ⟨t, u, o, ho, q⟩ := x; exact ⟨t, u, o, hk o ho, q⟩
theorem TupI.alive {h : Heap} {a : Addr} {k : Int} {wd : Str} (x : TupI h a k wd) : ∃ o, h.get? a = some o := by
  obtain ⟨t, u, o, ho, q⟩ := x; exact ⟨o, ho⟩
theorem Ev.tup2 {s₀ : Heap} {e1 e2 kk pos} {k : Int} {wd : Str} (h1 : Ev prog w A env s₀ e1 (isI k)) (h2 : Ev prog w A env s₀ e2 (isS wd))
    (hst : ∀ e rest, e = e1 ∨ e = e2 → starEach (e :: rest) env = (false, eval e env) :: starEach rest env) :
    Ev prog w A env s₀ (.Tuple [e1, e2] kk pos) (fun v h => ∃ a, v = .ref a ∧ TupI h a k wd ∧ s₀.get? a = none) := .mk fun s E kp =>
  wpAny_Tuple (wpAny_items_cons (wpAny_mono (h1.out s E kp) (fun v1 s₁ y1 => wpAny_items_cons (wpAny_mono (h2.out s₁ E (kT kp y1.2)) (fun v2 s₂ y2 => wpAny_items_nil (by
    obtain ⟨⟨t, rfl⟩, k1⟩ := y1
    obtain ⟨⟨u, rfl⟩, k2⟩ := y2
    refine ⟨by rw [sizeIs]; simp, ⟨_, rfl, ⟨t, u, ?_⟩, noneBack (kT (kT kp k1) k2) (fresh_of (Nat.le_refl _))⟩, kPush (kTrans k1 k2) _ _⟩
    exact ⟨_, Heap.get?_push_size _ rfl, rfl, _, rfl⟩)) fun _ _ z => z) (hst _ _ (.inr rfl))) fun _ _ z => z) (hst _ _ (.inl rfl)))

structure Wx (prog : Program) (w : World) (A : Around) (env : Env) (st : List Stmt) (Q : Flow → Shared → Prop) (E : Value → Shared → Prop) (s : Shared) : Prop where
  out : wpAny (model prog w) A (execs st env) Q E s
variable {rest : List Stmt} {Q : Flow → Shared → Prop}
theorem wNil (h : Q .next s) : Wx prog w A env [] Q E s := ⟨wpAny_execs_nil h⟩
theorem wAssign {x px e pos} {P : Value → Heap → Prop} (F : FS h₀ r L S m O s) (he : Ev prog w A env s.heap e P) (hl : env.kindOf x = some .local) (hL : env.locals = L) (hp : env.scope.kind = .function)
    (hs : swapsWith e (some (.Name x px)) pos.line env = pure false)
    (h : ∀ v (s₁ : Shared), Keeps s s₁ → P v s₁.heap → FS h₀ r L S m O s₁ → ∀ s', FS h₀ r L S (upd m x v) O s' → Ch [L] s₁ s' → Wx prog w A env rest Q E s') : Wx prog w A env (.Assign [.Name x px] e pos :: rest) Q E s :=
  ⟨wpAny_execs_cons (xAssign F he hl hL hp (fun v s₁ k hv F₁ s' F' c => (h v s₁ k hv F₁ s' F' c).out) hs)⟩
theorem wAug {x px op e pos v₀} {P R : Value → Heap → Prop} (F : FS h₀ r L S m O s) (hx : m x = some v₀) (he : Ev prog w A env s.heap e P) (hl : env.kindOf x = some .local) (hL : env.locals = L) (hp : env.scope.kind = .function)
    (ho : ∀ b (s : Shared) E, P b s.heap → wpAny (model prog w) A (inplaceOp op v₀ b) (fun v s' => R v s'.heap ∧ Keeps s s') E s)
    (h : ∀ v (s₁ : Shared), R v s₁.heap → ∀ s', FS h₀ r L S (upd m x v) O s' → Wx prog w A env rest Q E s') : Wx prog w A env (.AugAssign (.Name x px) op e pos :: rest) Q E s :=
  ⟨wpAny_execs_cons (xAug F hx he hl hL hp ho fun v s₁ hv s' F' => (h v s₁ hv s' F').out)⟩
theorem wRet {e pos} {P : Value → Heap → Prop} (F : FS h₀ r L S m O s) (he : Ev prog w A env s.heap e P) (h : ∀ v (s' : Shared), P v s'.heap → FS h₀ r L S m O s' → Q (.ret v) s') : Wx prog w A env (.Return (some e) pos :: rest) Q E s :=
  ⟨wpAny_execs_cons (xRet F he fun v s' hv F' => h v s' hv F')⟩
theorem wFor {tg iter body orelse pos old n} {P : Nat → Value → Prop} (F : FS h₀ r L S m O s) (src : Src prog w A env s.heap tg iter old n P) (hold : ∀ b ∈ old, b ∉ L :: S)
    (J : Nat → (Str → Option Value) → (Heap → Prop) → Prop) (B : (Str → Option Value) → (Heap → Prop) → Prop) (j0 : J 0 m O)
    (Tg : Nat → Value → (Str → Option Value) → (Heap → Prop) → (Str → Option Value) → (Heap → Prop) → Prop)
    (tgt : ∀ i v m₁ O₁ s₁ E' (Q' : Unit → Shared → Prop), i < n → P i v → J i m₁ O₁ → FS h₀ s₁ L S m₁ O₁ s₁ → (∀ m₂ O₂ s₂, Tg i v m₁ O₁ m₂ O₂ → FS h₀ s₁ L S m₂ O₂ s₂ → Q' () s₂) → wpAny (model prog w) A (assign tg env v) Q' E' s₁)
    (turn : ∀ i v m₁ O₁ m₂ O₂ s₁ s₂ E', i < n → P i v → J i m₁ O₁ → Tg i v m₁ O₁ m₂ O₂ → FS h₀ s₁ L S m₂ O₂ s₂ → Wx prog w A env body (fun f s₃ => match f with
      | .next | .cont => ∃ m₃ O₃, FS h₀ s₁ L S m₃ O₃ s₃ ∧ J (i + 1) m₃ O₃
      | .brk => ∃ m₃ O₃, FS h₀ s₁ L S m₃ O₃ s₃ ∧ B m₃ O₃
      | .ret _ => False) E' s₂)
    (els : orelse = [] ∨ ∃ B', B = B' ∧ ∀ m₁ O₁ s₁ E', J n m₁ O₁ → FS h₀ r L S m₁ O₁ s₁ → Wx prog w A env orelse (fun f s' => f = .next ∧ ∃ m' O', FS h₀ r L S m' O' s' ∧ B m' O') E' s₁)
    (done : orelse = [] → ∀ m₁ O₁ s₁, J n m₁ O₁ → FS h₀ r L S m₁ O₁ s₁ → Wx prog w A env rest Q E s₁)
    (brk : ∀ m₁ O₁ s₁, B m₁ O₁ → FS h₀ r L S m₁ O₁ s₁ → Wx prog w A env rest Q E s₁)
    (hs : ∀ x, foldedSetIterable iter env x = pure x) : Wx prog w A env (.For tg iter body orelse pos :: rest) Q E s := by
  refine ⟨wpAny_execs_cons (xFor F src hold J B j0 (fun i v m₁ O₁ s₁ E' hi hp hj F₁ => ?_) (fun m₁ O₁ s₁ E' hj F₁ => ?_) (fun m₁ O₁ s₁ hb F₁ => (brk m₁ O₁ s₁ hb F₁).out) hs)⟩
  · refine tgt i v m₁ O₁ s₁ E' _ hi hp hj F₁ fun m₂ O₂ s₂ ht F₂ => wpAny_mono (turn i v m₁ O₁ m₂ O₂ s₁ s₂ E' hi hp hj ht F₂).out (fun f s₃ h₃ => ?_) fun _ _ z => z
    cases f with
    | next => obtain ⟨m₃, O₃, a, b⟩ := h₃; exact ⟨m₃, O₃, b, a⟩
    | cont => obtain ⟨m₃, O₃, a, b⟩ := h₃; exact ⟨m₃, O₃, b, a⟩
    | brk => obtain ⟨m₃, O₃, a, b⟩ := h₃; exact ⟨m₃, O₃, b, a⟩
    | ret v => exact h₃
  · rcases els with rfl | ⟨_, _, hels⟩
    · exact wpAny_execs_nil (done rfl m₁ O₁ s₁ hj F₁).out
    · exact wpAny_mono (hels m₁ O₁ s₁ E' hj F₁).out (fun f s' x => by obtain ⟨rfl, m', O', F', hb⟩ := x; exact (brk m' O' s' hb F').out) fun _ _ z => z
theorem tgLocal {x px v} {Q' : Unit → Shared → Prop} (F : FS h₀ r L S m O s) (hl : env.kindOf x = some .local) (hL : env.locals = L) (hp : env.scope.kind = .function)
    (h : ∀ m₂ O₂ s₂, (m₂ = upd m x v ∧ O₂ = O) → FS h₀ r L S m₂ O₂ s₂ → Q' () s₂) : wpAny (model prog w) A (assign (.Name x px) env v) Q' E s :=
  wpAny_assign_Name (stLocal F hl hL hp fun s' F' => h _ _ s' ⟨rfl, rfl⟩ F')
theorem wForN {x px iter body pos old n} {P : Nat → Value → Prop} (F : FS h₀ r L S m O s) (src : Src prog w A env s.heap (.Name x px) iter old n P) (hold : ∀ b ∈ old, b ∉ L :: S)
    (J : Nat → (Str → Option Value) → (Heap → Prop) → Prop) (j0 : J 0 m O)
    (hl : env.kindOf x = some .local) (hL : env.locals = L) (hp : env.scope.kind = .function)
    (turn : ∀ i v m₁ O₁ s₁ s₂ E', i < n → P i v → J i m₁ O₁ → FS h₀ s₁ L S (upd m₁ x v) O₁ s₂ → Wx prog w A env body (fun f s₃ => f = .next ∧ ∃ m₃ O₃, FS h₀ s₁ L S m₃ O₃ s₃ ∧ J (i + 1) m₃ O₃) E' s₂)
    (done : ∀ m₁ O₁ s₁, J n m₁ O₁ → FS h₀ r L S m₁ O₁ s₁ → Wx prog w A env rest Q E s₁)
    (hs : ∀ x, foldedSetIterable iter env x = pure x) : Wx prog w A env (.For (.Name x px) iter body [] pos :: rest) Q E s :=
  wFor F src hold J (fun _ _ => False) j0 (fun i v m₁ O₁ m₂ O₂ => m₂ = upd m₁ x v ∧ O₂ = O₁) (fun i v m₁ O₁ s₁ E' Q' _ _ _ F₁ h => tgLocal F₁ hl hL hp h)
    (fun i v m₁ O₁ m₂ O₂ s₁ s₂ E' hi hp hj ht F₂ => by
      obtain ⟨rfl, rfl⟩ := ht
      exact ⟨wpAny_mono (turn i v m₁ _ s₁ s₂ E' hi hp hj F₂).out (fun f s₃ x => by obtain ⟨rfl, y⟩ := x; exact y) fun _ _ z => z⟩)
    (.inl rfl) (fun _ => done) (fun _ _ _ h => h.elim) hs
theorem wSetItem {o i pos' e pos d kvs} {x : Str} {P : Value → Heap → Prop} (F : FS h₀ r L S m O s) (he : Ev prog w A env s.heap e P) (hP : ∀ v h h', P v h → P v h') (ho : Ev prog w A env s.heap o (isV (.ref d))) (hi : Ev prog w A env s.heap i (isS x))
    (hd : s.heap.DictOf (strKind prog w) d kvs) (hdS : d ∈ S) (hz : kvs.length ≤ sizeLine)
    (O' : Value → Heap → Prop)
    (hO : ∀ y (s₂ : Shared) h', P y s₂.heap → FS h₀ r L S m O s₂ → h'.DictOf (strKind prog w) d (stored kvs x y) → Heap.SameBut d s₂.heap h' → O' y h')
    (st : ∀ y h h', (∀ b ∈ S, ∀ o, h.get? b = some o → h'.get? b = some o) → O' y h → O' y h')
    (hs : swapsWith e (some (.Subscript o i pos')) pos.line env = pure false)
    (h : ∀ y (s₂ : Shared), P y s₂.heap → ∀ s', FS h₀ r L S m (O' y) s' → Wx prog w A env rest Q E s') : Wx prog w A env (.Assign [.Subscript o i pos'] e pos :: rest) Q E s :=
  ⟨wpAny_execs_cons (xSetItem F he hP ho hi hd hdS hz O' hO st (fun y s₂ hy s' F' => (h y s₂ hy s' F').out) hs)⟩
theorem wAppend {x px apos e pos epos D its} {P : Value → Heap → Prop} (F : FS h₀ r L S m O s) (hx : Ev prog w A env s.heap (.Name x px) (isV (.ref D))) (hD : PlainL s.heap D its) (hDS : D ∈ S) (he : Ev prog w A env s.heap e P)
    (hz : its.size ≤ sizeLine)
    (hbase : attributeBase (.Name x px) "append" env (eval (.Name x px) env) = eval (.Name x px) env)
    (htr : backTo pos (starEach [e] env) = [(false, eval e env)]) (hline : (apos.endLine == pos.line) = true) (hi : interactive env = false)
    (hsw : swapsWith (.Call (.Attribute (.Name x px) "append" apos) [e] [] pos) none epos.line env = pure false)
    (O' : Value → Heap → Prop)
    (hO : ∀ y (s₂ : Shared) h', P y s₂.heap → FS h₀ r L S m O s₂ → PlainL h' D (its.push y) → Heap.SameBut D s₂.heap h' → O' y h')
    (st : ∀ y h h', (∀ b ∈ S, ∀ o, h.get? b = some o → h'.get? b = some o) → O' y h → O' y h')
    (h : ∀ y (s₂ : Shared), P y s₂.heap → ∀ s', FS h₀ r L S m (O' y) s' → Ch [D] s₂ s' → Wx prog w A env rest Q E s') :
    Wx prog w A env (.Expr (.Call (.Attribute (.Name x px) "append" apos) [e] [] pos) epos :: rest) Q E s :=
  ⟨wpAny_execs_cons (xAppend F hx hD hDS he hz hbase htr hline hi hsw O' hO st fun y s₂ hy s' F' c => (h y s₂ hy s' F' c).out)⟩
end
end Mine
end PartL5
section PartL6
open PySem PySem.W PyProof.Rows PySem.Spec PySem.Calls
set_option Elab.async false
set_option maxRecDepth 100000
set_option maxHeartbeats 4000000
set_option linter.unusedVariables false
namespace Mine
noncomputable def cut (h : Heap) (X : List Addr) : Heap := ⟨h.objs.mapIdx fun i o => if i ∈ X then { o with data := .freed } else o, h.life⟩
theorem cut_get (h : Heap) (X : List Addr) (b : Addr) : (cut h X).get? b = if b ∈ X then none else h.get? b := by
  unfold cut Heap.get?
  simp only [Array.getElem?_mapIdx]
  cases hb : h.objs[b]? with
  | none => simp
  | some o =>
    by_cases hx : b ∈ X
    · simp [hx]
    · simp [hx]
section
variable {h₀ : Heap} {r s s' : Shared} {L : Addr} {S : List Addr} {m m' : Str → Option Value} {O O' : Heap → Prop}
theorem FS.freeze (F : FS h₀ r L S m O s) : FS (cut s.heap (L :: S)) r L S m O s where
  ch := F.ch
  ns := F.ns
  kb := fun b o e => by
    rw [cut_get] at e
    split at e
    · cases e
    · exact e
  al := F.al
  own := F.own
  fr := fun b hb => by rw [cut_get, if_pos hb]
  nd := F.nd
  st := F.st
theorem FS.kpCut (F : FS h₀ r L S m O s) : Kp h₀ (cut s.heap (L :: S)) := fun b o e => by
  rw [cut_get, if_neg (fun hb => by rw [F.fr b hb] at e; cases e)]
  exact F.kb b o e
theorem FS.thaw {h₁ : Heap} (F : FS h₁ r L S m O s) (k : Kp h₀ h₁) (hf : ∀ b ∈ L :: S, h₀.get? b = none) : FS h₀ r L S m O s :=
  ⟨F.ch, F.ns, kpTrans k F.kb, F.al, F.own, hf, F.nd, F.st⟩
end

structure SrcV (prog : Program) (w : World) (A : Around) (s₀ : Heap) (tg : Expr) (xv : Value) (old : List Addr) (n : Nat) (P : Nat → Value → Prop) : Prop where
  out : ∀ s E, Kp s₀ s.heap → wpAny (model prog w) A (pyIter xv) (fun it s₂ => ∃ I St, it = .ref I ∧ Walks prog w A I (I :: old) [I] n P St ∧ St 0 s₂.heap ∧
    (∀ b ∈ I :: old, b < s₂.heap.objs.size) ∧ s.heap.get? I = none ∧ Keeps s s₂ ∧ (∀ i v (s' : Shared) (Q' : Unit → Shared → Prop) E', St i s'.heap → Q' () s' → wpAny (model prog w) A (letOwnedTupleGo tg (.ref I) v) Q' E' s')) E s

section
variable {prog : Program} {w : World} {A : Around} {E : Value → Shared → Prop} {env : Env} {h₀ : Heap} {r s s' : Shared} {L : Addr} {S : List Addr} {m m' : Str → Option Value} {O O' : Heap → Prop} {rest : List Stmt} {Q : Flow → Shared → Prop}

theorem SrcV.list {s₀ : Heap} {tg : Expr} {D : Addr} {vs : List Value} (hA : A.handled = none) (hl : s₀.IsList D vs.toArray) :
    SrcV prog w A s₀ tg (.ref D) [D] vs.length (fun i v => vs[i]? = some v) := .mk fun s E k => by
  obtain ⟨o, ho, rr⟩ := hl
  have ho' : s.heap.get? D = some o := k _ _ ho
  have hD : D < s.heap.objs.size := Heap.lt_size ho'
  refine wpAny_pyIter_list (items := vs.toArray) ⟨o, ho', rr⟩ ⟨_, _, rfl, Walks.re (Walks.list hA _ D (Nat.ne_of_lt hD) vs.toArray) (by simp) (fun i v hv => by simpa using hv), ⟨⟨_, Heap.get?_push_size _ rfl, rfl, rfl⟩, ⟨o, Heap.get?_push_of_some _ ho', rr⟩⟩, ?_, ?_, ?_⟩
  · intro b hb; simp at hb; rcases hb with rfl | rfl
    · rw [Heap.size_push]; exact Nat.lt_succ_self _
    · rw [Heap.size_push]; exact Nat.lt_succ_of_lt hD
  · exact fresh_of (Nat.le_refl _)
  · exact ⟨kPush (kRefl s) _ _, fun i v s' Q' E' st q => letGo_listiter st.1 q⟩

structure ForOn (prog : Program) (w : World) (A : Around) (env : Env) (tg : Expr) (body rest : List Stmt) (Q : Flow → Shared → Prop) (E : Value → Shared → Prop) (xv : Value) (s : Shared) : Prop where
  out : wpAny (model prog w) A (pyIter xv) (fun it s₂ => codeAny (model prog w) A (.forLoop tg it body [] env) (fun r s' => match r with
    | .ok f => (match f with | .next => wpAny (model prog w) A (execs rest env) Q E s' | f => Q f s')
    | .error e => cameBackBy (model prog w) A env E e s') s₂) E s
theorem wForE {tg iter body pos} {P₀ : Value → Heap → Prop} (F : FS h₀ r L S m O s) (he : Ev prog w A env s.heap iter P₀)
    (h : ∀ v s₁, Keeps s s₁ → P₀ v s₁.heap → FS h₀ r L S m O s₁ → ForOn prog w A env tg body rest Q E v s₁)
    (hs : ∀ x, foldedSetIterable iter env x = pure x) : Wx prog w A env (.For tg iter body [] pos :: rest) Q E s :=
  ⟨wpAny_execs_cons (wpAny_For (wpAny_mono (he.out s E (kpRefl _)) (fun v s₁ y => (h v s₁ y.2 y.1 (F.keeps y.2)).out) fun _ _ z => z) hs)⟩
theorem ForOn.of {tg body xv old n} {P : Nat → Value → Prop} (F : FS h₀ r L S m O s) (src : SrcV prog w A s.heap tg xv old n P) (hold : ∀ b ∈ old, b ∉ L :: S)
    (J : Nat → (Str → Option Value) → (Heap → Prop) → Prop) (j0 : J 0 m O)
    (Tg : Nat → Value → (Str → Option Value) → (Heap → Prop) → (Str → Option Value) → (Heap → Prop) → Prop)
    (tgt : ∀ i v m₁ O₁ s₁ E' (Q' : Unit → Shared → Prop), i < n → P i v → J i m₁ O₁ → FS h₀ s₁ L S m₁ O₁ s₁ → (∀ m₂ O₂ s₂, Tg i v m₁ O₁ m₂ O₂ → FS h₀ s₁ L S m₂ O₂ s₂ → Q' () s₂) → wpAny (model prog w) A (assign tg env v) Q' E' s₁)
    (turn : ∀ i v m₁ O₁ m₂ O₂ s₁ s₂ E', i < n → P i v → J i m₁ O₁ → Tg i v m₁ O₁ m₂ O₂ → FS h₀ s₁ L S m₂ O₂ s₂ → Wx prog w A env body (fun f s₃ => f = .next ∧ ∃ m₃ O₃, FS h₀ s₁ L S m₃ O₃ s₃ ∧ J (i + 1) m₃ O₃) E' s₂)
    (done : ∀ m₁ O₁ s₁, J n m₁ O₁ → FS h₀ r L S m₁ O₁ s₁ → Wx prog w A env rest Q E s₁) : ForOn prog w A env tg body rest Q E xv s := by
  refine ⟨wpAny_mono (src.out s E (kpRefl _)) (fun it s₂ h₂ => ?_) fun _ _ z => z⟩
  obtain ⟨I, St, rfl, W, hst, hfp, hI, k2, lg⟩ := h₂
  have hIo := F.newOk hI
  have hI1 : ∀ b ∈ [I], b ∉ L :: S ∧ h₀.get? b = none ∧ r.heap.get? b = none := fun b hb => by rw [List.mem_singleton.mp hb]; exact hIo
  have hfpo : ∀ b ∈ I :: old, b ∉ L :: S := fun b hb => by
    rcases List.mem_cons.mp hb with rfl | hb
    · exact hIo.1
    · exact hold b hb
  refine codeAny_forLoop_any (fun k s' => ∃ i m₁ O₁, Lp h₀ r L S J St n k s' i m₁ O₁) (fun k s' hk => ?_) n ⟨0, m, O, rfl, Nat.zero_le _, j0, F.keeps k2, hst⟩
  clear hst k2 F
  obtain ⟨i, m₁, O₁, rfl, hi, hj, F', st'⟩ := hk
  rcases Nat.lt_or_ge i n with hlt | hge
  · refine W.item i s' _ _ hlt st' fun v h' tk hp st'' hk => ?_
    have F₃ := F'.other (s' := { s' with heap := h', toks := tk }) ⟨h', tk, rfl, fun b o hb e => hk b o hb e⟩ hI1
    clear F' hk
    refine lg (i + 1) v _ _ _ st'' (tgt i v m₁ O₁ _ _ _ hlt hp hj F₃.rebase fun m₂ O₂ s₄ ht F₄ => wpAny_mono (turn i v m₁ O₁ m₂ O₂ _ s₄ _ hlt hp hj ht F₄).out (fun f s₅ h₅ => ?_) fun _ _ z => z)
    obtain ⟨rfl, m₃, O₃, F₅, hj'⟩ := h₅
    exact ⟨n - (i + 1), Nat.sub_succ_lt_self _ _ hlt, i + 1, m₃, O₃, rfl, hlt, hj', F₃.trans F₅, W.frame _ _ _ st'' fun b hb o e => F₅.ch.heap b o (hfpo b hb) e⟩
  · obtain rfl : i = n := Nat.le_antisymm hi hge
    exact W.done s' _ _ st' fun h' tk hk => wpAny_execs_nil (done m₁ O₁ _ hj (F'.other ⟨h', tk, rfl, fun b o hb e => hk b o hb e⟩ hI1)).out

theorem tgPair {x1 x2 p1 p2 kk pos a v1 v2} {Q' : Unit → Shared → Prop} (F : FS h₀ r L S m O s) (hA : A.handled = none) (ht : IsTup s.heap a #[v1, v2])
    (hl1 : env.kindOf x1 = some .local) (hl2 : env.kindOf x2 = some .local) (hL : env.locals = L) (hp : env.scope.kind = .function)
    (hn : (assignEach [.Name x1 p1, .Name x2 p2] env) = [(false, assign (.Name x1 p1) env), (false, assign (.Name x2 p2) env)])
    (h : ∀ m₂ O₂ s₂, (m₂ = upd (upd m x1 v1) x2 v2 ∧ O₂ = O) → FS h₀ r L S m₂ O₂ s₂ → Q' () s₂) : wpAny (model prog w) A (assign (.Tuple [.Name x1 p1, .Name x2 p2] kk pos) env (.ref a)) Q' E s := by
  refine assign_Tuple_tuple hA ht (by rw [hn]; rfl) (by rw [hn]; rfl) fun h' he => ?_
  rw [hn]
  have F₁ := F.keeps (s' := { s with heap := h' }) ⟨h', s.toks, rfl, fun b o e => he b o (Nat.ne_of_lt (Heap.lt_size e)) e⟩
  refine assignInOrder_cons (tgLocal F₁ hl1 hL hp ?_)
  rintro m₂ O₂ s₂ ⟨rfl, rfl⟩ F₂
  refine assignInOrder_cons (tgLocal F₂ hl2 hL hp ?_)
  rintro m₃ O₃ s₃ ⟨rfl, rfl⟩ F₃
  exact assignInOrder_nil (h _ _ s₃ ⟨rfl, rfl⟩ F₃)

theorem wAssignC {x px e pos c} {P : Value → Heap → Prop} (F : FS h₀ r L S m O s) (he : Ev prog w A env s.heap e P) (hl : env.kindOf x = some .cell) (hp : env.scope.kind = .function) (hc : env.cells.lookup x = some c) (hv : ∃ v₀, s.heap.IsCell c v₀)
    (hs : swapsWith e (some (.Name x px)) pos.line env = pure false)
    (h : ∀ v (s₁ : Shared), Keeps s s₁ → P v s₁.heap → FS h₀ r L S m O s₁ → ∀ h', h'.IsCell c (some v) → Heap.SameBut c s₁.heap h' → Wx prog w A env rest Q E { s₁ with heap := h' }) : Wx prog w A env (.Assign [.Name x px] e pos :: rest) Q E s := by
  obtain ⟨v₀, hv⟩ := hv
  exact ⟨wpAny_execs_cons (wpAny_Assign_Name (wpAny_mono (he.out s E (kpRefl _)) (fun v s₁ y => wpAny_storeName_cell hp hl hc (hv.keeps (kHeap y.2)) fun h' hc' hsb => (h v s₁ y.2 y.1 (F.keeps y.2) h' hc' hsb).out) fun _ _ z => z) hs)⟩

theorem wUpdate {o e apos pos epos d} {kvs : List (Str × Value)} {xs : List Str} {PV : Str → Value → Prop} {Z : Value → Prop} (F : FS h₀ r L S m O s) (ho : Ev prog w A env s.heap o (isV (.ref d))) (hd : s.heap.DictOf (strKind prog w) d kvs) (hdS : d ∈ S)
    (he : Ev prog w A env s.heap e (fun v h => isD prog w xs PV v h ∧ Z v)) (hZ : ∀ a, Z (.ref a) → a ≠ d ∧ (a == sysModules) = false) (hz : kvs.length + xs.length ≤ sizeLine)
    (hbase : attributeBase o "update" env (eval o env) = eval o env) (hst : starEach [e] env = [(false, eval e env)]) (hline : (apos.endLine == pos.line) = true) (hi : interactive env = false)
    (hsw : swapsWith (.Call (.Attribute o "update" apos) [e] [] pos) none epos.line env = pure false)
    (h : ∀ (more : List (Str × Value)) (s₂ : Shared) h', more.map (·.1) = xs → (∀ kv ∈ more, PV kv.1 kv.2) → FS h₀ r L S m O s₂ → h'.DictOf (strKind prog w) d (merged kvs more) → Heap.SameBut d s₂.heap h' → Wx prog w A env rest Q E { s₂ with heap := h' }) :
    Wx prog w A env (.Expr (.Call (.Attribute o "update" apos) [e] [] pos) epos :: rest) Q E s := by
  refine ⟨wpAny_execs_cons (wpAny_Expr (Call_method1 hbase hst hline (wpAny_mono (ho.out s E (kpRefl _)) (fun v s₁ y => ?_) fun _ _ z => z)) hi hsw)⟩
  obtain ⟨rfl, k1⟩ := y
  have hm := hd.keep (kHeap k1)
  refine ⟨"dict", "dict.update", PySem.F.plainAttrs_dict, PySem.F.slot_dict_update, PySem.F.type_dict_update, hm.typeIs, (fun a e => by cases e; exact hm.mapOf.noDict _ rfl),
    method1_meetsIn PySem.F.slot_dict_update PySem.F.entry_dict_update (wpAny_mono (he.out s₁ E (kOf k1)) (fun v s₂ y => ?_) fun _ _ z => z)⟩
  obtain ⟨⟨⟨a, more, rfl, hda, hmk, hall⟩, hz'⟩, k2⟩ := y
  have hm2 := hm.keep (kHeap k2)
  have hlen : more.length = xs.length := by rw [← hmk]; simp
  refine ⟨hm2.typeIs, PySem.F.args_dict_update_2 _ _, _, meets_dict_update (strKind prog w) d a (hZ a hz').1.symm (hZ a hz').2, kvs, more, hm2, hda, by omega, fun h' hd' _ hsb => ?_⟩
  exact (h more s₂ h' hmk hall (F.keeps (kTrans k1 k2)) hd' hsb).out
end
end Mine
end PartL6
section PartL7
open PySem PySem.W PyProof.Rows PySem.Spec PySem.Calls
set_option Elab.async false
set_option maxRecDepth 100000
set_option maxHeartbeats 4000000
set_option linter.unusedVariables false
namespace Mine
theorem fit1000 {n : Nat} (h : n ≤ 1000) : n ≤ sizeLine := by rw [sizeIs]; exact Nat.le_trans h (by decide)
theorem fits {n k : Nat} (h : n ≤ k) (hk : k ≤ 1000) : n ≤ sizeLine := Nat.le_trans h (fit1000 hk)
noncomputable def HS (m : Str → Option Value) (x y : Str) : Prop := ∃ t, m x = some (.str y t)
noncomputable def HI (m : Str → Option Value) (x : Str) (i : Int) : Prop := ∃ t, m x = some (.int i t)
noncomputable def KN (h₀ : Heap) (r : Shared) (L : Addr) (S : List Addr) (Mid : (Str → Option Value) → Prop) (O : Heap → Prop) : Flow → Shared → Prop :=
  fun f s'' => f = .next ∧ ∃ m', FS h₀ r L S m' O s'' ∧ Mid m'
section
variable {prog : Program} {w : World} {A : Around} {E : Value → Shared → Prop} {env : Env} {h₀ : Heap} {r s s' : Shared} {L : Addr} {S : List Addr} {m m' : Str → Option Value} {O O' : Heap → Prop} {rest : List Stmt} {Q : Flow → Shared → Prop}
theorem lS {x pos y} (F : FS h₀ r L S m O s) (hv : HS m x y) (hk : env.scope.kind = .function := by rfl) (hl : env.kindOf x = some .local := by rfl) (hL : env.locals = L := by rfl) (hd : (x == ("__debug__" : Str)) = false := by decide) :
    Ev prog w A env s.heap (.Name x pos) (isS y) := let ⟨_, h⟩ := hv; lvS F h hk hl hL hd
theorem lI {x pos i} (F : FS h₀ r L S m O s) (hv : HI m x i) (hk : env.scope.kind = .function := by rfl) (hl : env.kindOf x = some .local := by rfl) (hL : env.locals = L := by rfl) (hd : (x == ("__debug__" : Str)) = false := by decide) :
    Ev prog w A env s.heap (.Name x pos) (isI i) := let ⟨_, h⟩ := hv; lvI F h hk hl hL hd
theorem wSetI {x px e pos i} (F : FS h₀ r L S m O s) (he : Ev prog w A env s.heap e (isI i)) (hl : env.kindOf x = some .local) (hL : env.locals = L) (hp : env.scope.kind = .function)
    (hs : swapsWith e (some (.Name x px)) pos.line env = pure false)
    (h : ∀ t s', FS h₀ r L S (upd m x (.int i t)) O s' → Wx prog w A env rest Q E s') : Wx prog w A env (.Assign [.Name x px] e pos :: rest) Q E s :=
  wAssign F he hl hL hp hs fun v s₁ _ hv _ s' F' _ => by obtain ⟨t, rfl⟩ := hv; exact h t s' F'
theorem wSetS {x px e pos y} (F : FS h₀ r L S m O s) (he : Ev prog w A env s.heap e (isS y)) (hl : env.kindOf x = some .local) (hL : env.locals = L) (hp : env.scope.kind = .function)
    (hs : swapsWith e (some (.Name x px)) pos.line env = pure false)
    (h : ∀ t s', FS h₀ r L S (upd m x (.str y t)) O s' → Wx prog w A env rest Q E s') : Wx prog w A env (.Assign [.Name x px] e pos :: rest) Q E s :=
  wAssign F he hl hL hp hs fun v s₁ _ hv _ s' F' _ => by obtain ⟨t, rfl⟩ := hv; exact h t s' F'
theorem wAddS {x px e pos a b} (F : FS h₀ r L S m O s) (hx : HS m x a) (he : Ev prog w A env s.heap e (isS b)) (hl : env.kindOf x = some .local) (hL : env.locals = L) (hp : env.scope.kind = .function)
    (hz : a.length + b.length ≤ sizeLine)
    (h : ∀ t s', FS h₀ r L S (upd m x (.str (a ++ b) t)) O s' → Wx prog w A env rest Q E s') : Wx prog w A env (.AugAssign (.Name x px) .Add e pos :: rest) Q E s := by
  obtain ⟨tx, hx⟩ := hx
  refine wAug F (R := isS (a ++ b)) hx he hl hL hp ?_ ?_
  · rintro b s₁ E₁ ⟨tb, rfl⟩
    exact iadd_str (fun t' tk => ⟨⟨_, rfl⟩, kTok0 _ _⟩) hz
  · rintro _ s₁ ⟨tv, rfl⟩ s₂ F₂
    exact h tv s₂ F₂
theorem wAddI {x px e pos i j} (F : FS h₀ r L S m O s) (hx : HI m x i) (he : Ev prog w A env s.heap e (isI j)) (hl : env.kindOf x = some .local) (hL : env.locals = L) (hp : env.scope.kind = .function)
    (h : ∀ t s', FS h₀ r L S (upd m x (.int (i + j) t)) O s' → Wx prog w A env rest Q E s') : Wx prog w A env (.AugAssign (.Name x px) .Add e pos :: rest) Q E s := by
  obtain ⟨tx, hx⟩ := hx
  refine wAug F (R := isI (i + j)) hx he hl hL hp ?_ ?_
  · rintro b s₁ E₁ ⟨tb, rfl⟩
    exact iadd_int ⟨⟨_, rfl⟩, kTok0 _ _⟩
  · rintro _ s₁ ⟨tv, rfl⟩ s₂ F₂
    exact h tv s₂ F₂
noncomputable def KW {ι : Type} (h₀ : Heap) (r : Shared) (L : Addr) (St : ι → List Addr) (OO : ι → Heap → Prop) (J : ι → (Str → Option Value) → Prop) (μ : ι → Nat) (n : Nat) : Flow → Shared → Prop :=
  fun f s₃ => f = .next ∧ ∃ i m₃, μ i < n ∧ J i m₃ ∧ FS h₀ r L (St i) m₃ (OO i) s₃
theorem wTurn {ι : Type} {St : ι → List Addr} {OO : ι → Heap → Prop} {J : ι → (Str → Option Value) → Prop} {μ : ι → Nat} {n : Nat} (i : ι) (F : FS h₀ r L (St i) m (OO i) s) (hj : J i m) (hn : μ i < n) : Wx prog w A env [] (KW h₀ r L St OO J μ n) E s := wNil ⟨rfl, i, m, hn, hj, F⟩
theorem wWhile {ι : Type} {test body pos} (St : ι → List Addr) (OO : ι → Heap → Prop) (J : ι → (Str → Option Value) → Prop) (μ : ι → Nat) (c : ι → Bool) (i₀ : ι) (F : FS h₀ r L (St i₀) m (OO i₀) s) (j0 : J i₀ m)
    (ht : ∀ i m₁ s₁, J i m₁ → FS h₀ r L (St i) m₁ (OO i) s₁ → Ts prog w A env s₁.heap test (c i))
    (turn : ∀ i m₁ s₁ E', c i = true → J i m₁ → FS h₀ r L (St i) m₁ (OO i) s₁ → Wx prog w A env body (KW h₀ r L St OO J μ (μ i)) E' s₁)
    (done : ∀ i m₁ s₁, c i = false → J i m₁ → FS h₀ r L (St i) m₁ (OO i) s₁ → Wx prog w A env rest Q E s₁) : Wx prog w A env (.While test body [] pos :: rest) Q E s := by
  refine ⟨wpAny_execs_cons (xWhile F (fun n S m O => ∃ i, S = St i ∧ O = OO i ∧ n = μ i ∧ J i m) (μ i₀) ⟨i₀, rfl, rfl, rfl, j0⟩ ?_)⟩
  rintro _ _ m₁ _ s₁ E' ⟨i, rfl, rfl, rfl, hj⟩ F₁
  refine ⟨c i, ht i m₁ s₁ hj F₁, fun hb s₂ F₂ => wpAny_mono (turn i m₁ s₂ E' hb hj F₂).out (fun f s₃ x => ?_) fun _ _ z => z, fun hb s₂ F₂ => (done i m₁ s₂ hb hj F₂).out⟩
  obtain ⟨rfl, i', m₃, hn, hj', F₃⟩ := x
  exact ⟨μ i', _, m₃, _, hn, ⟨i', rfl, rfl, rfl, hj'⟩, F₃⟩
theorem wDone {Mid : (Str → Option Value) → Prop} (F : FS h₀ r L S m O s) (h : Mid m) : Wx prog w A env [] (KN h₀ r L S Mid O) E s := wNil ⟨rfl, m, F, h⟩
theorem Wx.mono {st : List Stmt} {Q Q' : Flow → Shared → Prop} (h : Wx prog w A env st Q E s) (i : ∀ f s', Q f s' → Q' f s') : Wx prog w A env st Q' E s := ⟨wpAny_mono h.out i fun _ _ z => z⟩
theorem wIfO {t a b pos} {c : Bool} (F : FS h₀ r L S m O s) (ht : Ts prog w A env s.heap t c) (Mid : (Str → Option Value) → Prop) (O' : Heap → Prop)
    (h1 : c = true → ∀ s', FS h₀ r L S m O s' → Wx prog w A env a (KN h₀ r L S Mid O') E s') (h2 : c = false → ∀ s', FS h₀ r L S m O s' → Wx prog w A env b (KN h₀ r L S Mid O') E s')
    (cont : ∀ m' s'', Mid m' → FS h₀ r L S m' O' s'' → Wx prog w A env rest Q E s'') : Wx prog w A env (.If t a b pos :: rest) Q E s :=
  ⟨wpAny_execs_cons (wpAny_mono (xIf (Q := KN h₀ r L S Mid O') F ht (fun hc s' F' => (h1 hc s' F').out) (fun hc s' F' => (h2 hc s' F').out))
    (fun f s'' x => by obtain ⟨rfl, m', F', hm⟩ := x; exact (cont m' s'' hm F').out) fun _ _ z => z)⟩
theorem wIfL {t a b pos} {c : Bool} {Mid : (Str → Option Value) → Prop} {O' : Heap → Prop} (F : FS h₀ r L S m O s) (ht : Ts prog w A env s.heap t c)
    (h1 : c = true → ∀ s', FS h₀ r L S m O s' → Wx prog w A env a (KN h₀ r L S Mid O') E s') (h2 : c = false → ∀ s', FS h₀ r L S m O s' → Wx prog w A env b (KN h₀ r L S Mid O') E s') :
    Wx prog w A env [.If t a b pos] (KN h₀ r L S Mid O') E s := wIfO F ht Mid O' h1 h2 fun _ _ hm F' => wDone F' hm
theorem wForS {x px iter body pos} {y : Str} (OO : Nat → Heap → Prop) (J : Nat → (Str → Option Value) → Prop) (F : FS h₀ r L S m (OO 0) s) (hA : A.handled = none) (he : Ev prog w A env s.heap iter (isS y)) (j0 : J 0 m)
    (hg : ∀ it v, letOwnedTupleGo (.Name x px) it v = pure ()) (hl : env.kindOf x = some .local) (hL : env.locals = L) (hp : env.scope.kind = .function)
    (turn : ∀ i one t m₁ s₁ s₂ E', (signs y)[i]? = some one → J i m₁ → FS h₀ s₁ L S (upd m₁ x (.str one t)) (OO i) s₂ → Wx prog w A env body (KN h₀ s₁ L S (J (i + 1)) (OO (i + 1))) E' s₂)
    (done : ∀ m₁ s₁, J (signs y).length m₁ → FS h₀ r L S m₁ (OO (signs y).length) s₁ → Wx prog w A env rest Q E s₁)
    (hs : ∀ x, foldedSetIterable iter env x = pure x) : Wx prog w A env (.For (.Name x px) iter body [] pos :: rest) Q E s := by
  refine wForN F (Src.str hA hg he) (fun _ h => nomatch h) (fun i m O => O = OO i ∧ J i m) ⟨rfl, j0⟩ hl hL hp ?_ ?_ hs
  · rintro i v m₁ O₁ s₁ s₂ E' _ ⟨one, ho, t, rfl⟩ ⟨rfl, hj⟩ F₂
    refine (turn i one t m₁ s₁ s₂ E' ho hj F₂).mono fun f s₃ h => ?_
    obtain ⟨rfl, m', F', hm⟩ := h
    exact ⟨rfl, m', _, F', rfl, hm⟩
  · rintro m₁ O₁ s₁ ⟨rfl, hj⟩ F₁
    exact done m₁ s₁ hj F₁
theorem wForC {x px iter body pos old n c} {P : Nat → Value → Prop} (OO : Nat → Heap → Prop) (OT : Nat → Value → Heap → Prop) (J : Nat → (Str → Option Value) → Prop) (F : FS h₀ r L S m (OO 0) s) (src : Src prog w A env s.heap (.Name x px) iter old n P) (hold : ∀ b ∈ old, b ∉ L :: S)
    (j0 : J 0 m) (hl : env.kindOf x = some .cell) (hp : env.scope.kind = .function) (hc : env.cells.lookup x = some c) (hcS : c ∈ S)
    (hcell : ∀ i h, OO i h → ∃ v₀, h.IsCell c v₀) (hO : ∀ i v h h', OO i h → h'.IsCell c (some v) → Heap.SameBut c h h' → OT i v h')
    (st : ∀ i v h h', (∀ b ∈ S, ∀ o, h.get? b = some o → h'.get? b = some o) → OT i v h → OT i v h')
    (turn : ∀ i v m₁ s₁ s₂ E', P i v → J i m₁ → FS h₀ s₁ L S m₁ (OT i v) s₂ → Wx prog w A env body (KN h₀ s₁ L S (J (i + 1)) (OO (i + 1))) E' s₂)
    (done : ∀ m₁ s₁, J n m₁ → FS h₀ r L S m₁ (OO n) s₁ → Wx prog w A env rest Q E s₁)
    (hs : ∀ x, foldedSetIterable iter env x = pure x) : Wx prog w A env (.For (.Name x px) iter body [] pos :: rest) Q E s := by
  refine wFor F src hold (fun i m O => O = OO i ∧ J i m) (fun _ _ => False) ⟨rfl, j0⟩ (fun i v m₁ O₁ m₂ O₂ => m₂ = m₁ ∧ O₂ = OT i v) ?_ ?_ (.inl rfl) ?_ (fun _ _ _ h => h.elim) hs
  · rintro i v m₁ O₁ s₁ E' Q' _ _ ⟨rfl, _⟩ F₁ hq
    obtain ⟨v₀, hv⟩ := hcell i _ F₁.own
    exact wpAny_assign_Name (stCell (O' := OT i v) F₁ hl hp hc hcS hv (fun h' a b => hO i v _ h' F₁.own a b) (st i v) fun s' F' => hq _ _ s' ⟨rfl, rfl⟩ F')
  · rintro i v m₁ O₁ m₂ O₂ s₁ s₂ E' _ hv ⟨rfl, hj⟩ ⟨e, rfl⟩ F₂
    subst e
    refine (turn i v m₂ s₁ s₂ E' hv hj F₂).mono fun f s₃ h => ?_
    obtain ⟨rfl, m', F', hm⟩ := h
    exact ⟨m', _, F', rfl, hm⟩
  · rintro - m₁ O₁ s₁ ⟨rfl, hj⟩ F₁
    exact done m₁ s₁ hj F₁
theorem ForOn.pairs {x1 x2 p1 p2 kk ppos body D} {aa : List Addr} {ts : List (Int × Str)} (OO : Nat → Heap → Prop) (J : Nat → (Str → Option Value) → Prop) (F : FS h₀ r L S m (OO 0) s) (hA : A.handled = none) (hD : s.heap.IsList D (aa.map Value.ref).toArray) (hDo : D ∉ L :: S)
    (hat : ∀ (i : Nat) a, aa[i]? = some a → ∃ p, ts[i]? = some p ∧ TupI h₀ a p.1 p.2) (hlen : aa.length = ts.length) (j0 : J 0 m)
    (hl1 : env.kindOf x1 = some .local) (hl2 : env.kindOf x2 = some .local) (hL : env.locals = L) (hp : env.scope.kind = .function)
    (hn : (assignEach [.Name x1 p1, .Name x2 p2] env) = [(false, assign (.Name x1 p1) env), (false, assign (.Name x2 p2) env)])
    (turn : ∀ i p t u m₁ s₁ s₂ E', ts[i]? = some p → J i m₁ → FS h₀ s₁ L S (upd (upd m₁ x1 (.int p.1 t)) x2 (.str p.2 u)) (OO i) s₂ → Wx prog w A env body (KN h₀ s₁ L S (J (i + 1)) (OO (i + 1))) E' s₂)
    (done : ∀ m₁ s₁, J ts.length m₁ → FS h₀ r L S m₁ (OO ts.length) s₁ → Wx prog w A env rest Q E s₁) : ForOn prog w A env (.Tuple [.Name x1 p1, .Name x2 p2] kk ppos) body rest Q E (.ref D) s := by
  refine ForOn.of F (SrcV.list hA hD) (fun b hb => by simp only [List.mem_cons, List.not_mem_nil, or_false] at hb; subst hb; exact hDo) (fun i m O => O = OO i ∧ J i m) ⟨rfl, j0⟩
    (fun i v m₁ O₁ m₂ O₂ => ∃ p t u, ts[i]? = some p ∧ m₂ = upd (upd m₁ x1 (.int p.1 t)) x2 (.str p.2 u) ∧ O₂ = O₁) ?_ ?_ ?_
  · rintro i v m₁ O₁ s₁ E' Q' _ hv _ F₁ hq
    rw [List.getElem?_map] at hv
    cases ha : aa[i]? with
    | none => rw [ha] at hv; cases hv
    | some a =>
      rw [ha] at hv
      cases hv
      obtain ⟨p, hp', htp⟩ := hat i a ha
      obtain ⟨t, u, htup⟩ := htp.keep (h' := s₁.heap) fun o e => F₁.kb _ _ e
      refine tgPair F₁ hA htup hl1 hl2 hL hp hn ?_
      rintro m₂ O₂ s₂ ⟨rfl, rfl⟩ F₂
      exact hq _ _ s₂ ⟨p, t, u, hp', rfl, rfl⟩ F₂
  · rintro i v m₁ O₁ _ _ s₁ s₂ E' _ _ ⟨rfl, hj⟩ ⟨p, t, u, hp', rfl, rfl⟩ F₂
    refine (turn i p t u m₁ s₁ s₂ E' hp' hj F₂).mono fun f s₃ h => ?_
    obtain ⟨rfl, m', F', hm⟩ := h
    exact ⟨rfl, m', _, F', rfl, hm⟩
  · rintro m₁ O₁ s₁ ⟨e, hj⟩ F₁
    have hl : (aa.map Value.ref).length = ts.length := by rw [List.length_map, hlen]
    rw [hl] at e hj
    subst e
    exact done m₁ s₁ hj F₁
end
end Mine
end PartL7
section PartE1
open PySem PySem.W PyProof.Rows PySem.Spec PySem.Calls
open AutoSeq1 (wpAny_loadPart')
set_option Elab.async false
set_option maxRecDepth 100000
set_option maxHeartbeats 4000000
set_option linter.unusedVariables false
namespace Mine
section
variable {prog : Program} {w : World} {A : Around} {E : Value → Shared → Prop} {s : Shared}
theorem nextOf_tuple_item {it t : Addr} {i : Nat} {items} {x : Value} {Q : Value → Shared → Prop} (hit : s.heap.IsTupleIter it t i)
    (ht : s.heap.IsTuple t items) (hx : items[i]? = some x)
    (hQ : ∀ h', h'.IsTupleIter it t (i + 1) → Heap.SameBut it s.heap h' → Q x { s with heap := h' }) :
    wpAny (model prog w) A (Builtin.SmallTypes.nextOf (.ref it)) Q E s := by
  obtain ⟨o, ho, hc, hd⟩ := id hit
  obtain ⟨ol, hol, _, nl, hdl⟩ := ht
  unfold Builtin.SmallTypes.nextOf
  refine wpAny_bind (wpAny_callSpecial?_slot (name := Str.ofString "__next__") hit.typeIs PySem.F.slot_tuple_iterator_next
    (wpAny_call_entry PySem.F.slot_tuple_iterator_next hit.typeIs PySem.F.entry_tuple_iterator_next ?_ (PySem.F.args_tuple_iterator_next_1 _)))
  show wpAny _ _ (field (.ref it) 0 >>= _) _ _ s
  refine wpAny_bind (wpAny_field ho hd (x := .ref t) rfl ?_)
  show wpAny _ _ (if (Value.ref t == Value.none) = true then _ else _) _ _ s
  rw [if_neg (show ¬ ((Value.ref t == Value.none) = true) from Bool.false_ne_true)]
  show wpAny _ _ (field (.ref it) 1 >>= _) _ _ s
  refine wpAny_bind (wpAny_field ho hd (x := .int i 0) rfl ?_)
  show wpAny _ _ (seqItems? (.ref t) >>= _) _ _ s
  refine wpAny_bind (wpAny_seqItems hol hdl ?_)
  simp only [Int.toNat_natCast, hx]
  refine wpAny_bind (wpAny_setField ho hd (by simp) (wpAny_pure ⟨x, rfl, wpAny_pure (hQ _ ?_ (Heap.SameBut.update ..))⟩))
  exact ⟨_, Heap.get?_update_self _ ho (Obj.isFreed_of_fields (Obj.data_mapFields hd _)), (Obj.cls_mapFields ..).trans hc, by
    rw [Obj.data_mapFields hd]; simp [rawInt]⟩
theorem nextOf_tuple_end {it t : Addr} {i : Nat} {items} {Q : Value → Shared → Prop} (hh : A.handled = none)
    (hit : s.heap.IsTupleIter it t i) (ht : s.heap.IsTuple t items) (hx : items[i]? = none)
    (hE : ∀ h' e, Heap.ExtBut it s.heap h' → (∃ o, h'.get? e = some o ∧ o.cls = .type "StopIteration") → E (.ref e) { s with heap := h' }) :
    wpAny (model prog w) A (Builtin.SmallTypes.nextOf (.ref it)) Q E s := by
  obtain ⟨o, ho, hc, hd⟩ := id hit
  obtain ⟨ol, hol, _, nl, hdl⟩ := ht
  unfold Builtin.SmallTypes.nextOf
  refine wpAny_bind (wpAny_callSpecial?_slot (name := Str.ofString "__next__") hit.typeIs PySem.F.slot_tuple_iterator_next
    (wpAny_call_entry PySem.F.slot_tuple_iterator_next hit.typeIs PySem.F.entry_tuple_iterator_next ?_ (PySem.F.args_tuple_iterator_next_1 _)))
  show wpAny _ _ (field (.ref it) 0 >>= _) _ _ s
  refine wpAny_bind (wpAny_field ho hd (x := .ref t) rfl ?_)
  show wpAny _ _ (if (Value.ref t == Value.none) = true then _ else _) _ _ s
  rw [if_neg (show ¬ ((Value.ref t == Value.none) = true) from Bool.false_ne_true)]
  show wpAny _ _ (field (.ref it) 1 >>= _) _ _ s
  refine wpAny_bind (wpAny_field ho hd (x := .int i 0) rfl ?_)
  show wpAny _ _ (seqItems? (.ref t) >>= _) _ _ s
  refine wpAny_bind (wpAny_seqItems hol hdl ?_)
  simp only [Int.toNat_natCast, hx]
  refine wpAny_bind (wpAny_rule (wpAny_bind (wpAny_setField ho hd (by simp) ?_)))
  show wpAny _ _ (newExc (.type "StopIteration") [] >>= _) _ _ _
  refine wpAny_bind ?_
  simp only [newExc, newTuple]
  refine wpAny_bind (wpAny_newObj_type ?_ (by size_fits))
  refine wpAny_bind (m := firstArgMember _ _) (wpAny_of_eq (a := Value.none) (by first | rfl | (simp only [firstArgMember]; rfl)) ?_)
  refine wpAny_newObj_type ?_ (by size_fits)
  simp only [raiseNew]
  refine wpAny_bind (wpAny_handled ?_)
  first | rw [show A.in1.handled = none from hh] | rw [hh]
  refine wpAny_bind (wpAny_pure (wpAny_throw ?_))
  exact hE _ _ (((Heap.SameBut.update ..).extBut.push _).push _) ⟨_, Heap.get?_push_size _ rfl, rfl⟩
end
theorem draws_tuple {prog : Program} {w : World} {A : Around} (hh : A.handled = none) (it l : Addr) (hne : l ≠ it) (items : Array Value) :
    Draws prog w A it [it, l] items.size (fun i v => items[i]? = some v) (fun i h => h.IsTupleIter it l i ∧ h.IsTuple l items) where
  live := fun _ _ st => let ⟨o, ho, _⟩ := st.1; ⟨o, ho⟩
  frame := fun _ _ _ st hk => ⟨let ⟨o, ho, q⟩ := st.1; ⟨o, hk it (by simp) o ho, q⟩, let ⟨o, ho, q⟩ := st.2; ⟨o, hk l (by simp) o ho, q⟩⟩
  item := fun i s Q E hi st hQ => by
    refine nextOf_tuple_item st.1 st.2 (x := items[i]) (by simp [hi]) fun h' hit' hs' => ?_
    exact hQ _ h' s.toks (by simp [hi]) ⟨hit', st.2.extBut hs'.extBut hne⟩ hs'
  done := fun s Q E st hE => nextOf_tuple_end hh st.1 st.2 (by simp) hE
theorem meets_enum_tuple (l : Addr) (items : Array Value) (n : Nat) (dct : Option Addr) (sl : Array (Option Value)) :
    Meets (Builtin.«enumerate.__new__» ⟨[.type "enumerate", .ref l], []⟩) (fun _ R s => s.heap.get? l = some { cls := .type "tuple", dict := dct, data := .seq items n, slots := sl } ∧
      R (.ok (.ret (.ref (s.heap.push { cls := .type "tuple_iterator", data := .fields #[.ref l, .int 0 0] }).objs.size)))
        { s with heap := (s.heap.push { cls := .type "tuple_iterator", data := .fields #[.ref l, .int 0 0] }).push { cls := .type "enumerate", data := .fields #[.none, .bool false, .ref s.heap.objs.size, rawInt 0, .none, .none] } }) :=
  .of_wp fun prog w A R s h => by
    obtain ⟨hp, g, d, tk, os⟩ := s; obtain ⟨hl, h⟩ := h
    have hsub := sub_enumerate
    have hL : Heap.IsTuple (Shared.heap ⟨hp, g, d, tk, os⟩) l items := ⟨_, hl, rfl, n, rfl⟩
    wp_walk using wpAny_loadPart' hl
    refine wpAny_stack_any fun st => wpAny_pure ?_
    split
    · rename_i c _ _ _ _ _
      cases (c == Value.type "enumerate")
      · wp_walk using wpAny_loadPart' hl, wpAny_pyIter_tuple hL
        exact ⟨_, rfl, h⟩
      · wp_walk using wpAny_loadPart' hl, wpAny_pyIter_tuple hL
        exact ⟨_, rfl, h⟩
    · wp_walk using wpAny_loadPart' hl, wpAny_pyIter_tuple hL
      exact ⟨_, rfl, h⟩
theorem call_enum_tuple {prog : Program} {w : World} {A : Around} {E : Value → Shared → Prop} {s : Shared} {l : Addr} {items : Array Value} {Q : Value → Shared → Prop} (hL : s.heap.IsTuple l items)
    (h : ∀ h', IsEnum h' (s.heap.objs.size + 1) s.heap.objs.size 0 .none → h'.IsTupleIter s.heap.objs.size l 0 →
      (∀ b o, s.heap.get? b = some o → h'.get? b = some o) → Q (.ref (s.heap.objs.size + 1)) { s with heap := h' }) :
    wpAny (model prog w) A (call (.type "enumerate") [.ref l]) Q E s := by
  obtain ⟨⟨c, dct, dt, sl⟩, hl, hc, n, hd⟩ := hL
  replace hc : c = .type "tuple" := hc
  replace hd : dt = .seq items n := hd
  subst hc hd
  refine callType_new PySem.F.called_enumerate (by decide) (PySem.F.typeCall_enumerate_1 _) (PySem.F.newCall_enumerate_1 _) (fun obj => PySem.F.args_object_init_2 obj _) PySem.F.entry_enumerate_new
    (meets_enum_tuple l items n dct sl) ⟨hl, ?_⟩
  have hz : (s.heap.push { cls := .type "tuple_iterator", data := .fields #[.ref l, .int 0 0] }).objs.size = s.heap.objs.size + 1 := Heap.size_push ..
  show _ ∧ _
  rw [hz]
  have he : IsEnum ((s.heap.push { cls := .type "tuple_iterator", data := .fields #[.ref l, .int 0 0] }).push
      { cls := .type "enumerate", data := .fields #[.none, .bool false, .ref s.heap.objs.size, rawInt 0, .none, .none] }) (s.heap.objs.size + 1) s.heap.objs.size 0 .none := by
    have := Heap.get?_push_size (s.heap.push { cls := .type "tuple_iterator", data := .fields #[.ref l, .int 0 0] })
      (o := { cls := .type "enumerate", data := .fields #[.none, .bool false, .ref s.heap.objs.size, rawInt 0, .none, .none] }) rfl
    rw [hz] at this; exact this
  exact ⟨⟨_, he, rfl⟩, h _ he ⟨_, Heap.get?_push_of_some _ (Heap.get?_push_size _ rfl), rfl, rfl⟩ fun b o x => Heap.get?_push_of_some _ (Heap.get?_push_of_some _ x)⟩

section
variable {prog : Program} {w : World} {A : Around} {E : Value → Shared → Prop} {env : Env} {h₀ : Heap} {r s s' : Shared} {L : Addr} {S : List Addr} {m m' : Str → Option Value} {O O' : Heap → Prop} {rest : List Stmt} {Q : Flow → Shared → Prop}
structure EnS (it T : Addr) (vs : List Value) (i : Nat) (h : Heap) : Prop where
  en : ∃ old, IsEnum h (it + 1) it ((i : Nat) : Int) old
  it : h.IsTupleIter it T i
  tp : h.IsTuple T vs.toArray
theorem wForEnum {xi xv pi pv kk pt g np e cpos body pos T} {vs : List Value} (F : FS h₀ r L S m O s) (hA : A.handled = none) (hg : Ev prog w A env s.heap (.Name g np) (isV (.type "enumerate"))) (he : Ev prog w A env s.heap e (isV (.ref T)))
    (hse : starEach [e] env = [(false, eval e env)]) (hT : s.heap.IsTuple T vs.toArray) (hTo : T ∉ L :: S)
    (hl1 : env.kindOf xi = some .local) (hl2 : env.kindOf xv = some .local) (hL : env.locals = L) (hp : env.scope.kind = .function)
    (hn : (assignEach [.Name xi pi, .Name xv pv] env) = [(false, assign (.Name xi pi) env), (false, assign (.Name xv pv) env)])
    (J : Nat → (Str → Option Value) → (Heap → Prop) → Prop) (j0 : J 0 m O)
    (turn : ∀ i v tk m₁ O₁ s₁ s₂ E', vs[i]? = some v → J i m₁ O₁ → FS h₀ s₁ L S (upd (upd m₁ xi (.int i tk)) xv v) O₁ s₂ → Wx prog w A env body (fun f s₃ => f = .next ∧ ∃ m₃ O₃, FS h₀ s₁ L S m₃ O₃ s₃ ∧ J (i + 1) m₃ O₃) E' s₂)
    (done : ∀ m₁ O₁ s₁, J vs.length m₁ O₁ → FS h₀ r L S m₁ O₁ s₁ → Wx prog w A env rest Q E s₁)
    (hs : ∀ x, foldedSetIterable (.Call (.Name g np) [e] [] cpos) env x = pure x) :
    Wx prog w A env (.For (.Tuple [.Name xi pi, .Name xv pv] kk pt) (.Call (.Name g np) [e] [] cpos) body [] pos :: rest) Q E s := by
  refine ⟨wpAny_execs_cons (wpAny_For (Call_name1 hse (wpAny_mono (hg.out s E (kpRefl _)) (fun v s₁ y => ?_) fun _ _ z => z)) hs)⟩
  obtain ⟨rfl, k1⟩ := y
  refine callWith_type1 (wpAny_mono (he.out s₁ E (kOf k1)) (fun v s₂ y => ?_) fun _ _ z => z)
  obtain ⟨rfl, k2⟩ := y
  have kk12 := kTrans k1 k2
  have hT2 : s₂.heap.IsTuple T vs.toArray := let ⟨o, ho, q⟩ := hT; ⟨o, kHeap kk12 _ _ ho, q⟩
  have hTlt : T < s₂.heap.objs.size := let ⟨o, ho, q⟩ := hT2; Heap.lt_size ho
  refine call_enum_tuple hT2 fun h' hE hI hk => wpAny_pyIter_enum hE ?_
  have k3 : Keeps s { s₂ with heap := h' } := kTrans kk12 ⟨h', s₂.toks, rfl, hk⟩
  have F₃ := F.keeps k3
  have hI0 : s.heap.get? s₂.heap.objs.size = none := noneBack (kOf kk12) (fresh_of (Nat.le_refl _))
  have he0 : s.heap.get? (s₂.heap.objs.size + 1) = none := noneBack (kOf kk12) (fresh_of (Nat.le_succ _))
  have hIok := F.newOk hI0
  have heok := F.newOk he0
  generalize hit : s₂.heap.objs.size = it at *
  have hei : it + 1 ≠ it := Nat.succ_ne_self _
  have hTi : T ≠ it := Nat.ne_of_lt hTlt
  have hTe : T ≠ it + 1 := Nat.ne_of_lt (Nat.lt_succ_of_lt hTlt)
  have D := draws_tuple (prog := prog) (w := w) (A := A.in1) hA it T hTi vs.toArray
  have hef : it + 1 ∉ [it, T] := fun hm => by
    rcases List.mem_cons.mp hm with e | hm
    · exact hei e
    · exact hTe (List.mem_singleton.mp hm).symm
  have hIs : ∀ b ∈ [it + 1, it], b ∉ L :: S ∧ h₀.get? b = none ∧ r.heap.get? b = none := fun b hb => by
    rcases List.mem_cons.mp hb with rfl | hb
    · exact heok
    · rw [List.mem_singleton.mp hb]; exact hIok
  refine codeAny_forLoop_any (fun k s' => ∃ i m₁ O₁, Lp h₀ r L S J (EnS it T vs) vs.length k s' i m₁ O₁) (fun k s' hq => ?_) vs.length
    ⟨0, m, O, rfl, Nat.zero_le _, j0, F₃, ⟨.none, hE⟩, hI, let ⟨o, ho, q⟩ := hT2; ⟨o, hk _ _ ho, q⟩⟩
  clear hE hI hk F₃ k3 F hT2 hTlt hI0 he0 hg he hT
  obtain ⟨i, m₁, O₁, rfl, hi, hj, F', ⟨old, hE'⟩, hI', hT'⟩ := hq
  rcases Nat.lt_or_ge i vs.length with hlt | hge
  · refine wpAny_pyNext_enum_itemD D hE' ⟨hI', hT'⟩ (by rw [List.size_toArray]; exact hlt) hei hef fun x h₁ tk hx hEo hst htup hsz hk₁ => ?_
    have G₁ := F'.other (I := [it + 1, it]) (s' := { s' with heap := h₁, toks := tk + 1 }) ⟨h₁, tk + 1, rfl, fun b o hb e => hk₁ b o (fun q => hb (q ▸ .head _)) (fun q => hb (q ▸ .tail _ (.head _))) e⟩ hIs
    refine wpAny_letOwnedTupleGo_enum hEo fun h₂ hE₂ hsb => ?_
    replace hsb : Heap.SameBut (it + 1) h₁ h₂ := hsb
    have G₂ := G₁.other (I := [it + 1, it]) (s' := { s' with heap := h₂, toks := tk + 1 }) ⟨h₂, tk + 1, rfl, fun b o hb e => hsb.extBut b o (fun q => hb (q ▸ .head _)) e⟩ hIs
    have ht₂ : IsTup h₂ s'.heap.objs.size #[.int i tk, x] := ⟨_, hsb.extBut _ _ (Nat.ne_of_gt (Heap.lt_size hE')) htup, rfl, _, rfl⟩
    rw [List.getElem?_toArray] at hx
    clear G₁ F' hEo hk₁ htup hsz hE' hI' hT'
    refine tgPair G₂.rebase hA ht₂ hl1 hl2 hL hp hn ?_
    rintro m₂ O₂ s₄ ⟨rfl, rfl⟩ F₄
    refine wpAny_mono (turn i x tk m₁ _ _ s₄ _ hx hj F₄).out (fun f s₅ h₅ => ?_) fun _ _ z => z
    obtain ⟨rfl, m₃, O₃, F₅, hj'⟩ := h₅
    have up : ∀ b o, b ∉ L :: S → h₂.get? b = some o → s₅.heap.get? b = some o := fun b o hb e => F₅.ch.heap b o hb e
    refine ⟨vs.length - (i + 1), Nat.sub_succ_lt_self _ _ hlt, i + 1, m₃, O₃, rfl, hlt, hj', G₂.trans F₅, ⟨x, up _ _ heok.1 hE₂⟩, ?_, ?_⟩
    · obtain ⟨o, ho, q⟩ := hst.1
      exact ⟨o, up _ _ hIok.1 (hsb.extBut _ _ hei.symm ho), q⟩
    · obtain ⟨o, ho, q⟩ := hst.2
      exact ⟨o, up _ _ hTo (hsb.extBut _ _ hTe ho), q⟩
  · obtain rfl : i = vs.length := Nat.le_antisymm hi hge
    refine wpAny_pyNext_enum_endD D hE' ⟨by rw [List.size_toArray]; exact hI', hT'⟩ fun h₁ hx => wpAny_execs_nil ?_
    exact (done m₁ O₁ _ hj (F'.other (I := [it + 1, it]) ⟨h₁, s'.toks, rfl, fun b o hb e => hx b o (fun q => hb (q ▸ .tail _ (.head _))) e⟩ hIs)).out
end
end Mine
end PartE1
section PartF0
open PySem PySem.W PyProof.Rows PySem.Spec PySem.Calls
set_option Elab.async false
set_option maxRecDepth 100000
set_option maxHeartbeats 8000000
set_option linter.unusedVariables false
namespace Mine

theorem fill : ∀ (w : World) (h : Heap), (hd.heap_39 w.params).In h → PySem.Challenge.rw_mg0043_01 = PySem.Challenge.rw_mg0043_01 := by

  k_fill
  intros; rfl
structure Base (w : World) (h : Heap) : Prop where
  X : (hd.heap_39 w.params).In h
  g : ∃ mg, h.Ns mainGlobals mg
  b : ∃ mb : Str → Option Value, h.Ns builtinsNs mb ∧ ∀ x : Str, x ≠ "__name__" → mb x = bootBuiltins x
  nl : h.NoLimit
theorem Base.keeps {w : World} {h h' : Heap} (B : Base w h) (k : Kp h h') : Base w h' :=
  ⟨B.X.keeps k, let ⟨mg, q⟩ := B.g; ⟨mg, q.keeps k⟩, let ⟨mb, q, r⟩ := B.b; ⟨mb, q.keeps k, r⟩, B.nl.keeps k⟩
section
variable {prog : Program} {w : World} {A : Around} {env : Env} {s₀ : Heap}
theorem Ev.kname {x pos v} {P : Value → Heap → Prop} (B : Base w s₀) (e : nsIn (hd.heap_39 w.params) mainGlobals x = some (some v)) (hP : ∀ h, P v h) (hk : env.scope.kind = .function) (hl : env.kindOf x = some .globalImplicit) (hg : env.globals = mainGlobals)
    (hd : (x == ("__debug__" : Str)) = false := by decide) : Ev prog w A env s₀ (.Name x pos) P := by
  obtain ⟨mg, g⟩ := B.g
  exact Ev.glob hk hl (hg ▸ g) (mg_of B.X g e) hP hd
theorem Ev.bname {x pos v} {P : Value → Heap → Prop} (B : Base w s₀) (e : nsIn (hd.heap_39 w.params) mainGlobals x = some none) (hv : bootBuiltins x = some v) (hn : x ≠ "__name__") (hP : ∀ h, P v h) (hk : env.scope.kind = .function) (hl : env.kindOf x = some .globalImplicit) (hg : env.globals = mainGlobals) (hb : env.builtins = builtinsNs)
    (hd : (x == ("__debug__" : Str)) = false := by decide) : Ev prog w A env s₀ (.Name x pos) P := by
  obtain ⟨mg, g⟩ := B.g
  obtain ⟨mb, b, hbb⟩ := B.b
  exact Ev.bltn hk hl (hg ▸ g) (mg_none_of B.X g e) (hb ▸ b) ((hbb x hn).trans hv) hP hd
end

section
variable {prog : Program} {w : World} {A : Around} {env : Env} {s₀ : Heap}
noncomputable def DP (prog : Program) (w : World) (A : Around) (env : Env) (s₀ : Heap) (P : Str → Value → Prop) : List (Expr × Expr) → List Str → Prop
  | [], [] => True
  | (k, v) :: l, x :: xs => Ev prog w A env s₀ k (isS x) ∧ Ev prog w A env s₀ v (fun v _ => P x v) ∧ DP prog w A env s₀ P l xs
  | _, _ => False
theorem DP.len {P : Str → Value → Prop} : ∀ {l : List (Expr × Expr)} {xs : List Str}, DP prog w A env s₀ P l xs → l.length = xs.length
  | [], [], _ => rfl
  | (_, _) :: _, _ :: _, h => by simp [DP.len h.2.2]
  | [], _ :: _, h => h.elim
  | _ :: _, [], h => h.elim
theorem DP.at {P : Str → Value → Prop} : ∀ {l : List (Expr × Expr)} {xs : List Str}, DP prog w A env s₀ P l xs → ∀ (i : Nat) p x, l[i]? = some p → xs[i]? = some x → Ev prog w A env s₀ p.1 (isS x) ∧ Ev prog w A env s₀ p.2 (fun v _ => P x v)
  | (_, _) :: _, _ :: _, h, 0, p, x, hp, hx => by cases hp; cases hx; exact ⟨h.1, h.2.1⟩
  | (_, _) :: _, _ :: _, h, i + 1, p, x, hp, hx => DP.at h.2.2 i p x hp hx
  | [], _, _, i, p, x, hp, hx => by simp at hp
  | _ :: _, [], h, _, _, _, _, _ => h.elim
noncomputable def zipK : List (Option Expr) → List Expr → List (Expr × Expr)
  | some k :: ks, v :: vs => (k, v) :: zipK ks vs
  | _, _ => []
theorem Ev.disp {keys values pos} {P : Str → Value → Prop} (xs : List Str) (h : DP prog w A env s₀ P (zipK keys values) xs)
    (hshape : (evalEachOpt keys env).zip ((evalEach values env).map fun v => do let x ← v; standAt pos; pure x) = ((zipK keys values).map fun p => (eval p.1 env, do let x ← eval p.2 env; standAt pos; pure x)).map fun p => (some p.1, p.2) := by rfl)
    (h0 : zipK keys values ≠ [] := by exact List.cons_ne_nil _ _) (hlen : (zipK keys values).length ≤ 15 := by exact Nat.le_of_ble_eq_true rfl) (hnd : xs.Nodup := by decide) :
    Ev prog w A env s₀ (.Dict keys values pos) (fun v h => isD prog w xs P v h ∧ ∃ d, v = .ref d ∧ s₀.get? d = none ∧ ∀ b o, s₀.get? b = some o → b < d) := Ev.dict _ xs hshape h0 hlen h.len hnd h.at
theorem valueAt_mem {kvs : List (Str × Value)} {x : Str} (h : x ∈ kvs.map (·.1)) : ∃ v, valueAt kvs x = some v ∧ (x, v) ∈ kvs := by
  obtain ⟨kv, hkv, rfl⟩ := List.mem_map.mp h
  unfold valueAt
  cases hf : kvs.find? (fun y => decide (y.1 = kv.1)) with
  | none => exact absurd (List.find?_eq_none.mp hf kv hkv) (by simp)
  | some y =>
    have h1 := List.find?_some hf
    have h2 := List.mem_of_find?_eq_some hf
    simp at h1
    exact ⟨y.2, rfl, by rw [← h1]; exact h2⟩
theorem Ev.itemDisp {value slice pos} {x : Str} {xs : List Str} {P : Str → Value → Prop} {Z : Value → Prop} {R : Value → Heap → Prop} (hv : Ev prog w A env s₀ value (fun v h => isD prog w xs P v h ∧ Z v)) (hi : Ev prog w A env s₀ slice (isS x)) (hx : x ∈ xs) (hR : ∀ v h, P x v → R v h)
    (hs : ∀ o i, subscripted slice false o i = operate [o, i] (getItem o i)) : Ev prog w A env s₀ (.Subscript value slice pos) R := .mk fun s E k =>
  Subscript_ (wpAny_mono (hv.out s E k) (fun o s₁ x1 => wpAny_mono (hi.out s₁ E (kT k x1.2)) (fun j s₂ y => by
    obtain ⟨⟨⟨d, kvs, rfl, hd, hm, hall⟩, _⟩, k1⟩ := x1
    obtain ⟨⟨u, rfl⟩, k2⟩ := y
    obtain ⟨v, hv, hmem⟩ := valueAt_mem (kvs := kvs) (x := x) (by rw [hm]; exact hx)
    have hm := (hd.keep (kHeap k2))
    exact tail_any hm.typeIs slot_dict_getitem.lookup (wpAny_getItem_of (knd := strKind prog w) (strKind_is _ _ _ _) hm.mapOf hv ⟨hR _ _ (hall _ hmem), kTok (kTrans k1 k2) _⟩) (hs _ _)) fun _ _ z => z) fun _ _ z => z)
end
end Mine
end PartF0
section PartF1
open PySem PySem.W PyProof.Rows PySem.Spec PySem.Calls
set_option Elab.async false
set_option maxRecDepth 100000
set_option maxHeartbeats 8000000
set_option linter.unusedVariables false
namespace Mine
section
variable {prog : Program} {w : World} {A : Around} {s₀ : Heap}
theorem fn_imode (B : Base w s₀) (hd : A.depth < recursionLimit) (mode : Int) (t : Tok) : Fn prog w A s₀ 21 [.int mode t] (isI (Builtin.bitAnd mode 4095)) := by
  refine Fn.of (binds := [(Str.ofString "mode", .int mode t)]) B.X B.nl hd (by k_is) (by k_is) (fun s => BindsTo.of_eq rfl) rfl (by decide) rfl rfl rfl ?_
  intro s L s₁ E' k k1 F
  refine wpAny_execs_cons (xRet F (Ev.and (Ev.loc rfl rfl F.ns rfl fun _ => ⟨_, rfl⟩) Ev.int) ?_)
  exact fun v s' hv F' => ⟨hv, F'.out k1⟩
theorem fn_ifmt (B : Base w s₀) (hd : A.depth < recursionLimit) (mode : Int) (t : Tok) : Fn prog w A s₀ 28 [.int mode t] (isI (Builtin.bitAnd mode 61440)) := by
  refine Fn.of (binds := [(Str.ofString "mode", .int mode t)]) B.X B.nl hd (by k_is) (by k_is) (fun s => BindsTo.of_eq rfl) rfl (by decide) rfl rfl rfl ?_
  intro s L s₁ E' k k1 F
  refine wpAny_execs_cons (xRet F (Ev.and (Ev.loc rfl rfl F.ns rfl fun _ => ⟨_, rfl⟩) Ev.int) ?_)
  exact fun v s' hv F' => ⟨hv, F'.out k1⟩

noncomputable def wv (base above : Int) (x : Str) : Int := if x = "r" then 4 * base else if x = "w" then 2 * base else if x = "x" then base else if x = "s" then above else 0
structure WJ (base above k : Int) (m : Str → Option Value) : Prop where
  b : HI m (Str.ofString "base") base
  a : HI m (Str.ofString "above") above
  w : HI m (Str.ofString "weight") k
noncomputable def wsum (base above : Int) (l : List Str) : Int := (l.map (wv base above)).sum
theorem wsum_step (base above : Int) {l : List Str} {i : Nat} {a : Str} (h : l[i]? = some a) : wsum base above (l.take (i + 1)) = wsum base above (l.take i) + wv base above a := by
  unfold wsum
  rw [List.take_add_one, h, Option.toList_some, List.map_append, List.sum_append]; simp
theorem fn_weight (B : Base w s₀) (hA : A.handled = none) (hd : A.depth < recursionLimit) (rights : Str) (hr : ∀ x ∈ signs rights, x ∈ [("r" : Str), "w", "x", "s"]) (base above : Int) (t1 t2 t3 : Tok) :
    Fn prog w A s₀ 100 [.str rights t1, .int base t2, .int above t3] (isI (((signs rights).map (wv base above)).sum)) := by
  refine Fn.of (binds := [(Str.ofString "rights", .str rights t1), (Str.ofString "base", .int base t2), (Str.ofString "above", .int above t3)]) B.X B.nl hd (by k_is) (by k_is) (fun s => BindsTo.of_eq rfl) rfl (by decide) rfl rfl rfl ?_
  intro s L s₁ E' k k1 F
  have F₁ : FS s.heap s₁ L [] _ (fun h => True) s₁ := F.know trivial fun h h' hk ho => trivial
  clear F
  refine Wx.out ?_
  refine wSetI F₁ Ev.int rfl rfl rfl rfl ?_
  intro t0 s₃ F₃
  refine wForS (y := rights) (fun _ _ => True) (fun i => WJ base above (wsum base above ((signs rights).take i))) F₃ hA (lvS F₃ rfl) ⟨⟨t2, rfl⟩, ⟨t3, rfl⟩, ⟨t0, rfl⟩⟩ (fun _ _ => rfl) rfl rfl rfl ?_ ?_ (fun _ => rfl)
  · clear F₃
    intro i a u m₁ s₄ s₅ E'' ha J F₅
    rw [wsum_step base above ha]
    refine wAddI F₅ J.w (j := wv base above a) ?_ rfl rfl rfl ?_
    · refine Ev.itemDisp (xs := [("r" : Str), "w", "x", "s"]) (P := fun x v => ∃ t, v = .int (wv base above x) t) (Ev.disp _ ⟨Ev.str, ?_, Ev.str, ?_, Ev.str, ?_, Ev.str, ?_, trivial⟩) (lvS F₅ rfl) (hr a (List.mem_of_getElem? ha)) (fun v h hv => hv) (fun _ _ => rfl)
      · exact Ev.mul Ev.int (lI F₅ J.b) (IntMulOk.of_left (by decide))
      · exact Ev.mul Ev.int (lI F₅ J.b) (IntMulOk.of_left (by decide))
      · exact lI F₅ J.b
      · exact lI F₅ J.a
    · intro t' s₇ F₇
      exact wDone F₇ ⟨J.b, J.a, t', rfl⟩
  · intro m₁ s₄ J F₄
    rw [List.take_length] at J
    exact wRet F₄ (lI F₄ J.w) fun v s' hv F' => ⟨hv, F'.out k1⟩
end
end Mine
end PartF1
section PartF2
open PySem PySem.W PyProof.Rows PySem.Spec PySem.Calls
set_option Elab.async false
set_option maxRecDepth 100000
set_option maxHeartbeats 8000000
set_option linter.unusedVariables false
namespace Mine
theorem cellAt {S : List Addr} {h h' : Heap} {c : Addr} {v : Option Value} (hk : ∀ b ∈ S, ∀ o, h.get? b = some o → h'.get? b = some o) (hc : c ∈ S) (x : h.IsCell c v) : h'.IsCell c v :=
  let ⟨o, ho, hd⟩ := x; ⟨o, hk c hc o ho, hd⟩
section
variable {prog : Program} {w : World} {A : Around} {s₀ : Heap}
theorem g_len (w : World) : nsIn (hd.heap_39 w.params) mainGlobals (Str.ofString "len") = some none := by k_is
theorem b_len : bootBuiltins (Str.ofString "len") = some (.builtin "len") := by kernel_rfl

noncomputable def signs3 (rights lasts : Str) : Str :=
  ((if Txt.contains rights "r" then "r" else "-") ++ (if Txt.contains rights "w" then "w" else "-")) ++ ⟨#[lasts.cps.getD (((signs "xss").filter fun x => Txt.contains rights x).length) 0]⟩

theorem fn_signs (B : Base w s₀) (hA : A.handled = none) (hd : A.depth < recursionLimit) (rights lasts : Str) (hr : rights.length ≤ 4) (hl : lasts.length = 4) (t1 t2 : Tok) :
    Fn prog w A s₀ 93 [.str rights t1, .str lasts t2] (isS (signs3 rights lasts)) := by
  refine Fn.of (binds := [(Str.ofString "rights", .str rights t1), (Str.ofString "lasts", .str lasts t2)]) B.X B.nl hd (by k_is) (by k_is) (fun s => BindsTo.of_eq rfl) rfl (by decide) rfl rfl rfl ?_
  intro s L s₁ E' k k1 F
  have F₁ : FS s.heap s₁ L [L + 1] _ (fun h => h.IsCell (L + 1) (some (.str rights t1))) s₁ := F.know (F.own (Str.ofString "rights") (L + 1) rfl) fun h h' hk ho => cellAt hk (.head _) ho
  clear F
  have hz1 : rights.length ≤ sizeLine := fits hr (by decide)
  refine Wx.out ?_
  refine wSetS (y := (if Txt.contains rights "r" then "r" else "-") ++ (if Txt.contains rights "w" then "w" else "-")) F₁ (Ev.cat ?_ ?_ ?_) rfl rfl rfl rfl ?_
  · exact Ev.ite (Ev.inS Ev.str (Ev.cell rfl rfl rfl F₁.own fun _ => ⟨_, rfl⟩)).2 (fun e => by rw [e]; exact Ev.str) (fun e => by rw [e]; exact Ev.str)
  · exact Ev.ite (Ev.inS Ev.str (Ev.cell rfl rfl rfl F₁.own fun _ => ⟨_, rfl⟩)).2 (fun e => by rw [e]; exact Ev.str) (fun e => by rw [e]; exact Ev.str)
  · rw [sizeIs]; split <;> split <;> decide
  intro t0 s₃ F₃
  have B₃ : Base w s₃.heap := B.keeps (kpTrans k F₃.kb)
  have hfil : ((signs "xss").filter fun x => Txt.contains rights x).length ≤ 3 := Nat.le_trans (List.length_filter_le _ _) (by decide)
  refine wRet F₃ (Ev.cat (lvS (t := t0) F₃ rfl) (Ev.itemS (x := lasts) (i := (((signs "xss").filter fun x => Txt.contains rights x).length : Nat)) (c := lasts.cps.getD (((signs "xss").filter fun x => Txt.contains rights x).length) 0)
    (Ev.loc rfl rfl F₃.ns rfl fun _ => ⟨_, rfl⟩) ?_ (Int.natCast_nonneg _) ?_ (by rw [hl]; exact fit1000 (by decide)) (fun _ _ => rfl)) ?_) fun v s' hv F' => ⟨hv, F'.out k1⟩
  · refine Ev.lenL (xs := (signs "xss").filter fun x => Txt.contains rights x) (Ev.bname B₃ (g_len w) b_len (by decide) (fun _ => rfl) rfl rfl rfl rfl) ?_ (fits hfil (by decide)) rfl
    refine Ev.of (Ev.comp (signs "xss") isSg decS decS_is (fun x => Txt.contains rights x) isSg (tg := .Constant .none 0 default) (Src.str hA (fun _ _ => rfl) Ev.str) (by decide) rfl (cl := [("rights", L + 1)]) (by decide) rfl (by decide) rfl ?_ ?_) ?_
    · intro C a v h m _ _ hn hm kk
      obtain ⟨u, rfl⟩ := ‹isSg a v›
      exact .inr ⟨_, rfl, (Ev.inS (Ev.loc rfl rfl hn hm fun _ => ⟨_, rfl⟩) (Ev.cell rfl rfl rfl (F₃.own.keeps kk) fun _ => ⟨_, rfl⟩)).2⟩
    · intro C a v h m hv _ _ hn hm kk
      exact Ev.loc rfl rfl hn hm fun _ => hv
    · intro v h hv
      have := toSL (G := fun x => x) hv
      simpa using this
  · have : (((((signs "xss").filter fun x => Txt.contains rights x).length : Nat) : Int)).toNat = ((signs "xss").filter fun x => Txt.contains rights x).length := Int.toNat_natCast _
    rw [this]
    unfold Str.length at hl
    have hlt : ((signs "xss").filter fun x => Txt.contains rights x).length < lasts.cps.size := by rw [hl]; exact Nat.lt_succ_of_le hfil
    rw [Array.getElem?_eq_getElem hlt, Array.getD_eq_getD_getElem?, Array.getElem?_eq_getElem hlt]; rfl
  · rw [sizeIs]
    show _ + 1 ≤ _
    split <;> split <;> decide
end
end Mine
end PartF2
section PartF3
open PySem PySem.W PyProof.Rows PySem.Spec PySem.Calls
set_option Elab.async false
set_option maxRecDepth 100000
set_option maxHeartbeats 8000000
set_option linter.unusedVariables false
namespace Mine
noncomputable def tabP : List (Str × Int) := [(Str.ofString "!", 54), (Str.ofString "!=", 28), (Str.ofString "%", 24), (Str.ofString "%=", 40), (Str.ofString "&", 19), (Str.ofString "&=", 41), (Str.ofString "(", 7), (Str.ofString ")", 8), (Str.ofString "*", 16), (Str.ofString "**", 35), (Str.ofString "**=", 46), (Str.ofString "*=", 38), (Str.ofString "+", 14), (Str.ofString "+=", 36), (Str.ofString ",", 12), (Str.ofString "-", 15), (Str.ofString "-=", 37), (Str.ofString "->", 51), (Str.ofString ".", 23), (Str.ofString "...", 52), (Str.ofString "/", 17), (Str.ofString "//", 47), (Str.ofString "//=", 48), (Str.ofString "/=", 39), (Str.ofString ":", 11), (Str.ofString ":=", 53), (Str.ofString ";", 13), (Str.ofString "<", 20), (Str.ofString "<<", 33), (Str.ofString "<<=", 44), (Str.ofString "<=", 29), (Str.ofString "=", 22), (Str.ofString "==", 27), (Str.ofString ">", 21), (Str.ofString ">=", 30), (Str.ofString ">>", 34), (Str.ofString ">>=", 45), (Str.ofString "@", 49), (Str.ofString "@=", 50), (Str.ofString "[", 9), (Str.ofString "]", 10), (Str.ofString "^", 32), (Str.ofString "^=", 43), (Str.ofString "{", 25), (Str.ofString "|", 18), (Str.ofString "|=", 42), (Str.ofString "}", 26), (Str.ofString "~", 31)]
noncomputable def tabI (x : Str) : Option Int := (tabP.find? fun kv => kv.1 = x).map (·.2)
noncomputable def KOk (P : Params) : List DictEntry → Prop
  | [] => True
  | e :: es => (∃ x t, e = ⟨PyData.keyHash P x, .str x t, e.val⟩) ∧ KOk P es
noncomputable def VOk : List (Str × Value) → Prop
  | [] => True
  | kv :: r => (∃ t, kv.2 = .int (decI kv.2) t) ∧ VOk r
noncomputable def kvOf (es : List DictEntry) : List (Str × Value) := es.map fun e => (decS e.key, e.val)
theorem tab_raw (w : World) : ∃ es ep, (hd.heap_39 w.params).lookup 69 = some ⟨.type "dict", none, .dict es ep, #[]⟩ ∧ KOk w.params es.toList ∧ VOk (kvOf es.toList) ∧ (kvOf es.toList).map (fun kv => (kv.1, decI kv.2)) = tabP := by
  refine ⟨_, _, by k_is, ?_, ?_, ?_⟩
  · exact ⟨⟨_, _, rfl⟩, ⟨_, _, rfl⟩, ⟨_, _, rfl⟩, ⟨_, _, rfl⟩, ⟨_, _, rfl⟩, ⟨_, _, rfl⟩, ⟨_, _, rfl⟩, ⟨_, _, rfl⟩, ⟨_, _, rfl⟩, ⟨_, _, rfl⟩, ⟨_, _, rfl⟩, ⟨_, _, rfl⟩, ⟨_, _, rfl⟩, ⟨_, _, rfl⟩, ⟨_, _, rfl⟩, ⟨_, _, rfl⟩, ⟨_, _, rfl⟩, ⟨_, _, rfl⟩, ⟨_, _, rfl⟩, ⟨_, _, rfl⟩, ⟨_, _, rfl⟩, ⟨_, _, rfl⟩, ⟨_, _, rfl⟩, ⟨_, _, rfl⟩, ⟨_, _, rfl⟩, ⟨_, _, rfl⟩, ⟨_, _, rfl⟩, ⟨_, _, rfl⟩, ⟨_, _, rfl⟩, ⟨_, _, rfl⟩, ⟨_, _, rfl⟩, ⟨_, _, rfl⟩, ⟨_, _, rfl⟩, ⟨_, _, rfl⟩, ⟨_, _, rfl⟩, ⟨_, _, rfl⟩, ⟨_, _, rfl⟩, ⟨_, _, rfl⟩, ⟨_, _, rfl⟩, ⟨_, _, rfl⟩, ⟨_, _, rfl⟩, ⟨_, _, rfl⟩, ⟨_, _, rfl⟩, ⟨_, _, rfl⟩, ⟨_, _, rfl⟩, ⟨_, _, rfl⟩, ⟨_, _, rfl⟩, ⟨_, _, rfl⟩, trivial⟩
  · exact ⟨⟨_, rfl⟩, ⟨_, rfl⟩, ⟨_, rfl⟩, ⟨_, rfl⟩, ⟨_, rfl⟩, ⟨_, rfl⟩, ⟨_, rfl⟩, ⟨_, rfl⟩, ⟨_, rfl⟩, ⟨_, rfl⟩, ⟨_, rfl⟩, ⟨_, rfl⟩, ⟨_, rfl⟩, ⟨_, rfl⟩, ⟨_, rfl⟩, ⟨_, rfl⟩, ⟨_, rfl⟩, ⟨_, rfl⟩, ⟨_, rfl⟩, ⟨_, rfl⟩, ⟨_, rfl⟩, ⟨_, rfl⟩, ⟨_, rfl⟩, ⟨_, rfl⟩, ⟨_, rfl⟩, ⟨_, rfl⟩, ⟨_, rfl⟩, ⟨_, rfl⟩, ⟨_, rfl⟩, ⟨_, rfl⟩, ⟨_, rfl⟩, ⟨_, rfl⟩, ⟨_, rfl⟩, ⟨_, rfl⟩, ⟨_, rfl⟩, ⟨_, rfl⟩, ⟨_, rfl⟩, ⟨_, rfl⟩, ⟨_, rfl⟩, ⟨_, rfl⟩, ⟨_, rfl⟩, ⟨_, rfl⟩, ⟨_, rfl⟩, ⟨_, rfl⟩, ⟨_, rfl⟩, ⟨_, rfl⟩, ⟨_, rfl⟩, ⟨_, rfl⟩, trivial⟩
  · rfl
theorem keysOf_of {prog : Program} {w : World} : ∀ {es : List DictEntry}, KOk w.params es → (∀ e ∈ es, ∃ k, (strKind prog w).is k e.key = true ∧ e.hash = (strKind prog w).hash k) ∧ Pairs (strKind prog w) es (kvOf es)
  | [], _ => ⟨(fun _ h => nomatch h), .nil⟩
  | e :: es, h => by
    obtain ⟨⟨x, t, he⟩, h2⟩ := h
    obtain ⟨h3, h4⟩ := keysOf_of (prog := prog) h2
    refine ⟨fun e' he' => ?_, .cons ?_ rfl h4⟩
    · rcases List.mem_cons.mp he' with rfl | he'
      · exact ⟨x, by rw [he]; exact strKind_is _ _ _ _, by rw [he]; rfl⟩
      · exact h3 e' he'
    · rw [he]; exact strKind_is _ _ _ _
theorem valueAt_tab {kvs : List (Str × Value)} (hv : VOk kvs) (x : Str) : (∃ t, valueAt kvs x = ((kvs.map fun kv => (kv.1, decI kv.2)).find? (fun kv => kv.1 = x)).map fun kv => .int kv.2 t) ∧ (valueAt kvs x).isSome = (((kvs.map fun kv => (kv.1, decI kv.2)).find? (fun kv => kv.1 = x)).map (·.2)).isSome := by
  induction kvs with
  | nil => exact ⟨⟨0, rfl⟩, rfl⟩
  | cons kv r ih =>
    obtain ⟨⟨t, ht⟩, h2⟩ := hv
    obtain ⟨⟨t', e1⟩, e2⟩ := ih h2
    by_cases hx : kv.1 = x
    · refine ⟨⟨t, ?_⟩, ?_⟩
      · simp [valueAt, hx]; exact ht
      · simp [valueAt, hx]
    · refine ⟨⟨t', ?_⟩, ?_⟩
      · simp only [valueAt, List.map_cons, List.find?_cons, hx, decide_false] at e1 ⊢; exact e1
      · simp only [valueAt, List.map_cons, List.find?_cons, hx, decide_false] at e2 ⊢; exact e2
theorem tab_is {prog : Program} {w : World} {h : Heap} (B : Base w h) : ∃ kvs, h.DictOf (strKind prog w) 69 kvs ∧ (∀ x, (valueAt kvs x).isSome = (tabI x).isSome) ∧ ∀ x, ∃ t, valueAt kvs x = (tabI x).map fun n => .int n t := by
  obtain ⟨es, ep, hl, hk, hv, hm⟩ := tab_raw w
  obtain ⟨h1, h2⟩ := keysOf_of (prog := prog) hk
  refine ⟨kvOf es.toList, ⟨_, es, ep, B.X _ _ hl, ⟨rfl, rfl, rfl⟩, rfl, ?_, h2, ?_⟩, ?_, ?_⟩
  · intro e he; exact h1 e (by simpa using he)
  · have e : (kvOf es.toList).map (·.1) = tabP.map (·.1) := by rw [← hm, List.map_map]; rfl
    rw [e]; decide +kernel
  · intro x; have := (valueAt_tab hv x).2; rw [hm] at this; exact this
  · intro x
    obtain ⟨t, ht⟩ := (valueAt_tab hv x).1
    rw [hm] at ht
    refine ⟨t, ht.trans ?_⟩
    unfold tabI
    cases tabP.find? (fun kv => decide (kv.1 = x)) <;> rfl
end Mine
end PartF3
section PartF4
open PySem PySem.W PyProof.Rows PySem.Spec PySem.Calls
set_option Elab.async false
set_option maxRecDepth 100000
set_option maxHeartbeats 8000000
set_option linter.unusedVariables false
namespace Mine
noncomputable def letter (c : Nat) : Bool := Txt.contains "ugorwxs" ⟨#[c]⟩
noncomputable def sub (cs : List Nat) (a b : Nat) : Str := ⟨((cs.drop a).take (b - a)).toArray⟩
noncomputable def wEnd (cs : List Nat) (e : Nat) : Nat := e + ((cs.drop e).takeWhile letter).length
noncomputable def tEnd (cs : List Nat) (p : Nat) : Nat := if letter (cs.getD p 0) then wEnd cs (p + 1) else if decide (p + 1 < cs.length) && (tabI (sub cs p (p + 2))).isSome then p + 2 else p + 1
noncomputable def tKind (cs : List Nat) (p : Nat) : Int := if letter (cs.getD p 0) then 1 else (tabI (sub cs p (tEnd cs p))).getD (-1)
noncomputable def toksF (cs : List Nat) : Nat → Nat → List (Int × Str)
  | 0, _ => []
  | f + 1, p => if p < cs.length then (tKind cs p, sub cs p (tEnd cs p)) :: toksF cs f (tEnd cs p) else []

theorem wEnd_go {cs : List Nat} {e : Nat} (h : e < cs.length) (hl : letter (cs.getD e 0) = true) : wEnd cs (e + 1) = wEnd cs e := by
  unfold wEnd
  rw [List.drop_eq_getElem_cons h]
  rw [List.getD_eq_getElem?_getD, List.getElem?_eq_getElem h, Option.getD_some] at hl
  rw [List.takeWhile_cons, hl, if_pos rfl, List.length_cons]
  exact Nat.add_right_comm e 1 _
theorem wEnd_stop {cs : List Nat} {e : Nat} (h : (decide (e < cs.length) && letter (cs.getD e 0)) = false) : wEnd cs e = e := by
  unfold wEnd
  rcases Nat.lt_or_ge e cs.length with hl | hl
  · rw [List.drop_eq_getElem_cons hl]
    rw [List.getD_eq_getElem?_getD, List.getElem?_eq_getElem hl] at h
    simp only [Option.getD_some, hl, decide_true, Bool.true_and] at h
    rw [List.takeWhile_cons, h]; simp
  · rw [List.drop_eq_nil_of_le hl]; simp
theorem wEnd_le {cs : List Nat} {e : Nat} (h : e ≤ cs.length) : wEnd cs e ≤ cs.length ∧ e ≤ wEnd cs e := by
  unfold wEnd
  have : ((cs.drop e).takeWhile letter).length ≤ (cs.drop e).length := (List.takeWhile_sublist letter).length_le
  rw [List.length_drop] at this
  exact ⟨Nat.le_trans (Nat.add_le_add_left this e) (Nat.le_of_eq (Nat.add_sub_cancel' h)), Nat.le_add_right _ _⟩
theorem tEnd_le {cs : List Nat} {p : Nat} (h : p < cs.length) : tEnd cs p ≤ cs.length ∧ p < tEnd cs p := by
  unfold tEnd
  split
  · exact wEnd_le (cs := cs) (e := p + 1) h
  · split
    · rename_i h2
      exact ⟨of_decide_eq_true (Bool.and_eq_true_iff.mp h2).1, Nat.lt_add_of_pos_right (by decide)⟩
    · exact ⟨h, Nat.lt_succ_self p⟩
theorem toksF_two (cs : List Nat) : ∀ (f f' p : Nat), cs.length ≤ f + p → cs.length ≤ f' + p → toksF cs f p = toksF cs f' p
  | 0, 0, _, _, _ => rfl
  | 0, f' + 1, p, h, _ => by rw [toksF, toksF, if_neg (Nat.not_lt.mpr (Nat.zero_add p ▸ h))]
  | f + 1, 0, p, _, h => by rw [toksF, toksF, if_neg (Nat.not_lt.mpr (Nat.zero_add p ▸ h))]
  | f + 1, f' + 1, p, h, h' => by
    rw [toksF, toksF]
    split
    · rename_i hp
      have h2 := (tEnd_le hp).2
      rw [Nat.add_right_comm, Nat.add_assoc] at h h'
      rw [toksF_two cs f f' (tEnd cs p) (Nat.le_trans h (Nat.add_le_add_left h2 f)) (Nat.le_trans h' (Nat.add_le_add_left h2 f'))]
    · rfl
theorem toksF_step {cs : List Nat} {p : Nat} (h : p < cs.length) : toksF cs (cs.length - p) p = (tKind cs p, sub cs p (tEnd cs p)) :: toksF cs (cs.length - tEnd cs p) (tEnd cs p) := by
  obtain ⟨h1, h2⟩ := tEnd_le h
  rw [← Nat.sub_add_cancel (Nat.sub_pos_of_lt h), toksF, if_pos h, toksF_two cs _ (cs.length - tEnd cs p) _ ?_ (Nat.le_of_eq (Nat.sub_add_cancel h1).symm)]
  rw [Nat.sub_sub]
  exact Nat.le_trans (Nat.le_of_eq (Nat.sub_add_cancel h).symm) (Nat.add_le_add_left h2 _)

noncomputable def TupAll (h : Heap) : List Addr → List (Int × Str) → Prop
  | [], [] => True
  | a :: as, p :: ps => TupI h a p.1 p.2 ∧ TupAll h as ps
  | _, _ => False
theorem TupAll.keep {h h' : Heap} : ∀ {as : List Addr} {ts : List (Int × Str)}, TupAll h as ts → (∀ b ∈ as, ∀ o, h.get? b = some o → h'.get? b = some o) → TupAll h' as ts
  | [], [], _, _ => trivial
  | _ :: _, _ :: _, x, hk => ⟨x.1.keep (hk _ (.head _)), TupAll.keep x.2 fun b hb => hk b (.tail _ hb)⟩
  | [], _ :: _, x, _ => x.elim
  | _ :: _, [], x, _ => x.elim
theorem TupAll.snoc {h : Heap} {a : Addr} {p : Int × Str} : ∀ {as : List Addr} {ts : List (Int × Str)}, TupAll h as ts → TupI h a p.1 p.2 → TupAll h (as ++ [a]) (ts ++ [p])
  | [], [], _, y => ⟨y, trivial⟩
  | _ :: _, _ :: _, x, y => ⟨x.1, TupAll.snoc x.2 y⟩
  | [], _ :: _, x, _ => x.elim
  | _ :: _, [], x, _ => x.elim
theorem TupAll.len {h : Heap} : ∀ {as : List Addr} {ts : List (Int × Str)}, TupAll h as ts → as.length = ts.length
  | [], [], _ => rfl
  | _ :: _, _ :: _, x => by simp [TupAll.len x.2]
  | [], _ :: _, x => x.elim
  | _ :: _, [], x => x.elim
noncomputable def isTL (ts : List (Int × Str)) : Value → Heap → Prop := fun v h => ∃ D as, v = .ref D ∧ h.IsList D ((as.map Value.ref) : List Value).toArray ∧ TupAll h as ts
theorem toksF_len (cs : List Nat) : ∀ f p, (toksF cs f p).length ≤ f
  | 0, _ => by simp [toksF]
  | f + 1, p => by
    simp only [toksF]
    split
    · exact Nat.succ_le_succ (toksF_len cs f (tEnd cs p))
    · simp
end Mine
end PartF4
section PartF5
open PySem PySem.W PyProof.Rows PySem.Spec PySem.Calls
set_option Elab.async false
set_option maxRecDepth 100000
set_option maxHeartbeats 8000000
set_option linter.unusedVariables false
namespace Mine
theorem g_NAME (w : World) : ∃ t, nsIn (hd.heap_39 w.params) mainGlobals (Str.ofString "NAME") = some (some (.int 1 t)) := ⟨_, by k_is⟩
theorem g_EXACT (w : World) : nsIn (hd.heap_39 w.params) mainGlobals (Str.ofString "EXACT_TOKEN_TYPES") = some (some (.ref 69)) := by k_is
section
variable {prog : Program} {w : World} {A : Around} {s₀ : Heap} {env : Env}
theorem Ev.nil {pos} : Ev prog w A env s₀ (.List [] pos) (fun v h => ∃ D, v = .ref D ∧ PlainL h D #[] ∧ s₀.get? D = none) := .mk fun s E k =>
  wpAny_List (wpAny_items_nil ⟨by rw [sizeIs]; simp, ⟨_, rfl, ⟨_, _, Heap.get?_push_size _ rfl, rfl, rfl, rfl⟩, noneBack k (fresh_of (Nat.le_refl _))⟩, kPush (kRefl s) _ _⟩)

theorem TupAll.ne {h : Heap} {D : Addr} {its : Array Value} (hD : PlainL h D its) : ∀ {as : List Addr} {ts : List (Int × Str)}, TupAll h as ts → ∀ b ∈ as, b ≠ D
  | a :: _, _ :: _, x, b, hb, e => by
    rcases List.mem_cons.mp hb with rfl | hb
    · obtain ⟨t, u, o, ho, hc, _⟩ := x.1
      obtain ⟨o', n, ho', hc', _⟩ := hD
      subst e
      rw [ho] at ho'; cases ho'
      rw [hc] at hc'
      injection hc' with e
      exact absurd e (by decide)
    · exact TupAll.ne hD x.2 b hb e
  | [], _ :: _, x, _, _, _ => x.elim
  | _ :: _, [], x, _, _, _ => x.elim
  | [], [], _, _, hb, _ => nomatch hb
theorem cpsAt {x : Str} {cs : List Nat} (hcs : x.cps.toList = cs) {e : Nat} (he : e < cs.length) : x.cps[((e : Nat) : Int).toNat]? = some (cs.getD e 0) := by
  subst hcs
  rw [List.getD_eq_getElem?_getD]
  simp only [Int.toNat_natCast]
  rw [← Array.getElem?_toList, List.getElem?_eq_getElem he]; rfl

theorem Ev.sliceC {value lo hi p pos} {x : Str} {cs : List Nat} {a b : Nat} (hcs : x.cps.toList = cs) (hv : Ev prog w A env s₀ value (isS x)) (hl : Ev prog w A env s₀ lo (isI a)) (hh : Ev prog w A env s₀ hi (isI b)) (hab : a ≤ b) (hb : b ≤ x.length) (hz : x.length ≤ sizeLine)
    (ht : ∀ o r, letTemporaryGo value o r = pure () := by intro _ _; rfl) :
    Ev prog w A env s₀ (.Subscript value (.Slice (some lo) (some hi) none p) pos) (isS (Mine.sub cs a b)) := by
  subst hcs; exact Ev.sliceS hv hl hh hab hb hz ht

noncomputable def OK (D : Addr) (as : List Addr) (ts : List (Int × Str)) : Heap → Prop := fun h => PlainL h D (as.map Value.ref).toArray ∧ TupAll h as ts
theorem OK.st {D : Addr} {as : List Addr} {ts : List (Int × Str)} {S : List Addr} (hD : D ∈ S) (ha : ∀ b ∈ as, b ∈ S) (h h' : Heap) (hk : ∀ b ∈ S, ∀ o, h.get? b = some o → h'.get? b = some o) (x : OK D as ts h) : OK D as ts h' := by
  obtain ⟨⟨o, n, q, r⟩, x2⟩ := x
  exact ⟨⟨o, n, hk D hD o q, r⟩, x2.keep fun b hb o e => hk b (ha b hb) o e⟩
structure TM (x : Str) (D : Addr) (p e : Nat) (k : Int) (m : Str → Option Value) : Prop where
  s : HS m (Str.ofString "sentence") x
  t : m (Str.ofString "tokens") = some (.ref D)
  p : HI m (Str.ofString "place") ((p : Nat) : Int)
  e : HI m (Str.ofString "end") ((e : Nat) : Int)
  k : HI m (Str.ofString "kind") k
structure TI (x : Str) (D : Addr) (cs : List Nat) (p e : Nat) (m : Str → Option Value) : Prop where
  j : TM x D p e 1 m
  le : e ≤ cs.length
  w : wEnd cs e = wEnd cs (p + 1)
structure TW (x : Str) (D : Addr) (cs : List Nat) (i : List Addr × List (Int × Str) × Nat) (m : Str → Option Value) : Prop where
  s : HS m (Str.ofString "sentence") x
  t : m (Str.ofString "tokens") = some (.ref D)
  p : HI m (Str.ofString "place") ((i.2.2 : Nat) : Int)
  le : i.2.2 ≤ cs.length
  tok : i.2.1 ++ toksF cs (cs.length - i.2.2) i.2.2 = toksF cs cs.length 0
theorem tEnd_yes {cs : List Nat} {p : Nat} (h : letter (cs.getD p 0) = true) : tEnd cs p = wEnd cs (p + 1) ∧ tKind cs p = 1 := ⟨by unfold tEnd; rw [if_pos h], by unfold tKind; rw [if_pos h]⟩
theorem tEnd_no {cs : List Nat} {p : Nat} (h : letter (cs.getD p 0) = false) : tEnd cs p = if (decide (p + 1 < cs.length) && (tabI (sub cs p (p + 2))).isSome) = true then p + 2 else p + 1 := by unfold tEnd; rw [if_neg (by rw [h]; simp)]
theorem tKind_no {cs : List Nat} {p : Nat} (h : letter (cs.getD p 0) = false) : tKind cs p = (tabI (sub cs p (tEnd cs p))).getD (-1) := by unfold tKind; rw [if_neg (by rw [h]; simp)]
theorem of_lt {a b : Nat} (h : decide (((a : Nat) : Int) < ((b : Nat) : Int)) = true) : a < b := Int.ofNat_lt.mp (of_decide_eq_true h)
theorem of_nlt {a b : Nat} (h : decide (((a : Nat) : Int) < ((b : Nat) : Int)) = false) : b ≤ a := Nat.le_of_not_lt fun h' => of_decide_eq_false h (Int.ofNat_lt.mpr h')
theorem toks_le {cs : List Nat} {ts : List (Int × Str)} {p : Nat} (h : ts ++ toksF cs (cs.length - p) p = toksF cs cs.length 0) : ts.length ≤ cs.length := by
  have h1 := congrArg List.length h
  have h2 := toksF_len cs cs.length 0
  rw [List.length_append] at h1
  exact Nat.le_trans (Nat.le_add_right _ _) (h1 ▸ h2)
theorem fn_tokens (B : Base w s₀) (hA : A.handled = none) (hd : A.depth < recursionLimit) (x : Str) (hx : x.length ≤ 1000) (t1 : Tok) :
    Fn prog w A s₀ 78 [.str x t1] (isTL (toksF x.cps.toList x.cps.toList.length 0)) := by
  refine Fn.of (binds := [(Str.ofString "sentence", .str x t1)]) B.X B.nl hd (by k_is) (by k_is) (fun s => BindsTo.of_eq rfl) rfl (by decide) rfl rfl rfl ?_
  intro s L s₁ E' k k1 F
  have F₁ : FS s.heap s₁ L [] _ (fun h => True) s₁ := F.know trivial fun h h' hk ho => trivial
  clear F
  have hz : x.length ≤ sizeLine := fit1000 hx
  generalize hcs : x.cps.toList = cs
  have hlen : x.length = cs.length := by rw [← hcs]; exact Array.length_toList.symm
  refine Wx.out ?_
  refine wAssign F₁ Ev.nil rfl rfl rfl rfl ?_
  rintro _ s₂ - ⟨D, rfl, hD, hDn⟩ - s₃ F₃ c₃
  have hDok := F₁.newOk hDn
  have hDL : D ≠ L := fun e => hDok.1 (e ▸ .head _)
  obtain ⟨oD, nD, hoD, hDr⟩ := hD
  have hoD' := c₃.heap D oD (fun h => hDL (List.mem_singleton.mp h)) hoD
  replace F₃ := F₃.grow (O' := OK D [] []) hoD' hDok.1 hDok.2.1 ⟨⟨oD, nD, hoD', hDr⟩, trivial⟩ (OK.st (.head _) fun b hb => nomatch hb)
  clear hDok hDL hoD hoD' hDr hDn c₃ F₁
  refine wSetI F₃ Ev.int rfl rfl rfl rfl ?_
  intro tp s₅ F₅
  clear F₃
  refine wWhile (fun i : List Addr × List (Int × Str) × Nat => i.1.reverse ++ [D]) (fun i => OK D i.1 i.2.1) (TW x D cs) (fun i => cs.length - i.2.2) (fun i => decide (((i.2.2 : Nat) : Int) < ((x.length : Nat) : Int))) ([], [], 0) F₅ ⟨⟨t1, rfl⟩, rfl, ⟨tp, rfl⟩, Nat.zero_le _, rfl⟩ ?_ ?_ ?_
  · intro i m₁ s₆ J F₆
    have B₆ : Base w s₆.heap := B.keeps (kpTrans k F₆.kb)
    exact (Ev.ltI (lI F₆ J.p) (Ev.lenS (Ev.bname B₆ (g_len w) b_len (by decide) (fun _ => rfl) rfl rfl rfl rfl) (lS F₆ J.s) hz rfl)).2
  · clear F₅
    rintro ⟨as, ts, p⟩ m₁ s₇ E₆ hb J F₇
    have hpl : p < cs.length := hlen ▸ of_lt hb
    obtain ⟨hte, htp⟩ := tEnd_le hpl
    replace F₇ : FS s.heap s₁ L (as.reverse ++ [D]) m₁ (OK D as ts) s₇ := F₇
    have hJp : HI m₁ (Str.ofString "place") ((p : Nat) : Int) := J.p
    refine wSetI F₇ (Ev.add (lI F₇ hJp) Ev.int) rfl rfl rfl rfl ?_
    intro te s₉ F₉
    have B₉ : Base w s₉.heap := B.keeps (kpTrans k F₉.kb)
    obtain ⟨tn, htn⟩ := g_NAME w
    refine wSetI (i := 1) F₉ (Ev.kname B₉ htn (fun _ => ⟨_, rfl⟩) rfl rfl rfl) rfl rfl rfl rfl ?_
    intro tk s₁₁ F₁₁
    clear F₇ F₉ B₉ htn hb
    refine wIfO F₁₁ (Ev.inS (Ev.itemS (lS (x := Str.ofString "sentence") F₁₁ J.s) (lI (x := Str.ofString "place") F₁₁ hJp) (Int.natCast_nonneg p) (cpsAt hcs hpl) hz fun _ _ => rfl) Ev.str).2 (TM x D p (tEnd cs p) (tKind cs p)) (OK D as ts) ?_ ?_ ?_
    · intro hlet s₁₂ F₁₂
      obtain ⟨hE, hK⟩ := tEnd_yes (cs := cs) hlet
      rw [hE, hK]
      refine wWhile (fun _ : Nat => as.reverse ++ [D]) (fun _ => OK D as ts) (TI x D cs p) (fun e => cs.length - e) (fun e => decide (((e : Nat) : Int) < ((x.length : Nat) : Int)) && letter (cs.getD e 0)) (p + 1) F₁₂ ⟨⟨J.s, J.t, hJp, ⟨te, rfl⟩, ⟨tk, rfl⟩⟩, hpl, rfl⟩ ?_ ?_ ?_
      · intro e m₂ s₁₃ I F₁₃
        have B₁₃ : Base w s₁₃.heap := B.keeps (kpTrans k F₁₃.kb)
        refine Ts.and (Ev.ltI (lI F₁₃ I.j.e) (Ev.lenS (Ev.bname B₁₃ (g_len w) b_len (by decide) (fun _ => rfl) rfl rfl rfl rfl) (lS F₁₃ I.j.s) hz rfl)).2 (fun hc => ?_)
        exact (Ev.inS (Ev.itemS (lS F₁₃ I.j.s) (lI F₁₃ I.j.e) (Int.natCast_nonneg e) (cpsAt hcs (hlen ▸ of_lt hc)) hz fun _ _ => rfl) Ev.str).2
      · intro e m₂ s₁₄ E₇ hb2 I F₁₄
        obtain ⟨hb2, hb3⟩ := Bool.and_eq_true_iff.mp hb2
        have hel2 : e < cs.length := hlen ▸ of_lt hb2
        refine wAddI F₁₄ I.j.e Ev.int rfl rfl rfl ?_
        intro tv s₁₆ F₁₆
        exact wTurn (e + 1) F₁₆ ⟨⟨I.j.s, I.j.t, I.j.p, ⟨tv, rfl⟩, I.j.k⟩, hel2, (wEnd_go hel2 hb3).trans I.w⟩ (Nat.sub_succ_lt_self _ _ hel2)
      · intro e m₂ s₁₄ hb2 I F₁₄
        have : wEnd cs e = e := wEnd_stop (by rw [← hb2, ← hlen]; congr 1; exact decide_eq_decide.mpr Int.ofNat_lt.symm)
        refine wDone F₁₄ ⟨I.j.s, I.j.t, I.j.p, ?_, I.j.k⟩
        rw [← I.w, this]; exact I.j.e
    · intro hlet s₁₂ F₁₂
      have hlet' : letter (cs.getD p 0) = false := hlet
      have B₁₂ : Base w s₁₂.heap := B.keeps (kpTrans k F₁₂.kb)
      obtain ⟨kvs, hdict, hsome, -⟩ := tab_is (prog := prog) B₁₂
      have hE := tEnd_no hlet'
      refine wIfO F₁₂ (Ts.and (d := (tabI (sub cs p (p + 2))).isSome) (Ev.ltI (lvI (x := Str.ofString "end") (i := ((p : Nat) : Int) + 1) (t := te) F₁₂ rfl) (Ev.lenS (Ev.bname B₁₂ (g_len w) b_len (by decide) (fun _ => rfl) rfl rfl rfl rfl) (lS (x := Str.ofString "sentence") F₁₂ J.s) hz rfl)).2 (fun hc => ?_))
        (TM x D p (tEnd cs p) 1) (OK D as ts) ?_ ?_ ?_
      · have hc2 : p + 2 ≤ x.length := of_lt (a := p + 1) hc
        rw [← hsome]
        refine Ts.inD (Ev.sliceC (a := p) (b := p + 2) hcs (lS (x := Str.ofString "sentence") F₁₂ J.s) (lI (x := Str.ofString "place") F₁₂ hJp) (Ev.of (Ev.add (lvI (i := ((p : Nat) : Int) + 1) (t := te) F₁₂ rfl) Ev.int) (fun v h hv => ?_)) (Nat.le_add_right p 2) hc2 hz) (Ev.kname B₁₂ (g_EXACT w) (fun _ => rfl) rfl rfl rfl) hdict (by decide)
        obtain ⟨t', rfl⟩ := hv
        exact ⟨t', by congr 1⟩
      · intro hc s₁₃ F₁₃
        obtain ⟨hc1, hc2⟩ := Bool.and_eq_true_iff.mp hc
        rw [hE, if_pos (Bool.and_eq_true_iff.mpr ⟨decide_eq_true (hlen ▸ of_lt (a := p + 1) hc1), hc2⟩)]
        refine wAddI (i := ((p : Nat) : Int) + 1) F₁₃ ⟨te, rfl⟩ Ev.int rfl rfl rfl ?_
        intro tv s₁₆ F₁₆
        exact wDone F₁₆ ⟨J.s, J.t, hJp, ⟨tv, by rw [Int.natCast_add, Int.add_assoc]; rfl⟩, ⟨tk, rfl⟩⟩
      · intro hc s₁₃ F₁₃
        rw [hE, if_neg]
        · exact wDone F₁₃ ⟨J.s, J.t, hJp, ⟨te, rfl⟩, ⟨tk, rfl⟩⟩
        · intro hh
          obtain ⟨h1, h2⟩ := Bool.and_eq_true_iff.mp hh
          rw [h2, Bool.and_true] at hc
          exact Nat.lt_irrefl _ (Nat.lt_of_le_of_lt (hlen ▸ of_nlt (a := p + 1) hc) (of_decide_eq_true h1))
      · clear hdict hsome B₁₂ F₁₂
        intro m' s₁₃ M F₁₃
        have B₁₃ : Base w s₁₃.heap := B.keeps (kpTrans k F₁₃.kb)
        obtain ⟨kvs, hdict, -, hval⟩ := tab_is (prog := prog) B₁₃
        refine wSetI (i := tKind cs p) F₁₃ (Ev.get2 (x := sub cs p (tEnd cs p)) (dv := isI (-1)) (Ev.kname B₁₃ (g_EXACT w) (fun _ => rfl) rfl rfl rfl) (Ev.sliceC (a := p) (b := tEnd cs p) hcs (lS F₁₃ M.s) (lI F₁₃ M.p) (lI F₁₃ M.e) (Nat.le_of_lt htp) (hlen ▸ hte) hz) Ev.neg1 hdict (by decide) ?_ rfl rfl rfl) rfl rfl rfl rfl ?_
        · rintro v h h' ⟨t', rfl⟩
          obtain ⟨t, ht⟩ := hval (sub cs p (tEnd cs p))
          rw [ht, tKind_no hlet']
          cases tabI (sub cs p (tEnd cs p)) with
          | none => exact ⟨t', rfl⟩
          | some n => exact ⟨t, rfl⟩
        · intro tv s₁₅ F₁₅
          exact wDone F₁₅ ⟨M.s, M.t, M.p, M.e, ⟨tv, rfl⟩⟩
    · clear F₁₁
      intro m' s₁₂ M F₁₂
      have hne : ∀ b ∈ as, b ≠ D := TupAll.ne F₁₂.own.1 F₁₂.own.2
      have hfit : (as.map Value.ref).toArray.size ≤ sizeLine := by
        rw [List.size_toArray, List.length_map, F₁₂.own.2.len]
        exact fit1000 (Nat.le_trans (toks_le J.tok) (hlen ▸ hx))
      refine wAppend F₁₂ (D := D) (its := (as.map Value.ref).toArray) (lvR F₁₂ M.t) F₁₂.own.1 (List.mem_append_right _ (.head _)) (Ev.tup2 (lI F₁₂ M.k) (Ev.sliceC (a := p) (b := tEnd cs p) hcs (lS F₁₂ M.s) (lI F₁₂ M.p) (lI F₁₂ M.e) (Nat.le_of_lt htp) (hlen ▸ hte) hz) (by rintro e rest (rfl | rfl) <;> rfl))
        hfit rfl rfl rfl rfl rfl (fun y h => PlainL h D ((as.map Value.ref).toArray.push y) ∧ TupAll h as ts) ?_ ?_ ?_
      · intro y s₁₃ h' _ F₁₃ hp hs
        exact ⟨hp, F₁₃.own.2.keep fun b hb o e => hs.extBut b o (hne b hb) e⟩
      · intro y h h' hk ho
        refine ⟨?_, ho.2.keep fun b hb o e => hk b (List.mem_append_left _ (List.mem_reverse.mpr hb)) o e⟩
        obtain ⟨o, n, q, r⟩ := ho.1; exact ⟨o, n, hk D (List.mem_append_right _ (.head _)) o q, r⟩
      · rintro y s₁₃ ⟨a, rfl, hta, han⟩ s₁₄ F₁₄ c₁₄
        have hao := F₁₂.newOk han
        have haD : a ≠ D := fun e => hao.1 (by rw [e]; exact .tail _ (List.mem_append_right _ (.head _)))
        have hta' : TupI s₁₄.heap a (tKind cs p) (sub cs p (tEnd cs p)) := hta.keep fun o e => c₁₄.heap a o (fun h => haD (List.mem_singleton.mp h)) e
        obtain ⟨oa, hoa⟩ := hta'.alive
        have F₁₅ := F₁₄.grow (O' := OK D (as ++ [a]) (ts ++ [(tKind cs p, sub cs p (tEnd cs p))])) hoa hao.1 hao.2.1 ⟨by have := F₁₄.own.1; rw [List.push_toArray] at this; rw [List.map_append]; exact this, F₁₄.own.2.snoc hta'⟩
          (OK.st (.tail _ (List.mem_append_right _ (.head _))) fun b hb => by
            rcases List.mem_append.mp hb with hb | hb
            · exact .tail _ (List.mem_append_left _ (List.mem_reverse.mpr hb))
            · rw [List.mem_singleton.mp hb]; exact .head _)
        clear F₁₂ F₁₄ c₁₄ hao haD hta hta' hoa hne
        refine wSetI F₁₅ (lI F₁₅ M.e) rfl rfl rfl rfl ?_
        intro tv s₁₆ F₁₆
        rw [show a :: (as.reverse ++ [D]) = (as ++ [a]).reverse ++ [D] from by rw [List.reverse_append]; rfl] at F₁₆
        refine wTurn (as ++ [a], ts ++ [(tKind cs p, sub cs p (tEnd cs p))], tEnd cs p) F₁₆ ⟨M.s, M.t, ⟨tv, rfl⟩, hte, ?_⟩ (Nat.sub_lt_sub_left hpl htp)
        rw [List.append_assoc, List.singleton_append, ← toksF_step hpl]; exact J.tok
  · rintro ⟨as, ts, p⟩ m₁ s₇ hb J F₇
    have hpl : p = cs.length := Nat.le_antisymm J.le (hlen ▸ of_nlt hb)
    have hts : ts = toksF cs cs.length 0 := by
      have := J.tok
      rw [hpl, Nat.sub_self, toksF, List.append_nil] at this
      exact this
    refine wRet F₇ (lvR F₇ J.t) fun v s' hv F' => ⟨?_, F'.out k1⟩
    obtain rfl := hv
    exact ⟨D, as, rfl, F'.own.1.isList, hts ▸ F'.own.2⟩
end
end Mine
end PartF5
section PartF6
open PySem PySem.W PyProof.Rows PySem.Spec PySem.Calls
set_option Elab.async false
set_option maxRecDepth 100000
set_option maxHeartbeats 8000000
set_option linter.unusedVariables false
namespace Mine
theorem g_range (w : World) : nsIn (hd.heap_39 w.params) mainGlobals (Str.ofString "range") = some none := by k_is
theorem b_range : bootBuiltins (Str.ofString "range") = some (.type "range") := by kernel_rfl
noncomputable def at1 (x : Str) (k : Nat) : Str := ⟨#[x.cps.getD k 0]⟩
noncomputable def picks (x : Str) (m : Nat) (v : Int) : Str := Txt.join "" (((upTo m).filter fun k => (v / 2 ^ k.toNat % 2 == 1)).map fun k => at1 x k.toNat)
noncomputable def toldS (n : Int) : Str := picks "rwxs" 4 (n / 42 % 15 + 1)
noncomputable def whoS (n : Int) : Str := picks "ugo" 3 (n % 7 + 1)
noncomputable def deeds : List Str := ["+", "-", "=", "+=", "-=", "=="]
noncomputable def stayss : List Str := ["0111", "0010", "0101", "0110", "0001", "1010"]
noncomputable def deedS (n : Int) : Str := deeds.getD (n / 7 % 6).toNat ""
noncomputable def staysS (n : Int) : Str := stayss.getD (n / 7 % 6).toNat ""
noncomputable def cat (l : List Str) : Str := l.foldl (· ++ ·) ""
noncomputable def keepR (stays told cur right : Str) : Bool := at1 stays ((if Txt.contains cur right then 2 else 0) + (if Txt.contains told right then 1 else 0)) == ("1" : Str)
noncomputable def newS (stays told cur : Str) : Str := cat ((signs "rwxs").filter fun r => keepR stays told cur r)
noncomputable def putF (f : Str → Str) (x y : Str) : Str → Str := fun z => if z = x then y else f z
structure Dr where
  sen : Str
  who : Str
  f : Str → Str
noncomputable def cond (d : Dr) (n : Int) : Bool := (d.sen == ("" : Str)) || decide (n < 630)
noncomputable def midD (d : Dr) (n : Int) : Dr := if cond d n then ⟨d.sen ++ (if d.sen == ("" : Str) then whoS n else "," ++ whoS n), whoS n, d.f⟩ else d
noncomputable def stepD (d : Dr) (n : Int) : Dr := ⟨(midD d n).sen ++ (deedS n ++ toldS n), (midD d n).who, (signs (midD d n).who).foldl (fun f one => putF f one (newS (staysS n) (toldS n) (f one))) d.f⟩
noncomputable def f0 : Str → Str := fun z => if z = "u" then "rwx" else "rx"
noncomputable def dr0 : Dr := ⟨"", "", f0⟩

section
variable {prog : Program} {w : World} {A : Around} {s₀ : Heap} {env : Env}
noncomputable def TS (prog : Program) (w : World) (A : Around) (env : Env) (s₀ : Heap) : List Expr → List Str → Prop
  | [], [] => True
  | e :: es, x :: xs => Ev prog w A env s₀ e (isS x) ∧ (∀ rest, starEach (e :: rest) env = (false, eval e env) :: starEach rest env) ∧ TS prog w A env s₀ es xs
  | _, _ => False
theorem TS.items : ∀ {es : List Expr} {xs : List Str}, TS prog w A env s₀ es xs → ∀ pos s E, Kp s₀ s.heap →
    wpAny (model prog w) A (spliced (backTo pos (starEach es env))) (fun vs s' => ∃ l, vs = strValues l ∧ l.map (·.1) = xs ∧ Keeps s s') E s
  | [], [], _, pos, s, E, k => wpAny_items_nil ⟨[], rfl, rfl, kRefl s⟩
  | e :: es, x :: xs, h, pos, s, E, k => by
    refine wpAny_items_cons (wpAny_mono (h.1.out s E k) (fun v s₁ x1 => ?_) fun _ _ z => z) (h.2.1 _)
    obtain ⟨⟨t, rfl⟩, k1⟩ := x1
    refine wpAny_mono (TS.items h.2.2 pos s₁ E (kT k k1)) (fun vs s₂ y => ?_) fun _ _ z => z
    obtain ⟨l, rfl, hm, k2⟩ := y
    exact ⟨(x, t) :: l, rfl, by simp [hm], kTrans k1 k2⟩
  | [], _ :: _, h, _, _, _, _ => h.elim
  | _ :: _, [], h, _, _, _, _ => h.elim
theorem Ev.menu {es kk tpos slice pos} {xs : List Str} {i : Int} {x : Str} (h : TS prog w A env s₀ es xs) (hi : Ev prog w A env s₀ slice (isI i)) (h0 : 0 ≤ i) (hx : xs[i.toNat]? = some x) (hz : xs.length ≤ sizeLine)
    (hs : ∀ o i, subscripted slice false o i = operate [o, i] (getItem o i)) : Ev prog w A env s₀ (.Subscript (.Tuple es kk tpos) slice pos) (isS x) := by
  refine Ev.itemT (R := isS x) (.mk fun s E k => ?_) hi h0 hs
  refine wpAny_Tuple (wpAny_mono (h.items tpos s E k) (fun vs s₁ y => ?_) fun _ _ z => z)
  obtain ⟨l, rfl, hm, k1⟩ := y
  have hl : (strValues l).length = xs.length := by rw [← hm]; simp [strValues]
  refine ⟨by rw [hl]; exact hz, ?_, kPush k1 _ _⟩
  rw [← hm, List.getElem?_map] at hx
  cases hq : l[i.toNat]? with
  | none => rw [hq] at hx; simp at hx
  | some p =>
    rw [hq] at hx
    simp at hx
    refine ⟨_, strValues l, .str p.1 p.2, rfl, ?_, by simp [strValues, hq], by rw [hl]; exact hz, fun h' _ => ⟨p.2, by rw [hx]⟩⟩
    exact ⟨_, Heap.get?_push_size _ rfl, rfl, _, rfl⟩

theorem Ev.picks {x : Str} {kc pc apos jpos} {elt iter kk} {ifs : List Expr} {scope : Scope} {px cpos} {cl : List (Str × Addr)} {m : Nat} {v : Int} (hA : A.handled = none) (hm : m ≤ x.length) (hx : x.length ≤ 4) {tg : Expr}
    (src : Src prog w A env s₀ tg iter [] (upTo m).length (fun i v => ∃ a, (upTo m)[i]? = some a ∧ isIg a v))
    (hclos : closureFor scope env = pure cl) (hcell : ∀ y ∈ scope.names, y.2 ≠ .cell) (hkind : scope.kind = .function)
    (hnames : ∀ y ∈ scope.names, y.2 = .local → scope.names.lookup y.1 = some .local) (hxx : scope.names.lookup kk = some .local)
    (ht : ∀ C a v' h m', isIg a v' → a ∈ upTo m → h.Ns C m' → m' kk = some v' → Kp s₀ h → ∃ c, ifs = [c] ∧ Ts prog w A (compEnvC scope cl C env) h c (v / 2 ^ a.toNat % 2 == 1))
    (he : ∀ C a v' h m', isIg a v' → a ∈ upTo m → h.Ns C m' → m' kk = some v' → Kp s₀ h → Ev prog w A (compEnvC scope cl C env) h elt (isS (at1 x a.toNat)))
    (hbase : attributeBase (.Constant (.str "") kc pc) "join" env (eval (.Constant (.str "") kc pc) env) = eval (.Constant (.str "") kc pc) env)
    (hs : starEach [.ListComp elt [⟨.Name kk px, iter, ifs, 0⟩] scope cpos] env = [(false, eval (.ListComp elt [⟨.Name kk px, iter, ifs, 0⟩] scope cpos) env)]) (hline : (apos.endLine == jpos.line) = true)
    (hf : ∀ x, foldedSetIterable iter env x = pure x) :
    Ev prog w A env s₀ (.Call (.Attribute (.Constant (.str "") kc pc) "join" apos) [.ListComp elt [⟨.Name kk px, iter, ifs, 0⟩] scope cpos] [] jpos) (isS (Mine.picks x m v)) := by
  have hup : (upTo m).length ≤ 4 := by simp [upTo]; omega
  refine Ev.join (xs := ((upTo m).filter fun k => (v / 2 ^ k.toNat % 2 == 1)).map fun k => at1 x k.toNat) ?_ ?_ hbase hs hline
  · refine Ev.of (Ev.comp (upTo m) isIg decI decI_is (fun k => (v / 2 ^ k.toNat % 2 == 1)) (fun k y => isSg (at1 x k.toNat) y) src (by rw [sizeIs]; omega) hclos hcell hkind hnames hxx ?_ ?_ hf) ?_
    · intro C a v' h m' h1 h2 h3 h4 h5; exact .inr (ht C a v' h m' h1 h2 h3 h4 h5)
    · intro C a v' h m' h1 h2 _ h3 h4 h5; exact he C a v' h m' h1 h2 h3 h4 h5
    · intro v' h hv; exact toSL hv
  · have hl : (((upTo m).filter fun k => (v / 2 ^ k.toNat % 2 == 1)).map fun k => at1 x k.toNat).length ≤ 4 := by
      rw [List.length_map]; exact Nat.le_trans (List.length_filter_le _ _) hup
    have h1 : ∀ y ∈ (((upTo m).filter fun k => (v / 2 ^ k.toNat % 2 == 1)).map fun k => at1 x k.toNat), y.length = 1 := by
      intro y hy; obtain ⟨k, _, rfl⟩ := List.mem_map.mp hy; rfl
    generalize (((upTo m).filter fun k => (v / 2 ^ k.toNat % 2 == 1)).map fun k => at1 x k.toNat) = ys at hl h1
    match ys, hl, h1 with
    | [], _, _ => rfl
    | [a], _, h1 => simp [JoinOk, h1 a (by simp)]; decide
    | [a, b], _, h1 => simp [JoinOk, h1 a (by simp), h1 b (by simp)]; decide
    | [a, b, c], _, h1 => simp [JoinOk, h1 a (by simp), h1 b (by simp), h1 c (by simp)]; decide
    | [a, b, c, d], _, h1 => simp [JoinOk, h1 a (by simp), h1 b (by simp), h1 c (by simp), h1 d (by simp)]; decide
    | a :: b :: c :: d :: e :: r, hl, _ => simp at hl
end
end Mine
end PartF6
section PartF7
open PySem PySem.W PyProof.Rows PySem.Spec PySem.Calls
set_option Elab.async false
set_option maxRecDepth 100000
set_option maxHeartbeats 8000000
set_option linter.unusedVariables false
namespace Mine
noncomputable def SetsAre (kvs : List (Str × Value)) (f : Str → Str) : Prop := kvs.map (·.1) = [("u" : Str), "g", "o"] ∧ ∀ kv ∈ kvs, ∃ t, kv.2 = .str (f kv.1) t
noncomputable def OD (prog : Program) (w : World) (c d : Addr) (vn : Option Value) (f : Str → Str) : Heap → Prop := fun h => h.IsCell c vn ∧ ∃ kvs, h.DictOf (strKind prog w) d kvs ∧ SetsAre kvs f
theorem OD.st {prog : Program} {w : World} {c d : Addr} {vn : Option Value} {f : Str → Str} {S : List Addr} (hc : c ∈ S) (hd : d ∈ S) (h h' : Heap) (hk : ∀ b ∈ S, ∀ o, h.get? b = some o → h'.get? b = some o) (x : OD prog w c d vn f h) : OD prog w c d vn f h' :=
  let ⟨x1, kvs, x2, x3⟩ := x; ⟨cellAt hk hc x1, kvs, x2.at (fun o e => hk d hd o e), x3⟩
theorem SetsAre.put {kvs : List (Str × Value)} {f : Str → Str} (h : SetsAre kvs f) {x : Str} (hx : x ∈ [("u" : Str), "g", "o"]) (y : Str) (t : Tok) : SetsAre (stored kvs x (.str y t)) (putF f x y) := by
  have hany : (kvs.any fun kv => decide (kv.1 = x)) = true := by
    rw [← h.1] at hx
    obtain ⟨kv, hkv, rfl⟩ := List.mem_map.mp hx
    exact List.any_eq_true.mpr ⟨kv, hkv, by simp⟩
  unfold stored
  rw [if_pos hany]
  refine ⟨by rw [keys_map_store]; exact h.1, fun kv hkv => ?_⟩
  obtain ⟨kv', hkv', rfl⟩ := List.mem_map.mp hkv
  by_cases e : kv'.1 = x
  · simp only [e, if_true]; exact ⟨t, by simp [putF]⟩
  · simp only [e, if_false]
    obtain ⟨t', h'⟩ := h.2 kv' hkv'
    exact ⟨t', by rw [h']; simp [putF, e]⟩
theorem SetsAre.get {kvs : List (Str × Value)} {f : Str → Str} (h : SetsAre kvs f) {x : Str} (hx : x ∈ [("u" : Str), "g", "o"]) : ∃ t, valueAt kvs x = some (.str (f x) t) := by
  obtain ⟨v, hv, hm⟩ := valueAt_mem (kvs := kvs) (x := x) (by rw [h.1]; exact hx)
  obtain ⟨t, ht⟩ := h.2 _ hm
  exact ⟨t, by rw [hv]; exact congrArg some ht⟩
theorem SetsAre.len {kvs : List (Str × Value)} {f : Str → Str} (h : SetsAre kvs f) : kvs.length = 3 := by
  have := congrArg List.length h.1; simpa using this
theorem mem_upTo {a : Int} {m : Nat} (h : a ∈ upTo m) : ∃ k : Nat, k < m ∧ a = (k : Int) := by
  obtain ⟨k, hk, rfl⟩ := List.mem_map.mp h
  exact ⟨k, List.mem_range.mp hk, rfl⟩
theorem cat_snoc (l : List Str) (x : Str) : cat (l ++ [x]) = cat l ++ x := by simp [cat, List.foldl_append]
theorem mod_fin (n : Int) {k : Nat} (hk : 0 < k) {P : Int → Prop} (h : ∀ v : Fin k, P ((v.val : Nat) : Int)) : P (n % (k : Int)) := by
  obtain ⟨j, hj⟩ := Int.eq_ofNat_of_zero_le (Int.emod_nonneg n (Int.ofNat_ne_zero.mpr (Nat.ne_of_gt hk)))
  have := Int.emod_lt_of_pos n (Int.ofNat_lt.mpr hk)
  rw [hj] at this ⊢
  exact h ⟨j, Int.ofNat_lt.mp this⟩
theorem who_ok (n : Int) : (∀ x ∈ signs (whoS n), x ∈ [("u" : Str), "g", "o"]) ∧ (whoS n).length ≤ 3 :=
  mod_fin n (k := 7) (by decide) (P := fun m => (∀ x ∈ signs (picks "ugo" 3 (m + 1)), x ∈ [("u" : Str), "g", "o"]) ∧ (picks "ugo" 3 (m + 1)).length ≤ 3) (by decide +kernel)
theorem told_ok (n : Int) : (∀ x ∈ signs (toldS n), x ∈ [("r" : Str), "w", "x", "s"]) ∧ (toldS n).length ≤ 4 :=
  mod_fin (n / 42) (k := 15) (by decide) (P := fun m => (∀ x ∈ signs (picks "rwxs" 4 (m + 1)), x ∈ [("r" : Str), "w", "x", "s"]) ∧ (picks "rwxs" 4 (m + 1)).length ≤ 4) (by decide +kernel)
theorem op_lt (n : Int) : (n / 7 % 6).toNat < 6 := mod_fin (n / 7) (k := 6) (by decide) (P := fun m => m.toNat < 6) (by decide +kernel)
theorem menu_at (xs : List Str) (hl : xs.length = 6) (n : Int) : xs[(n / 7 % 6).toNat]? = some (xs.getD (n / 7 % 6).toNat "") := by
  rw [List.getD_eq_getElem?_getD, List.getElem?_eq_getElem (hl ▸ op_lt n)]; rfl
theorem deed_len (n : Int) : (deedS n).length ≤ 2 := by
  have key : ∀ v : Fin 6, (deeds.getD v.val "").length ≤ 2 := by decide +kernel
  exact key ⟨(n / 7 % 6).toNat, op_lt n⟩
theorem stays_len (n : Int) : (staysS n).length = 4 := by
  have key : ∀ v : Fin 6, (stayss.getD v.val "").length = 4 := by decide +kernel
  exact key ⟨(n / 7 % 6).toNat, op_lt n⟩
theorem len_app (x y : Str) : (x ++ y).length = x.length + y.length := Str.length_append x y
structure WF (d : Dr) (k : Nat) : Prop where
  who : ∀ x ∈ signs d.who, x ∈ [("u" : Str), "g", "o"]
  wl : d.who.length ≤ 3
  sl : d.sen.length ≤ 10 * k
theorem len_comma : (",": Str).length = 1 := by decide
theorem add14 {a b c : Nat} (h1 : a ≤ b) (h2 : c ≤ 4) : a + c ≤ b + 4 := Nat.add_le_add h1 h2
theorem who_add (b : Bool) (n : Int) : (if b = true then whoS n else "," ++ whoS n).length ≤ 4 := by
  have h := (who_ok n).2
  split
  · exact Nat.le_succ_of_le h
  · rw [len_app, len_comma, Nat.add_comm]; exact Nat.succ_le_succ h
theorem deed_add (n : Int) : (deedS n ++ toldS n).length ≤ 6 := by
  rw [len_app]; exact Nat.add_le_add (deed_len n) (told_ok n).2
theorem WF.mid {d : Dr} {k : Nat} (h : WF d k) (n : Int) : (∀ x ∈ signs (midD d n).who, x ∈ [("u" : Str), "g", "o"]) ∧ (midD d n).who.length ≤ 3 ∧ (midD d n).sen.length ≤ 10 * k + 4 := by
  unfold midD
  have h1 := who_ok n
  split
  · refine ⟨h1.1, h1.2, ?_⟩
    rw [len_app]
    exact add14 h.sl (who_add _ n)
  · exact ⟨h.who, h.wl, Nat.le_trans h.sl (Nat.le_add_right _ _)⟩
theorem WF.step {d : Dr} {k : Nat} (h : WF d k) (n : Int) : WF (stepD d n) (k + 1) := by
  obtain ⟨h1, h2, h3⟩ := h.mid n
  refine ⟨h1, h2, ?_⟩
  show ((midD d n).sen ++ (deedS n ++ toldS n)).length ≤ _
  rw [len_app, Nat.mul_add]
  exact Nat.add_le_add h3 (deed_add n) (a := _) (b := 10 * k + 4) (c := _) (d := 6)
theorem wf0 : WF dr0 0 := ⟨fun x hx => absurd hx (by rw [show signs dr0.who = [] from rfl]; exact List.not_mem_nil), by decide, by decide⟩
theorem wf_fold (ns : List Int) : ∀ {d : Dr} {k : Nat}, WF d k → WF (ns.foldl stepD d) (k + ns.length) := by
  induction ns with
  | nil => intro d k h; exact h
  | cons n ns ih => intro d k h; have := ih (h.step n); simpa [Nat.add_assoc, Nat.add_comm 1] using this
theorem wf_take (ns : List Int) (i : Nat) (hi : i ≤ ns.length) : WF ((ns.take i).foldl stepD dr0) i := by
  have := wf_fold (ns.take i) wf0
  rwa [List.length_take, Nat.min_eq_left hi, Nat.zero_add] at this
end Mine
end PartF7
section PartF8
open PySem PySem.W PyProof.Rows PySem.Spec PySem.Calls
set_option Elab.async false
set_option maxRecDepth 100000
set_option maxHeartbeats 8000000
set_option linter.unusedVariables false
namespace Mine
section
variable {prog : Program} {w : World} {A : Around} {s₀ : Heap} {env : Env}
noncomputable def isDrawn (prog : Program) (w : World) (s₀ : Heap) (d : Dr) : Value → Heap → Prop := fun v h => ∃ a t dd kvs, v = .ref a ∧ IsTup h a #[.str d.sen t, .ref dd] ∧ h.DictOf (strKind prog w) dd kvs ∧ SetsAre kvs d.f ∧ s₀.get? dd = none
theorem pow_ok {k : Nat} (h : k < 4) : (0 : Int) < 2 ^ (((k : Nat) : Int)).toNat ∧ ((2 : Int) ^ (((k : Nat) : Int)).toNat).natAbs < 1073741824 ∧ (Builtin.Int.intBits 2 : Int) * ((k : Nat) : Int) ≤ 2 ^ 27 := by
  have key : ∀ k : Fin 4, (0 : Int) < 2 ^ (((k.val : Nat) : Int)).toNat ∧ ((2 : Int) ^ (((k.val : Nat) : Int)).toNat).natAbs < 1073741824 ∧ (Builtin.Int.intBits 2 : Int) * ((k.val : Nat) : Int) ≤ 2 ^ 27 := by decide +kernel
  exact key ⟨k, h⟩
theorem Ts.bit {e p1 p2 p3 p4 p5 p6 p7 c1 c2 c3 kk} {v : Int} {a : Int} {m : Nat} (hm : m ≤ 4) (ha : a ∈ upTo m) (he : Ev prog w A env s₀ e (isI v)) (hk : Ev prog w A env s₀ (.Name kk p1) (isI a)) :
    Ts prog w A env s₀ (.Compare (.BinOp (.BinOp e .FloorDiv (.BinOp (.Constant (.int 2) c1 p2) .Pow (.Name kk p1) p3) p4) .Mod (.Constant (.int 2) c2 p5) p6) [.Eq] [.Constant (.int 1) c3 p7] pos) (v / 2 ^ a.toNat % 2 == 1) := by
  obtain ⟨k, hk', rfl⟩ := mem_upTo ha
  obtain ⟨h1, h3, h4⟩ := pow_ok (k := k) (by omega)
  exact Ts.eqI (Ev.mod (Ev.fdiv he (Ev.pow Ev.int hk (by omega) h4) h1 (PyProof.noPylong_small h3)) Ev.int (by decide)) Ev.int

theorem f0u : f0 "u" = "rwx" := by decide +kernel
theorem f0g : f0 "g" = "rx" := by decide +kernel
theorem f0o : f0 "o" = "rx" := by decide +kernel
theorem Ev.strAs {x y : Str} {kc pos} (h : y = x) : Ev prog w A env s₀ (.Constant (.str x) kc pos) (fun v _ => ∃ t, v = .str y t) := by subst h; exact Ev.str
theorem idx_ok (c1 c2 : Bool) {x : Str} (hl : x.length = 4) : 0 ≤ ((if c1 = true then (2 : Int) else 0) + (if c2 = true then 1 else 0)) ∧
    x.cps[((if c1 = true then (2 : Int) else 0) + (if c2 = true then 1 else 0)).toNat]? = some (x.cps.getD ((if c1 = true then 2 else 0) + (if c2 = true then 1 else 0)) 0) := by
  unfold Str.length at hl
  have h : ∀ j : Nat, j < 4 → x.cps[j]? = some (x.cps.getD j 0) := fun j hj => by
    rw [Array.getD_eq_getD_getElem?, Array.getElem?_eq_getElem (by omega)]; rfl
  cases c1 <;> cases c2
  · exact ⟨by decide, h 0 (by decide)⟩
  · exact ⟨by decide, h 1 (by decide)⟩
  · exact ⟨by decide, h 2 (by decide)⟩
  · exact ⟨by decide, h 3 (by decide)⟩
theorem cat_len : ∀ {l : List Str}, (∀ x ∈ l, x.length = 1) → (cat l).length = l.length := by
  intro l
  have : ∀ (l : List Str) (a : Str), (∀ x ∈ l, x.length = 1) → (l.foldl (· ++ ·) a).length = a.length + l.length := by
    intro l
    induction l with
    | nil => intro a _; rfl
    | cons x l ih => intro a h; rw [List.foldl_cons, ih _ fun y hy => h y (.tail _ hy), len_app, h x (.head _), List.length_cons]; omega
  intro h
  have := this l "" h
  simpa [cat, show (Str.ofString "").length = 0 from rfl] using this
theorem kept_len (q : Nat) (p : Str → Bool) : (cat (((signs "rwxs").take q).filter p)).length ≤ 4 := by
  rw [cat_len]
  · refine Nat.le_trans (List.length_filter_le _ _) (Nat.le_trans (List.length_take_le' _ _) (by decide))
  · intro x hx
    have := List.mem_of_mem_take (List.mem_filter.mp hx).1
    obtain ⟨c, _, rfl⟩ := List.mem_map.mp this
    rfl
theorem cell_ne {prog : Program} {w : World} {h : Heap} {c d : Addr} {v : Option Value} {kvs : List (Str × Value)} (hc : h.IsCell c v) (hd : h.DictOf (strKind prog w) d kvs) : c ≠ d := by
  obtain ⟨o, ho, hd1⟩ := hc
  obtain ⟨o', _, _, ho', _, hd2, _⟩ := hd
  intro e
  rw [← e, ho] at ho'; cases ho'; rw [hd1] at hd2; cases hd2
noncomputable def OX (prog : Program) (w : World) (c d : Addr) (f : Str → Str) : Heap → Prop := fun h => ∃ vn, OD prog w c d vn f h
theorem OX.st {prog : Program} {w : World} {c d : Addr} {f : Str → Str} {S : List Addr} (hc : c ∈ S) (hd : d ∈ S) (h h' : Heap) (hk : ∀ b ∈ S, ∀ o, h.get? b = some o → h'.get? b = some o) (x : OX prog w c d f h) : OX prog w c d f h' :=
  let ⟨vn, x⟩ := x; ⟨vn, OD.st hc hd h h' hk x⟩
theorem OD.cell {prog : Program} {w : World} {c d : Addr} {vn v : Option Value} {f : Str → Str} {h h' : Heap} (x : OD prog w c d vn f h) (hc : h'.IsCell c v) (hsb : Heap.SameBut c h h') : OD prog w c d v f h' := by
  obtain ⟨x1, kvs, x2, x3⟩ := x
  exact ⟨hc, kvs, x2.sameBut hsb (cell_ne x1 x2).symm, x3⟩
theorem OD.dict {prog : Program} {w : World} {c d : Addr} {vn : Option Value} {f g : Str → Str} {kvs' : List (Str × Value)} {h h' : Heap} (x : OD prog w c d vn f h) (hd : h'.DictOf (strKind prog w) d kvs') (hs : SetsAre kvs' g) (hsb : Heap.SameBut d h h') : OD prog w c d vn g h' := by
  obtain ⟨x1, kvs, x2, x3⟩ := x
  exact ⟨x1.sameBut hsb (cell_ne x1 x2), kvs', hd, hs⟩
structure JD (d : Addr) (q : Dr) (m : Str → Option Value) : Prop where
  s : HS m (Str.ofString "sentence") q.sen
  w : HS m (Str.ofString "who") q.who
  se : m (Str.ofString "sets") = some (.ref d)
structure MD (d : Addr) (q : Dr) (n : Int) (m : Str → Option Value) : Prop where
  j : JD d q m
  y : HS m (Str.ofString "stays") (staysS n)
  o : HS m (Str.ofString "told") (toldS n)
structure MD' (d : Addr) (q : Dr) (n : Int) (m : Str → Option Value) : Prop where
  j : MD d q n m
  dd : HS m (Str.ofString "deed") (deedS n)
structure RD (d : Addr) (q : Dr) (n : Int) (one kept : Str) (m : Str → Option Value) : Prop where
  j : MD d q n m
  o : HS m (Str.ofString "one") one
  k : HS m (Str.ofString "kept") kept
noncomputable def foldS (n : Int) (l : List Str) (f : Str → Str) : Str → Str := l.foldl (fun f one => putF f one (newS (staysS n) (toldS n) (f one))) f
noncomputable def keptS (n : Int) (cur : Str) (q : Nat) : Str := cat (((signs "rwxs").take q).filter fun r => keepR (staysS n) (toldS n) cur r)
theorem foldS_step (n : Int) (l : List Str) (f : Str → Str) {j : Nat} {one : Str} (h : l[j]? = some one) : foldS n (l.take (j + 1)) f = putF (foldS n (l.take j) f) one (newS (staysS n) (toldS n) (foldS n (l.take j) f one)) := by
  unfold foldS
  rw [List.take_add_one, h, List.foldl_append]; rfl
theorem keptS_yes (n : Int) (cur : Str) {q : Nat} {right : Str} (h : (signs "rwxs")[q]? = some right) (hc : keepR (staysS n) (toldS n) cur right = true) : keptS n cur (q + 1) = keptS n cur q ++ right := by
  have : ((signs "rwxs").take (q + 1)).filter (fun r => keepR (staysS n) (toldS n) cur r) = ((signs "rwxs").take q).filter (fun r => keepR (staysS n) (toldS n) cur r) ++ [right] := by
    rw [List.take_add_one, h, List.filter_append]; simp [hc]
  unfold keptS
  rw [this, cat_snoc]
theorem keptS_no (n : Int) (cur : Str) {q : Nat} {right : Str} (h : (signs "rwxs")[q]? = some right) (hc : keepR (staysS n) (toldS n) cur right = false) : keptS n cur (q + 1) = keptS n cur q := by
  have : ((signs "rwxs").take (q + 1)).filter (fun r => keepR (staysS n) (toldS n) cur r) = ((signs "rwxs").take q).filter (fun r => keepR (staysS n) (toldS n) cur r) := by
    rw [List.take_add_one, h, List.filter_append]; simp [hc]
  unfold keptS
  rw [this]
theorem keptS_fits (n : Int) (cur : Str) (q : Nat) {right : Str} (h : (signs "rwxs")[q]? = some right) : (keptS n cur q).length + right.length ≤ sizeLine := by
  have h2 : right.length = 1 := by obtain ⟨c, _, rfl⟩ := List.mem_map.mp (List.mem_of_getElem? h); rfl
  exact Nat.le_trans (Nat.add_le_add (kept_len q _) (Nat.le_of_eq h2)) (fit1000 (by decide))
theorem at_ugo {q : Nat} (hq : q < 3) : ("ugo" : Str).cps[((q : Nat) : Int).toNat]? = some (("ugo" : Str).cps.getD ((q : Nat) : Int).toNat 0) := by
  have key : ∀ q : Fin 3, ("ugo" : Str).cps[((q.val : Nat) : Int).toNat]? = some (("ugo" : Str).cps.getD ((q.val : Nat) : Int).toNat 0) := by decide +kernel
  exact key ⟨q, hq⟩
theorem at_rwxs {q : Nat} (hq : q < 4) : ("rwxs" : Str).cps[((q : Nat) : Int).toNat]? = some (("rwxs" : Str).cps.getD ((q : Nat) : Int).toNat 0) := by
  have key : ∀ q : Fin 4, ("rwxs" : Str).cps[((q.val : Nat) : Int).toNat]? = some (("rwxs" : Str).cps.getD ((q.val : Nat) : Int).toNat 0) := by decide +kernel
  exact key ⟨q, hq⟩
theorem Ev.ifI {t a b pos c} {i j : Int} (ht : Ts prog w A env s₀ t c) (ha : Ev prog w A env s₀ a (isI i)) (hb : Ev prog w A env s₀ b (isI j)) : Ev prog w A env s₀ (.IfExp t a b pos) (isI (if c = true then i else j)) :=
  Ev.ite ht (fun e => by rw [if_pos e]; exact ha) (fun e => by rw [if_neg (by rw [e]; simp)]; exact hb)
theorem nn_ok (n : Int) : (0 : Int) ≤ n / 7 % 6 := Int.emod_nonneg _ (by decide)
theorem cond_yes {q : Dr} {n : Int} (h : cond q n = true) : midD q n = ⟨q.sen ++ (if q.sen == ("" : Str) then whoS n else "," ++ whoS n), whoS n, q.f⟩ := by unfold midD; rw [if_pos h]
theorem cond_no {q : Dr} {n : Int} (h : cond q n = false) : midD q n = q := by unfold midD; rw [if_neg (by rw [h]; simp)]
theorem sl_80 {q : Dr} {k : Nat} (wf : WF q k) (hk : k ≤ 8) : q.sen.length ≤ 80 := Nat.le_trans wf.sl (Nat.mul_le_mul_left 10 hk)
theorem sen_fits {q : Dr} {k : Nat} (wf : WF q k) (hk : k ≤ 8) (n : Int) : q.sen.length + (if q.sen == ("" : Str) then whoS n else "," ++ whoS n).length ≤ sizeLine := fits (Nat.add_le_add (sl_80 wf hk) (who_add _ n)) (by decide)
theorem who_fits (n : Int) : (",": Str).length + (whoS n).length ≤ sizeLine := fits (Nat.add_le_add (Nat.le_of_eq len_comma) (who_ok n).2) (by decide)
theorem deed_fits (n : Int) : (deedS n).length + (toldS n).length ≤ sizeLine := fits (Nat.add_le_add (deed_len n) (told_ok n).2) (by decide)
theorem all_fits {q : Dr} {k : Nat} (wf : WF q k) (hk : k ≤ 8) (n : Int) : (midD q n).sen.length + (deedS n ++ toldS n).length ≤ sizeLine :=
  fits (Nat.add_le_add (Nat.le_trans (wf.mid n).2.2 (Nat.add_le_add_right (Nat.mul_le_mul_left 10 hk) 4)) (deed_add n)) (by decide)
noncomputable def drU (l : List (Int × Tok)) (i : Nat) : Dr := ((l.map (·.1)).take i).foldl stepD dr0
theorem drU_step {l : List (Int × Tok)} {i : Nat} {p : Int × Tok} (h : l[i]? = some p) : drU l (i + 1) = stepD (drU l i) p.1 := by
  unfold drU
  rw [List.take_add_one, List.getElem?_map, h, List.foldl_append]; rfl
theorem wfU {l : List (Int × Tok)} {i : Nat} {p : Int × Tok} (h : l[i]? = some p) : WF (drU l i) i := wf_take _ i (by
  rw [List.length_map]; exact Nat.le_of_lt (List.getElem?_eq_some_iff.mp h).1)
theorem at_int {l : List (Int × Tok)} {i : Nat} {v : Value} (h : (intValues l)[i]? = some v) : ∃ p, l[i]? = some p ∧ v = .int p.1 p.2 := by
  unfold intValues at h
  rw [List.getElem?_map] at h
  cases e : l[i]? with
  | none => rw [e] at h; cases h
  | some p => rw [e] at h; cases h; exact ⟨p, rfl, rfl⟩
theorem fn_drawn (B : Base w s₀) (hA : A.handled = none) (hd : A.depth < recursionLimit) (D : Addr) (l : List (Int × Tok)) (hD : s₀.IsList D (intValues l).toArray) (hl : l.length ≤ 8) :
    Fn prog w A s₀ 88 [.ref D] (isDrawn prog w s₀ ((l.map (·.1)).foldl stepD dr0)) := by
  refine Fn.of (binds := [(Str.ofString "numbers", .ref D)]) B.X B.nl hd (by k_is) (by k_is) (fun s => BindsTo.of_eq rfl) rfl (by decide) rfl rfl rfl ?_
  intro s L s₁ E' k k1 F
  have F₁ : FS s.heap s₁ L [L + 1] _ (fun h => h.IsCell (L + 1) none) s₁ := F.know (F.own (Str.ofString "n") (L + 1) rfl) fun h h' hk ho => cellAt hk (.head _) ho
  clear F
  refine Wx.out ?_
  refine wSetS F₁ Ev.str rfl rfl rfl rfl ?_
  intro ts s₃ F₃
  refine wSetS F₃ Ev.str rfl rfl rfl rfl ?_
  intro tw s₅ F₅
  refine wAssign F₅ (Ev.disp (P := fun x v => ∃ t, v = .str (f0 x) t) [("u" : Str), "g", "o"] ⟨Ev.str, Ev.strAs f0u, Ev.str, Ev.strAs f0g, Ev.str, Ev.strAs f0o, trivial⟩) rfl rfl rfl rfl ?_
  rintro _ s₆ - ⟨⟨d, kvs, rfl, hdd, hkeys, hvals⟩, d', hd', hdn, -⟩ - s₇ F₇ c₇
  cases hd'
  have hdok := F₅.newOk hdn
  have hdL : d ≠ L := fun e => hdok.1 (e ▸ .head _)
  have hdd' := hdd.at (h' := s₇.heap) fun o e => c₇.heap d o (fun h => hdL (List.mem_singleton.mp h)) e
  obtain ⟨od, -, -, hod, -⟩ := id hdd'
  replace F₇ := F₇.grow (O' := OX prog w (L + 1) d (drU l 0).f) hod hdok.1 hdok.2.1 ⟨none, F₇.own, kvs, hdd', hkeys, hvals⟩ (OX.st (.tail _ (.head _)) (.head _))
  have hd0 := noneBack k hdok.2.1
  clear hdok hdL hdd' hod hdd hvals hkeys hdn c₇ F₁ F₃ F₅
  have hDout : D ∉ L :: [d, L + 1] := fun hm => by
    obtain ⟨o, ho, _⟩ := hD
    have := F₇.fr D hm
    rw [k _ _ ho] at this; cases this
  refine wForC (fun i => OX prog w (L + 1) d (drU l i).f) (fun i v => OD prog w (L + 1) d (some v) (drU l i).f) (fun i m => JD d (drU l i) m) F₇ (Src.list hA (Ev.loc rfl rfl F₇.ns rfl fun _ => rfl) (hD.at fun o e => F₇.kb _ _ (k _ _ e))) (fun b hb => by obtain rfl := List.mem_singleton.mp hb; exact hDout)
    ⟨⟨ts, rfl⟩, ⟨tw, rfl⟩, rfl⟩ rfl rfl rfl (.tail _ (.head _)) (fun i h x => let ⟨vn, x⟩ := x; ⟨vn, x.1⟩) (fun i v h h' x hc hsb => let ⟨_, x⟩ := x; x.cell hc hsb) (fun _ _ => OD.st (.tail _ (.head _)) (.head _)) ?_ ?_ (fun _ => rfl)
  · intro i v m₁ s₈ s₉ E₈ hv J F₉
    obtain ⟨⟨n, tn⟩, hn, rfl⟩ := at_int hv
    have hil : i ≤ 8 := Nat.le_trans (Nat.le_of_lt (List.getElem?_eq_some_iff.mp hn).1) hl
    have wf := wfU hn
    rw [drU_step hn]
    clear hv hn
    generalize drU l i = dr at *
    refine wSetS F₉ (Ev.menu (xs := deeds) ⟨Ev.str, fun _ => rfl, Ev.str, fun _ => rfl, Ev.str, fun _ => rfl, Ev.str, fun _ => rfl, Ev.str, fun _ => rfl, Ev.str, fun _ => rfl, trivial⟩ (Ev.mod (Ev.fdiv (Ev.cell rfl rfl rfl F₉.own.1 fun _ => ⟨_, rfl⟩) Ev.int (by decide) (PyProof.noPylong_small (by decide))) Ev.int (by decide)) (nn_ok n) (menu_at deeds rfl n) (by decide) (fun _ _ => rfl)) rfl rfl rfl rfl ?_
    intro td s₁₁ F₁₁
    refine wSetS F₁₁ (Ev.menu (xs := stayss) ⟨Ev.str, fun _ => rfl, Ev.str, fun _ => rfl, Ev.str, fun _ => rfl, Ev.str, fun _ => rfl, Ev.str, fun _ => rfl, Ev.str, fun _ => rfl, trivial⟩ (Ev.mod (Ev.fdiv (Ev.cell rfl rfl rfl F₁₁.own.1 fun _ => ⟨_, rfl⟩) Ev.int (by decide) (PyProof.noPylong_small (by decide))) Ev.int (by decide)) (nn_ok n) (menu_at stayss rfl n) (by decide) (fun _ _ => rfl)) rfl rfl rfl rfl ?_
    intro ty s₁₃ F₁₃
    have B₁₃ : Base w s₁₃.heap := B.keeps (kpTrans k F₁₃.kb)
    refine wSetS (y := toldS n) F₁₃ (Ev.picks (tg := .Constant .none 0 default) hA (by decide) (by decide) (Src.range hA (fun _ _ => rfl) (Ev.bname B₁₃ (g_range w) b_range (by decide) (fun _ => rfl) rfl rfl rfl rfl) Ev.int (by decide) rfl) (cl := [("n", L + 1)]) rfl (by decide) rfl (by decide) rfl ?_ ?_ rfl rfl rfl (fun _ => rfl)) rfl rfl rfl rfl ?_
    · rintro C a v' h m' ⟨u, rfl⟩ ha hN hm kk
      exact ⟨_, rfl, Ts.bit (by decide) ha (Ev.add (Ev.mod (Ev.fdiv (Ev.cell rfl rfl rfl (F₁₃.own.1.keeps kk) fun _ => ⟨_, rfl⟩) Ev.int (by decide) (PyProof.noPylong_small (by decide))) Ev.int (by decide)) Ev.int) (Ev.loc rfl rfl hN hm fun _ => ⟨_, rfl⟩)⟩
    · rintro C a v' h m' ⟨u, rfl⟩ ha hN hm kk
      obtain ⟨q, hq, rfl⟩ := mem_upTo ha
      exact Ev.itemS Ev.str (Ev.loc rfl rfl hN hm fun _ => ⟨_, rfl⟩) (Int.natCast_nonneg q) (at_rwxs hq) (by decide) (fun _ _ => rfl)
    intro to s₁₅ F₁₅
    refine wIfO F₁₅ (c := cond dr n) (Ts.or (Ts.eqS (lS F₁₅ J.s) Ev.str) fun _ => Ts.ltI (Ev.cell rfl rfl rfl F₁₅.own.1 fun _ => ⟨_, rfl⟩) Ev.int)
      (MD' d (midD dr n) n) (OD prog w (L + 1) d (some (.int n tn)) dr.f) ?_ ?_ ?_
    · intro hc s₁₆ F₁₆
      rw [cond_yes hc]
      have B₁₆ : Base w s₁₆.heap := B.keeps (kpTrans k F₁₆.kb)
      refine wSetS (y := whoS n) F₁₆ (Ev.picks (tg := .Constant .none 0 default) hA (by decide) (by decide) (Src.range hA (fun _ _ => rfl) (Ev.bname B₁₆ (g_range w) b_range (by decide) (fun _ => rfl) rfl rfl rfl rfl) Ev.int (by decide) rfl) (cl := [("n", L + 1)]) rfl (by decide) rfl (by decide) rfl ?_ ?_ rfl rfl rfl (fun _ => rfl)) rfl rfl rfl rfl ?_
      · rintro C a v' h m' ⟨u, rfl⟩ ha hN hm kk
        exact ⟨_, rfl, Ts.bit (by decide) ha (Ev.add (Ev.mod (Ev.cell rfl rfl rfl (F₁₆.own.1.keeps kk) fun _ => ⟨_, rfl⟩) Ev.int (by decide)) Ev.int) (Ev.loc rfl rfl hN hm fun _ => ⟨_, rfl⟩)⟩
      · rintro C a v' h m' ⟨u, rfl⟩ ha hN hm kk
        obtain ⟨q, hq, rfl⟩ := mem_upTo ha
        exact Ev.itemS Ev.str (Ev.loc rfl rfl hN hm fun _ => ⟨_, rfl⟩) (Int.natCast_nonneg q) (at_ugo hq) (by decide) (fun _ _ => rfl)
      intro tw2 s₁₈ F₁₈
      refine wAddS (b := if dr.sen == ("" : Str) then whoS n else "," ++ whoS n) F₁₈ J.s (Ev.ite (Ts.eqS (lS F₁₈ J.s) Ev.str) (fun e => ?_) (fun e => ?_)) rfl rfl rfl (sen_fits wf hil n) ?_
      · rw [e]; exact lvS F₁₈ rfl
      · rw [e]; exact Ev.cat Ev.str (lvS F₁₈ rfl) (who_fits n)
      · intro tv s₂₀ F₂₀
        exact wDone F₂₀ ⟨⟨⟨⟨tv, rfl⟩, ⟨tw2, rfl⟩, J.se⟩, ⟨ty, rfl⟩, ⟨to, rfl⟩⟩, ⟨td, rfl⟩⟩
    · intro hc s₁₆ F₁₆
      rw [cond_no hc]
      exact wDone F₁₆ ⟨⟨⟨J.s, J.w, J.se⟩, ⟨ty, rfl⟩, ⟨to, rfl⟩⟩, ⟨td, rfl⟩⟩
    · clear F₁₅ F₁₃ F₁₁ F₉ B₁₃ J
      intro m' s₁₆ M F₁₆
      obtain ⟨hmw, -, -⟩ := wf.mid n
      refine wAddS F₁₆ M.j.j.s (Ev.cat (lS F₁₆ M.dd) (lS F₁₆ M.j.o) (deed_fits n)) rfl rfl rfl (all_fits wf hil n) ?_
      intro ts2 s₁₈ F₁₈
      refine wForS (y := (midD dr n).who) (fun j => OD prog w (L + 1) d (some (.int n tn)) (foldS n ((signs (midD dr n).who).take j) dr.f)) (fun j => MD d (stepD dr n) n)
        F₁₈ hA (lS F₁₈ M.j.j.w) ⟨⟨⟨ts2, rfl⟩, M.j.j.w, M.j.j.se⟩, M.j.y, M.j.o⟩ (fun _ _ => rfl) rfl rfl rfl ?_ ?_ (fun _ => rfl)
      · clear M F₁₆ F₁₈
        intro j one tone m₃ s₁₉ s₂₀ E₉ hone M F₂₀
        have honem := hmw one (List.mem_of_getElem? hone)
        rw [foldS_step n _ _ hone]
        generalize foldS n ((signs (midD dr n).who).take j) dr.f = f at *
        generalize stepD dr n = dr' at *
        clear hone hmw wf
        refine wSetS F₂₀ Ev.str rfl rfl rfl rfl ?_
        intro tk0 s₂₂ F₂₂
        refine wForS (y := "rwxs") (fun _ => OD prog w (L + 1) d (some (.int n tn)) f) (fun q => RD d dr' n one (keptS n (f one) q))
          F₂₂ hA Ev.str ⟨⟨⟨M.j.s, M.j.w, M.j.se⟩, M.y, M.o⟩, ⟨tone, rfl⟩, tk0, rfl⟩ (fun _ _ => rfl) rfl rfl rfl ?_ ?_ (fun _ => rfl)
        · clear F₂₂ F₂₀ M
          intro q right tr m₄ s₂₃ s₂₄ E₁₀ hright R F₂₄
          obtain ⟨kvs4, hdict4, hsets4⟩ := F₂₄.own.2
          obtain ⟨tu, hget4⟩ := hsets4.get honem
          obtain ⟨hi0, hic⟩ := idx_ok (Txt.contains (f one) right) (Txt.contains (toldS n) right) (stays_len n)
          refine wIfL F₂₄ (c := keepR (staysS n) (toldS n) (f one) right) (Ts.eqS (Ev.itemS (lS F₂₄ R.j.y) (Ev.add (Ev.ifI (Ts.inS (lvS F₂₄ rfl) (Ev.itemD (lvR F₂₄ R.j.j.se) (lS F₂₄ R.o) hdict4 hget4 (fun _ => ⟨_, rfl⟩) (fun _ _ => rfl))) Ev.int Ev.int) (Ev.ifI (Ts.inS (lvS F₂₄ rfl) (lS F₂₄ R.j.o)) Ev.int Ev.int)) hi0 hic (by rw [stays_len, sizeIs]; decide) (fun _ _ => rfl)) Ev.str) ?_ ?_
          · intro hc s₂₅ F₂₅
            rw [keptS_yes n _ hright hc]
            refine wAddS F₂₅ R.k (lvS F₂₅ rfl) rfl rfl rfl (keptS_fits n _ q hright) ?_
            intro tv s₂₇ F₂₇
            exact wDone F₂₇ ⟨⟨⟨R.j.j.s, R.j.j.w, R.j.j.se⟩, R.j.y, R.j.o⟩, R.o, tv, rfl⟩
          · intro hc s₂₅ F₂₅
            rw [keptS_no n _ hright hc]
            exact wDone F₂₅ ⟨⟨⟨R.j.j.s, R.j.j.w, R.j.j.se⟩, R.j.y, R.j.o⟩, R.o, R.k⟩
        · clear F₂₂ F₂₀ M
          intro m₄ s₂₃ R F₂₃
          obtain ⟨kvs4, hdict4, hsets4⟩ := F₂₃.own.2
          refine wSetItem F₂₃ (P := isS (newS (staysS n) (toldS n) (f one))) (lS F₂₃ R.k) (fun _ _ _ x => x) (lvR F₂₃ R.j.j.se) (lS F₂₃ R.o) hdict4 (.head _) (by rw [hsets4.len, sizeIs]; decide)
            (fun _ => OD prog w (L + 1) d (some (.int n tn)) (putF f one (newS (staysS n) (toldS n) (f one)))) ?_ (fun _ => OD.st (.tail _ (.head _)) (.head _)) rfl ?_
          · rintro y s₂₄ h' ⟨ty', rfl⟩ F₂₄ hd' hsb
            exact F₂₄.own.dict hd' (hsets4.put honem _ _) hsb
          · intro _ s₂₄ _ s₂₅ F₂₅
            exact wDone F₂₅ R.j
      · intro m₃ s₁₉ M F₁₉
        rw [List.take_length] at F₁₉
        exact wDone (F₁₉.know ⟨_, F₁₉.own⟩ (OX.st (.tail _ (.head _)) (.head _))) M.j
  · intro m₁ s₈ J F₈
    have hlen : drU l (intValues l).length = (l.map (·.1)).foldl stepD dr0 := by
      unfold drU intValues
      rw [List.take_of_length_le (by rw [List.length_map, List.length_map]; exact Nat.le_refl _)]
    rw [hlen] at F₈ J
    obtain ⟨_, _, kvs8, hdict8, hsets8⟩ := F₈.own
    refine wRet F₈ (P := isDrawn prog w s₀ ((l.map (·.1)).foldl stepD dr0)) (.mk fun s₉ E₉ kk => ?_) fun v s' hv F' => ⟨hv, F'.out k1⟩
    refine wpAny_Tuple (wpAny_items_cons (wpAny_mono ((lS F₈ J.s).out s₉ E₉ kk) (fun v1 s₁₀ y1 => wpAny_items_cons (wpAny_mono ((lvR F₈ J.se).out s₁₀ E₉ (kT kk y1.2)) (fun v2 s₁₁ y2 => wpAny_items_nil ?_) fun _ _ z => z) rfl) fun _ _ z => z) rfl)
    obtain ⟨⟨t1, rfl⟩, kk1⟩ := y1
    obtain ⟨rfl, kk2⟩ := y2
    refine ⟨by rw [sizeIs]; exact Nat.le_of_ble_eq_true rfl, ⟨_, t1, d, kvs8, rfl, ⟨_, Heap.get?_push_size _ rfl, rfl, _, rfl⟩, ?_, hsets8, hd0⟩, kPush (kTrans kk1 kk2) _ _⟩
    exact hdict8.keep (kpTrans (kT (kT kk kk1) kk2) fun _ _ e => Heap.get?_push_of_some _ e)
end
end Mine
end PartF8
section PartF9
open PySem PySem.W PyProof.Rows PySem.Spec PySem.Calls
set_option Elab.async false
set_option maxRecDepth 100000
set_option maxHeartbeats 8000000
set_option linter.unusedVariables false
namespace Mine
theorem g_S_IRUSR (w : World) : ∃ t, nsIn (hd.heap_39 w.params) mainGlobals (Str.ofString "S_IRUSR") = some (some (.int 256 t)) := ⟨_, by k_is⟩
theorem g_S_IWUSR (w : World) : ∃ t, nsIn (hd.heap_39 w.params) mainGlobals (Str.ofString "S_IWUSR") = some (some (.int 128 t)) := ⟨_, by k_is⟩
theorem g_S_IXUSR (w : World) : ∃ t, nsIn (hd.heap_39 w.params) mainGlobals (Str.ofString "S_IXUSR") = some (some (.int 64 t)) := ⟨_, by k_is⟩
theorem g_S_ISUID (w : World) : ∃ t, nsIn (hd.heap_39 w.params) mainGlobals (Str.ofString "S_ISUID") = some (some (.int 2048 t)) := ⟨_, by k_is⟩
theorem g_S_IRGRP (w : World) : ∃ t, nsIn (hd.heap_39 w.params) mainGlobals (Str.ofString "S_IRGRP") = some (some (.int 32 t)) := ⟨_, by k_is⟩
theorem g_S_IWGRP (w : World) : ∃ t, nsIn (hd.heap_39 w.params) mainGlobals (Str.ofString "S_IWGRP") = some (some (.int 16 t)) := ⟨_, by k_is⟩
theorem g_S_IXGRP (w : World) : ∃ t, nsIn (hd.heap_39 w.params) mainGlobals (Str.ofString "S_IXGRP") = some (some (.int 8 t)) := ⟨_, by k_is⟩
theorem g_S_ISGID (w : World) : ∃ t, nsIn (hd.heap_39 w.params) mainGlobals (Str.ofString "S_ISGID") = some (some (.int 1024 t)) := ⟨_, by k_is⟩
theorem g_S_IROTH (w : World) : ∃ t, nsIn (hd.heap_39 w.params) mainGlobals (Str.ofString "S_IROTH") = some (some (.int 4 t)) := ⟨_, by k_is⟩
theorem g_S_IWOTH (w : World) : ∃ t, nsIn (hd.heap_39 w.params) mainGlobals (Str.ofString "S_IWOTH") = some (some (.int 2 t)) := ⟨_, by k_is⟩
theorem g_S_IXOTH (w : World) : ∃ t, nsIn (hd.heap_39 w.params) mainGlobals (Str.ofString "S_IXOTH") = some (some (.int 1 t)) := ⟨_, by k_is⟩
theorem g_S_ISVTX (w : World) : ∃ t, nsIn (hd.heap_39 w.params) mainGlobals (Str.ofString "S_ISVTX") = some (some (.int 512 t)) := ⟨_, by k_is⟩
theorem g_COMMA (w : World) : ∃ t, nsIn (hd.heap_39 w.params) mainGlobals (Str.ofString "COMMA") = some (some (.int 12 t)) := ⟨_, by k_is⟩
theorem g_PLUS (w : World) : ∃ t, nsIn (hd.heap_39 w.params) mainGlobals (Str.ofString "PLUS") = some (some (.int 14 t)) := ⟨_, by k_is⟩
theorem g_MINUS (w : World) : ∃ t, nsIn (hd.heap_39 w.params) mainGlobals (Str.ofString "MINUS") = some (some (.int 15 t)) := ⟨_, by k_is⟩
theorem g_EQUAL (w : World) : ∃ t, nsIn (hd.heap_39 w.params) mainGlobals (Str.ofString "EQUAL") = some (some (.int 22 t)) := ⟨_, by k_is⟩
theorem g_PLUSEQUAL (w : World) : ∃ t, nsIn (hd.heap_39 w.params) mainGlobals (Str.ofString "PLUSEQUAL") = some (some (.int 36 t)) := ⟨_, by k_is⟩
theorem g_MINEQUAL (w : World) : ∃ t, nsIn (hd.heap_39 w.params) mainGlobals (Str.ofString "MINEQUAL") = some (some (.int 37 t)) := ⟨_, by k_is⟩
theorem g_EQEQUAL (w : World) : ∃ t, nsIn (hd.heap_39 w.params) mainGlobals (Str.ofString "EQEQUAL") = some (some (.int 27 t)) := ⟨_, by k_is⟩
theorem g_tokens (w : World) : nsIn (hd.heap_39 w.params) mainGlobals (Str.ofString "_law_tokens") = some (some (.ref 78)) := by k_is
noncomputable def bitP : List (Str × Int) := [(Str.ofString "ur", 256), (Str.ofString "uw", 128), (Str.ofString "ux", 64), (Str.ofString "us", 2048), (Str.ofString "gr", 32), (Str.ofString "gw", 16), (Str.ofString "gx", 8), (Str.ofString "gs", 1024), (Str.ofString "or", 4), (Str.ofString "ow", 2), (Str.ofString "ox", 1), (Str.ofString "os", 512)]
noncomputable def bitKeys : List Str := bitP.map (·.1)
noncomputable def bitI (x : Str) : Int := ((bitP.find? fun kv => kv.1 = x).map (·.2)).getD 0
noncomputable def BitsAre (kvs : List (Str × Value)) : Prop := kvs.map (·.1) = bitKeys ∧ ∀ kv ∈ kvs, ∃ t, kv.2 = .int (bitI kv.1) t
theorem BitsAre.get {kvs : List (Str × Value)} (h : BitsAre kvs) {x : Str} (hx : x ∈ bitKeys) : ∃ t, valueAt kvs x = some (.int (bitI x) t) := by
  obtain ⟨v, hv, hm⟩ := valueAt_mem (kvs := kvs) (x := x) (by rw [h.1]; exact hx)
  obtain ⟨t, ht⟩ := h.2 _ hm
  exact ⟨t, by rw [hv]; exact congrArg some ht⟩
noncomputable def OB (prog : Program) (w : World) (c d : Addr) (vo : Option Value) : Heap → Prop := fun h => h.IsCell (c + 1) (some (.ref d)) ∧ h.IsCell (c + 2) vo ∧ ∃ kvs, h.DictOf (strKind prog w) d kvs ∧ BitsAre kvs
theorem OB.st {prog : Program} {w : World} {c d : Addr} {vo : Option Value} {S : List Addr} (h1 : c + 1 ∈ S) (h2 : c + 2 ∈ S) (hd : d ∈ S) (h h' : Heap) (hk : ∀ b ∈ S, ∀ o, h.get? b = some o → h'.get? b = some o) (x : OB prog w c d vo h) : OB prog w c d vo h' :=
  let ⟨x1, x2, kvs, x3, x4⟩ := x; ⟨cellAt hk h1 x1, cellAt hk h2 x2, kvs, x3.at (fun o e => hk d hd o e), x4⟩
noncomputable def everyI (one : Str) : Int := ((signs "rwxs").map fun r => bitI (one ++ r)).sum
noncomputable def toldI (one word : Str) : Int := ((signs word).map fun r => bitI (one ++ r)).sum
noncomputable def keptI (last had told every : Int) : Int :=
  if last == 14 then Builtin.bitOr had told else if last == 15 then had - Builtin.bitAnd had told else if last == 22 then told else if last == 36 then Builtin.bitXor had told
  else if last == 37 then Builtin.bitAnd had told else if last == 27 then every - told else had
noncomputable def doOne (last : Int) (word : Str) (mode : Int) (one : Str) : Int := mode - Builtin.bitAnd mode (everyI one) + keptI last (Builtin.bitAnd mode (everyI one)) (toldI one word) (everyI one)
structure Dn where
  mode : Int
  who : Str
  last : Int
noncomputable def stepT (d : Dn) (p : Int × Str) : Dn :=
  if p.1 == 1 && d.last == 12 then ⟨d.mode, p.2, p.1⟩ else if p.1 == 1 then ⟨(signs d.who).foldl (doOne d.last p.2) d.mode, d.who, p.1⟩ else ⟨d.mode, d.who, p.1⟩
noncomputable def OkT (d : Dn) (p : Int × Str) : Prop := (p.1 == 1) = true → (d.last == 12) = false → (∀ x ∈ signs d.who, x ∈ [("u" : Str), "g", "o"]) ∧ (∀ x ∈ signs p.2, x ∈ [("r" : Str), "w", "x", "s"])
theorem key_ok {one right : Str} (h1 : one ∈ [("u" : Str), "g", "o"]) (h2 : right ∈ [("r" : Str), "w", "x", "s"]) : one ++ right ∈ bitKeys ∧ one.length + right.length ≤ 2 := by
  have key : ∀ a ∈ [("u" : Str), "g", "o"], ∀ b ∈ [("r" : Str), "w", "x", "s"], a ++ b ∈ bitKeys ∧ a.length + b.length ≤ 2 := by decide +kernel
  exact key one h1 right h2
theorem TupAll.keep' {h h' : Heap} : ∀ {as : List Addr} {ts : List (Int × Str)}, TupAll h as ts → (∀ b o t u, h.get? b = some o → (∃ n, o.data = .seq #[t, u] n) → h'.get? b = some o) → TupAll h' as ts
  | [], [], _, _ => trivial
  | _ :: _, _ :: _, x, hk => by
    obtain ⟨t, u, o, ho, hc, n, hd⟩ := x.1
    exact ⟨⟨t, u, o, hk _ o _ _ ho ⟨n, hd⟩, hc, n, hd⟩, TupAll.keep' x.2 hk⟩
  | [], _ :: _, x, _ => x.elim
  | _ :: _, [], x, _ => x.elim
theorem TupAll.at {h : Heap} : ∀ {as : List Addr} {ts : List (Int × Str)}, TupAll h as ts → ∀ (i : Nat) (a : Addr), as[i]? = some a → ∃ p, ts[i]? = some p ∧ TupI h a p.1 p.2
  | _ :: _, p :: _, x, 0, a, ha => by cases ha; exact ⟨p, rfl, x.1⟩
  | _ :: _, _ :: _, x, i + 1, a, ha => TupAll.at x.2 i a ha
  | [], _, _, i, a, ha => by simp at ha
  | _ :: _, [], x, _, _, _ => x.elim
theorem n21 (L : Nat) : L + 2 ≠ L + 1 := Nat.succ_ne_self (L + 1)
theorem gt1 {a : Nat} (h : 100 < a) : a ≠ 1 := Nat.ne_of_gt (Nat.lt_trans (by decide) h)
section
variable {prog : Program} {w : World} {A : Around} {s₀ : Heap} {env : Env}
theorem Ev.kint {x pos} {n y : Int} (B : Base w s₀) (e : ∃ t, nsIn (hd.heap_39 w.params) mainGlobals x = some (some (.int n t))) (h : y = n) (hk : env.scope.kind = .function) (hl : env.kindOf x = some .globalImplicit) (hg : env.globals = mainGlobals)
    (hdb : (x == ("__debug__" : Str)) = false := by decide) : Ev prog w A env s₀ (.Name x pos) (fun v _ => ∃ t, v = .int y t) := by
  subst h
  obtain ⟨t, e⟩ := e
  exact Ev.kname B e (fun _ => ⟨_, rfl⟩) hk hl hg hdb
theorem bit_ur : bitI "ur" = 256 := by decide +kernel
theorem bit_uw : bitI "uw" = 128 := by decide +kernel
theorem bit_ux : bitI "ux" = 64 := by decide +kernel
theorem bit_us : bitI "us" = 2048 := by decide +kernel
theorem bit_gr : bitI "gr" = 32 := by decide +kernel
theorem bit_gw : bitI "gw" = 16 := by decide +kernel
theorem bit_gx : bitI "gx" = 8 := by decide +kernel
theorem bit_gs : bitI "gs" = 1024 := by decide +kernel
theorem bit_or : bitI "or" = 4 := by decide +kernel
theorem bit_ow : bitI "ow" = 2 := by decide +kernel
theorem bit_ox : bitI "ox" = 1 := by decide +kernel
theorem bit_os : bitI "os" = 512 := by decide +kernel

theorem filter_tt {α : Type} (l : List α) : l.filter (fun _ => true) = l := List.filter_eq_self.mpr fun _ _ => rfl
theorem g_sum (w : World) : nsIn (hd.heap_39 w.params) mainGlobals (Str.ofString "sum") = some none := by k_is
theorem b_sum : bootBuiltins (Str.ofString "sum") = some (.builtin "sum") := by kernel_rfl
noncomputable def OY (prog : Program) (w : World) (c d : Addr) : Heap → Prop := fun h => ∃ vo, OB prog w c d vo h
theorem OY.st {prog : Program} {w : World} {c d : Addr} {S : List Addr} (h1 : c + 1 ∈ S) (h2 : c + 2 ∈ S) (hd : d ∈ S) (h h' : Heap) (hk : ∀ b ∈ S, ∀ o, h.get? b = some o → h'.get? b = some o) (x : OY prog w c d h) : OY prog w c d h' :=
  let ⟨vo, x⟩ := x; ⟨vo, OB.st h1 h2 hd h h' hk x⟩
theorem OB.cell {prog : Program} {w : World} {c d : Addr} {vo v : Option Value} {h h' : Heap} (x : OB prog w c d vo h) (hc : h'.IsCell (c + 2) v) (hsb : Heap.SameBut (c + 2) h h') : OB prog w c d v h' := by
  obtain ⟨c1, c2, kvs, c3, c4⟩ := x
  exact ⟨c1.sameBut hsb (n21 c).symm, hc, kvs, c3.sameBut hsb (cell_ne c2 c3).symm, c4⟩
theorem OB.noSeq {prog : Program} {w : World} {c d : Addr} {vo : Option Value} {h : Heap} (x : OB prog w c d vo h) {b : Addr} {o : Obj} {items n} (hb : h.get? b = some o) (ho : o.data = .seq items n) : b ≠ d ∧ b ≠ c + 2 ∧ b ≠ c + 1 := by
  obtain ⟨c1, c2, kvs, c3, _⟩ := x
  refine ⟨?_, ?_, ?_⟩
  · rintro rfl
    obtain ⟨o', _, _, ho', _, hd', _⟩ := c3; rw [hb] at ho'; cases ho'; rw [ho] at hd'; cases hd'
  · rintro rfl
    obtain ⟨o', ho', hd'⟩ := c2; rw [hb] at ho'; cases ho'; rw [ho] at hd'; cases hd'
  · rintro rfl
    obtain ⟨o', ho', hd'⟩ := c1; rw [hb] at ho'; cases ho'; rw [ho] at hd'; cases hd'
theorem FS.noSeq {prog : Program} {w : World} {h₀ : Heap} {r s : Shared} {L d : Addr} {m : Str → Option Value} (F : FS h₀ r L [d, L + 2, L + 1] m (OY prog w L d) s) {b : Addr} {o : Obj} {items n} (hb : s.heap.get? b = some o) (ho : o.data = .seq items n) : b ∉ L :: [d, L + 2, L + 1] := by
  intro hm
  obtain ⟨_, x⟩ := F.own
  obtain ⟨h1, h2, h3⟩ := x.noSeq hb ho
  rcases List.mem_cons.mp hm with rfl | hm
  · obtain ⟨o', _, _, ho', hd', _⟩ := F.ns; rw [hb] at ho'; cases ho'; rw [ho] at hd'; cases hd'
  · rcases List.mem_cons.mp hm with e | hm
    · exact h1 e
    · rcases List.mem_cons.mp hm with e | hm
      · exact h2 e
      · exact h3 (List.mem_singleton.mp hm)
structure TD (st : Dn) (m : Str → Option Value) : Prop where
  mode : HI m (Str.ofString "mode") st.mode
  who : HS m (Str.ofString "who") st.who
  last : HI m (Str.ofString "last") st.last
structure TK (st : Dn) (k : Int) (m : Str → Option Value) : Prop where
  mode : HI m (Str.ofString "mode") st.mode
  who : HS m (Str.ofString "who") st.who
  kind : HI m (Str.ofString "kind") k
structure DO (md : Int) (st : Dn) (p : Int × Str) (m : Str → Option Value) : Prop where
  mode : HI m (Str.ofString "mode") md
  who : HS m (Str.ofString "who") st.who
  last : HI m (Str.ofString "last") st.last
  kind : HI m (Str.ofString "kind") p.1
  word : HS m (Str.ofString "word") p.2
structure KP (md had kept : Int) (st : Dn) (p : Int × Str) (m : Str → Option Value) : Prop where
  j : DO md st p m
  had : HI m (Str.ofString "had") had
  kept : HI m (Str.ofString "kept") kept
theorem neg_of {b : Bool} (h : b = false) : ¬ b = true := by rw [h]; exact Bool.false_ne_true
section
variable {l h t e : Int}
theorem kept14 (a : (l == 14) = true) : keptI l h t e = Builtin.bitOr h t := by unfold keptI; rw [if_pos a]
theorem kept15 (z : (l == 14) = false) (a : (l == 15) = true) : keptI l h t e = h - Builtin.bitAnd h t := by unfold keptI; rw [if_neg (neg_of z), if_pos a]
theorem kept22 (z : (l == 14) = false) (y : (l == 15) = false) (a : (l == 22) = true) : keptI l h t e = t := by unfold keptI; rw [if_neg (neg_of z), if_neg (neg_of y), if_pos a]
theorem kept36 (z : (l == 14) = false) (y : (l == 15) = false) (x : (l == 22) = false) (a : (l == 36) = true) : keptI l h t e = Builtin.bitXor h t := by unfold keptI; rw [if_neg (neg_of z), if_neg (neg_of y), if_neg (neg_of x), if_pos a]
theorem kept37 (z : (l == 14) = false) (y : (l == 15) = false) (x : (l == 22) = false) (v : (l == 36) = false) (a : (l == 37) = true) : keptI l h t e = Builtin.bitAnd h t := by unfold keptI; rw [if_neg (neg_of z), if_neg (neg_of y), if_neg (neg_of x), if_neg (neg_of v), if_pos a]
theorem kept27 (z : (l == 14) = false) (y : (l == 15) = false) (x : (l == 22) = false) (v : (l == 36) = false) (u : (l == 37) = false) (a : (l == 27) = true) : keptI l h t e = e - t := by unfold keptI; rw [if_neg (neg_of z), if_neg (neg_of y), if_neg (neg_of x), if_neg (neg_of v), if_neg (neg_of u), if_pos a]
theorem kept00 (z : (l == 14) = false) (y : (l == 15) = false) (x : (l == 22) = false) (v : (l == 36) = false) (u : (l == 37) = false) (a : (l == 27) = false) : keptI l h t e = h := by unfold keptI; rw [if_neg (neg_of z), if_neg (neg_of y), if_neg (neg_of x), if_neg (neg_of v), if_neg (neg_of u), if_neg (neg_of a)]
end
theorem stepT_who {st : Dn} {p : Int × Str} (h : (p.1 == 1 && st.last == 12) = true) : stepT st p = ⟨st.mode, p.2, p.1⟩ := by unfold stepT; rw [if_pos h]
theorem stepT_do {st : Dn} {p : Int × Str} (h : (p.1 == 1 && st.last == 12) = false) (h1 : (p.1 == 1) = true) : stepT st p = ⟨(signs st.who).foldl (doOne st.last p.2) st.mode, st.who, p.1⟩ := by unfold stepT; rw [if_neg (neg_of h), if_pos h1]
theorem stepT_no {st : Dn} {p : Int × Str} (h : (p.1 == 1 && st.last == 12) = false) (h1 : (p.1 == 1) = false) : stepT st p = ⟨st.mode, st.who, p.1⟩ := by unfold stepT; rw [if_neg (neg_of h), if_neg (neg_of h1)]
theorem stepT_last (st : Dn) (p : Int × Str) : (stepT st p).last = p.1 := by unfold stepT; split; rfl; split <;> rfl
noncomputable def stU (ts : List (Int × Str)) (mode : Int) (i : Nat) : Dn := (ts.take i).foldl stepT ⟨mode, "", 12⟩
theorem stU_step {ts : List (Int × Str)} (mode : Int) {i : Nat} {p : Int × Str} (h : ts[i]? = some p) : stU ts mode (i + 1) = stepT (stU ts mode i) p := by
  unfold stU
  rw [List.take_add_one, h, List.foldl_append]; rfl
noncomputable def mdU (st : Dn) (p : Int × Str) (j : Nat) : Int := ((signs st.who).take j).foldl (doOne st.last p.2) st.mode
theorem mdU_step {st : Dn} (p : Int × Str) {j : Nat} {one : Str} (h : (signs st.who)[j]? = some one) : mdU st p (j + 1) = doOne st.last p.2 (mdU st p j) one := by
  unfold mdU
  rw [List.take_add_one, h, List.foldl_append]; rfl
theorem mdU_all (st : Dn) (p : Int × Str) : mdU st p (signs st.who).length = (signs st.who).foldl (doOne st.last p.2) st.mode := by unfold mdU; rw [List.take_length]
theorem rwxs_signs : signs "rwxs" = [("r" : Str), "w", "x", "s"] := by decide +kernel
theorem two_fit {n : Nat} (h : n ≤ 2) : n ≤ sizeLine := fits h (by decide)
theorem signs_fit {x : Str} (h : x.length ≤ 1000) : (signs x).length ≤ sizeLine := by
  unfold signs; rw [List.length_map, Array.length_toList]; exact fit1000 h
theorem fn_done (B : Base w s₀) (hA : A.handled = none) (hd : A.depth + 1 < recursionLimit) (x : Str) (hx : x.length ≤ 1000) (mode : Int) (t1 t2 : Tok)
    (hgood : ∀ (i : Nat) p, (toksF x.cps.toList x.cps.toList.length 0)[i]? = some p → p.2.length ≤ 1000 ∧ OkT (((toksF x.cps.toList x.cps.toList.length 0).take i).foldl stepT ⟨mode, "", 12⟩) p) :
    Fn prog w A s₀ 83 [.int mode t1, .str x t2] (isI (((toksF x.cps.toList x.cps.toList.length 0).foldl stepT ⟨mode, "", 12⟩).mode)) := by
  refine Fn.of (binds := [(Str.ofString "mode", .int mode t1), (Str.ofString "sentence", .str x t2)]) B.X B.nl (Nat.lt_of_succ_lt hd) (by k_is) (by k_is) (fun s => BindsTo.of_eq rfl) rfl (by decide) rfl rfl rfl ?_
  intro s L s₁ E' k k1 F
  have F₁ : FS s.heap s₁ L [L + 2, L + 1] _ (fun h => h.IsCell (L + 1) none ∧ h.IsCell (L + 2) none) s₁ := F.know ⟨F.own (Str.ofString "bits") (L + 1) rfl, F.own (Str.ofString "one") (L + 2) rfl⟩ fun h h' hk ho => ⟨cellAt hk (.tail _ (.head _)) ho.1, cellAt hk (.head _) ho.2⟩
  clear F
  have B₁ : Base w s₁.heap := B.keeps (kpTrans k F₁.kb)
  refine Wx.out ?_
  refine wAssignC F₁ (Ev.disp (P := fun x v => ∃ t, v = .int (bitI x) t) [("ur" : Str), ("uw" : Str), ("ux" : Str), ("us" : Str), ("gr" : Str), ("gw" : Str)] ⟨Ev.str, Ev.kint B₁ (g_S_IRUSR w) bit_ur rfl rfl rfl, Ev.str, Ev.kint B₁ (g_S_IWUSR w) bit_uw rfl rfl rfl, Ev.str, Ev.kint B₁ (g_S_IXUSR w) bit_ux rfl rfl rfl, Ev.str, Ev.kint B₁ (g_S_ISUID w) bit_us rfl rfl rfl, Ev.str, Ev.kint B₁ (g_S_IRGRP w) bit_gr rfl rfl rfl, Ev.str, Ev.kint B₁ (g_S_IWGRP w) bit_gw rfl rfl rfl, trivial⟩) rfl rfl rfl ⟨_, F₁.own.1⟩ rfl ?_
  rintro _ s₂ - ⟨⟨d, kvs, rfl, hdd, hkeys, hvals⟩, d', hd', hdn, -⟩ F₂ h' hc hsb
  cases hd'
  have hdok := F₁.newOk hdn
  obtain ⟨od, -, -, hod, -⟩ := id hdd
  have hne1 : L + 1 ≠ d := cell_ne F₂.own.1 hdd
  have hne2 : L + 2 ≠ d := cell_ne F₂.own.2 hdd
  have F₃ : FS s.heap s₁ L [d, L + 2, L + 1] _ (fun h => h.IsCell (L + 1) (some (.ref d)) ∧ h.IsCell (L + 2) none ∧ h.DictOf (strKind prog w) d kvs) { s₂ with heap := h' } :=
    (F₂.grow (O' := fun _ => True) hod hdok.1 hdok.2.1 trivial (fun _ _ _ _ => trivial)).turn (tk := s₂.toks) (d := L + 1) (.tail _ (.tail _ (.head _))) hsb (let ⟨o, ho, _⟩ := hc; ⟨o, ho⟩)
    ⟨hc, F₂.own.2.sameBut hsb (n21 L), hdd.sameBut hsb hne1.symm⟩ (fun h h' hk ho => ⟨cellAt hk (.tail _ (.tail _ (.head _))) ho.1, cellAt hk (.tail _ (.head _)) ho.2.1, ho.2.2.at fun o e => hk d (.head _) o e⟩)
  clear F₂ B₁ hdok hod hdd F₁ hc hsb hdn
  have B₁ : Base w ({ s₂ with heap := h' } : Shared).heap := B.keeps (kpTrans k F₃.kb)
  refine wUpdate (PV := fun x v => ∃ t, v = .int (bitI x) t) (xs := [("gx" : Str), ("gs" : Str), ("or" : Str), ("ow" : Str), ("ox" : Str), ("os" : Str)]) (Z := fun v => ∃ d', v = .ref d' ∧ ({ s₂ with heap := h' } : Shared).heap.get? d' = none ∧ ∀ b o, ({ s₂ with heap := h' } : Shared).heap.get? b = some o → b < d') F₃ (Ev.cell rfl rfl rfl F₃.own.1 fun _ => rfl) F₃.own.2.2 (.head _)
    (Ev.disp (P := fun x v => ∃ t, v = .int (bitI x) t) [("gx" : Str), ("gs" : Str), ("or" : Str), ("ow" : Str), ("ox" : Str), ("os" : Str)] ⟨Ev.str, Ev.kint B₁ (g_S_IXGRP w) bit_gx rfl rfl rfl, Ev.str, Ev.kint B₁ (g_S_ISGID w) bit_gs rfl rfl rfl, Ev.str, Ev.kint B₁ (g_S_IROTH w) bit_or rfl rfl rfl, Ev.str, Ev.kint B₁ (g_S_IWOTH w) bit_ow rfl rfl rfl, Ev.str, Ev.kint B₁ (g_S_IXOTH w) bit_ox rfl rfl rfl, Ev.str, Ev.kint B₁ (g_S_ISVTX w) bit_os rfl rfl rfl, trivial⟩) ?_ ?_ rfl rfl rfl rfl rfl ?_
  · rintro a ⟨a', e, hn, hb⟩
    cases e
    refine ⟨fun e => ?_, ?_⟩
    · obtain ⟨o, ho⟩ := F₃.al d (.head _)
      rw [e, ho] at hn; cases hn
    · have h100 := hb 100 _ (B₁.X 100 _ (by k_is))
      exact beq_eq_false_iff_ne.mpr (gt1 h100)
  · have : kvs.length = 6 := (List.length_map (·.1)).symm.trans (congrArg List.length hkeys)
    rw [this, sizeIs]; decide
  intro more s₄ h₄ hmk hall F₄ hd4 hsb4
  have hmerged : merged kvs more = kvs ++ more := merged_append_of_fresh kvs more (by rw [List.map_append, hkeys, hmk]; decide +kernel)
  rw [hmerged] at hd4
  have hbits : BitsAre (kvs ++ more) := ⟨by rw [List.map_append, hkeys, hmk]; decide +kernel, fun kv hkv => by
    rcases List.mem_append.mp hkv with h | h
    · exact hvals kv h
    · exact hall kv h⟩
  have F₅ := F₄.turn (O' := OY prog w L d) (tk := s₄.toks) (.head _) hsb4 (let ⟨o, _, _, ho, _⟩ := hd4; ⟨o, ho⟩) ⟨none, F₄.own.1.sameBut hsb4 hne1, F₄.own.2.1.sameBut hsb4 hne2, _, hd4, hbits⟩ (OY.st (.tail _ (.tail _ (.head _))) (.tail _ (.head _)) (.head _))
  clear F₃ F₄ B₁ hmerged hd4 hbits hsb4 hall hmk hvals hkeys hne1 hne2
  refine wSetS F₅ Ev.str rfl rfl rfl rfl ?_
  intro tw s₇ F₇
  have B₇ : Base w s₇.heap := B.keeps (kpTrans k F₇.kb)
  refine wSetI (i := 12) F₇ (Ev.kint B₇ (g_COMMA w) rfl rfl rfl rfl) rfl rfl rfl rfl ?_
  intro tl s₉ F₉
  have B₉ : Base w s₉.heap := B.keeps (kpTrans k F₉.kb)
  clear F₅ F₇ B₇
  refine wForE F₉ (P₀ := isTL (toksF x.cps.toList x.cps.toList.length 0)) (Ev.callF1 (P1 := isS x) (Ev.kname B₉ (g_tokens w) (fun _ => rfl) rfl rfl rfl) (B₉.X 78 _ (by k_is)) rfl (lvS F₉ rfl) (fun v h kh hv => ?_)) ?_ (fun _ => rfl)
  · obtain ⟨tv, rfl⟩ := hv
    exact fn_tokens (A := A.deeper _) (B₉.keeps kh) hA hd x hx tv
  generalize toksF x.cps.toList x.cps.toList.length 0 = ts at *
  rintro _ s₁₀ - ⟨D, aa, rfl, hDl, haa⟩ F₁₀
  have hDo : D ∉ L :: [d, L + 2, L + 1] := by obtain ⟨o, ho, _, n, hdd⟩ := hDl; exact F₁₀.noSeq ho hdd
  have haa' : TupAll (cut s₁₀.heap (L :: [d, L + 2, L + 1])) aa ts := haa.keep' fun b o t u ho hdd => by
    obtain ⟨n, hdd⟩ := hdd
    rw [cut_get, if_neg (F₁₀.noSeq ho hdd)]; exact ho
  have hfr := F₁₀.fr
  have hkc := F₁₀.kpCut
  have G := F₁₀.freeze
  have hal := haa.len
  clear F₉ B₉ F₁₀ haa
  refine ForOn.pairs (ts := ts) (fun _ => OY prog w L d) (fun i => TD (stU ts mode i)) G hA hDl hDo (fun i a ha => haa'.at i a ha) hal ⟨⟨t1, rfl⟩, ⟨tw, rfl⟩, ⟨tl, rfl⟩⟩ rfl rfl rfl rfl rfl ?_ ?_
  · clear G hDl hDo haa' hal hfr
    generalize cut s₁₀.heap (L :: [d, L + 2, L + 1]) = h₀ at *
    intro i p tk tu m₁ s₁₁ s₁₂ E₁ hp J F₁₂
    obtain ⟨hplen, hok⟩ : p.2.length ≤ 1000 ∧ OkT (stU ts mode i) p := hgood i p hp
    rw [stU_step mode hp]
    clear hgood hp
    generalize stU ts mode i = st at *
    have B₁₂ : Base w s₁₂.heap := B.keeps (kpTrans k (kpTrans hkc F₁₂.kb))
    refine wIfO F₁₂ (c := p.1 == 1 && st.last == 12) (Ts.and (Ts.eqI (lvI F₁₂ rfl) (Ev.kint B₁₂ (g_NAME w) rfl rfl rfl rfl)) fun _ => Ts.eqI (lI F₁₂ J.last) (Ev.kint B₁₂ (g_COMMA w) rfl rfl rfl rfl))
      (TK (stepT st p) p.1) (OY prog w L d) ?_ ?_ ?_
    · intro hc s₁₃ F₁₃
      rw [stepT_who hc]
      refine wSetS F₁₃ (lvS (t := tu) F₁₃ rfl) rfl rfl rfl rfl ?_
      intro tv s₁₅ F₁₅
      exact wDone F₁₅ ⟨J.mode, ⟨tv, rfl⟩, ⟨tk, rfl⟩⟩
    · intro hc s₁₃ F₁₃
      have B₁₃ : Base w s₁₃.heap := B.keeps (kpTrans k (kpTrans hkc F₁₃.kb))
      refine wIfL F₁₃ (c := p.1 == 1) (Ts.eqI (lvI F₁₃ rfl) (Ev.kint B₁₃ (g_NAME w) rfl rfl rfl rfl)) ?_ ?_
      · intro hc1 s₁₄ F₁₄
        have hl12 : (st.last == 12) = false := by rw [hc1, Bool.true_and] at hc; exact hc
        obtain ⟨hwho, hword⟩ := hok hc1 hl12
        rw [stepT_do hc hc1, ← mdU_all]
        clear hok hc hc1 hl12 B₁₂ B₁₃ F₁₂ F₁₃
        refine wForC (fun _ => OY prog w L d) (fun _ v => OB prog w L d (some v)) (fun j => DO (mdU st p j) st p) F₁₄ (Src.str hA (fun _ _ => rfl) (lS F₁₄ J.who)) (fun _ h => nomatch h)
          ⟨J.mode, J.who, J.last, ⟨tk, rfl⟩, ⟨tu, rfl⟩⟩ rfl rfl rfl (.tail _ (.head _)) (fun _ _ x => let ⟨vo, x⟩ := x; ⟨vo, x.2.1⟩) (fun _ _ _ _ x hc hsb => let ⟨_, x⟩ := x; x.cell hc hsb) (fun _ _ => OB.st (.tail _ (.tail _ (.head _))) (.tail _ (.head _)) (.head _)) ?_ ?_ (fun _ => rfl)
        · clear J F₁₄
          rintro j _ m₂ s₁₅ s₁₆ E₂ ⟨one, hone, tone, rfl⟩ J F₁₆
          have honem := hwho one (List.mem_of_getElem? hone)
          rw [mdU_step p hone]
          clear hone hwho
          generalize mdU st p j = md at *
          have BB : Base w s₁₆.heap := B.keeps (kpTrans k (kpTrans hkc F₁₆.kb))
          refine wSetI (i := everyI one) F₁₆ (Ev.sumL hA (Ev.bname BB (g_sum w) b_sum (by decide) (fun _ => rfl) rfl rfl rfl rfl) (Ev.of (Ev.comp (signs "rwxs") isSg decS decS_is (fun _ => true) (fun r y => isIg (bitI (one ++ r)) y) (tg := .Constant .none 0 default) (Src.str hA (fun _ _ => rfl) Ev.str) ?_ (cl := [("one", L + 2), ("bits", L + 1)]) rfl (by decide) rfl (by decide) rfl ?_ ?_ (fun _ => rfl)) ?_) rfl) rfl rfl rfl rfl ?_
          · decide
          · intro C a v' h m' _ _ _ _ _; exact .inl ⟨rfl, rfl⟩
          · rintro C a v' h m' ⟨u, rfl⟩ ham - hN hma kk
            obtain ⟨c1, c2, kvs5, c3, c4⟩ := F₁₆.own
            obtain ⟨hkey, hklen⟩ := key_ok honem (rwxs_signs ▸ ham)
            obtain ⟨tb, hget⟩ := c4.get hkey
            exact Ev.itemD (Ev.cell rfl rfl rfl (c1.keeps kk) fun _ => rfl) (Ev.cat (Ev.cell rfl rfl rfl (c2.keeps kk) fun _ => ⟨_, rfl⟩) (Ev.loc rfl rfl hN hma fun _ => ⟨_, rfl⟩) (two_fit hklen)) (c3.keep kk) hget (fun _ => ⟨_, rfl⟩) (fun _ _ => rfl)
          · intro v' h hv'
            rw [filter_tt] at hv'
            exact toIL hv'
          intro te s₁₈ F₁₈
          have BB : Base w s₁₈.heap := B.keeps (kpTrans k (kpTrans hkc F₁₈.kb))
          refine wSetI (i := toldI one p.2) F₁₈ (Ev.sumL hA (Ev.bname BB (g_sum w) b_sum (by decide) (fun _ => rfl) rfl rfl rfl rfl) (Ev.of (Ev.comp (signs p.2) isSg decS decS_is (fun _ => true) (fun r y => isIg (bitI (one ++ r)) y) (tg := .Constant .none 0 default) (Src.str hA (fun _ _ => rfl) (lS F₁₈ J.word)) ?_ (cl := [("one", L + 2), ("bits", L + 1)]) rfl (by decide) rfl (by decide) rfl ?_ ?_ (fun _ => rfl)) ?_) rfl) rfl rfl rfl rfl ?_
          · exact signs_fit hplen
          · intro C a v' h m' _ _ _ _ _; exact .inl ⟨rfl, rfl⟩
          · rintro C a v' h m' ⟨u, rfl⟩ ham - hN hma kk
            obtain ⟨c1, c2, kvs5, c3, c4⟩ := F₁₈.own
            obtain ⟨hkey, hklen⟩ := key_ok honem (hword a ham)
            obtain ⟨tb, hget⟩ := c4.get hkey
            exact Ev.itemD (Ev.cell rfl rfl rfl (c1.keeps kk) fun _ => rfl) (Ev.cat (Ev.cell rfl rfl rfl (c2.keeps kk) fun _ => ⟨_, rfl⟩) (Ev.loc rfl rfl hN hma fun _ => ⟨_, rfl⟩) (two_fit hklen)) (c3.keep kk) hget (fun _ => ⟨_, rfl⟩) (fun _ _ => rfl)
          · intro v' h hv'
            rw [filter_tt] at hv'
            exact toIL hv'
          intro tt s₂₀ F₂₀
          clear honem hword hplen F₁₆ F₁₈ BB
          refine wSetI F₂₀ (Ev.and (lI F₂₀ J.mode) (lvI (t := te) F₂₀ rfl)) rfl rfl rfl rfl ?_
          intro th s₂₂ F₂₂
          refine wSetI F₂₂ (lvI (t := th) F₂₂ rfl) rfl rfl rfl rfl ?_
          intro tp s₂₄ F₂₄
          have BF : ∀ (s' : Shared) {m' O'}, FS h₀ s₁₅ L [d, L + 2, L + 1] m' O' s' → Base w s'.heap := fun s' m' O' F' => B.keeps (kpTrans k (kpTrans hkc F'.kb))
          clear F₂₀ F₂₂
          refine wIfO F₂₄ (c := st.last == 14) (Ts.eqI (lI F₂₄ J.last) (Ev.kint (BF _ F₂₄) (g_PLUS w) rfl rfl rfl rfl))
            (KP md (Builtin.bitAnd md (everyI one)) (keptI st.last (Builtin.bitAnd md (everyI one)) (toldI one p.2) (everyI one)) st p) (OB prog w L d (some (.str one tone))) ?_ ?_ ?_
          · intro hc s₂₅ F₂₅
            rw [kept14 hc]
            exact wSetI F₂₅ (Ev.or (lvI (t := th) F₂₅ rfl) (lvI (t := tt) F₂₅ rfl)) rfl rfl rfl rfl fun tv s₂₇ F₂₇ => wDone F₂₇ ⟨⟨J.mode, J.who, J.last, J.kind, J.word⟩, ⟨th, rfl⟩, ⟨tv, rfl⟩⟩
          · intro z s₂₅ F₂₅
            refine wIfL F₂₅ (Ts.eqI (lI F₂₅ J.last) (Ev.kint (BF _ F₂₅) (g_MINUS w) rfl rfl rfl rfl)) (fun a s' F' => ?_) fun y s₂₆ F₂₆ => ?_
            · rw [kept15 z a]
              exact wSetI F' (Ev.sub (lvI (t := th) F' rfl) (Ev.and (lvI (t := th) F' rfl) (lvI (t := tt) F' rfl))) rfl rfl rfl rfl fun tv s₂₇ F₂₇ => wDone F₂₇ ⟨⟨J.mode, J.who, J.last, J.kind, J.word⟩, ⟨th, rfl⟩, ⟨tv, rfl⟩⟩
            refine wIfL F₂₆ (Ts.eqI (lI F₂₆ J.last) (Ev.kint (BF _ F₂₆) (g_EQUAL w) rfl rfl rfl rfl)) (fun a s' F' => ?_) fun x s₂₇ F₂₇ => ?_
            · rw [kept22 z y a]
              exact wSetI F' (lvI (t := tt) F' rfl) rfl rfl rfl rfl fun tv s₂₇ F₂₇ => wDone F₂₇ ⟨⟨J.mode, J.who, J.last, J.kind, J.word⟩, ⟨th, rfl⟩, ⟨tv, rfl⟩⟩
            refine wIfL F₂₇ (Ts.eqI (lI F₂₇ J.last) (Ev.kint (BF _ F₂₇) (g_PLUSEQUAL w) rfl rfl rfl rfl)) (fun a s' F' => ?_) fun v s₂₈ F₂₈ => ?_
            · rw [kept36 z y x a]
              exact wSetI F' (Ev.xor (lvI (t := th) F' rfl) (lvI (t := tt) F' rfl)) rfl rfl rfl rfl fun tv s₂₇ F₂₇ => wDone F₂₇ ⟨⟨J.mode, J.who, J.last, J.kind, J.word⟩, ⟨th, rfl⟩, ⟨tv, rfl⟩⟩
            refine wIfL F₂₈ (Ts.eqI (lI F₂₈ J.last) (Ev.kint (BF _ F₂₈) (g_MINEQUAL w) rfl rfl rfl rfl)) (fun a s' F' => ?_) fun u s₂₉ F₂₉ => ?_
            · rw [kept37 z y x v a]
              exact wSetI F' (Ev.and (lvI (t := th) F' rfl) (lvI (t := tt) F' rfl)) rfl rfl rfl rfl fun tv s₂₇ F₂₇ => wDone F₂₇ ⟨⟨J.mode, J.who, J.last, J.kind, J.word⟩, ⟨th, rfl⟩, ⟨tv, rfl⟩⟩
            refine wIfL F₂₉ (Ts.eqI (lI F₂₉ J.last) (Ev.kint (BF _ F₂₉) (g_EQEQUAL w) rfl rfl rfl rfl)) (fun a s' F' => ?_) fun a s₃₀ F₃₀ => ?_
            · rw [kept27 z y x v u a]
              exact wSetI F' (Ev.sub (lvI (t := te) F' rfl) (lvI (t := tt) F' rfl)) rfl rfl rfl rfl fun tv s₂₇ F₂₇ => wDone F₂₇ ⟨⟨J.mode, J.who, J.last, J.kind, J.word⟩, ⟨th, rfl⟩, ⟨tv, rfl⟩⟩
            · rw [kept00 z y x v u a]
              exact wDone F₃₀ ⟨⟨J.mode, J.who, J.last, J.kind, J.word⟩, ⟨th, rfl⟩, ⟨tp, rfl⟩⟩
          · clear J F₂₄ BF
            intro m' s₂₅ K F₂₅
            refine wSetI F₂₅ (Ev.add (Ev.sub (lI F₂₅ K.j.mode) (lI F₂₅ K.had)) (lI F₂₅ K.kept)) rfl rfl rfl rfl ?_
            intro tv s₂₇ F₂₇
            exact wDone (F₂₇.know ⟨_, F₂₇.own⟩ (OY.st (.tail _ (.tail _ (.head _))) (.tail _ (.head _)) (.head _))) ⟨⟨tv, rfl⟩, K.j.who, K.j.last, K.j.kind, K.j.word⟩
        · clear J F₁₄
          intro m₂ s₁₅ J F₁₅
          exact wDone F₁₅ ⟨J.mode, J.who, J.kind⟩
      · intro hc1 s₁₄ F₁₄
        rw [stepT_no hc hc1]
        exact wDone F₁₄ ⟨J.mode, J.who, ⟨tk, rfl⟩⟩
    · clear J F₁₂ B₁₂
      intro m' s₁₃ K F₁₃
      refine wSetI F₁₃ (lI F₁₃ K.kind) rfl rfl rfl rfl ?_
      intro tv s₁₅ F₁₅
      exact wDone F₁₅ ⟨K.mode, K.who, tv, by rw [stepT_last]; rfl⟩
  · clear G
    intro m₁ s₁₁ J F₁₁
    have he : stU ts mode ts.length = ts.foldl stepT ⟨mode, "", 12⟩ := by unfold stU; rw [List.take_length]
    rw [he] at J
    have F₁₁' := F₁₁.thaw hkc hfr
    exact wRet F₁₁' (lI F₁₁' J.mode) fun v s' hv F' => ⟨hv, F'.out k1⟩
end
end Mine
end PartF9
section PartF10
open PySem PySem.W PyProof.Rows PySem.Spec PySem.Calls
set_option Elab.async false
set_option maxRecDepth 100000
set_option maxHeartbeats 8000000
set_option linter.unusedVariables false
namespace Mine
theorem g_ftable (w : World) : nsIn (hd.heap_39 w.params) mainGlobals (Str.ofString "_filemode_table") = some (some (.ref 61)) := by k_is
theorem g_ifmt (w : World) : nsIn (hd.heap_39 w.params) mainGlobals (Str.ofString "S_IFMT") = some (some (.ref 28)) := by k_is
theorem g_enumerate (w : World) : nsIn (hd.heap_39 w.params) mainGlobals (Str.ofString "enumerate") = some none := by k_is
theorem b_enumerate : bootBuiltins (Str.ofString "enumerate") = some (.type "enumerate") := by kernel_rfl
abbrev Cell := Addr × Int × Str
noncomputable def tabRows : List (Addr × List Cell) := [(36, [(29, 40960, Str.ofString "l"), (30, 49152, Str.ofString "s"), (31, 32768, Str.ofString "-"), (32, 24576, Str.ofString "b"), (33, 16384, Str.ofString "d"), (34, 8192, Str.ofString "c"), (35, 4096, Str.ofString "p")]), (38, [(37, 256, Str.ofString "r")]), (40, [(39, 128, Str.ofString "w")]), (44, [(41, 2112, Str.ofString "s"), (42, 2048, Str.ofString "S"), (43, 64, Str.ofString "x")]), (46, [(45, 32, Str.ofString "r")]), (48, [(47, 16, Str.ofString "w")]), (52, [(49, 1032, Str.ofString "s"), (50, 1024, Str.ofString "S"), (51, 8, Str.ofString "x")]), (54, [(53, 4, Str.ofString "r")]), (56, [(55, 2, Str.ofString "w")]), (60, [(57, 513, Str.ofString "t"), (58, 512, Str.ofString "T"), (59, 1, Str.ofString "x")])]
noncomputable def CellsOk2 (h : Heap) : List Cell → Prop
  | [] => True
  | c :: cs => TupI h c.1 c.2.1 c.2.2 ∧ CellsOk2 h cs
noncomputable def RowsOk (h : Heap) : List (Addr × List Cell) → Prop
  | [] => True
  | r :: rs => (h.IsTuple r.1 (r.2.map fun c => Value.ref c.1).toArray ∧ CellsOk2 h r.2) ∧ RowsOk h rs
theorem CellsOk2.at {h : Heap} : ∀ {cs : List Cell}, CellsOk2 h cs → ∀ (j : Nat) c, cs[j]? = some c → TupI h c.1 c.2.1 c.2.2
  | _ :: _, x, 0, c, hc => by cases hc; exact x.1
  | _ :: _, x, j + 1, c, hc => CellsOk2.at x.2 j c hc
  | [], _, j, c, hc => by simp at hc
theorem RowsOk.at {h : Heap} : ∀ {rs : List (Addr × List Cell)}, RowsOk h rs → ∀ (j : Nat) r, rs[j]? = some r → h.IsTuple r.1 (r.2.map fun c => Value.ref c.1).toArray ∧ CellsOk2 h r.2
  | _ :: _, x, 0, r, hr => by cases hr; exact x.1
  | _ :: _, x, j + 1, r, hr => RowsOk.at x.2 j r hr
  | [], _, j, r, hr => by simp at hr
theorem CellsOk2.keep {h h' : Heap} (k : Kp h h') : ∀ {cs : List Cell}, CellsOk2 h cs → CellsOk2 h' cs
  | [], _ => trivial
  | _ :: _, x => ⟨x.1.keep fun o e => k _ _ e, CellsOk2.keep k x.2⟩
theorem tuple_keep {h h' : Heap} (k : Kp h h') {a : Addr} {items : Array Value} (x : h.IsTuple a items) : h'.IsTuple a items := let ⟨o, ho, q⟩ := x; ⟨o, k _ _ ho, q⟩
theorem table_is {w : World} {h : Heap} (B : Base w h) : h.IsTuple 61 (tabRows.map fun r => Value.ref r.1).toArray ∧ RowsOk h tabRows := by
  refine ⟨⟨_, B.X 61 _ (by k_is), rfl, _, rfl⟩, ?_⟩
  exact ⟨⟨⟨_, B.X 36 _ (by k_is), rfl, _, rfl⟩, ⟨⟨_, _, _, B.X 29 _ (by k_is), rfl, _, rfl⟩, ⟨_, _, _, B.X 30 _ (by k_is), rfl, _, rfl⟩, ⟨_, _, _, B.X 31 _ (by k_is), rfl, _, rfl⟩, ⟨_, _, _, B.X 32 _ (by k_is), rfl, _, rfl⟩, ⟨_, _, _, B.X 33 _ (by k_is), rfl, _, rfl⟩, ⟨_, _, _, B.X 34 _ (by k_is), rfl, _, rfl⟩, ⟨_, _, _, B.X 35 _ (by k_is), rfl, _, rfl⟩, trivial⟩⟩, ⟨⟨_, B.X 38 _ (by k_is), rfl, _, rfl⟩, ⟨⟨_, _, _, B.X 37 _ (by k_is), rfl, _, rfl⟩, trivial⟩⟩, ⟨⟨_, B.X 40 _ (by k_is), rfl, _, rfl⟩, ⟨⟨_, _, _, B.X 39 _ (by k_is), rfl, _, rfl⟩, trivial⟩⟩, ⟨⟨_, B.X 44 _ (by k_is), rfl, _, rfl⟩, ⟨⟨_, _, _, B.X 41 _ (by k_is), rfl, _, rfl⟩, ⟨_, _, _, B.X 42 _ (by k_is), rfl, _, rfl⟩, ⟨_, _, _, B.X 43 _ (by k_is), rfl, _, rfl⟩, trivial⟩⟩, ⟨⟨_, B.X 46 _ (by k_is), rfl, _, rfl⟩, ⟨⟨_, _, _, B.X 45 _ (by k_is), rfl, _, rfl⟩, trivial⟩⟩, ⟨⟨_, B.X 48 _ (by k_is), rfl, _, rfl⟩, ⟨⟨_, _, _, B.X 47 _ (by k_is), rfl, _, rfl⟩, trivial⟩⟩, ⟨⟨_, B.X 52 _ (by k_is), rfl, _, rfl⟩, ⟨⟨_, _, _, B.X 49 _ (by k_is), rfl, _, rfl⟩, ⟨_, _, _, B.X 50 _ (by k_is), rfl, _, rfl⟩, ⟨_, _, _, B.X 51 _ (by k_is), rfl, _, rfl⟩, trivial⟩⟩, ⟨⟨_, B.X 54 _ (by k_is), rfl, _, rfl⟩, ⟨⟨_, _, _, B.X 53 _ (by k_is), rfl, _, rfl⟩, trivial⟩⟩, ⟨⟨_, B.X 56 _ (by k_is), rfl, _, rfl⟩, ⟨⟨_, _, _, B.X 55 _ (by k_is), rfl, _, rfl⟩, trivial⟩⟩, ⟨⟨_, B.X 60 _ (by k_is), rfl, _, rfl⟩, ⟨⟨_, _, _, B.X 57 _ (by k_is), rfl, _, rfl⟩, ⟨_, _, _, B.X 58 _ (by k_is), rfl, _, rfl⟩, ⟨_, _, _, B.X 59 _ (by k_is), rfl, _, rfl⟩, trivial⟩⟩, trivial⟩
noncomputable def hit (i : Nat) (mode : Int) (c : Cell) : Bool := if i = 0 then Builtin.bitAnd mode 61440 == c.2.1 else Builtin.bitAnd mode c.2.1 == c.2.1
noncomputable def sgn (i : Nat) (mode : Int) (row : List Cell) : Str := match row.find? (hit i mode) with
  | some c => c.2.2
  | none => if i = 0 then "?" else "-"
noncomputable def sgns (mode : Int) : List Str := tabRows.zipIdx.map fun p => sgn p.2 mode p.1.2
noncomputable def OP (D : Addr) (ss : List Str) : Heap → Prop := fun h => ∃ l, PlainL h D (strValues l).toArray ∧ l.map (·.1) = ss
theorem OP.st {D : Addr} {ss : List Str} {S : List Addr} (hD : D ∈ S) (h h' : Heap) (hk : ∀ b ∈ S, ∀ o, h.get? b = some o → h'.get? b = some o) (x : OP D ss h) : OP D ss h' :=
  let ⟨l, ⟨o, n, ho, q⟩, hm⟩ := x; ⟨l, ⟨o, n, hk D hD o ho, q⟩, hm⟩
theorem find_first {α : Type} {p : α → Bool} : ∀ {l : List α} {j : Nat} {c : α}, l[j]? = some c → (∀ x ∈ l.take j, p x = false) → p c = true → l.find? p = some c
  | x :: l, 0, c, hc, _, hp => by cases hc; rw [List.find?_cons, hp]
  | x :: l, j + 1, c, hc, hn, hp => by
    rw [List.find?_cons, hn x (by simp)]
    exact find_first (l := l) (j := j) hc (fun y hy => hn y (by simp [hy])) hp
  | [], j, c, hc, _, _ => by simp at hc
theorem join_ok {xs : List Str} (h : ∀ x ∈ xs, x.length = 1) (hl : xs.length ≤ 100) : JoinOk "" xs = true := by
  have : ∀ (xs : List Str) (a : Nat), (∀ x ∈ xs, x.length = 1) → xs.foldl (fun a x => a + x.length + (Str.ofString "").length) a = a + xs.length := by
    intro xs
    induction xs with
    | nil => intro a _; rfl
    | cons x xs ih =>
      intro a h
      rw [List.foldl_cons, ih _ fun y hy => h y (.tail _ hy), h x (.head _), show (Str.ofString "").length = 0 from rfl, List.length_cons, Nat.add_zero, Nat.add_assoc, Nat.add_comm 1]
  show (!Builtin.Str.tooLong (xs.toArray.foldl (fun a x => a + x.length + (Str.ofString "").length) 0)) = true
  have e : xs.toArray.foldl (fun a x => a + x.length + (Str.ofString "").length) 0 = xs.length := by
    rw [List.foldl_toArray, this xs 0 h, Nat.zero_add]
  rw [e]
  unfold Builtin.Str.tooLong
  rw [decide_eq_false (Nat.not_lt.mpr (fits hl (by decide)))]; rfl
theorem sgn_len {i : Nat} {mode : Int} {row : Addr × List Cell} (hr : row ∈ tabRows) : (sgn i mode row.2).length = 1 := by
  have key : ∀ row ∈ tabRows, ∀ c ∈ row.2, (c.2.2).length = 1 := by decide +kernel
  unfold sgn
  cases hf : row.2.find? (hit i mode) with
  | none => simp only; split <;> rfl
  | some c => exact key row hr c (List.mem_of_find?_eq_some hf)
section
variable {prog : Program} {w : World} {A : Around} {s₀ : Heap} {env : Env}
theorem wIfLast {E : Value → Shared → Prop} {h₀ : Heap} {r s : Shared} {L : Addr} {S : List Addr} {m : Str → Option Value} {O : Heap → Prop} {t a b pos} {c : Bool} {Q : Flow → Shared → Prop} (F : FS h₀ r L S m O s) (ht : Ts prog w A env s.heap t c)
    (h1 : c = true → ∀ s', FS h₀ r L S m O s' → Wx prog w A env a Q E s') (h2 : c = false → ∀ s', FS h₀ r L S m O s' → Wx prog w A env b Q E s') : Wx prog w A env [.If t a b pos] Q E s :=
  ⟨wpAny_execs_cons (wpAny_mono (xIf (Q := Q) F ht (fun hc s' F' => (h1 hc s' F').out) (fun hc s' F' => (h2 hc s' F').out)) (fun f s'' x => by cases f <;> first | exact wpAny_execs_nil x | exact x) fun _ _ z => z)⟩
theorem wBreak {E : Value → Shared → Prop} {s : Shared} {pos rest} {Q : Flow → Shared → Prop} (h : Q .brk s) : Wx prog w A env (.Break pos :: rest) Q E s := ⟨wpAny_execs_cons (wpAny_Break h)⟩
theorem wPush {E : Value → Shared → Prop} {h₀ : Heap} {r s : Shared} {L : Addr} {S : List Addr} {m : Str → Option Value} {D : Addr} {ss : List Str} {x px apos e pos epos rest} {y : Str} {Q : Flow → Shared → Prop} (F : FS h₀ r L S m (OP D ss) s) (hDS : D ∈ S)
    (hx : Ev prog w A env s.heap (.Name x px) (isV (.ref D))) (he : Ev prog w A env s.heap e (isS y)) (hz : ss.length ≤ 100)
    (hbase : attributeBase (.Name x px) "append" env (eval (.Name x px) env) = eval (.Name x px) env)
    (htr : backTo pos (starEach [e] env) = [(false, eval e env)]) (hline : (apos.endLine == pos.line) = true) (hi : interactive env = false)
    (hsw : swapsWith (.Call (.Attribute (.Name x px) "append" apos) [e] [] pos) none epos.line env = pure false)
    (h : ∀ s', FS h₀ r L S m (OP D (ss ++ [y])) s' → Wx prog w A env rest Q E s') :
    Wx prog w A env (.Expr (.Call (.Attribute (.Name x px) "append" apos) [e] [] pos) epos :: rest) Q E s := by
  obtain ⟨l, hpl, hm⟩ := F.own
  refine wAppend F hx hpl hDS he (by rw [← hm, List.length_map] at hz; unfold strValues; rw [List.size_toArray, List.length_map]; exact fits hz (by decide)) hbase htr hline hi hsw (fun _ => OP D (ss ++ [y])) ?_ (fun _ => OP.st hDS) ?_
  · rintro v s₂ h' ⟨t, rfl⟩ _ hp' _
    exact ⟨l ++ [(y, t)], by simpa [strValues] using hp', by simp [hm]⟩
  · intro v s₂ _ s' F' _
    exact h s' F'

structure FM (D : Addr) (mode : Int) (m : Str → Option Value) : Prop where
  md : HI m (Str.ofString "mode") mode
  p : m (Str.ofString "perm") = some (.ref D)
structure FR (D : Addr) (mode : Int) (i : Nat) (row : List Cell) (j : Nat) (m : Str → Option Value) : Prop where
  f : FM D mode m
  idx : HI m (Str.ofString "index") ((i : Nat) : Int)
  no : ∀ c ∈ row.take j, hit i mode c = false
noncomputable def sgU (mode : Int) (i : Nat) : List Str := (tabRows.take i).zipIdx.map fun p => sgn p.2 mode p.1.2
theorem sgU_step (mode : Int) {i : Nat} {row : Addr × List Cell} (hrow : tabRows[i]? = some row) : sgU mode (i + 1) = sgU mode i ++ [sgn i mode row.2] := by
  have hi : i < tabRows.length := (List.getElem?_eq_some_iff.mp hrow).1
  unfold sgU
  rw [List.take_add_one, hrow, Option.toList_some, List.zipIdx_append, List.map_append]
  simp [List.length_take, Nat.min_eq_left (Nat.le_of_lt hi)]
theorem sgU_len (mode : Int) (i : Nat) : (sgU mode i).length ≤ 100 := by
  unfold sgU
  rw [List.length_map, List.length_zipIdx]
  exact Nat.le_trans (List.length_take_le' i tabRows) (by decide)
theorem sgn_none {i : Nat} {mode : Int} {row : List Cell} (h : ∀ c ∈ row, hit i mode c = false) : sgn i mode row = (if i = 0 then ("?" : Str) else ("-" : Str)) := by
  unfold sgn
  have hf : row.find? (hit i mode) = none := List.find?_eq_none.mpr fun x hx => by rw [h x hx]; simp
  simp only [hf]
theorem no_step {i : Nat} {mode : Int} {row : List Cell} {j : Nat} {c : Cell} (hc : row[j]? = some c) (hno : ∀ x ∈ row.take j, hit i mode x = false) (hf : hit i mode c = false) : ∀ x ∈ row.take (j + 1), hit i mode x = false := fun x hx => by
  rw [List.take_add_one, hc] at hx
  rcases List.mem_append.mp hx with h | h
  · exact hno x h
  · rw [List.mem_singleton.mp h]; exact hf
theorem is0 {i : Nat} (h : (((i : Nat) : Int) == 0) = true) : i = 0 := Int.ofNat_eq_zero.mp (eq_of_beq h)
theorem not0 {i : Nat} (h : (((i : Nat) : Int) == 0) = false) : ¬ i = 0 := fun e => by rw [e] at h; cases h
theorem ref_at {α : Type} {l : List α} {g : α → Addr} {i : Nat} {v : Value} (h : (l.map fun a => Value.ref (g a))[i]? = some v) : ∃ a, l[i]? = some a ∧ v = .ref (g a) := by
  rw [List.getElem?_map] at h
  cases e : l[i]? with
  | none => rw [e] at h; cases h
  | some a => rw [e] at h; cases h; exact ⟨a, rfl, rfl⟩
theorem fn_filemode (B : Base w s₀) (hA : A.handled = none) (hd : A.depth + 1 < recursionLimit) (mode : Int) (t1 : Tok) : Fn prog w A s₀ 68 [.int mode t1] (isS (Txt.join "" (sgns mode))) := by
  refine Fn.of (binds := [(Str.ofString "mode", .int mode t1)]) B.X B.nl (Nat.lt_of_succ_lt hd) (by k_is) (by k_is) (fun s => BindsTo.of_eq rfl) rfl (by decide) rfl rfl rfl ?_
  intro s L s₁ E' k k1 F
  have F₁ : FS s.heap s₁ L [] _ (fun h => True) s₁ := F.know trivial fun h h' hk ho => trivial
  clear F
  refine Wx.out ?_
  refine wAssign F₁ Ev.nil rfl rfl rfl rfl ?_
  rintro _ s₂ - ⟨D, rfl, hD, hDn⟩ - s₃ F₃ c₃
  have hDok := F₁.newOk hDn
  have hDL : D ≠ L := fun e => hDok.1 (e ▸ .head _)
  obtain ⟨oD, nD, hoD, hDr⟩ := hD
  have hoD' := c₃.heap D oD (fun h => hDL (List.mem_singleton.mp h)) hoD
  replace F₃ := F₃.grow (O' := OP D (sgU mode 0)) hoD' hDok.1 hDok.2.1 ⟨[], ⟨oD, nD, hoD', hDr⟩, rfl⟩ (OP.st (.head _))
  clear hDok hDL hoD hoD' hDr hDn c₃ F₁
  have B₃ : Base w s₃.heap := B.keeps (kpTrans k F₃.kb)
  obtain ⟨htab, hrows⟩ := table_is (B.keeps k)
  have hout : ∀ a items, s.heap.IsTuple a items → a ∉ L :: [D] := fun a items ha hm => by
    obtain ⟨o, ho, _⟩ := ha
    rw [F₃.fr a hm] at ho; cases ho
  refine wForEnum (vs := tabRows.map fun r => Value.ref r.1) F₃ hA (Ev.bname B₃ (g_enumerate w) b_enumerate (by decide) (fun _ => rfl) rfl rfl rfl rfl) (Ev.kname B₃ (g_ftable w) (fun _ => rfl) rfl rfl rfl) rfl (tuple_keep F₃.kb htab) (hout _ _ htab) rfl rfl rfl rfl rfl
    (fun i m O => O = OP D (sgU mode i) ∧ FM D mode m) ⟨rfl, ⟨t1, rfl⟩, rfl⟩ ?_ ?_ (fun _ => rfl)
  · clear F₃ B₃ htab
    rintro i v tk m₁ O₁ s₄ s₅ E₅ hv ⟨rfl, J⟩ F₅
    obtain ⟨row, hrow, rfl⟩ := ref_at hv
    obtain ⟨hrt, hrc⟩ := hrows.at i row hrow
    rw [sgU_step mode hrow]
    have hsl := sgU_len mode i
    clear hrows hv hrow
    generalize sgU mode i = ss at *
    refine wFor F₅ (Src.tup hA (lvR F₅ rfl) (tuple_keep F₅.kb hrt)) (fun b hb => by rw [List.mem_singleton.mp hb]; exact hout _ _ hrt)
      (fun j m O => O = OP D ss ∧ FR D mode i row.2 j m)
      (fun m O => O = OP D (ss ++ [sgn i mode row.2]) ∧ FM D mode m) ⟨rfl, ⟨J.md, J.p⟩, ⟨tk, rfl⟩, fun _ h => nomatch h⟩
      (fun j v m₁ O₁ m₂ O₂ => ∃ c t u, row.2[j]? = some c ∧ m₂ = upd (upd m₁ (Str.ofString "bit") (.int c.2.1 t)) (Str.ofString "char") (.str c.2.2 u) ∧ O₂ = O₁) ?_ ?_ (.inr ⟨_, rfl, ?_⟩) (fun h => nomatch h) ?_ (fun _ => rfl)
    · clear J F₅
      rintro j v m₂ O₂ s₆ E₆ Q' - hv2 - F₆ hq
      obtain ⟨c, hc, rfl⟩ := ref_at hv2
      obtain ⟨t, u, htup⟩ := (hrc.at j c hc).keep (h' := s₆.heap) fun o e => F₆.kb _ _ e
      refine tgPair F₆ hA htup rfl rfl rfl rfl rfl ?_
      rintro m₃ O₃ s₇ ⟨rfl, rfl⟩ F₇
      exact hq _ _ s₇ ⟨c, t, u, hc, rfl, rfl⟩ F₇
    · clear J F₅ hrt hrc hout
      rintro j v m₂ O₂ _ _ s₆ s₇ E₆ - - ⟨rfl, R⟩ ⟨c, t, u, hc, rfl, rfl⟩ F₇
      refine wIfLast F₇ (Ts.eqI (lI F₇ R.idx) Ev.int) ?_ ?_
      · intro h0 s₈ F₈
        have hh : hit i mode c = (Builtin.bitAnd mode 61440 == c.2.1) := by unfold hit; rw [if_pos (is0 h0)]
        have B₈ : Base w s₈.heap := B.keeps (kpTrans k F₈.kb)
        refine wIfLast F₈ (Ts.eqI (Ev.callF1 (P1 := isI mode) (P := isI (Builtin.bitAnd mode 61440)) (Ev.kname B₈ (g_ifmt w) (fun _ => rfl) rfl rfl rfl) (B₈.X 28 _ (by k_is)) rfl (lI F₈ R.f.md) (fun v h kh hv => ?_)) (lvI (t := t) F₈ rfl)) ?_ ?_
        · obtain ⟨tv, rfl⟩ := hv
          exact fn_ifmt (A := A.deeper _) (B₈.keeps kh) hd mode tv
        · intro hc1 s₉ F₉
          rw [show sgn i mode row.2 = c.2.2 by unfold sgn; rw [find_first hc R.no (hh.trans hc1)]]
          exact wPush F₉ (.head _) (lvR F₉ R.f.p) (lvS (t := u) F₉ rfl) hsl rfl rfl rfl rfl rfl fun s' F' => wBreak ⟨_, _, F', rfl, R.f.md, R.f.p⟩
        · intro hc1 s₉ F₉
          exact wNil ⟨_, _, F₉, rfl, ⟨R.f.md, R.f.p⟩, R.idx, no_step hc R.no (hh.trans hc1)⟩
      · intro h0 s₈ F₈
        have hh : hit i mode c = (Builtin.bitAnd mode c.2.1 == c.2.1) := by unfold hit; rw [if_neg (not0 h0)]
        refine wIfLast F₈ (Ts.eqI (Ev.and (lI F₈ R.f.md) (lvI (t := t) F₈ rfl)) (lvI (t := t) F₈ rfl)) ?_ ?_
        · intro hc1 s₉ F₉
          rw [show sgn i mode row.2 = c.2.2 by unfold sgn; rw [find_first hc R.no (hh.trans hc1)]]
          exact wPush F₉ (.head _) (lvR F₉ R.f.p) (lvS (t := u) F₉ rfl) hsl rfl rfl rfl rfl rfl fun s' F' => wBreak ⟨_, _, F', rfl, R.f.md, R.f.p⟩
        · intro hc1 s₉ F₉
          exact wNil ⟨_, _, F₉, rfl, ⟨R.f.md, R.f.p⟩, R.idx, no_step hc R.no (hh.trans hc1)⟩
    · clear J F₅ hrt hrc hout
      rintro m₂ O₂ s₆ E₆ ⟨rfl, R⟩ F₆
      have hs := sgn_none (i := i) (mode := mode) (row := row.2) fun c hc => R.no c (by rw [List.length_map, List.take_length]; exact hc)
      refine wIfLast F₆ (Ts.eqI (lI F₆ R.idx) Ev.int) ?_ ?_
      · intro h0 s₈ F₈
        rw [hs, if_pos (is0 h0)]
        exact wPush F₈ (.head _) (lvR F₈ R.f.p) Ev.str hsl rfl rfl rfl rfl rfl fun s' F' => wNil ⟨rfl, _, _, F', rfl, R.f⟩
      · intro h0 s₈ F₈
        rw [hs, if_neg (not0 h0)]
        exact wPush F₈ (.head _) (lvR F₈ R.f.p) Ev.str hsl rfl rfl rfl rfl rfl fun s' F' => wNil ⟨rfl, _, _, F', rfl, R.f⟩
    · rintro m₂ O₂ s₆ ⟨rfl, J⟩ F₆
      exact wNil ⟨rfl, _, _, F₆, rfl, J⟩
  · clear F₃ B₃ htab hrows hout
    rintro m₁ O₁ s₄ ⟨rfl, J⟩ F₄
    obtain ⟨l, hpl, hlm⟩ := F₄.own
    replace hlm : l.map (·.1) = sgns mode := hlm
    refine wRet F₄ (Ev.join (xs := sgns mode) (.mk fun s₅ E₅ kk => wpAny_mono ((lvR F₄ J.p).out s₅ E₅ kk) (fun v s₆ y => ?_) fun _ _ z => z) ?_ rfl rfl rfl) fun v s' hv F' => ⟨hv, F'.out k1⟩
    · obtain ⟨rfl, k6⟩ := y
      exact ⟨⟨D, l, rfl, (hpl.keeps (kT kk k6)).isList, hlm⟩, k6⟩
    · refine join_ok (fun x hx => ?_) (by rw [sgns, List.length_map, List.length_zipIdx]; decide)
      obtain ⟨p, hp, rfl⟩ := List.mem_map.mp hx
      exact sgn_len (List.fst_mem_of_mem_zipIdx hp)
end
end Mine
end PartF10
section PartH1
open PySem PySem.W PyProof.Rows PySem.Spec PySem.Calls
set_option Elab.async false
set_option maxRecDepth 100000
set_option maxHeartbeats 8000000
set_option linter.unusedVariables false
namespace Mine
section
variable {prog : Program} {w : World} {A : Around} {E : Value → Shared → Prop} {env : Env} {h₀ : Heap} {r s s' : Shared} {L : Addr} {S : List Addr} {m m' : Str → Option Value} {O O' : Heap → Prop} {rest : List Stmt} {Q : Flow → Shared → Prop}
theorem FS.two {h' : Heap} {tk : Nat} {I : Addr} (F : FS h₀ r L S m O s) (hn : h'.Ns L m') (hk : ∀ b o, b ≠ L → b ∉ [I] → s.heap.get? b = some o → h'.get? b = some o) (hI : I ∉ L :: S ∧ h₀.get? I = none ∧ r.heap.get? I = none) :
    FS h₀ r L S m' O { s with heap := h', toks := tk } where
  ch := by
    obtain ⟨h'', t', rfl, k'⟩ := F.ch
    exact ⟨h', tk, rfl, fun b o hb e => hk b o (fun q => hb (q ▸ .head _)) (fun q => by simp at q; subst q; rw [hI.2.2] at e; cases e) (k' b o hb e)⟩
  ns := hn
  kb := fun b o e => hk b o (fun q => by rw [q, F.fr L (.head _)] at e; cases e) (fun q => by simp at q; subst q; rw [hI.2.1] at e; cases e) (F.kb b o e)
  al := fun b hb => let ⟨o, ho⟩ := F.al b hb; ⟨o, hk b o (fun q => F.nd (q ▸ hb)) (fun q => by simp at q; subst q; exact hI.1 (.tail _ hb)) ho⟩
  own := F.st _ _ (fun b hb o e => hk b o (fun q => F.nd (q ▸ hb)) (fun q => by simp at q; subst q; exact hI.1 (.tail _ hb)) e) F.own
  fr := F.fr
  nd := F.nd
  st := F.st
theorem wAssignComp {α : Type} {elt iter x px y py scope cl pos spos} (xs : List α) (Rl : α → Value → Prop) (dec : Value → α) (hdec : ∀ a v, Rl a v → dec v = a) (G : α → Value → Prop) (F : FS h₀ r L S m O s)
    (src : wpAny (model prog w) A (eval iter env) (fun xv s₁ => wpAny (model prog w) A (pyIter xv) (fun it s₂ => ∃ I fp St, it = .ref I ∧ Walks prog w A I fp [I] xs.length (fun i v => ∃ a, xs[i]? = some a ∧ Rl a v) St ∧ St 0 s₂.heap ∧ (∀ b ∈ fp, b < s₂.heap.objs.size) ∧ s.heap.get? I = none ∧ Keeps s s₂) E s₁) E s)
    (hz : xs.length ≤ sizeLine) (hsw : swapsWith (.ListComp elt [⟨.Name x px, iter, [], 0⟩] scope pos) (some (.Name y py)) spos.line env = pure true)
    (hclos : closureFor scope env = pure cl) (hcell : ∀ y ∈ scope.names, y.2 ≠ .cell) (hkind : scope.kind = .function)
    (hnames : ∀ y ∈ scope.names, y.2 = .local → scope.names.lookup y.1 = some .local) (hx : scope.names.lookup x = some .local)
    (hl : env.kindOf y = some .local) (hL : env.locals = L) (hp : env.scope.kind = .function)
    (he : ∀ C a v h m, Rl a v → a ∈ xs → h.Ns C m → m x = some v → Kp s.heap h → Ev prog w A (compEnvC scope cl C env) h elt (fun y _ => G a y))
    (h : ∀ D ys s', s.heap.get? D = none → s'.heap.IsList D ys → Paired G xs ys.toList → FS h₀ r L S (upd m y (.ref D)) O s' → Wx prog w A env rest Q E s')
    (hs : ∀ x, foldedSetIterable iter env x = pure x) : Wx prog w A env (.Assign [.Name y py] (.ListComp elt [⟨.Name x px, iter, [], 0⟩] scope pos) spos :: rest) Q E s := by
  subst hL
  refine ⟨wpAny_execs_cons (wpAny_Assign_ListComp_free (fun _ => true) (fun v y => G (dec v) y) hsw hclos hcell hkind hnames hx hl (by rw [hp]; rfl) (wpAny_mono src (fun xv s₁ h₁ => wpAny_mono h₁ (fun it s₂ h₂ => ?_) fun _ _ z => z) fun _ _ z => z) hs)⟩
  obtain ⟨I, fp, St, rfl, W, hst, hfp, hI, k2⟩ := h₂
  have hIok := F.newOk hI
  have F₂ := F.keeps k2
  have hk3 : ∀ s₃ : Shared, (∀ b o, b ∉ [I] → s₂.heap.get? b = some o → s₃.heap.get? b = some o) → Kp s.heap s₃.heap := fun s₃ hk b o e =>
    hk b o (by simp; rintro rfl; rw [e] at hI; cases hI) (kHeap k2 b o e)
  refine ⟨I, fp, [I], _, _, St, m, rfl, W, hz, hst, hfp, by simp; rintro rfl; exact hIok.1 (.head _), F₂.ns, ⟨?_, ?_⟩, ?_⟩
  · intro C i v s₃ m₃ E' _ hv hn hm hk _
    exact wpAny_tests_nil ⟨rfl, kRefl _⟩
  · intro C i v s₃ m₃ E' _ hv hp hn hm hk _
    obtain ⟨a, ha, hr⟩ := hv
    have hd := hdec _ _ hr
    exact wpAny_mono ((he C a v s₃.heap m₃ hr (List.mem_of_getElem? ha) hn hm (hk3 s₃ hk)).out s₃ E' (kpRefl _)) (fun y s₄ z => ⟨by rw [hd]; exact z.1, z.2⟩) fun _ _ z => z
  · intro D h' tk ys vs hD hlD _ hlen hP hF hn hk
    have hpair := paired_filter xs Rl dec hdec (fun _ => true) G vs ys.toList hlen hP hF
    rw [filter_tt] at hpair
    exact (h D ys _ (noneBack (kOf k2) hD) hlD hpair (F₂.two hn (fun b o h1 h2 e => hk b o h1 h2 e) hIok)).out
theorem pick8 (items : Array Value) : slicePick items none (some 8) none = (items.toList.take 8).toArray := by
  rcases Nat.lt_or_ge items.size 8 with h | h
  · have e : slicePick items none (some 8) none = slicePick items none (some (items.size : Int)) none := by
      unfold slicePick sliceBounds
      have h1 : min (8 : Int) (items.size : Int) = (items.size : Int) := by omega
      have h2 : ¬ ((items.size : Int) < 0) := by omega
      simp [h1, h2]
    rw [e, slicePick_upto items items.size (Nat.le_refl _)]
    have h2 : items.toList.length = items.size := by simp
    rw [List.take_of_length_le (by omega), List.take_of_length_le (by omega)]
  · have := slicePick_upto items 8 h
    exact this
theorem src8 {value p pos D} {vs : List Value} {k8 p8} (hA : A.handled = none) (hv : Ev prog w A env s.heap value (isV (.ref D))) (hD : s.heap.IsList D vs.toArray) (hz : vs.length ≤ sizeLine)
    (ht : ∀ o r, letTemporaryGo value o r = pure ()) (P : Nat → Value → Prop) (hP : ∀ i v, (vs.take 8)[i]? = some v → P i v) (n : Nat) (hn : (vs.take 8).length = n) :
    wpAny (model prog w) A (eval (.Subscript value (.Slice none (some (.Constant (.int 8) k8 p8)) none p) pos) env) (fun xv s₁ => wpAny (model prog w) A (pyIter xv) (fun it s₂ => ∃ I fp St, it = .ref I ∧ Walks prog w A I fp [I] n P St ∧ St 0 s₂.heap ∧ (∀ b ∈ fp, b < s₂.heap.objs.size) ∧ s.heap.get? I = none ∧ Keeps s s₂) E s₁) E s := by
  refine wpAny_Subscript_list_slice (wpAny_mono (hv.out s E (kpRefl _)) (fun o s₁ y => evalPart_none_step (evalPart_some_step (wpAny_Constant_int ?_))) fun _ _ z => z) ht
  obtain ⟨rfl, k1⟩ := y
  obtain ⟨oD, hoD, rD⟩ := hD
  refine ⟨D, vs.toArray, none, some 8, rfl, ⟨oD, kHeap k1 _ _ hoD, rD⟩, by simpa using hz, ?_, ?_, ?_⟩
  · exact .none
  · exact .int _ _
  rw [pick8]
  generalize hS : ({ s₁ with toks := s₁.toks + 1 } : Shared) = s₂
  have k2 : Keeps s s₂ := by rw [← hS]; exact kTok k1 _
  clear hS
  have hg : ∀ (h : Heap) (o1 o2 : Obj), o2.isFreed = false → ((h.push o1).push o2).get? (h.objs.size + 1) = some o2 := fun h o1 o2 ho => by
    have := Heap.get?_push_size (h.push o1) (o := o2) ho
    rwa [Heap.size_push] at this
  have hl2 : ((s₂.heap.push { cls := .type "slice", data := .fields #[.none, .int 8 s₁.toks, .none] }).push { cls := .type "list", data := .seq (vs.toArray.toList.take 8).toArray }).IsList (s₂.heap.objs.size + 1) (vs.take 8).toArray :=
    ⟨_, hg _ _ _ rfl, rfl, _, rfl⟩
  have hsz2 : ((s₂.heap.push { cls := .type "slice", data := .fields #[.none, .int 8 s₁.toks, .none] }).push { cls := .type "list", data := .seq (vs.toArray.toList.take 8).toArray }).objs.size = s₂.heap.objs.size + 2 := by rw [Heap.size_push, Heap.size_push]
  have k3 : Keeps s { s₂ with heap := (s₂.heap.push { cls := .type "slice", data := .fields #[.none, .int 8 s₁.toks, .none] }).push { cls := .type "list", data := .seq (vs.toArray.toList.take 8).toArray } } := kPush (kPush k2 _ s₂.toks) _ s₂.toks
  refine wpAny_pyIter_list hl2 ⟨_, _, _, rfl, Walks.re (Walks.list hA _ (s₂.heap.objs.size + 1) (by show s₂.heap.objs.size + 1 ≠ _; rw [hsz2]; exact Nat.ne_of_lt (Nat.lt_succ_self _)) (vs.take 8).toArray) (by simpa using hn) (fun i v hv => hP i v (by simpa using hv)), ⟨⟨_, Heap.get?_push_size _ rfl, rfl, rfl⟩, ?_⟩, ?_, ?_, ?_⟩
  · obtain ⟨o, ho, q⟩ := hl2; exact ⟨o, Heap.get?_push_of_some _ ho, q⟩
  · intro b hb
    rw [Heap.size_push]
    rcases List.mem_cons.mp hb with rfl | hb
    · exact Nat.lt_succ_self _
    · rw [List.mem_singleton.mp hb]
      show s₂.heap.objs.size + 1 < _
      rw [hsz2]; exact Nat.lt_succ_of_lt (Nat.lt_succ_self _)
  · exact noneBack (kOf k3) (fresh_of (Nat.le_refl _))
  · exact kPush k3 _ _
theorem Ev.and3 {s₀ : Heap} {x y z pos} (hx : Ev prog w A env s₀ x (isB true)) (hy : Ev prog w A env s₀ y (isB true)) (hz : Ev prog w A env s₀ z (isB true)) : Ev prog w A env s₀ (.BoolOp .And [x, y, z] pos) (isB true) := .mk fun s E k => by
  show wpAny (model prog w) A (do
    let v ← eval x env
    standAt pos
    let t ← holding [v] (truthy v)
    match BoolOp.And, t with
    | .And, false | .Or, true => pure v
    | _, _ => boolOp pos .And [eval y env, eval z env]) _ E s
  refine wpAny_bind (wpAny_mono (hx.out s E k) (fun v s₁ y1 => wpAny_bind (wpAny_standAt (wpAny_bind (wpAny_holding ?_)))) fun _ _ z => z)
  obtain ⟨rfl, k1⟩ := y1
  refine wpAny_truthy_bool ?_
  show wpAny (model prog w) A (do
    let v ← eval y env
    standAt pos
    let t ← holding [v] (truthy v)
    match BoolOp.And, t with
    | .And, false | .Or, true => pure v
    | _, _ => boolOp pos .And [eval z env]) _ E s₁
  refine wpAny_bind (wpAny_mono (hy.out s₁ E (kT k k1)) (fun v s₂ y2 => wpAny_bind (wpAny_standAt (wpAny_bind (wpAny_holding ?_)))) fun _ _ z => z)
  obtain ⟨rfl, k2⟩ := y2
  refine wpAny_truthy_bool ?_
  exact wpAny_mono (hz.out s₂ E (kT (kT k k1) k2)) (fun v s₃ y3 => ⟨y3.1, kTrans k1 (kTrans k2 y3.2)⟩) fun _ _ z => z
end
end Mine
end PartH1
section PartF11
open PySem PySem.W PyProof.Rows PySem.Spec PySem.Calls
set_option Elab.async false
set_option maxRecDepth 100000
set_option maxHeartbeats 8000000
set_option linter.unusedVariables false
namespace Mine
theorem g_drawn (w : World) : nsIn (hd.heap_39 w.params) mainGlobals (Str.ofString "_law_drawn") = some (some (.ref 88)) := by k_is
theorem g_done (w : World) : nsIn (hd.heap_39 w.params) mainGlobals (Str.ofString "_law_done") = some (some (.ref 83)) := by k_is
theorem g_signs (w : World) : nsIn (hd.heap_39 w.params) mainGlobals (Str.ofString "_law_signs") = some (some (.ref 93)) := by k_is
theorem g_weight (w : World) : nsIn (hd.heap_39 w.params) mainGlobals (Str.ofString "_law_weight") = some (some (.ref 100)) := by k_is
theorem g_filemode (w : World) : nsIn (hd.heap_39 w.params) mainGlobals (Str.ofString "filemode") = some (some (.ref 68)) := by k_is
theorem g_imode (w : World) : nsIn (hd.heap_39 w.params) mainGlobals (Str.ofString "S_IMODE") = some (some (.ref 21)) := by k_is
noncomputable def WS (x : Str) (base above : Int) : Int := ((signs x).map (wv base above)).sum
noncomputable def PlainLaw : Prop := ∀ ks : List Int, ks.length ≤ 8 → (∀ n ∈ ks, 0 ≤ n ∧ n < 1260) →
  (∀ (i : Nat) p, (toksF (ks.foldl stepD dr0).sen.cps.toList (ks.foldl stepD dr0).sen.cps.toList.length 0)[i]? = some p → p.2.length ≤ 1000 ∧
    OkT (((toksF (ks.foldl stepD dr0).sen.cps.toList (ks.foldl stepD dr0).sen.cps.toList.length 0).take i).foldl stepT ⟨4096 * (ks.sum % 16) + 493, "", 12⟩) p) ∧
  (∀ z ∈ [("u" : Str), "g", "o"], ((ks.foldl stepD dr0).f z).length ≤ 4 ∧ ∀ x ∈ signs ((ks.foldl stepD dr0).f z), x ∈ [("r" : Str), "w", "x", "s"]) ∧
  Txt.join "" (sgns ((toksF (ks.foldl stepD dr0).sen.cps.toList (ks.foldl stepD dr0).sen.cps.toList.length 0).foldl stepT ⟨4096 * (ks.sum % 16) + 493, "", 12⟩).mode) =
    (at1 "?pc?d?b?-?l?s???" (ks.sum % 16).toNat ++ signs3 ((ks.foldl stepD dr0).f "u") "-xSs") ++ (signs3 ((ks.foldl stepD dr0).f "g") "-xSs" ++ signs3 ((ks.foldl stepD dr0).f "o") "-xTt") ∧
  Builtin.bitAnd ((toksF (ks.foldl stepD dr0).sen.cps.toList (ks.foldl stepD dr0).sen.cps.toList.length 0).foldl stepT ⟨4096 * (ks.sum % 16) + 493, "", 12⟩).mode 61440 = 4096 * (ks.sum % 16) ∧
  Builtin.bitAnd ((toksF (ks.foldl stepD dr0).sen.cps.toList (ks.foldl stepD dr0).sen.cps.toList.length 0).foldl stepT ⟨4096 * (ks.sum % 16) + 493, "", 12⟩).mode 4095 =
    WS ((ks.foldl stepD dr0).f "u") 64 2048 + WS ((ks.foldl stepD dr0).f "g") 8 1024 + WS ((ks.foldl stepD dr0).f "o") 1 512
section
variable {prog : Program} {w : World} {A : Around} {s₀ : Heap} {env : Env}
theorem Fn.later {f args} {P : Value → Heap → Prop} {h : Heap} (x : Fn prog w A s₀ f args P) (k : Kp s₀ h) : Fn prog w A h f args P := .mk fun s E kk => x.out s E (kpTrans k kk)
theorem lvIL {h₀ : Heap} {r s : Shared} {L : Addr} {S : List Addr} {m : Str → Option Value} {O : Heap → Prop} {x pos D} {l : List (Int × Tok)} (F : FS h₀ r L S m O s) (hv : m x = some (.ref D)) (hD : h₀.IsList D (intValues l).toArray) (hk : env.scope.kind = .function := by rfl) (hl : env.kindOf x = some .local := by rfl) (hL : env.locals = L := by rfl) (hd : (x == ("__debug__" : Str)) = false := by decide) :
    Ev prog w A env s.heap (.Name x pos) (isIL (l.map (·.1))) := .mk fun s' E k => wpAny_mono ((lvR F hv hk hl hL hd).out s' E k) (fun v s'' y => by
      obtain ⟨rfl, k'⟩ := y
      exact ⟨⟨D, l, rfl, hD.at fun o e => kT k k' _ _ (F.kb _ _ e), rfl⟩, k'⟩) fun _ _ z => z
theorem lvTup {h₀ : Heap} {r s : Shared} {L : Addr} {S : List Addr} {m : Str → Option Value} {O : Heap → Prop} {x pos a} {l : List Value} {i : Nat} {v : Value} {R : Value → Heap → Prop} (F : FS h₀ r L S m O s) (hv : m x = some (.ref a)) (ht : IsTup h₀ a l.toArray) (hi : l[i]? = some v) (hR : ∀ h, R v h) (hz : l.length ≤ 100) (hk : env.scope.kind = .function := by rfl) (hl : env.kindOf x = some .local := by rfl) (hL : env.locals = L := by rfl) (hd : (x == ("__debug__" : Str)) = false := by decide) :
    Ev prog w A env s.heap (.Name x pos) (isTupAt i R) := .mk fun s' E k => wpAny_mono ((lvR F hv hk hl hL hd).out s' E k) (fun u s'' y => by
      obtain ⟨rfl, k'⟩ := y
      exact ⟨⟨a, l, v, rfl, ht.keeps (kpTrans F.kb (kT k k')), hi, fits hz (by decide), fun h _ => hR h⟩, k'⟩) fun _ _ z => z
theorem Ev.eqS1 {l r pos} {x y : Str} (hl : Ev prog w A env s₀ l (isS x)) (hr : Ev prog w A env s₀ r (isS y)) (e : x = y) (hm : behindInMarks .Eq r = false := by with_unfolding_all rfl) : Ev prog w A env s₀ (.Compare l [.Eq] [r] pos) (isB true) := by
  subst e
  have := (Ev.eqS (pos := pos) hl hr hm).1
  rwa [beq_self_eq_true] at this
theorem Ev.eqI1 {l r pos} {i j : Int} (hl : Ev prog w A env s₀ l (isI i)) (hr : Ev prog w A env s₀ r (isI j)) (e : i = j) (hm : behindInMarks .Eq r = false := by with_unfolding_all rfl) : Ev prog w A env s₀ (.Compare l [.Eq] [r] pos) (isB true) := by
  subst e
  have := (Ev.eqI (pos := pos) hl hr hm).1
  rwa [beq_self_eq_true] at this
theorem signs3_len (a b : Str) : (signs3 a b).length = 3 := by
  unfold signs3
  rw [len_app, len_app]
  split <;> split <;> rfl
theorem fn_law (plain : PlainLaw) (B : Base w s₀) (hA : A.handled = none) (hd : A.depth + 2 < recursionLimit) (D : Addr) (vs : List Value) (ns : List Int) (hl : s₀.IsList D vs.toArray) (hi : IntsAre vs ns) (hlen : ns.length ≤ 63) :
    Fn prog w A s₀ 105 [.ref D] (isB true) := by
  refine Fn.of (binds := [(Str.ofString "script", .ref D)]) B.X B.nl (Nat.lt_of_succ_lt (Nat.lt_of_succ_lt hd)) (by k_is) (by k_is) (fun s => BindsTo.of_eq rfl) rfl (by decide) rfl rfl rfl ?_
  intro s L s₁ E' k k1 F
  have F₁ : FS s.heap s₁ L [] _ (fun h => True) s₁ := F.know trivial fun h h' hk ho => trivial
  clear F
  have hvl : vs.length = ns.length := hi.length
  refine Wx.out ?_
  refine wAssignComp (ns.take 8) isIg decI decI_is (fun a y => isIg (a % 1260) y) F₁ ?_ ?_ rfl (cl := []) rfl (by decide) rfl (by decide) rfl rfl rfl rfl ?_ ?_ (fun _ => rfl)
  · refine src8 (A := A.deeper _) (D := D) (vs := vs) hA ?_ ?_ ?_ ?_ _ ?_ _ ?_
    · exact lvR F₁ rfl
    · exact hl.at fun o e => F₁.kb _ _ (k _ _ e)
    · rw [hvl]; exact fits hlen (by decide)
    · exact fun _ _ => rfl
    · intro i v hv
      rw [List.getElem?_take] at hv
      split at hv
      · rename_i hi8
        obtain ⟨n, t, rfl, hn⟩ := hi.at i v hv
        exact ⟨n, by rw [List.getElem?_take, if_pos hi8]; exact hn, t, rfl⟩
      · cases hv
    · rw [List.length_take, List.length_take, hvl]
  · exact fits (List.length_take_le 8 ns) (by decide)
  · rintro C a v h m ⟨u, rfl⟩ _ hN hm kk
    exact Ev.mod (Ev.loc rfl rfl hN hm fun _ => ⟨_, rfl⟩) Ev.int (by decide)
  intro D1 ys s₂ hD1n hD1 hpair F₂
  obtain ⟨l, hly, hlm⟩ := paired_ints hpair
  have hD1' : s₂.heap.IsList D1 (intValues l).toArray := by rw [← hly]; exact hD1
  have hks : l.map (·.1) = (ns.take 8).map (· % 1260) := hlm
  have hk8 : (l.map (·.1)).length ≤ 8 := by rw [hks, List.length_map]; exact List.length_take_le 8 ns
  have hkr : ∀ n ∈ l.map (·.1), 0 ≤ n ∧ n < 1260 := by
    rw [hks]; intro n hn
    obtain ⟨a, _, rfl⟩ := List.mem_map.mp hn
    exact ⟨Int.emod_nonneg _ (by decide), Int.emod_lt_of_pos _ (by decide)⟩
  have hl8 : l.length ≤ 8 := by simpa using hk8
  obtain ⟨pgood, pf, pjoin, pfmt, pmode⟩ := plain (l.map (·.1)) hk8 hkr
  have hsum0 : 0 ≤ (l.map (·.1)).sum % 16 ∧ (l.map (·.1)).sum % 16 < 16 := ⟨Int.emod_nonneg _ (by decide), Int.emod_lt_of_pos _ (by decide)⟩
  have wf := wf_fold (l.map (·.1)) wf0
  rw [Nat.zero_add] at wf
  have hD1L : D1 ∉ L :: [] := fun hm => by
    obtain ⟨o, ho⟩ := F₁.alive D1 hm
    rw [ho] at hD1n; cases hD1n
  have hN : (cut s₂.heap [L]).IsList D1 (intValues l).toArray := by
    obtain ⟨o, ho, q⟩ := hD1'
    exact ⟨o, by rw [cut_get, if_neg hD1L]; exact ho, q⟩
  have kc2 : Kp s.heap (cut s₂.heap [L]) := F₂.kpCut
  have hfr := F₂.fr
  have G₂ := F₂.freeze
  clear F₂ hD1' hD1 hpair hly hlm F₁
  have BG : ∀ (s' : Shared), Kp (cut s₂.heap [L]) s'.heap → Base w s'.heap := fun s' kk => B.keeps (kpTrans k (kpTrans kc2 kk))
  generalize hke : l.map (·.1) = ks at *
  refine wSetI (i := ks.sum % 16) G₂ (Ev.mod (Ev.sumL hA (Ev.bname (BG _ G₂.kb) (g_sum w) b_sum (by decide) (fun _ => rfl) rfl rfl rfl rfl) (by rw [← hke]; exact lvIL G₂ rfl hN) rfl) Ev.int (by decide)) rfl rfl rfl rfl ?_
  intro tso s₄ G₄
  refine wAssign G₄ (P := isDrawn prog w s₄.heap (ks.foldl stepD dr0)) (Ev.callF1 (P1 := isV (.ref D1)) (Ev.kname (BG _ G₄.kb) (g_drawn w) (fun _ => rfl) rfl rfl rfl) ((BG _ G₄.kb).X 88 _ (by k_is)) rfl (lvR G₄ rfl) (fun v h kh hv => ?_)) rfl rfl rfl rfl ?_
  · obtain rfl := hv
    rw [← hke]
    exact Fn.later (fn_drawn (A := A.deeper _) (BG _ G₄.kb) hA (Nat.lt_of_succ_lt hd) D1 l (hN.at fun o e => G₄.kb _ _ e) hl8) kh
  rintro _ s₅ k5 ⟨a, tsen, dd, kvs, rfl, htup, hdict, hsets, hddn⟩ G₅ s₆ G₆ c₆
  generalize ks.foldl stepD dr0 = d at *
  have haL : a ∉ [L] := fun hm => by
    obtain rfl := List.mem_singleton.mp hm
    obtain ⟨o, ho, _, n, hd1⟩ := htup
    obtain ⟨o', _, _, ho', hd2, _⟩ := G₅.ns
    rw [ho] at ho'; cases ho'; rw [hd1] at hd2; cases hd2
  have hdL : dd ∉ [L] := fun hm => by
    obtain rfl := List.mem_singleton.mp hm
    obtain ⟨o, ho⟩ := G₄.alL
    rw [ho] at hddn; cases hddn
  have hT6 : IsTup (cut s₆.heap [L]) a #[.str d.sen tsen, .ref dd] := by
    obtain ⟨o, ho, q⟩ := htup
    exact ⟨o, by rw [cut_get, if_neg haL]; exact c₆.heap _ _ haL ho, q⟩
  have hK6 : (cut s₆.heap [L]).DictOf (strKind prog w) dd kvs := hdict.at fun o e => by rw [cut_get, if_neg hdL]; exact c₆.heap _ _ hdL e
  have kc6 : Kp (cut s₂.heap [L]) (cut s₆.heap [L]) := G₆.kpCut
  have H₆ := G₆.freeze
  clear htup hdict G₅
  have BH : ∀ (s' : Shared), Kp (cut s₆.heap [L]) s'.heap → Base w s'.heap := fun s' kk => BG s' (kpTrans kc6 kk)
  have hKd : ∀ (s' : Shared), Kp (cut s₆.heap [L]) s'.heap → s'.heap.DictOf (strKind prog w) dd kvs := fun s' kk => hK6.keep kk
  have hsl : d.sen.length ≤ 80 := sl_80 wf hk8
  obtain ⟨tu, hgu⟩ := hsets.get (x := "u") (by simp)
  obtain ⟨tg, hgg⟩ := hsets.get (x := "g") (by simp)
  obtain ⟨to, hgo⟩ := hsets.get (x := "o") (by simp)
  obtain ⟨pu1, pu2⟩ := pf "u" (by simp)
  obtain ⟨pg1, pg2⟩ := pf "g" (by simp)
  obtain ⟨po1, po2⟩ := pf "o" (by simp)
  refine wAssign H₆ (P := isV (.ref dd)) (Ev.itemT (i := 1) (lvTup H₆ rfl hT6 rfl (fun _ => rfl) (by simp)) Ev.int (by decide) (fun _ _ => rfl)) rfl rfl rfl rfl ?_
  rintro _ s₇ _ rfl _ s₈ H₈ _
  refine wSetI (i := ((toksF d.sen.cps.toList d.sen.cps.toList.length 0).foldl stepT ⟨4096 * (ks.sum % 16) + 493, "", 12⟩).mode) H₈ (Ev.callF2 (P1 := isI (4096 * (ks.sum % 16) + 493)) (P2 := isS d.sen) (Ev.kname (BH _ H₈.kb) (g_done w) (fun _ => rfl) rfl rfl rfl) ((BH _ H₈.kb).X 83 _ (by k_is)) rfl
    (Ev.add (Ev.mul Ev.int (lvI (t := tso) H₈ rfl) (IntMulOk.of_left (by decide))) Ev.int) (Ev.itemT (i := 0) (lvTup H₈ rfl hT6 rfl (fun _ => ⟨_, rfl⟩) (by simp)) Ev.int (by decide) (fun _ _ => rfl)) (fun _ _ _ x => x) (fun v1 v2 h kh hv1 hv2 => ?_)) rfl rfl rfl rfl ?_
  · obtain ⟨t1, rfl⟩ := hv1
    obtain ⟨t2, rfl⟩ := hv2
    exact Fn.later (fn_done (A := A.deeper _) (BH _ H₈.kb) hA hd d.sen (Nat.le_trans hsl (by decide)) _ t1 t2 pgood) kh
  intro tm s₁₀ H₁₀
  generalize ((toksF d.sen.cps.toList d.sen.cps.toList.length 0).foldl stepT ⟨4096 * (ks.sum % 16) + 493, "", 12⟩).mode = md at *
  have hu3 := signs3_len (d.f "u") "-xSs"
  have hg3 := signs3_len (d.f "g") "-xSs"
  have ho3 := signs3_len (d.f "o") "-xTt"
  have hat : (at1 "?pc?d?b?-?l?s???" (ks.sum % 16).toNat).length = 1 := rfl
  refine wSetS (y := at1 "?pc?d?b?-?l?s???" (ks.sum % 16).toNat ++ signs3 (d.f "u") "-xSs") H₁₀ (Ev.cat (Ev.itemS Ev.str (lvI (t := tso) H₁₀ rfl) hsum0.1 ?_ (by decide) (fun _ _ => rfl)) (Ev.callF2 (P1 := isS (d.f "u")) (P2 := isS "-xSs") (P := isS (signs3 (d.f "u") "-xSs")) (Ev.kname (BH _ H₁₀.kb) (g_signs w) (fun _ => rfl) rfl rfl rfl) ((BH _ H₁₀.kb).X 93 _ (by k_is)) rfl (Ev.itemD (lvR H₁₀ rfl) Ev.str (hKd _ H₁₀.kb) hgu (fun _ => ⟨_, rfl⟩) (fun _ _ => rfl)) Ev.str (fun _ _ _ x => x) (fun v1 v2 h kh hv1 hv2 => by
      obtain ⟨t1, rfl⟩ := hv1
      obtain ⟨t2, rfl⟩ := hv2
      exact Fn.later (fn_signs (A := A.deeper _) (BH _ H₁₀.kb) hA (Nat.lt_of_succ_lt hd) (d.f "u") "-xSs" pu1 (by decide) t1 t2) kh)) (by rw [hat, hu3]; exact fit1000 (by decide))) rfl rfl rfl rfl ?_
  · have h16 : ("?pc?d?b?-?l?s???" : Str).cps.size = 16 := by decide +kernel
    rw [Array.getD_eq_getD_getElem?, Array.getElem?_eq_getElem (by rw [h16]; exact (Int.toNat_lt hsum0.1).mpr hsum0.2)]; rfl
  intro tdu s₁₂ H₁₂
  have due_fits : (at1 "?pc?d?b?-?l?s???" (ks.sum % 16).toNat ++ signs3 (d.f "u") "-xSs").length + (signs3 (d.f "g") "-xSs" ++ signs3 (d.f "o") "-xTt").length ≤ sizeLine := by
    rw [len_app, len_app, hat, hu3, hg3, ho3, sizeIs]; decide
  refine wAddS (b := signs3 (d.f "g") "-xSs" ++ signs3 (d.f "o") "-xTt") H₁₂ ⟨tdu, rfl⟩ (Ev.cat (Ev.callF2 (P1 := isS (d.f "g")) (P2 := isS "-xSs") (P := isS (signs3 (d.f "g") "-xSs")) (Ev.kname (BH _ H₁₂.kb) (g_signs w) (fun _ => rfl) rfl rfl rfl) ((BH _ H₁₂.kb).X 93 _ (by k_is)) rfl (Ev.itemD (lvR H₁₂ rfl) Ev.str (hKd _ H₁₂.kb) hgg (fun _ => ⟨_, rfl⟩) (fun _ _ => rfl)) Ev.str (fun _ _ _ x => x) (fun v1 v2 h kh hv1 hv2 => by
      obtain ⟨t1, rfl⟩ := hv1
      obtain ⟨t2, rfl⟩ := hv2
      exact Fn.later (fn_signs (A := A.deeper _) (BH _ H₁₂.kb) hA (Nat.lt_of_succ_lt hd) (d.f "g") "-xSs" pg1 (by decide) t1 t2) kh)) (Ev.callF2 (P1 := isS (d.f "o")) (P2 := isS "-xTt") (P := isS (signs3 (d.f "o") "-xTt")) (Ev.kname (BH _ H₁₂.kb) (g_signs w) (fun _ => rfl) rfl rfl rfl) ((BH _ H₁₂.kb).X 93 _ (by k_is)) rfl (Ev.itemD (lvR H₁₂ rfl) Ev.str (hKd _ H₁₂.kb) hgo (fun _ => ⟨_, rfl⟩) (fun _ _ => rfl)) Ev.str (fun _ _ _ x => x) (fun v1 v2 h kh hv1 hv2 => by
      obtain ⟨t1, rfl⟩ := hv1
      obtain ⟨t2, rfl⟩ := hv2
      exact Fn.later (fn_signs (A := A.deeper _) (BH _ H₁₂.kb) hA (Nat.lt_of_succ_lt hd) (d.f "o") "-xTt" po1 (by decide) t1 t2) kh)) (by rw [hg3, ho3]; exact fit1000 (by decide))) rfl rfl rfl due_fits ?_
  intro tdu2 s₁₄ H₁₄
  refine wSetI (i := WS (d.f "u") 64 2048 + WS (d.f "g") 8 1024 + WS (d.f "o") 1 512) H₁₄ (Ev.add (Ev.add (Ev.callF3 (P1 := isS (d.f "u")) (P2 := isI 64) (P3 := isI 2048) (P := isI (WS (d.f "u") 64 2048)) (Ev.kname (BH _ H₁₄.kb) (g_weight w) (fun _ => rfl) rfl rfl rfl) ((BH _ H₁₄.kb).X 100 _ (by k_is)) rfl (Ev.itemD (lvR H₁₄ rfl) Ev.str (hKd _ H₁₄.kb) hgu (fun _ => ⟨_, rfl⟩) (fun _ _ => rfl)) Ev.int Ev.int (fun _ _ _ x => x) (fun _ _ _ x => x) (fun v1 v2 v3 h kh hv1 hv2 hv3 => by
      obtain ⟨t1, rfl⟩ := hv1
      obtain ⟨t2, rfl⟩ := hv2
      obtain ⟨t3, rfl⟩ := hv3
      exact Fn.later (fn_weight (A := A.deeper _) (BH _ H₁₄.kb) hA (Nat.lt_of_succ_lt hd) (d.f "u") pu2 64 2048 t1 t2 t3) kh)) (Ev.callF3 (P1 := isS (d.f "g")) (P2 := isI 8) (P3 := isI 1024) (P := isI (WS (d.f "g") 8 1024)) (Ev.kname (BH _ H₁₄.kb) (g_weight w) (fun _ => rfl) rfl rfl rfl) ((BH _ H₁₄.kb).X 100 _ (by k_is)) rfl (Ev.itemD (lvR H₁₄ rfl) Ev.str (hKd _ H₁₄.kb) hgg (fun _ => ⟨_, rfl⟩) (fun _ _ => rfl)) Ev.int Ev.int (fun _ _ _ x => x) (fun _ _ _ x => x) (fun v1 v2 v3 h kh hv1 hv2 hv3 => by
      obtain ⟨t1, rfl⟩ := hv1
      obtain ⟨t2, rfl⟩ := hv2
      obtain ⟨t3, rfl⟩ := hv3
      exact Fn.later (fn_weight (A := A.deeper _) (BH _ H₁₄.kb) hA (Nat.lt_of_succ_lt hd) (d.f "g") pg2 8 1024 t1 t2 t3) kh))) (Ev.callF3 (P1 := isS (d.f "o")) (P2 := isI 1) (P3 := isI 512) (P := isI (WS (d.f "o") 1 512)) (Ev.kname (BH _ H₁₄.kb) (g_weight w) (fun _ => rfl) rfl rfl rfl) ((BH _ H₁₄.kb).X 100 _ (by k_is)) rfl (Ev.itemD (lvR H₁₄ rfl) Ev.str (hKd _ H₁₄.kb) hgo (fun _ => ⟨_, rfl⟩) (fun _ _ => rfl)) Ev.int Ev.int (fun _ _ _ x => x) (fun _ _ _ x => x) (fun v1 v2 v3 h kh hv1 hv2 hv3 => by
      obtain ⟨t1, rfl⟩ := hv1
      obtain ⟨t2, rfl⟩ := hv2
      obtain ⟨t3, rfl⟩ := hv3
      exact Fn.later (fn_weight (A := A.deeper _) (BH _ H₁₄.kb) hA (Nat.lt_of_succ_lt hd) (d.f "o") po2 1 512 t1 t2 t3) kh))) rfl rfl rfl rfl ?_
  intro twt s₁₆ H₁₆
  have B₁₆ := BH _ H₁₆.kb
  refine wRet H₁₆ (P := isB true) (Ev.and3 (Ev.eqS1 (x := Txt.join "" (sgns md)) (Ev.callF1 (P1 := isI md) (Ev.kname B₁₆ (g_filemode w) (fun _ => rfl) rfl rfl rfl) (B₁₆.X 68 _ (by k_is)) rfl (lvI (t := tm) H₁₆ rfl) (fun v h kh hv => ?_)) (lvS (t := tdu2) H₁₆ rfl) ?_)
    (Ev.eqI1 (i := Builtin.bitAnd md 61440) (Ev.callF1 (P1 := isI md) (Ev.kname B₁₆ (g_ifmt w) (fun _ => rfl) rfl rfl rfl) (B₁₆.X 28 _ (by k_is)) rfl (lvI (t := tm) H₁₆ rfl) (fun v h kh hv => ?_)) (Ev.mul Ev.int (lvI (t := tso) H₁₆ rfl) (IntMulOk.of_left (by decide))) ?_)
    (Ev.eqI1 (i := Builtin.bitAnd md 4095) (Ev.callF1 (P1 := isI md) (Ev.kname B₁₆ (g_imode w) (fun _ => rfl) rfl rfl rfl) (B₁₆.X 21 _ (by k_is)) rfl (lvI (t := tm) H₁₆ rfl) (fun v h kh hv => ?_)) (lvI (t := twt) H₁₆ rfl) ?_)) ?_
  · obtain ⟨t1, rfl⟩ := hv
    exact Fn.later (fn_filemode (A := A.deeper _) B₁₆ hA hd md t1) kh
  · exact pjoin
  · obtain ⟨t1, rfl⟩ := hv
    exact Fn.later (fn_ifmt (A := A.deeper _) B₁₆ (Nat.lt_of_succ_lt hd) md t1) kh
  · exact pfmt
  · obtain ⟨t1, rfl⟩ := hv
    exact Fn.later (fn_imode (A := A.deeper _) B₁₆ (Nat.lt_of_succ_lt hd) md t1) kh
  · exact pmode
  · intro v s' hv H'
    exact ⟨hv, (H'.thaw (kpTrans kc2 kc6) hfr).out k1⟩
end
end Mine
end PartF11
section PartP1
open PySem PySem.W PyProof.Rows PySem.Spec PySem.Calls
set_option Elab.async false
set_option maxRecDepth 100000
set_option maxHeartbeats 8000000
set_option linter.unusedVariables false
namespace Mine
theorem below_zero {P : Nat → Prop} : ∀ k, k < 0 → P k := fun k h => absurd h (Nat.not_lt_zero k)
theorem below_succ {P : Nat → Prop} {n : Nat} (hn : P n) (h : ∀ k, k < n → P k) : ∀ k, k < n + 1 → P k := fun k hk => (Nat.lt_or_eq_of_le (Nat.le_of_lt_succ hk)).elim (h k) fun e => e ▸ hn
theorem three {P : Nat → Prop} (h0 : P 0) (h1 : P 1) (h2 : P 2) : ∀ k, k < 3 → P k := below_succ h2 (below_succ h1 (below_succ h0 below_zero))
theorem six {P : Nat → Prop} (h0 : P 0) (h1 : P 1) (h2 : P 2) (h3 : P 3) (h4 : P 4) (h5 : P 5) : ∀ k, k < 6 → P k := below_succ h5 (below_succ h4 (below_succ h3 (three h0 h1 h2)))
noncomputable def st4 (v : Nat) : Str := picks "rwxs" 4 (v : Int)
noncomputable def bn (v i : Nat) : Nat := if v.testBit i then 1 else 0
noncomputable def EN (c v : Nat) : Nat := match c with
  | 0 => 256 * bn v 0 + 128 * bn v 1 + 64 * bn v 2 + 2048 * bn v 3
  | 1 => 32 * bn v 0 + 16 * bn v 1 + 8 * bn v 2 + 1024 * bn v 3
  | _ => 4 * bn v 0 + 2 * bn v 1 + bn v 2 + 512 * bn v 3
noncomputable def EC (c v : Nat) : Int := ((EN c v : Nat) : Int)
noncomputable def cN (c : Nat) : Str := match c with
  | 0 => "u"
  | 1 => "g"
  | _ => "o"
noncomputable def newM (op cur t : Nat) : Nat := match op with
  | 0 => cur ||| t
  | 1 => cur - (cur &&& t)
  | 2 => t
  | 3 => cur ^^^ t
  | 4 => cur &&& t
  | _ => 15 - t
noncomputable def lastOf (op : Nat) : Int := [14, 15, 22, 36, 37, 27].getD op 0
theorem newM_lt : ∀ op : Fin 6, ∀ cur t : Fin 16, newM op.val cur.val t.val < 16 := by decide +kernel
noncomputable def bop (op : Nat) (a b : Bool) : Bool := match op with
  | 0 => a || b
  | 1 => a && !b
  | 2 => b
  | 3 => a ^^ b
  | 4 => a && b
  | _ => !b
theorem b_sub : ∀ a b : Fin 16, ∀ k : Fin 4, (a.val - (a.val &&& b.val)).testBit k.val = (a.val.testBit k.val && !b.val.testBit k.val) := by decide +kernel
theorem b_not : ∀ b : Fin 16, ∀ k : Fin 4, (15 - b.val).testBit k.val = !b.val.testBit k.val := by decide +kernel
theorem newM_bit {op : Nat} (ho : op < 6) (a b : Fin 16) (k : Fin 4) : (newM op a.val b.val).testBit k.val = bop op (a.val.testBit k.val) (b.val.testBit k.val) :=
  six (P := fun op => (newM op a.val b.val).testBit k.val = bop op (a.val.testBit k.val) (b.val.testBit k.val)) (Nat.testBit_or ..) (b_sub a b k) rfl (Nat.testBit_xor ..) (Nat.testBit_and ..) (b_not b k) op ho
theorem keep_bit : ∀ op : Fin 6, ∀ a b : Bool, (at1 (stayss.getD op.val "") ((if a = true then 2 else 0) + (if b = true then 1 else 0)) == ("1" : Str)) = bop op.val a b := by decide +kernel
theorem has_bit : ∀ v : Fin 16, ∀ k : Fin 4, Txt.contains (st4 v.val) (at1 "rwxs" k.val) = v.val.testBit k.val := by decide +kernel
theorem st_cat : ∀ v : Fin 16, st4 v.val = cat ((signs "rwxs").filter fun r => Txt.contains (st4 v.val) r) := by decide +kernel
theorem sign_at : ∀ r ∈ signs "rwxs", ∃ k : Fin 4, r = at1 "rwxs" k.val := by decide +kernel
theorem new_str (op : Fin 6) (cur t : Fin 16) : newS (stayss.getD op.val "") (st4 t.val) (st4 cur.val) = st4 (newM op.val cur.val t.val) := by
  have hv := st_cat ⟨newM op.val cur.val t.val, newM_lt op cur t⟩
  refine Eq.trans ?_ hv.symm
  unfold newS
  congr 1
  refine List.filter_congr fun r hr => ?_
  obtain ⟨k, rfl⟩ := sign_at r hr
  refine Eq.trans ?_ (has_bit ⟨newM op.val cur.val t.val, newM_lt op cur t⟩ k).symm
  unfold keepR
  rw [has_bit cur k, has_bit t k, keep_bit, newM_bit op.isLt cur t k]
theorem h_and : ∀ c : Fin 3, ∀ a b : Fin 16, EN c.val a.val &&& EN c.val b.val = EN c.val (a.val &&& b.val) := by decide +kernel
theorem h_or : ∀ c : Fin 3, ∀ a b : Fin 16, EN c.val (a.val ||| b.val) + EN c.val (a.val &&& b.val) = EN c.val a.val + EN c.val b.val := by decide +kernel
theorem h_xor : ∀ c : Fin 3, ∀ a b : Fin 16, EN c.val (a.val ^^^ b.val) + 2 * EN c.val (a.val &&& b.val) = EN c.val a.val + EN c.val b.val := by decide +kernel
theorem h_sub : ∀ c : Fin 3, ∀ a b : Fin 16, EN c.val (a.val - (a.val &&& b.val)) + EN c.val (a.val &&& b.val) = EN c.val a.val := by decide +kernel
theorem h_not : ∀ c : Fin 3, ∀ t : Fin 16, EN c.val (15 - t.val) + EN c.val t.val = EN c.val 15 := by decide +kernel
theorem and_nat (a b : Nat) : Builtin.bitAnd (a : Int) (b : Int) = ((a &&& b : Nat) : Int) := bitAnd_pp (Int.natCast_nonneg a) (Int.natCast_nonneg b)
theorem sub_nat {a b c : Nat} (h : a + b = c) : (c : Int) - (b : Int) = (a : Int) := by subst h; rw [Int.natCast_add]; exact Int.add_sub_cancel _ _
theorem kept_is (op : Nat) (ho : op < 6) (c : Fin 3) (a t : Fin 16) : keptI (lastOf op) (EC c.val a.val) (EC c.val t.val) (EC c.val 15) = EC c.val (newM op a.val t.val) := by
  have hA : Builtin.bitAnd (EC c.val a.val) (EC c.val t.val) = ((EN c.val (a.val &&& t.val) : Nat) : Int) := by unfold EC; rw [and_nat, h_and c a t]
  refine six (P := fun op => keptI (lastOf op) (EC c.val a.val) (EC c.val t.val) (EC c.val 15) = EC c.val (newM op a.val t.val)) ?_ ?_ rfl ?_ hA (sub_nat (h_not c t)) op ho
  · show Builtin.bitOr _ _ = EC c.val (a.val ||| t.val)
    rw [bitOr_and, hA]
    unfold EC
    rw [← Int.natCast_add]
    exact sub_nat (h_or c a t)
  · show _ - Builtin.bitAnd _ _ = EC c.val (a.val - (a.val &&& t.val))
    rw [hA]
    exact sub_nat (h_sub c a t)
  · show Builtin.bitXor _ _ = EC c.val (a.val ^^^ t.val)
    rw [bitXor_and, hA]
    unfold EC
    rw [← Int.natCast_add]
    exact sub_nat (h_xor c a t)
theorem every_is : ∀ c : Fin 3, everyI (cN c.val) = EC c.val 15 := by decide +kernel
theorem told_is : ∀ c : Fin 3, ∀ t : Fin 16, toldI (cN c.val) (st4 t.val) = EC c.val t.val := by decide +kernel
theorem EN_in : ∀ c : Fin 3, ∀ v : Fin 16, EN c.val v.val &&& EN c.val 15 = EN c.val v.val := by decide +kernel
theorem EN_out : ∀ c d : Fin 3, ∀ v : Fin 16, c ≠ d → EN c.val v.val &&& EN d.val 15 = 0 := by decide +kernel
theorem EN_le : ∀ c : Fin 3, ∀ v : Fin 16, EN c.val v.val ≤ EN c.val 15 := by decide +kernel
end Mine
end PartP1
section PartP2
open PySem PySem.W PyProof.Rows PySem.Spec PySem.Calls
set_option Elab.async false
set_option maxRecDepth 100000
set_option maxHeartbeats 8000000
set_option linter.unusedVariables false
namespace Mine
abbrev Pc := Int × Str
noncomputable def cds (p : Pc) : List Nat := p.2.cps.toList
noncomputable def PW (p : Pc) : Prop := p.1 = 1 ∧ cds p ≠ [] ∧ ∀ c ∈ cds p, letter c = true
noncomputable def PO (p : Pc) : Prop := ∃ c tail, cds p = c :: tail ∧ letter c = false ∧
  ((tail = [] ∧ (∀ h, letter h = true → (tabI ⟨#[c, h]⟩).isSome = false) ∧ (tabI ⟨#[c]⟩).getD (-1) = p.1) ∨ ∃ e, tail = [e] ∧ tabI ⟨#[c, e]⟩ = some p.1)
noncomputable def flat (qs : List (Pc × Pc)) : List Pc := qs.flatMap fun q => [q.1, q.2]
noncomputable def codes (ts : List Pc) : List Nat := ts.flatMap cds
theorem codes_cons (p : Pc) (ts : List Pc) : codes (p :: ts) = cds p ++ codes ts := rfl
theorem getD_pre (pre post : List Nat) (c : Nat) : (pre ++ c :: post).getD pre.length 0 = c := by simp [List.getD_eq_getElem?_getD]
theorem drop_pre (pre post : List Nat) (k : Nat) : (pre ++ post).drop (pre.length + k) = post.drop k := by simp [List.drop_append]
theorem sub_pre (pre wd post : List Nat) : sub (pre ++ (wd ++ post)) pre.length (pre.length + wd.length) = ⟨wd.toArray⟩ := by
  unfold sub
  have := drop_pre pre (wd ++ post) 0
  rw [Nat.add_zero, List.drop_zero] at this
  rw [this, Nat.add_sub_cancel_left, List.take_left']
  rfl
theorem str_cds (p : Pc) : (⟨(cds p).toArray⟩ : Str) = p.2 := by
  obtain ⟨k, ⟨a⟩⟩ := p; simp [cds]
theorem take_letters : ∀ (wd post : List Nat), (∀ c ∈ wd, letter c = true) → (∀ c r, post = c :: r → letter c = false) → (wd ++ post).takeWhile letter = wd
  | [], [], _, _ => rfl
  | [], c :: r, _, h => by simp [h c r rfl]
  | w :: wd, post, hw, h => by
    rw [List.cons_append, List.takeWhile_cons, hw w (by simp)]
    simp [take_letters wd post (fun c hc => hw c (by simp [hc])) h]
theorem tok_word {p : Pc} (hp : PW p) (pre post : List Nat) (h : ∀ c r, post = c :: r → letter c = false) :
    tEnd (pre ++ (cds p ++ post)) pre.length = pre.length + (cds p).length ∧ tKind (pre ++ (cds p ++ post)) pre.length = p.1 := by
  obtain ⟨h1, h2, h3⟩ := hp
  cases hw : cds p with
  | nil => exact absurd hw h2
  | cons c tail =>
    rw [hw] at h3
    have hl : letter ((pre ++ (c :: tail ++ post)).getD pre.length 0) = true := by rw [List.cons_append, getD_pre]; exact h3 c (by simp)
    refine ⟨?_, by unfold tKind; rw [if_pos hl, h1]⟩
    unfold tEnd
    rw [if_pos hl]
    unfold wEnd
    rw [drop_pre, List.cons_append, List.drop_succ_cons, List.drop_zero, take_letters tail post (fun x hx => h3 x (by simp [hx])) h, List.length_cons]
    omega
theorem tok_op {p : Pc} (hp : PO p) (pre post : List Nat) {l : Nat} {r : List Nat} (hpost : post = l :: r) (hl : letter l = true) :
    tEnd (pre ++ (cds p ++ post)) pre.length = pre.length + (cds p).length ∧ tKind (pre ++ (cds p ++ post)) pre.length = p.1 := by
  obtain ⟨c, tail, hw, hc, hh⟩ := hp
  rw [hw]
  have hl0 : letter ((pre ++ (c :: tail ++ post)).getD pre.length 0) = false := by rw [List.cons_append, getD_pre]; exact hc
  have hE : tEnd (pre ++ (c :: tail ++ post)) pre.length = pre.length + (c :: tail).length := by
    unfold tEnd
    rw [if_neg (by rw [hl0]; simp)]
    rcases hh with ⟨rfl, hn, hk⟩ | ⟨e, rfl, hk⟩
    · have hs : sub (pre ++ ([c] ++ post)) pre.length (pre.length + 2) = ⟨#[c, l]⟩ := by
        subst hpost
        exact sub_pre pre [c, l] r
      rw [hs, hn l hl, Bool.and_false, if_neg (by simp)]; rfl
    · have hs : sub (pre ++ ([c, e] ++ post)) pre.length (pre.length + 2) = ⟨#[c, e]⟩ := sub_pre pre [c, e] post
      rw [hs, hk, if_pos]
      · rfl
      · simp
  refine ⟨hE, ?_⟩
  unfold tKind
  rw [if_neg (by rw [hl0]; simp), hE, sub_pre]
  rcases hh with ⟨rfl, hn, hk⟩ | ⟨e, rfl, hk⟩
  · exact hk
  · rw [show (⟨[c, e].toArray⟩ : Str) = ⟨#[c, e]⟩ from rfl, hk]; rfl
theorem toks_one {p : Pc} (hne : cds p ≠ []) (pre post : List Nat) (hE : tEnd (pre ++ (cds p ++ post)) pre.length = pre.length + (cds p).length) (hK : tKind (pre ++ (cds p ++ post)) pre.length = p.1) :
    toksF (pre ++ (cds p ++ post)) ((pre ++ (cds p ++ post)).length - pre.length) pre.length = p :: toksF ((pre ++ cds p) ++ post) (((pre ++ cds p) ++ post).length - (pre ++ cds p).length) (pre ++ cds p).length := by
  have hlt : pre.length < (pre ++ (cds p ++ post)).length := by
    have : 0 < (cds p).length := List.length_pos_iff.mpr hne
    simp only [List.length_append]; omega
  rw [toksF_step hlt, hE, hK, sub_pre, str_cds]
  rw [show (pre ++ cds p) ++ post = pre ++ (cds p ++ post) from List.append_assoc .., List.length_append (as := pre) (bs := cds p)]
theorem po_head {p : Pc} (hp : PO p) : ∃ c t, cds p = c :: t ∧ letter c = false := by obtain ⟨c, t, h, hc, _⟩ := hp; exact ⟨c, t, h, hc⟩
theorem pw_head {p : Pc} (hp : PW p) : ∃ c t, cds p = c :: t ∧ letter c = true := by
  obtain ⟨_, h2, h3⟩ := hp
  cases hw : cds p with
  | nil => exact absurd hw h2
  | cons c t => exact ⟨c, t, rfl, h3 c (by rw [hw]; simp)⟩
theorem flat_head {qs : List (Pc × Pc)} (h : ∀ q ∈ qs, PO q.1 ∧ PW q.2) : ∀ c r, codes (flat qs) = c :: r → letter c = false := by
  cases qs with
  | nil => intro c r e; cases e
  | cons q qs =>
    intro c r e
    obtain ⟨c', t, hc, hl⟩ := po_head (h q (by simp)).1
    have : codes (flat (q :: qs)) = cds q.1 ++ (cds q.2 ++ codes (flat qs)) := by simp [flat, codes]
    rw [this, hc] at e
    cases e; exact hl
theorem toks_flat : ∀ (qs : List (Pc × Pc)) (pre : List Nat), (∀ q ∈ qs, PO q.1 ∧ PW q.2) → toksF (pre ++ codes (flat qs)) ((pre ++ codes (flat qs)).length - pre.length) pre.length = flat qs
  | [], pre, _ => by simp [flat, codes, toksF]
  | q :: qs, pre, h => by
    obtain ⟨h1, h2⟩ := h q (by simp)
    have hqs : ∀ q ∈ qs, PO q.1 ∧ PW q.2 := fun q hq => h q (by simp [hq])
    have e : codes (flat (q :: qs)) = cds q.1 ++ (cds q.2 ++ codes (flat qs)) := by simp [flat, codes]
    obtain ⟨l, t, hl, hlet⟩ := pw_head h2
    obtain ⟨c, t', hc, _⟩ := po_head h1
    obtain ⟨a1, a2⟩ := tok_op h1 pre (cds q.2 ++ codes (flat qs)) (l := l) (r := t ++ codes (flat qs)) (by rw [hl]; rfl) hlet
    rw [e, toks_one (by rw [hc]; simp) pre _ a1 a2]
    obtain ⟨b1, b2⟩ := tok_word h2 (pre ++ cds q.1) (codes (flat qs)) (flat_head hqs)
    rw [toks_one h2.2.1 (pre ++ cds q.1) _ b1 b2, toks_flat qs _ hqs]
    rfl
theorem toks_all {w0 : Pc} {qs : List (Pc × Pc)} (h0 : PW w0) (h : ∀ q ∈ qs, PO q.1 ∧ PW q.2) {cs : List Nat} (hcs : cs = codes (w0 :: flat qs)) : toksF cs cs.length 0 = w0 :: flat qs := by
  subst hcs
  obtain ⟨b1, b2⟩ := tok_word h0 [] (codes (flat qs)) (flat_head h)
  have := toks_one h0.2.1 [] (codes (flat qs)) b1 b2
  rw [toks_flat qs _ h] at this
  simpa [codes_cons] using this
end Mine
end PartP2
section PartP3
open PySem PySem.W PyProof.Rows PySem.Spec PySem.Calls
set_option Elab.async false
set_option maxRecDepth 100000
set_option maxHeartbeats 8000000
set_option linter.unusedVariables false
namespace Mine
theorem mod12 (n : Nat) : n &&& 4095 = n % 4096 := Nat.and_two_pow_sub_one_eq_mod n 12
theorem and_low (s low m : Nat) (h1 : low < 4096) (h2 : m < 4096) : (4096 * s + low) &&& m = low &&& m := by
  have e : 4095 &&& m = m := by rw [Nat.and_comm, mod12]; exact Nat.mod_eq_of_lt h2
  have e2 : (4096 * s + low) &&& 4095 = low := by rw [mod12, Nat.mul_add_mod]; exact Nat.mod_eq_of_lt h1
  rw [← e, ← Nat.and_assoc, e2, e]
theorem and_high (s low : Nat) (h1 : low < 4096) (h2 : s < 16) : (4096 * s + low) &&& 61440 = 4096 * s := by
  have e15 : s &&& 15 = s := (Nat.and_two_pow_sub_one_eq_mod s 4).trans (Nat.mod_eq_of_lt h2)
  have a1 : ∀ i, (4096 * s + low).testBit i = _ := fun i => Nat.testBit_two_pow_mul_add s (i := 12) (b := low) h1 i
  have a2 : ∀ i, (61440 : Nat).testBit i = _ := fun i => Nat.testBit_two_pow_mul_add 15 (i := 12) (b := 0) (by decide) i
  have a3 : ∀ i, (4096 * s).testBit i = _ := fun i => Nat.testBit_two_pow_mul_add s (i := 12) (b := 0) (by decide) i
  apply Nat.eq_of_testBit_eq
  intro i
  rw [Nat.testBit_and, a1, a2, a3]
  split
  · simp
  · rw [← Nat.testBit_and, e15]
noncomputable def lowN (v : Nat → Nat) : Nat := EN 0 (v 0) + EN 1 (v 1) + EN 2 (v 2)
noncomputable def lowM (v : Nat → Nat) : Int := ((lowN v : Nat) : Int)
noncomputable def M (s : Nat) (v : Nat → Nat) : Int := ((4096 * s + lowN v : Nat) : Int)
structure V16 (v : Nat → Nat) : Prop where
  out : ∀ c, c < 3 → v c < 16
theorem low_lt {v : Nat → Nat} (h : V16 v) : lowN v < 4096 :=
  Nat.lt_of_le_of_lt (Nat.add_le_add (Nat.add_le_add (EN_le 0 ⟨v 0, h.out 0 (by decide)⟩) (EN_le 1 ⟨v 1, h.out 1 (by decide)⟩)) (EN_le 2 ⟨v 2, h.out 2 (by decide)⟩)) (by decide +kernel)
theorem add_or {a b : Nat} (h : a &&& b = 0) : a + b = a ||| b := by
  have := nat_or_add_and a b
  rw [h, Nat.add_zero] at this
  exact this.symm
theorem EN_apart {c d : Fin 3} (hcd : c ≠ d) (x y : Fin 16) : EN c.val x.val &&& EN d.val y.val = 0 := by
  rw [← EN_in d y, Nat.and_comm (EN d.val y.val), ← Nat.and_assoc, EN_out c d x hcd, Nat.zero_and]
theorem low_or {v : Nat → Nat} (h : V16 v) : lowN v = (EN 0 (v 0) ||| EN 1 (v 1)) ||| EN 2 (v 2) := by
  have h01 := EN_apart (c := 0) (d := 1) (by decide) ⟨v 0, h.out 0 (by decide)⟩ ⟨v 1, h.out 1 (by decide)⟩
  have h02 := EN_apart (c := 0) (d := 2) (by decide) ⟨v 0, h.out 0 (by decide)⟩ ⟨v 2, h.out 2 (by decide)⟩
  have h12 := EN_apart (c := 1) (d := 2) (by decide) ⟨v 1, h.out 1 (by decide)⟩ ⟨v 2, h.out 2 (by decide)⟩
  have e : (EN 0 (v 0) ||| EN 1 (v 1)) &&& EN 2 (v 2) = 0 := by
    rw [Nat.and_or_distrib_right, show EN 0 (v 0) &&& EN 2 (v 2) = 0 from h02, show EN 1 (v 1) &&& EN 2 (v 2) = 0 from h12]; rfl
  unfold lowN
  rw [add_or (show EN 0 (v 0) &&& EN 1 (v 1) = 0 from h01), add_or e]
theorem had_low {v : Nat → Nat} (h : V16 v) {c : Nat} (hc : c < 3) : lowN v &&& EN c 15 = EN c (v c) := by
  have i0 := fun d : Fin 3 => EN_out 0 d ⟨v 0, h.out 0 (by decide)⟩
  have i1 := fun d : Fin 3 => EN_out 1 d ⟨v 1, h.out 1 (by decide)⟩
  have i2 := fun d : Fin 3 => EN_out 2 d ⟨v 2, h.out 2 (by decide)⟩
  rw [low_or h, Nat.and_or_distrib_right, Nat.and_or_distrib_right]
  refine three (P := fun c => EN 0 (v 0) &&& EN c 15 ||| EN 1 (v 1) &&& EN c 15 ||| EN 2 (v 2) &&& EN c 15 = EN c (v c)) ?_ ?_ ?_ c hc
  · show EN 0 (v 0) &&& EN 0 15 ||| EN 1 (v 1) &&& EN 0 15 ||| EN 2 (v 2) &&& EN 0 15 = EN 0 (v 0)
    rw [show EN 0 (v 0) &&& EN 0 15 = EN 0 (v 0) from EN_in 0 ⟨v 0, h.out 0 (by decide)⟩, show EN 1 (v 1) &&& EN 0 15 = 0 from i1 0 (by decide), show EN 2 (v 2) &&& EN 0 15 = 0 from i2 0 (by decide), Nat.or_zero, Nat.or_zero]
  · show EN 0 (v 0) &&& EN 1 15 ||| EN 1 (v 1) &&& EN 1 15 ||| EN 2 (v 2) &&& EN 1 15 = EN 1 (v 1)
    rw [show EN 1 (v 1) &&& EN 1 15 = EN 1 (v 1) from EN_in 1 ⟨v 1, h.out 1 (by decide)⟩, show EN 0 (v 0) &&& EN 1 15 = 0 from i0 1 (by decide), show EN 2 (v 2) &&& EN 1 15 = 0 from i2 1 (by decide), Nat.or_zero, Nat.zero_or]
  · show EN 0 (v 0) &&& EN 2 15 ||| EN 1 (v 1) &&& EN 2 15 ||| EN 2 (v 2) &&& EN 2 15 = EN 2 (v 2)
    rw [show EN 2 (v 2) &&& EN 2 15 = EN 2 (v 2) from EN_in 2 ⟨v 2, h.out 2 (by decide)⟩, show EN 0 (v 0) &&& EN 2 15 = 0 from i0 2 (by decide), show EN 1 (v 1) &&& EN 2 15 = 0 from i1 2 (by decide), Nat.or_zero, Nat.zero_or]
theorem EN_15 : ∀ c : Fin 3, EN c.val 15 < 4096 := by decide +kernel
theorem had_is {v : Nat → Nat} (h : V16 v) (s : Nat) {c : Nat} (hc : c < 3) : Builtin.bitAnd (M s v) (EC c 15) = EC c (v c) := by
  unfold M EC
  rw [and_nat, and_low s _ _ (low_lt h) (EN_15 ⟨c, hc⟩), had_low h hc]
theorem part_is {v : Nat → Nat} (h : V16 v) (s : Nat) {c : Nat} (hc : c < 3) (m : Nat) (hm : EN c 15 &&& m = m) : Builtin.bitAnd (M s v) (m : Int) = Builtin.bitAnd (EC c (v c)) (m : Int) := by
  unfold M EC
  rw [and_nat, and_nat, ← had_low h hc, Nat.and_assoc, hm, ← and_low s (lowN v) m (low_lt h) (Nat.lt_of_le_of_lt (hm ▸ Nat.and_le_left) (EN_15 ⟨c, hc⟩))]
theorem high_is {v : Nat → Nat} (h : V16 v) {s : Nat} (hs : s < 16) : Builtin.bitAnd (M s v) 61440 = 4096 * (s : Int) := by
  unfold M
  rw [show (61440 : Int) = ((61440 : Nat) : Int) from rfl, and_nat, and_high s _ (low_lt h) hs]; rfl
theorem low_is {v : Nat → Nat} (h : V16 v) (s : Nat) : Builtin.bitAnd (M s v) 4095 = lowM v := by
  unfold M lowM
  rw [show (4095 : Int) = ((4095 : Nat) : Int) from rfl, and_nat, mod12, Nat.mul_add_mod, Nat.mod_eq_of_lt (low_lt h)]
noncomputable def updN (v : Nat → Nat) (c x : Nat) : Nat → Nat := fun i => if i = c then x else v i
theorem V16.upd {v : Nat → Nat} (h : V16 v) {c x : Nat} (hx : x < 16) : V16 (updN v c x) := ⟨fun i hi => by
  unfold updN; split
  · exact hx
  · exact h.out i hi⟩
theorem swap_last (a b c d : Nat) : a + b + c + d = d + b + c + a := by ac_rfl
theorem swap_mid (a b c d : Nat) : a + b + c + d = a + d + c + b := by ac_rfl
theorem low_upd (v : Nat → Nat) {c : Nat} (hc : c < 3) (x : Nat) : lowN (updN v c x) + EN c (v c) = lowN v + EN c x :=
  three (P := fun c => lowN (updN v c x) + EN c (v c) = lowN v + EN c x) (swap_last (EN 0 x) (EN 1 (v 1)) (EN 2 (v 2)) (EN 0 (v 0))) (swap_mid (EN 0 (v 0)) (EN 1 x) (EN 2 (v 2)) (EN 1 (v 1))) (Nat.add_right_comm (EN 0 (v 0) + EN 1 (v 1)) (EN 2 x) (EN 2 (v 2))) c hc
theorem move {a b p q : Nat} (h : b + p = a + q) : (a : Int) - (p : Int) + (q : Int) = (b : Int) := by
  rw [Int.sub_eq_add_neg, Int.add_right_comm, ← Int.natCast_add, ← h, Int.natCast_add, Int.add_neg_cancel_right]
theorem doOne_is {v : Nat → Nat} (h : V16 v) (s : Nat) {c op t : Nat} (hc : c < 3) (ho : op < 6) (ht : t < 16) : doOne (lastOf op) (st4 t) (M s v) (cN c) = M s (updN v c (newM op (v c) t)) := by
  have h1 : everyI (cN c) = EC c 15 := every_is ⟨c, hc⟩
  have h2 : toldI (cN c) (st4 t) = EC c t := told_is ⟨c, hc⟩ ⟨t, ht⟩
  have h3 : keptI (lastOf op) (EC c (v c)) (EC c t) (EC c 15) = EC c (newM op (v c) t) := kept_is op ho ⟨c, hc⟩ ⟨v c, h.out c hc⟩ ⟨t, ht⟩
  unfold doOne
  rw [h1, h2, had_is h s hc, h3]
  unfold M EC
  refine move ?_
  rw [Nat.add_assoc, low_upd v hc, Nat.add_assoc]
end Mine
end PartP3
section PartP4
open PySem PySem.W PyProof.Rows PySem.Spec PySem.Calls
set_option Elab.async false
set_option maxRecDepth 100000
set_option maxHeartbeats 8000000
set_option linter.unusedVariables false
namespace Mine
structure Rel (f : Str → Str) (v : Nat → Nat) : Prop where
  ok : V16 v
  eq : ∀ c, c < 3 → f (cN c) = st4 (v c)
theorem cN_of {z : Str} (h : z ∈ [("u" : Str), "g", "o"]) : ∃ c, c < 3 ∧ z = cN c := by
  simp only [List.mem_cons, List.not_mem_nil, or_false] at h
  rcases h with rfl | rfl | rfl
  · exact ⟨0, by decide, rfl⟩
  · exact ⟨1, by decide, rfl⟩
  · exact ⟨2, by decide, rfl⟩
theorem cN_inj : ∀ a b : Fin 3, cN a.val = cN b.val → a = b := by decide +kernel
theorem fold_both {op t : Nat} (ho : op < 6) (ht : t < 16) (s : Nat) : ∀ (l : List Str) (f : Str → Str) (v : Nat → Nat), (∀ z ∈ l, z ∈ [("u" : Str), "g", "o"]) → Rel f v →
    ∃ v', Rel (l.foldl (fun f one => putF f one (newS (stayss.getD op "") (st4 t) (f one))) f) v' ∧ l.foldl (doOne (lastOf op) (st4 t)) (M s v) = M s v'
  | [], f, v, _, R => ⟨v, R, rfl⟩
  | z :: l, f, v, hz, R => by
    obtain ⟨c, hc, rfl⟩ := cN_of (hz z (by simp))
    have hn : newM op (v c) t < 16 := newM_lt ⟨op, ho⟩ ⟨v c, R.ok.out c hc⟩ ⟨t, ht⟩
    have R' : Rel (putF f (cN c) (newS (stayss.getD op "") (st4 t) (f (cN c)))) (updN v c (newM op (v c) t)) := by
      refine ⟨R.ok.upd hn, fun i hi => ?_⟩
      unfold putF updN
      by_cases e : i = c
      · subst e
        rw [if_pos rfl, if_pos rfl, R.eq i hi]
        exact new_str ⟨op, ho⟩ ⟨v i, R.ok.out i hi⟩ ⟨t, ht⟩
      · rw [if_neg e, if_neg (fun x => e (by have := cN_inj ⟨i, hi⟩ ⟨c, hc⟩ x; exact congrArg Fin.val this)), R.eq i hi]
    obtain ⟨v', h1, h2⟩ := fold_both ho ht s l _ _ (fun y hy => hz y (by simp [hy])) R'
    refine ⟨v', h1, ?_⟩
    rw [List.foldl_cons, doOne_is R.ok s hc ho ht]
    exact h2
noncomputable def AllOk : Dn → List Pc → Prop
  | _, [] => True
  | st, p :: ts => (p.2.length ≤ 1000 ∧ OkT st p) ∧ AllOk (stepT st p) ts
theorem AllOk.app : ∀ {st : Dn} {a b : List Pc}, AllOk st a → AllOk (a.foldl stepT st) b → AllOk st (a ++ b)
  | _, [], _, _, h => h
  | _, _ :: _, _, h1, h2 => ⟨h1.1, AllOk.app h1.2 h2⟩
theorem AllOk.at : ∀ {st : Dn} {ts : List Pc}, AllOk st ts → ∀ (i : Nat) p, ts[i]? = some p → p.2.length ≤ 1000 ∧ OkT ((ts.take i).foldl stepT st) p
  | _, _ :: _, h, 0, p, hp => by cases hp; exact h.1
  | _, _ :: _, h, i + 1, p, hp => AllOk.at h.2 i p hp
  | _, [], _, i, p, hp => by simp at hp
noncomputable def opN (n : Int) : Nat := (n / 7 % 6).toNat
noncomputable def toN (n : Int) : Nat := (n / 42 % 15 + 1).toNat
noncomputable def whN (n : Int) : Nat := (n % 7 + 1).toNat
theorem opN_lt (n : Int) : opN n < 6 := op_lt n
theorem toN_lt (n : Int) : toN n < 16 := mod_fin (n / 42) (k := 15) (by decide) (P := fun m => (m + 1).toNat < 16) (by decide +kernel)
theorem told_st (n : Int) : toldS n = st4 (toN n) := mod_fin (n / 42) (k := 15) (by decide) (P := fun m => picks "rwxs" 4 (m + 1) = st4 (m + 1).toNat) (by decide +kernel)
noncomputable def wPc (n : Int) : Pc := (1, whoS n)
noncomputable def tPc (n : Int) : Pc := (1, toldS n)
noncomputable def dPc (n : Int) : Pc := (lastOf (opN n), deedS n)
noncomputable def cPc : Pc := (12, ",")
noncomputable def lettersOf (x : Str) : Bool := !x.cps.toList.isEmpty && x.cps.toList.all letter
theorem pw_of {x : Str} (h : lettersOf x = true) : PW (1, x) := by
  unfold lettersOf at h
  simp only [Bool.and_eq_true, Bool.not_eq_true', List.all_eq_true] at h
  exact ⟨rfl, fun e => by rw [show x.cps.toList = [] from e] at h; simp at h, h.2⟩
theorem w_pw (n : Int) : PW (wPc n) := pw_of (mod_fin n (k := 7) (by decide) (P := fun m => lettersOf (picks "ugo" 3 (m + 1)) = true) (by decide +kernel))
theorem t_pw (n : Int) : PW (tPc n) := pw_of (mod_fin (n / 42) (k := 15) (by decide) (P := fun m => lettersOf (picks "rwxs" 4 (m + 1)) = true) (by decide +kernel))
theorem tab_letter (c : Nat) {h : Nat} (hl : letter h = true) : (tabI ⟨#[c, h]⟩).isSome = false := by
  have key : ∀ kv ∈ tabP, letter (kv.1.cps.getD 1 0) = false := by decide +kernel
  unfold tabI
  cases e : tabP.find? fun kv => kv.1 = ⟨#[c, h]⟩ with
  | none => rfl
  | some kv =>
    have h1 := List.find?_some e
    have h2 := key kv (List.mem_of_find?_eq_some e)
    simp only [decide_eq_true_eq] at h1
    rw [h1] at h2
    rw [show letter ((⟨#[c, h]⟩ : Str).cps.getD 1 0) = letter h from rfl, hl] at h2
    cases h2
theorem po1 {k : Int} {x : Str} (c : Nat) (hx : x.cps.toList = [c]) (hl : letter c = false) (hk : (tabI ⟨#[c]⟩).getD (-1) = k) : PO (k, x) := ⟨c, [], hx, hl, .inl ⟨rfl, fun h hh => tab_letter c hh, hk⟩⟩
theorem po2 {k : Int} {x : Str} (c e : Nat) (hx : x.cps.toList = [c, e]) (hl : letter c = false) (hk : tabI ⟨#[c, e]⟩ = some k) : PO (k, x) := ⟨c, [e], hx, hl, .inr ⟨e, rfl, hk⟩⟩
theorem c_po : PO cPc := po1 44 (by decide +kernel) (by decide +kernel) (by decide +kernel)
theorem d_po (n : Int) : PO (dPc n) :=
  six (P := fun i => PO (lastOf i, deeds.getD i "")) (po1 43 (by decide +kernel) (by decide +kernel) (by decide +kernel)) (po1 45 (by decide +kernel) (by decide +kernel) (by decide +kernel)) (po1 61 (by decide +kernel) (by decide +kernel) (by decide +kernel))
    (po2 43 61 (by decide +kernel) (by decide +kernel) (by decide +kernel)) (po2 45 61 (by decide +kernel) (by decide +kernel) (by decide +kernel)) (po2 61 61 (by decide +kernel) (by decide +kernel) (by decide +kernel)) _ (opN_lt n)
theorem last_ok {op : Nat} (h : op < 6) : (lastOf op == 1) = false ∧ (lastOf op == 12) = false := by
  have key : ∀ op : Fin 6, (lastOf op.val == 1) = false ∧ (lastOf op.val == 12) = false := by decide +kernel
  exact key ⟨op, h⟩
structure Inv (s : Nat) (st0 : Dn) (d : Dr) (w0 : Pc) (qs : List (Pc × Pc)) (v : Nat → Nat) : Prop where
  w : PW w0
  q : ∀ x ∈ qs, PO x.1 ∧ PW x.2
  sen : d.sen.cps.toList = codes (w0 :: flat qs)
  rel : Rel d.f v
  who : ∀ x ∈ signs d.who, x ∈ [("u" : Str), "g", "o"]
  end' : (w0 :: flat qs).foldl stepT st0 = ⟨M s v, d.who, 1⟩
  ok : AllOk st0 (w0 :: flat qs)
theorem flat_app (a b : List (Pc × Pc)) : flat (a ++ b) = flat a ++ flat b := by simp [flat]
theorem codes_app (a b : List Pc) : codes (a ++ b) = codes a ++ codes b := by simp [codes]
theorem str_app (x y : Str) : (x ++ y).cps.toList = x.cps.toList ++ y.cps.toList := by
  show (x.cps ++ y.cps).toList = _
  simp
theorem one_deed {s : Nat} {who : Str} {f : Str → Str} {v : Nat → Nat} (hw : ∀ x ∈ signs who, x ∈ [("u" : Str), "g", "o"]) (R : Rel f v) (n : Int) :
    ∃ v', Rel ((signs who).foldl (fun f one => putF f one (newS (staysS n) (toldS n) (f one))) f) v' ∧ [dPc n, tPc n].foldl stepT ⟨M s v, who, 1⟩ = ⟨M s v', who, 1⟩ ∧ AllOk ⟨M s v, who, 1⟩ [dPc n, tPc n] := by
  obtain ⟨v', h1, h2⟩ := fold_both (opN_lt n) (toN_lt n) s (signs who) f v hw R
  obtain ⟨l1, l2⟩ := last_ok (opN_lt n)
  have s1 : stepT ⟨M s v, who, 1⟩ (dPc n) = ⟨M s v, who, lastOf (opN n)⟩ := by
    unfold stepT dPc
    simp only [l1, Bool.false_and]
    rfl
  have s2 : stepT ⟨M s v, who, lastOf (opN n)⟩ (tPc n) = ⟨M s v', who, 1⟩ := by
    unfold stepT tPc
    simp only [l2, Bool.and_false, told_st]
    rw [if_neg (by decide), if_pos (by decide), h2]
  refine ⟨v', ?_, ?_, ?_⟩
  · rw [told_st]; exact h1
  · rw [List.foldl_cons, s1, List.foldl_cons, s2]; rfl
  · refine ⟨⟨?_, ?_⟩, ⟨?_, ?_⟩, trivial⟩
    · exact Nat.le_trans (deed_len n) (by decide)
    · intro h; rw [show ((dPc n).1 == 1) = false from l1] at h; cases h
    · exact Nat.le_trans (told_ok n).2 (by decide)
    · intro _ _
      rw [s1]
      exact ⟨hw, (told_ok n).1⟩
end Mine
end PartP4
section PartP5
open PySem PySem.W PyProof.Rows PySem.Spec PySem.Calls
set_option Elab.async false
set_option maxRecDepth 100000
set_option maxHeartbeats 8000000
set_option linter.unusedVariables false
namespace Mine
noncomputable def v0 : Nat → Nat := fun c => if c = 0 then 7 else 5
theorem v0_ok : V16 v0 := ⟨fun c _ => by unfold v0; split <;> decide⟩
theorem rel0 : Rel f0 v0 := by
  exact ⟨v0_ok, three (by decide +kernel) (by decide +kernel) (by decide +kernel)⟩
theorem low0 : lowN v0 = 493 := by decide +kernel
noncomputable def s0 (s : Nat) : Dn := ⟨M s v0, "", 12⟩
theorem cds_mk (k : Int) (x : Str) : cds (k, x) = x.cps.toList := rfl
theorem who_step (m : Int) (w : Str) (n : Int) : stepT ⟨m, w, 12⟩ (wPc n) = ⟨m, whoS n, 1⟩ := rfl
theorem who_len (n : Int) : (wPc n).2.length ≤ 1000 := Nat.le_trans (who_ok n).2 (by decide)
theorem flat_one (a b : Pc) : flat [(a, b)] = [a, b] := rfl
theorem codes_two (a b : Pc) : codes [a, b] = cds a ++ cds b := by simp [codes]
theorem sen_deed (n : Int) : (deedS n ++ toldS n).cps.toList = codes [dPc n, tPc n] := by
  rw [str_app, codes_two]; rfl
theorem ops_ok (n : Int) : PO (dPc n) ∧ PW (tPc n) := ⟨d_po n, t_pw n⟩
theorem inv_first (s : Nat) (n : Int) : ∃ qs v, Inv s (s0 s) (stepD dr0 n) (wPc n) qs v := by
  have hm : midD dr0 n = ⟨("" : Str) ++ whoS n, whoS n, f0⟩ := by
    unfold midD
    rw [if_pos (show cond dr0 n = true from rfl)]; rfl
  obtain ⟨v', h1, h2, h3⟩ := one_deed (s := s) (who_ok n).1 rel0 n
  refine ⟨[(dPc n, tPc n)], v', w_pw n, ?_, ?_, ?_, ?_, ?_, ?_⟩
  · intro x hx
    obtain rfl := List.mem_singleton.mp hx
    exact ops_ok n
  · unfold stepD
    rw [hm, str_app, str_app, sen_deed]
    rfl
  · unfold stepD
    rw [hm]
    exact h1
  · unfold stepD
    rw [hm]
    exact (who_ok n).1
  · unfold stepD
    rw [hm, flat_one, List.foldl_cons, s0, who_step]
    exact h2
  · refine ⟨⟨who_len n, ?_⟩, ?_⟩
    · intro _ h; cases h
    · rw [s0, who_step]
      exact h3
theorem flat_snoc (qs : List (Pc × Pc)) (a b : Pc) (w0 : Pc) : w0 :: flat (qs ++ [(a, b)]) = (w0 :: flat qs) ++ [a, b] := by rw [flat_app]; rfl
theorem inv_deed {s : Nat} {st0 : Dn} {d : Dr} {w0 : Pc} {qs : List (Pc × Pc)} {v : Nat → Nat} (I : Inv s st0 d w0 qs v) (n : Int) :
    ∃ qs' v', Inv s st0 ⟨d.sen ++ (deedS n ++ toldS n), d.who, (signs d.who).foldl (fun f one => putF f one (newS (staysS n) (toldS n) (f one))) d.f⟩ w0 qs' v' := by
  obtain ⟨v', h1, h2, h3⟩ := one_deed (s := s) I.who I.rel n
  refine ⟨qs ++ [(dPc n, tPc n)], v', I.w, ?_, ?_, h1, I.who, ?_, ?_⟩
  · intro x hx
    rcases List.mem_append.mp hx with hx | hx
    · exact I.q x hx
    · obtain rfl := List.mem_singleton.mp hx
      exact ops_ok n
  · rw [str_app, sen_deed, I.sen, flat_snoc, codes_app]
  · rw [flat_snoc, List.foldl_append, I.end']
    exact h2
  · rw [flat_snoc]
    refine I.ok.app ?_
    rw [I.end']
    exact h3
theorem inv_who {s : Nat} {st0 : Dn} {d : Dr} {w0 : Pc} {qs : List (Pc × Pc)} {v : Nat → Nat} (I : Inv s st0 d w0 qs v) (n : Int) :
    Inv s st0 ⟨d.sen ++ ("," ++ whoS n), whoS n, d.f⟩ w0 (qs ++ [(cPc, wPc n)]) v := by
  have s1 : stepT ⟨M s v, d.who, 1⟩ cPc = ⟨M s v, d.who, 12⟩ := rfl
  refine ⟨I.w, ?_, ?_, I.rel, (who_ok n).1, ?_, ?_⟩
  · intro x hx
    rcases List.mem_append.mp hx with hx | hx
    · exact I.q x hx
    · obtain rfl := List.mem_singleton.mp hx
      exact ⟨c_po, w_pw n⟩
  · rw [flat_snoc, codes_app, codes_two, str_app, str_app, I.sen]; rfl
  · rw [flat_snoc, List.foldl_append, I.end', List.foldl_cons, s1]
    rfl
  · rw [flat_snoc]
    refine I.ok.app ?_
    rw [I.end']
    refine ⟨⟨by decide, ?_⟩, ⟨who_len n, ?_⟩, trivial⟩
    · intro h; cases h
    · rw [s1]; intro _ h; cases h
theorem sen_ne {s : Nat} {st0 : Dn} {d : Dr} {w0 : Pc} {qs : List (Pc × Pc)} {v : Nat → Nat} (I : Inv s st0 d w0 qs v) : (d.sen == ("" : Str)) = false := by
  rw [beq_eq_false_iff_ne]
  intro e
  have h := I.sen
  rw [e, codes_cons] at h
  exact I.w.2.1 (List.append_eq_nil_iff.mp h.symm).1
theorem inv_step {s : Nat} {st0 : Dn} {d : Dr} {w0 : Pc} {qs : List (Pc × Pc)} {v : Nat → Nat} (I : Inv s st0 d w0 qs v) (n : Int) : ∃ qs' v', Inv s st0 (stepD d n) w0 qs' v' := by
  have hne := sen_ne I
  unfold stepD
  by_cases h : cond d n = true
  · have hm : midD d n = ⟨d.sen ++ ("," ++ whoS n), whoS n, d.f⟩ := by
      unfold midD
      rw [if_pos h, hne]; rfl
    rw [hm]
    exact inv_deed (inv_who I n) n
  · have hm : midD d n = d := by
      unfold midD
      rw [if_neg h]
    rw [hm]
    exact inv_deed I n
theorem inv_fold {s : Nat} {st0 : Dn} {w0 : Pc} : ∀ (ks : List Int) {d : Dr} {qs : List (Pc × Pc)} {v : Nat → Nat}, Inv s st0 d w0 qs v → ∃ qs' v', Inv s st0 (ks.foldl stepD d) w0 qs' v'
  | [], _, qs, v, I => ⟨qs, v, I⟩
  | n :: ks, _, _, _, I => by
    obtain ⟨_, _, I'⟩ := inv_step I n
    exact inv_fold ks I'
theorem read_all (s : Nat) (ks : List Int) : ∃ v, Rel (ks.foldl stepD dr0).f v ∧
    AllOk (s0 s) (toksF (ks.foldl stepD dr0).sen.cps.toList (ks.foldl stepD dr0).sen.cps.toList.length 0) ∧
    ((toksF (ks.foldl stepD dr0).sen.cps.toList (ks.foldl stepD dr0).sen.cps.toList.length 0).foldl stepT (s0 s)).mode = M s v := by
  cases ks with
  | nil =>
    refine ⟨v0, rel0, ?_, ?_⟩
    · exact trivial
    · rfl
  | cons n ks =>
    obtain ⟨_, _, I⟩ := inv_first s n
    obtain ⟨qs, v, J⟩ := inv_fold ks I
    rw [List.foldl_cons]
    rw [toks_all J.w J.q J.sen]
    refine ⟨v, J.rel, J.ok, ?_⟩
    rw [J.end']
end Mine
end PartP5
section PartP6
open PySem PySem.W PyProof.Rows PySem.Spec PySem.Calls
set_option Elab.async false
set_option maxRecDepth 100000
set_option maxHeartbeats 8000000
set_option linter.unusedVariables false
namespace Mine
theorem st_ok : ∀ v : Fin 16, (st4 v.val).length ≤ 4 ∧ ∀ x ∈ signs (st4 v.val), x ∈ [("r" : Str), "w", "x", "s"] := by decide +kernel
theorem ws_u : ∀ v : Fin 16, WS (st4 v.val) 64 2048 = EC 0 v.val := by decide +kernel
theorem ws_g : ∀ v : Fin 16, WS (st4 v.val) 8 1024 = EC 1 v.val := by decide +kernel
theorem ws_o : ∀ v : Fin 16, WS (st4 v.val) 1 512 = EC 2 v.val := by decide +kernel
noncomputable def rowOf (i : Nat) : List Cell := (tabRows.getD i (0, [])).2
theorem sgns_is (m : Int) : sgns m = [sgn 0 m (rowOf 0), sgn 1 m (rowOf 1), sgn 2 m (rowOf 2), sgn 3 m (rowOf 3), sgn 4 m (rowOf 4), sgn 5 m (rowOf 5), sgn 6 m (rowOf 6), sgn 7 m (rowOf 7), sgn 8 m (rowOf 8), sgn 9 m (rowOf 9)] := rfl
theorem join10 (a b c d e f g h i j : Str) : Txt.join "" [a, b, c, d, e, f, g, h, i, j] = (a ++ ((b ++ c) ++ d)) ++ (((e ++ f) ++ g) ++ ((h ++ i) ++ j)) := by
  have e0 : (Str.ofString "").cps = #[] := by decide +kernel
  show (⟨_⟩ : Str) = ⟨(a.cps ++ ((b.cps ++ c.cps) ++ d.cps)) ++ (((e.cps ++ f.cps) ++ g.cps) ++ ((h.cps ++ i.cps) ++ j.cps))⟩
  simp [e0]
theorem find_congr {α : Type} {p q : α → Bool} : ∀ {l : List α}, (∀ x ∈ l, p x = q x) → l.find? p = l.find? q
  | [], _ => rfl
  | x :: l, h => by
    rw [List.find?_cons, List.find?_cons, h x (by simp), find_congr (l := l) fun y hy => h y (by simp [hy])]
theorem sgn_is {v : Nat → Nat} (h : V16 v) (s : Nat) {c : Nat} (hc : c < 3) {i : Nat} (hi : i ≠ 0) {row : List Cell} (hr : ∀ x ∈ row, x.2.1 = ((x.2.1.toNat : Nat) : Int) ∧ EN c 15 &&& x.2.1.toNat = x.2.1.toNat) : sgn i (M s v) row = sgn i (EC c (v c)) row := by
  unfold sgn
  rw [find_congr (q := hit i (EC c (v c))) fun x hx => ?_]
  obtain ⟨h1, h2⟩ := hr x hx
  unfold hit
  rw [if_neg hi, if_neg hi, h1, part_is h s hc _ h2]
theorem sgn_0 {v : Nat → Nat} (h : V16 v) {s : Nat} (hs : s < 16) : sgn 0 (M s v) (rowOf 0) = at1 "?pc?d?b?-?l?s???" s := by
  have key : ∀ k : Fin 16, ((match (rowOf 0).find? (fun c => 4096 * ((k.val : Nat) : Int) == c.2.1) with | some c => c.2.2 | none => "?") : Str) = at1 "?pc?d?b?-?l?s???" k.val := by decide +kernel
  have := key ⟨s, hs⟩
  rw [← this]
  unfold sgn
  rw [find_congr (q := fun c => 4096 * ((s : Nat) : Int) == c.2.1) fun x hx => ?_]
  · rfl
  · unfold hit
    rw [if_pos rfl, high_is h hs]
noncomputable def rOk (c i : Nat) : Bool := (rowOf i).all fun x => decide (x.2.1 = ((x.2.1.toNat : Nat) : Int) ∧ EN c 15 &&& x.2.1.toNat = x.2.1.toNat)
theorem rOk_out {c i : Nat} (h : rOk c i = true) : ∀ x ∈ rowOf i, x.2.1 = ((x.2.1.toNat : Nat) : Int) ∧ EN c 15 &&& x.2.1.toNat = x.2.1.toNat := by
  unfold rOk at h
  rw [List.all_eq_true] at h
  intro x hx
  exact of_decide_eq_true (h x hx)
theorem rows_ok : rOk 0 1 = true ∧ rOk 0 2 = true ∧ rOk 0 3 = true ∧ rOk 1 4 = true ∧ rOk 1 5 = true ∧ rOk 1 6 = true ∧ rOk 2 7 = true ∧ rOk 2 8 = true ∧ rOk 2 9 = true := by decide +kernel
theorem sig_u : ∀ v : Fin 16, (sgn 1 (EC 0 v.val) (rowOf 1) ++ sgn 2 (EC 0 v.val) (rowOf 2)) ++ sgn 3 (EC 0 v.val) (rowOf 3) = signs3 (st4 v.val) "-xSs" := by decide +kernel
theorem sig_g : ∀ v : Fin 16, (sgn 4 (EC 1 v.val) (rowOf 4) ++ sgn 5 (EC 1 v.val) (rowOf 5)) ++ sgn 6 (EC 1 v.val) (rowOf 6) = signs3 (st4 v.val) "-xSs" := by decide +kernel
theorem sig_o : ∀ v : Fin 16, (sgn 7 (EC 2 v.val) (rowOf 7) ++ sgn 8 (EC 2 v.val) (rowOf 8)) ++ sgn 9 (EC 2 v.val) (rowOf 9) = signs3 (st4 v.val) "-xTt" := by decide +kernel
theorem written {v : Nat → Nat} (h : V16 v) {s : Nat} (hs : s < 16) : Txt.join "" (sgns (M s v)) = (at1 "?pc?d?b?-?l?s???" s ++ signs3 (st4 (v 0)) "-xSs") ++ (signs3 (st4 (v 1)) "-xSs" ++ signs3 (st4 (v 2)) "-xTt") := by
  obtain ⟨r1, r2, r3, r4, r5, r6, r7, r8, r9⟩ := rows_ok
  have hu := sig_u ⟨v 0, h.out 0 (by decide)⟩
  have hg := sig_g ⟨v 1, h.out 1 (by decide)⟩
  have ho := sig_o ⟨v 2, h.out 2 (by decide)⟩
  simp only at hu hg ho
  rw [sgns_is, sgn_0 h hs, sgn_is h s (c := 0) (by decide) (by decide) (rOk_out r1), sgn_is h s (c := 0) (by decide) (by decide) (rOk_out r2), sgn_is h s (c := 0) (by decide) (by decide) (rOk_out r3),
    sgn_is h s (c := 1) (by decide) (by decide) (rOk_out r4), sgn_is h s (c := 1) (by decide) (by decide) (rOk_out r5), sgn_is h s (c := 1) (by decide) (by decide) (rOk_out r6),
    sgn_is h s (c := 2) (by decide) (by decide) (rOk_out r7), sgn_is h s (c := 2) (by decide) (by decide) (rOk_out r8), sgn_is h s (c := 2) (by decide) (by decide) (rOk_out r9), join10, hu, hg, ho]
theorem plain : PlainLaw := by
  intro ks _ _
  have hs0 : 0 ≤ ks.sum % 16 ∧ ks.sum % 16 < 16 := ⟨Int.emod_nonneg _ (by decide), Int.emod_lt_of_pos _ (by decide)⟩
  obtain ⟨s, hs⟩ : ∃ s : Nat, ks.sum % 16 = (s : Int) := Int.eq_ofNat_of_zero_le hs0.1
  have hs16 : s < 16 := Int.ofNat_lt.mp (hs ▸ hs0.2)
  obtain ⟨v, R, hok, hmode⟩ := read_all s ks
  have e0 : (⟨4096 * (ks.sum % 16) + 493, "", 12⟩ : Dn) = s0 s := by unfold s0 M; rw [low0, hs]; rfl
  rw [e0, hmode, hs]
  have eu : (ks.foldl stepD dr0).f "u" = st4 (v 0) := R.eq 0 (by decide)
  have eg : (ks.foldl stepD dr0).f "g" = st4 (v 1) := R.eq 1 (by decide)
  have eo : (ks.foldl stepD dr0).f "o" = st4 (v 2) := R.eq 2 (by decide)
  refine ⟨fun i p hp => hok.at i p hp, ?_, ?_, high_is R.ok hs16, ?_⟩
  · intro z hz
    obtain ⟨c, hc, rfl⟩ := cN_of hz
    rw [R.eq c hc]
    exact st_ok ⟨v c, R.ok.out c hc⟩
  · rw [eu, eg, eo, Int.toNat_natCast]
    exact written R.ok hs16
  · rw [eu, eg, eo, low_is R.ok s]
    have hu := ws_u ⟨v 0, R.ok.out 0 (by decide)⟩
    have hg := ws_g ⟨v 1, R.ok.out 1 (by decide)⟩
    have ho := ws_o ⟨v 2, R.ok.out 2 (by decide)⟩
    simp only at hu hg ho
    rw [hu, hg, ho]; rfl
end Mine
end PartP6
section PartZ1
open PySem PySem.W PyProof.Rows
set_option Elab.async false
set_option maxRecDepth 100000
set_option maxHeartbeats 8000000
theorem Mine.last (plain : Mine.PlainLaw) : PySem.Challenge.rw_mg0043_01.Holds := Mine.hd (by
  k_fill
  intro w s₀ s₁ mg mb G Y fa o pm cd doc dV kV ho hd hcd hD hmg hg args vals as hpre hlay hrd hwl hlo
  have KX := kIn_of Y
  refine Ground.open G ?_
  intro T B D TE TW
  have lawAt : nsIn (Mine.hd.heap_39 w.params) mainGlobals (Str.ofString "law") = some (some (.ref 105)) := by k_is
  have e1 := mg_of KX T.g lawAt
  have e2 : (some (Value.ref fa) : Option Value) = some (.ref 105) := hmg.symm.trans e1
  injection e2 with e2
  injection e2 with e2
  subst e2
  clear ho hd hcd hD hmg G Y
  have Bs : Mine.Base w s₁.heap := ⟨KX, ⟨mg, T.g⟩, ⟨mb, T.b, T.builtins⟩, T.nolimit⟩
  wrow_args hpre hlay hrd hwl hlo
  rename_i ns _ _ _ _ _ _ _ DL vs _ hL _ _ _ hI _ hc _
  have hfn := Mine.fn_law (prog := PySem.Challenge.rw_mg0043_01.row.prog) (A := callerA) plain Bs rfl (by decide) DL vs ns hL hI (by omega)
  refine wpAny_mono (hfn.out s₁ _ (Mine.kpRefl _)) (fun v s' h => ?_) fun _ _ z => z
  obtain ⟨rfl, hk⟩ := h
  obtain ⟨h', tk, rfl, hkk⟩ := hk
  refine GoodW.toG ⟨.inl ⟨.bool true, .bool true, [], rfl, ?_, .bool true, ?_, ?_⟩, hkk, rfl, hg⟩
  · intro cls; rfl
  · exact postW_of (r := PySem.Challenge.rw_mg0043_01.row.toRowW) (X := true) rfl (w_eq_bool (k := true) (l := true) (w_res rfl) w_lit) rfl
  · intro h; exact ⟨List.nodup_nil, fun _ h => nomatch h⟩)
end PartZ1
set_option maxRecDepth 100000 in
set_option maxHeartbeats 8000000 in
theorem PySem.Challenge.cw_mg0043_01_holds : PySem.Challenge.rw_mg0043_01.Holds :=
  Mine.last Mine.plain
