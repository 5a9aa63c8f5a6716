import PyProof.Rows.All
import Wide.All
import OpenK.AllK
import Wide.FinOn
import PySem.Challenge.RW_pu0016_01
set_option Elab.async false
set_option maxRecDepth 100000
set_option linter.unusedVariables false
set_option linter.unusedSimpArgs false

/- text L1 -/
namespace Mine
section
open PySem PySem.W PyProof.Rows PySem.Calls

abbrev pw : Program := PySem.Challenge.pw_pu0016_01
abbrev Bot : Value → Shared → Prop := fun _ _ => False

/-- the table of the code of _platform: it may grow once -/
def TabAt (h : Heap) (vs : Array Value) : Prop := h.IsCode 20 16 vs ∧ h.TableAt 20 16 vs

/-- a later heap: all stays, but the table grows -/
structure Le (h h' : Heap) : Prop where
  keep : Heap.ExtBut 16 h h'
  tab : ∀ vs, TabAt h vs → ∃ more, TabAt h' (vs ++ more)

theorem Le.of_keep {h h' : Heap} (k : ∀ b o, h.get? b = some o → h'.get? b = some o) : Le h h' :=
  ⟨fun b o _ e => k b o e, fun vs t => ⟨#[], by rw [Array.append_empty]; exact ⟨t.1.keeps k, t.2.keeps k⟩⟩⟩
theorem Le.refl (h : Heap) : Le h h := .of_keep fun _ _ e => e
theorem Le.trans {h₁ h₂ h₃ : Heap} (x : Le h₁ h₂) (y : Le h₂ h₃) : Le h₁ h₃ :=
  ⟨x.keep.trans y.keep, fun vs t => by
    obtain ⟨m, t'⟩ := x.tab vs t
    obtain ⟨m', t''⟩ := y.tab _ t'
    exact ⟨m ++ m', by rw [← Array.append_assoc]; exact t''⟩⟩
theorem Le.push (h : Heap) (o : Obj) : Le h (h.push o) :=
  .of_keep fun _ _ e => Heap.get?_push_of_some o e

/-- pure values -/
inductive PV where
  | none
  | bool (b : Bool)
  | int (i : Int)
  | str (s : Str)
  | list (xs : List PV)
  | tup (xs : List PV)

mutual
inductive Val (h : Heap) : PV → Value → Prop
  | none : Val h .none .none
  | bool (b : Bool) : Val h (.bool b) (.bool b)
  | int (i : Int) (t : Tok) : Val h (.int i) (.int i t)
  | str (x : Str) (t : Tok) : Val h (.str x) (.str x t)
  | list {xs : List PV} {vs : List Value} (a : Addr) : a ≠ 16 → PlainL h a vs.toArray → ValL h xs vs → Val h (.list xs) (.ref a)
  | tup {xs : List PV} {vs : List Value} (a : Addr) : a ≠ 16 → IsTup h a vs.toArray → ValL h xs vs → Val h (.tup xs) (.ref a)
inductive ValL (h : Heap) : List PV → List Value → Prop
  | nil : ValL h [] []
  | cons {x : PV} {v : Value} {xs : List PV} {vs : List Value} : Val h x v → ValL h xs vs → ValL h (x :: xs) (v :: vs)
end

theorem IsTup.ext {h h' : Heap} {a : Addr} {its : Array Value} (x : IsTup h a its) (k : Heap.ExtBut 16 h h') (ha : a ≠ 16) : IsTup h' a its := by
  obtain ⟨o, e, r⟩ := x
  exact ⟨o, k a o ha e, r⟩

mutual
theorem Val.le {h h' : Heap} (l : Le h h') : ∀ {p : PV} {v : Value}, Val h p v → Val h' p v
  | _, _, .none => .none
  | _, _, .bool b => .bool b
  | _, _, .int i t => .int i t
  | _, _, .str x t => .str x t
  | _, _, .list a ha hl hv => .list a ha (hl.extBut l.keep ha) (ValL.le l hv)
  | _, _, .tup a ha hl hv => .tup a ha (IsTup.ext hl l.keep ha) (ValL.le l hv)
theorem ValL.le {h h' : Heap} (l : Le h h') : ∀ {p : List PV} {v : List Value}, ValL h p v → ValL h' p v
  | _, _, .nil => .nil
  | _, _, .cons a b => .cons (Val.le l a) (ValL.le l b)
end
theorem ValL.length {h : Heap} : ∀ {p : List PV} {v : List Value}, ValL h p v → v.length = p.length
  | _, _, .nil => rfl
  | _, _, .cons _ b => by simp [b.length]
theorem ValL.get {h : Heap} : ∀ {p : List PV} {v : List Value}, ValL h p v → ∀ (i : Nat) (x : PV), p[i]? = some x → ∃ y, v[i]? = some y ∧ Val h x y
  | _, _, .cons a _, 0, x, e => by simp at e; subst e; exact ⟨_, rfl, a⟩
  | _, _, .cons _ b, i + 1, x, e => by simpa using b.get i x (by simpa using e)
theorem ValL.append {h : Heap} : ∀ {p : List PV} {v : List Value}, ValL h p v → ∀ {q : List PV} {u : List Value}, ValL h q u → ValL h (p ++ q) (v ++ u)
  | _, _, .nil, _, _, y => y
  | _, _, .cons a b, _, _, y => .cons a (b.append y)
theorem ValL.drop {h : Heap} : ∀ {p : List PV} {v : List Value}, ValL h p v → ∀ n, ValL h (p.drop n) (v.drop n)
  | _, _, .nil, n => by simpa using ValL.nil
  | _, _, .cons a b, 0 => .cons a b
  | _, _, .cons _ b, n + 1 => b.drop n
theorem ValL.take {h : Heap} : ∀ {p : List PV} {v : List Value}, ValL h p v → ∀ n, ValL h (p.take n) (v.take n)
  | _, _, .nil, n => by simpa using ValL.nil
  | _, _, .cons _ _, 0 => .nil
  | _, _, .cons a b, n + 1 => .cons a (b.take n)
theorem ValL.set {h : Heap} : ∀ {p : List PV} {v : List Value}, ValL h p v → ∀ (n : Nat) {x : PV} {y : Value}, Val h x y → ValL h (p.set n x) (v.set n y)
  | _, _, .nil, _, _, _, _ => .nil
  | _, _, .cons _ b, 0, _, _, y => .cons y b
  | _, _, .cons a b, n + 1, _, _, y => .cons a (b.set n y)

/-- what the machine does beside the heap -/
structure Mv (s s' : Shared) : Prop where
  le : Le s.heap s'.heap
  os : s'.os = s.os
  gens : AllBare s.gens → AllBare s'.gens
theorem Mv.refl (s : Shared) : Mv s s := ⟨.refl _, rfl, id⟩
theorem Mv.trans {a b c : Shared} (x : Mv a b) (y : Mv b c) : Mv a c := ⟨x.le.trans y.le, y.os.trans x.os, fun g => y.gens (x.gens g)⟩
theorem Mv.tok (s : Shared) (k : Nat) : Mv s { s with toks := k } := ⟨.refl _, rfl, id⟩
theorem Mv.heap {s : Shared} {h : Heap} (k : Nat) (l : Le s.heap h) : Mv s { s with heap := h, toks := k } := ⟨l, rfl, id⟩

structure AOk (k : Nat) (A : Around) : Prop where
  handled : A.handled = none
  depth : A.depth + k < recursionLimit
  units : A.units + 8 * k < cLine
theorem AOk.in1 {k : Nat} {A : Around} (a : AOk (k + 1) A) : AOk k A.in1 :=
  ⟨a.handled, by have := a.depth; show A.depth + k < _; omega, by have := a.units; show A.units + 1 + 8 * k < _; omega⟩
theorem AOk.deeper {k : Nat} {A : Around} (a : AOk (k + 1) A) (env : Env) : AOk k (A.deeper env) :=
  ⟨a.handled, by have := a.depth; show A.depth + 1 + k < _; omega, by have := a.units; show A.units + 3 + 8 * k < _; omega⟩
theorem AOk.le {k j : Nat} {A : Around} (a : AOk k A) (h : j ≤ k) : AOk j A :=
  ⟨a.handled, by have := a.depth; omega, by have := a.units; omega⟩
theorem AOk.d {k : Nat} {A : Around} (a : AOk k A) : A.depth < recursionLimit := by have := a.depth; omega
theorem AOk.u {k : Nat} {A : Around} (a : AOk k A) : A.units < cLine := by have := a.units; omega

/-- a heap fact that later heaps keep -/
structure HI where
  p : Heap → Prop
  st : ∀ {h h' : Heap}, p h → Le h h' → p h'
  tab : ∀ {h : Heap}, p h → ∃ vs, TabAt h vs
theorem TabAt.new {h : Heap} {vs : Array Value} (t : TabAt h vs) : h.objs.size ≠ 16 := Nat.ne_of_gt t.1.lt.2
theorem HI.new (I : HI) {h : Heap} (i : I.p h) : h.objs.size ≠ 16 := let ⟨_, t⟩ := I.tab i; t.new

section
variable (w : World) (k : Nat) (env : Env) (I : HI)
def Tr {α : Type} (t : Sem α) (R : Shared → α → Shared → Prop) : Prop :=
  ∀ (A : Around) (s : Shared) (Q : α → Shared → Prop), AOk k A → 0 < s.toks → I.p s.heap → (∀ v s', Mv s s' → R s v s' → Q v s') → wpAny (model pw w) A t Q Bot s
def Ev (e : Expr) (p : PV) : Prop := Tr w k I (eval e env) fun _ v s' => Val s'.heap p v
def EvN (e : Expr) (xs : List PV) : Prop := Tr w k I (eval e env) fun s v s' => ∃ a, v = .ref a ∧ s.heap.get? a = none ∧ Val s'.heap (.list xs) (.ref a)
def Te (e : Expr) (b : Bool) : Prop := Tr w k I (isTrue e env (eval e env)) fun _ v _ => v = b
end

section
variable {w : World} {k : Nat} {env : Env} {I : HI} {α β : Type}

theorem Tr.use {t : Sem α} {R : Shared → α → Shared → Prop} (h : Tr w k I t R) {A : Around} {s : Shared} {Q : α → Shared → Prop} (a : AOk k A) (tk : 0 < s.toks) (i : I.p s.heap)
    (hQ : ∀ v s', 0 < s'.toks → I.p s'.heap → Mv s s' → R s v s' → Q v s') : wpAny (model pw w) A t Q Bot s :=
  wpAny_with_toks (n := 1) tk (wpAny_mono (h A s (fun v s' => 1 ≤ s'.toks → Q v s') a tk i fun v s' m r tk' => hQ v s' tk' (I.st i m.le) m r) (fun _ _ x => x) fun _ _ x => x.elim)
theorem Tr.mono {t : Sem α} {R R' : Shared → α → Shared → Prop} (h : Tr w k I t R) (hr : ∀ s v s', Mv s s' → R s v s' → R' s v s') : Tr w k I t R' :=
  fun A s Q a tk i hQ => h A s Q a tk i fun v s' m r => hQ v s' m (hr s v s' m r)
theorem Tr.lift {t : Sem α} {R : Shared → α → Shared → Prop} {j : Nat} (h : Tr w k I t R) (hj : k ≤ j) : Tr w j I t R :=
  fun A s Q a tk i hQ => h A s Q (a.le hj) tk i hQ
theorem EvN.ev {e : Expr} {xs : List PV} (h : EvN w k env I e xs) : Ev w k env I e (.list xs) :=
  Tr.mono h fun _ _ _ _ r => by obtain ⟨a, rfl, _, v⟩ := r; exact v

theorem ev_int {i : Int} {kk : Nat} {pos : Pos} : Ev w k env I (.Constant (.int i) kk pos) (.int i) := fun A s Q _ _ _ hQ =>
  wpAny_Constant_int (hQ _ _ (.tok _ _) (.int i _))
theorem ev_str {x : Str} {kk : Nat} {pos : Pos} : Ev w k env I (.Constant (.str x) kk pos) (.str x) := fun A s Q _ _ _ hQ =>
  wpAny_mkText (hQ _ _ (.tok _ _) (.str x _))
theorem ev_bool {b : Bool} {kk : Nat} {pos : Pos} : Ev w k env I (.Constant (.bool b) kk pos) (.bool b) := fun A s Q _ _ _ hQ =>
  wpAny_pure (hQ _ _ (.refl _) (.bool b))
theorem ev_none {kk : Nat} {pos : Pos} : Ev w k env I (.Constant .none kk pos) .none := fun A s Q _ _ _ hQ =>
  wpAny_pure (hQ _ _ (.refl _) .none)

/-- an operation on two values -/
def Op2 (w : World) (k : Nat) (I : HI) (t : Value → Value → Sem Value) (p q : PV) (R : Shared → Value → Shared → Prop) : Prop :=
  ∀ (A : Around) (s : Shared) (a b : Value) (Q : Value → Shared → Prop), AOk k A → 0 < s.toks → I.p s.heap → Val s.heap p a → Val s.heap q b →
    (∀ v s', Mv s s' → R s v s' → Q v s') → wpAny (model pw w) A (t a b) Q Bot s

theorem ev_bin {l r : Expr} {op : Operator} {pos : Pos} {p q : PV} {R : Value → Shared → Prop} (h1 : Ev w k env I l p) (h2 : Ev w k env I r q)
    (h3 : Op2 w k I (binaryOp op) p q fun _ v s' => R v s') : Tr w k I (eval (.BinOp l op r pos) env) fun _ v s' => R v s' := fun A s Q a tk i hQ =>
  wpAny_BinOp (h1.use a tk i fun v1 s1 tk1 i1 m1 r1 => h2.use a tk1 i1 fun v2 s2 tk2 i2 m2 r2 =>
    h3 A s2 v1 v2 Q a tk2 i2 (Val.le m2.le r1) r2 fun v s' m hv => hQ v s' ((m1.trans m2).trans m) hv)

theorem ev_add {l r : Expr} {pos : Pos} {a b : Int} (h1 : Ev w k env I l (.int a)) (h2 : Ev w k env I r (.int b)) : Ev w k env I (.BinOp l .Add r pos) (.int (a + b)) :=
  ev_bin h1 h2 fun A s v1 v2 Q _ _ _ r1 r2 hQ => by cases r1; cases r2; exact add_int (hQ _ _ (.tok _ _) (.int _ _))
theorem ev_sub {l r : Expr} {pos : Pos} {a b : Int} (h1 : Ev w k env I l (.int a)) (h2 : Ev w k env I r (.int b)) : Ev w k env I (.BinOp l .Sub r pos) (.int (a - b)) :=
  ev_bin h1 h2 fun A s v1 v2 Q _ _ _ r1 r2 hQ => by cases r1; cases r2; exact sub_int (hQ _ _ (.tok _ _) (.int _ _))
theorem ev_mul {l r : Expr} {pos : Pos} {a b : Int} (h1 : Ev w k env I l (.int a)) (h2 : Ev w k env I r (.int b)) (hm : IntMulOk a b) : Ev w k env I (.BinOp l .Mult r pos) (.int (a * b)) :=
  ev_bin h1 h2 fun A s v1 v2 Q _ _ _ r1 r2 hQ => by cases r1; cases r2; exact mul_int (hQ _ _ (.tok _ _) (.int _ _)) hm
end
end
end Mine

/- text L2 -/
namespace Mine
section
open PySem PySem.W PyProof.Rows PySem.Calls
section
variable {w : World} {k : Nat} {env : Env} {I : HI}

theorem ev_fdiv {l r : Expr} {pos : Pos} {a b : Int} (h1 : Ev w k env I l (.int a)) (h2 : Ev w k env I r (.int b)) (hb : b ≠ 0) (hs : b.natAbs < 1073741824) :
    Ev w k env I (.BinOp l .FloorDiv r pos) (.int (a.fdiv b)) :=
  ev_bin h1 h2 fun A s v1 v2 Q _ _ _ r1 r2 hQ => by cases r1; cases r2; exact floordiv_int hb (hQ _ _ (.tok _ _) (.int _ _)) (.inl (PyProof.noPylong_small hs))
theorem ev_mod {l r : Expr} {pos : Pos} {a b : Int} (h1 : Ev w k env I l (.int a)) (h2 : Ev w k env I r (.int b)) (hb : b ≠ 0) : Ev w k env I (.BinOp l .Mod r pos) (.int (a.fmod b)) :=
  ev_bin h1 h2 fun A s v1 v2 Q _ _ _ r1 r2 hQ => by cases r1; cases r2; exact mod_int hb (hQ _ _ (.tok _ _) (.int _ _))
theorem ev_cat {l r : Expr} {pos : Pos} {x y : Str} (h1 : Ev w k env I l (.str x)) (h2 : Ev w k env I r (.str y)) (hs : x.length + y.length ≤ sizeLine) :
    Ev w k env I (.BinOp l .Add r pos) (.str (x ++ y)) :=
  ev_bin h1 h2 fun A s v1 v2 Q _ _ _ r1 r2 hQ => by cases r1; cases r2; exact SB.add (fun t' k => hQ _ _ (.tok _ _) (.str _ _)) hs
theorem ev_rep {l r : Expr} {pos : Pos} {x : Str} {n : Int} (h1 : Ev w k env I l (.str x)) (h2 : Ev w k env I r (.int n)) (hs : MulOk x n) :
    Ev w k env I (.BinOp l .Mult r pos) (.str (Txt.mul x n)) :=
  ev_bin h1 h2 fun A s v1 v2 Q _ _ _ r1 r2 hQ => by cases r1; cases r2; exact SB.mul hs (fun t' k => hQ _ _ (.tok _ _) (.str _ _))
theorem ev_neg {e : Expr} {pos : Pos} {a : Int} (h1 : Ev w k env I e (.int a)) : Ev w k env I (.UnaryOp .USub e pos) (.int (-a)) := fun A s Q a tk i hQ =>
  wpAny_UnaryOp (h1.use a tk i fun v s' _ _ m r => by cases r; exact P.neg_int (hQ _ _ (m.trans (.tok _ _)) (.int _ _)))

/- comparisons -/
theorem op_cmp {op : CmpOp} {a b : Int} {c : Bool} (h : ∀ (A : Around) (s : Shared) (t u : Tok) (Q : Value → Shared → Prop), Q (.bool c) s → wpAny (model pw w) A (compareOp op (.int a t) (.int b u)) Q Bot s) :
    Op2 w k I (compareOp op) (.int a) (.int b) fun _ v _ => v = .bool c := fun A s v1 v2 Q _ _ _ r1 r2 hQ => by
  cases r1; cases r2; exact h A s _ _ Q (hQ _ _ (.refl _) rfl)
theorem op_eq {a b : Int} : Op2 w k I (compareOp .Eq) (.int a) (.int b) fun _ v _ => v = .bool (a == b) := op_cmp fun _ _ _ _ _ h => eq_int h
theorem op_ne {a b : Int} : Op2 w k I (compareOp .NotEq) (.int a) (.int b) fun _ v _ => v = .bool (a != b) := op_cmp fun _ _ _ _ _ h => ne_int h
theorem op_lt {a b : Int} : Op2 w k I (compareOp .Lt) (.int a) (.int b) fun _ v _ => v = .bool (decide (a < b)) := op_cmp fun _ _ _ _ _ h => lt_int h
theorem op_gt {a b : Int} : Op2 w k I (compareOp .Gt) (.int a) (.int b) fun _ v _ => v = .bool (decide (b < a)) := op_cmp fun _ _ _ _ _ h => gt_int h
theorem op_le {a b : Int} : Op2 w k I (compareOp .LtE) (.int a) (.int b) fun _ v _ => v = .bool (decide (a ≤ b)) := op_cmp fun _ _ _ _ _ h => le_int h
theorem op_eqs {a b : Str} : Op2 w k I (compareOp .Eq) (.str a) (.str b) fun _ v _ => v = .bool (a == b) := fun A s v1 v2 Q _ _ _ r1 r2 hQ => by
  cases r1; cases r2; exact eq_str (hQ _ _ (.refl _) rfl)
theorem op_nes {a b : Str} : Op2 w k I (compareOp .NotEq) (.str a) (.str b) fun _ v _ => v = .bool (a != b) := fun A s v1 v2 Q _ _ _ r1 r2 hQ => by
  cases r1; cases r2; exact ne_str (hQ _ _ (.refl _) rfl)

theorem te_cmp {l r : Expr} {op : CmpOp} {pos : Pos} {p q : PV} {b : Bool} (h1 : Ev w k env I l p) (h2 : Ev w k env I r q)
    (h3 : Op2 w k I (compareOp op) p q fun _ v _ => v = .bool b) (hm : behindInMarks op r = false := by with_unfolding_all rfl) : Te w k env I (.Compare l [op] [r] pos) b := fun A s Q a tk i hQ =>
  wpAny_isTrue_Compare1 (h1.use a tk i fun v1 s1 tk1 i1 m1 r1 => h2.use a tk1 i1 fun v2 s2 tk2 i2 m2 r2 =>
    h3 A s2 v1 v2 _ a tk2 i2 (Val.le m2.le r1) r2 fun v s' m hv => by subst hv; exact wpAny_truthy_bool (hQ _ _ ((m1.trans m2).trans m) rfl)) hm
theorem ev_cmp {l r : Expr} {op : CmpOp} {pos : Pos} {p q : PV} {b : Bool} (h1 : Ev w k env I l p) (h2 : Ev w k env I r q)
    (h3 : Op2 w k I (compareOp op) p q fun _ v _ => v = .bool b) (hm : behindInMarks op r = false := by with_unfolding_all rfl) : Ev w k env I (.Compare l [op] [r] pos) (.bool b) := fun A s Q a tk i hQ =>
  wpAny_Compare1 (h1.use a tk i fun v1 s1 tk1 i1 m1 r1 => h2.use a tk1 i1 fun v2 s2 tk2 i2 m2 r2 =>
    h3 A s2 v1 v2 _ a tk2 i2 (Val.le m2.le r1) r2 fun v s' m hv => by subst hv; exact hQ _ _ ((m1.trans m2).trans m) (.bool _)) hm

/- truth -/
theorem te_str {e : Expr} {x : Str} (h : Ev w k env I e (.str x)) (hx : x.length ≤ sizeLine)
    (he : ∀ whole, isTrue e env whole = (do let v ← whole; standAt e.pos; holding [v] (truthy v)) := by intro _; rfl) : Te w k env I e (decide (x.length ≠ 0)) := fun A s Q a tk i hQ =>
  wpAny_isTrue_value (h.use a tk i fun v s' _ _ m r => by
    cases r
    refine P.truthy_str (by rw [sizeLine_eq] at hx; omega) (hQ _ _ (m.trans (.tok _ _)) ?_)
    by_cases h0 : x.length = 0
    · simp [h0]
    · have : ((x.length : Int) != 0) = true := by simp; omega
      rw [this]; simp [h0]) (he _)
theorem te_boolv {e : Expr} {b : Bool} (h : Ev w k env I e (.bool b))
    (he : ∀ whole, isTrue e env whole = (do let v ← whole; standAt e.pos; holding [v] (truthy v)) := by intro _; rfl) : Te w k env I e b := fun A s Q a tk i hQ =>
  wpAny_isTrue_value (h.use a tk i fun v s' _ _ m r => by cases r; exact wpAny_truthy_bool (hQ _ _ m rfl)) (he _)
theorem te_not {e : Expr} {pos : Pos} {b : Bool} (h : Te w k env I e b) : Te w k env I (.UnaryOp .Not e pos) (!b) := fun A s Q a tk i hQ =>
  wpAny_isTrue_Not (h.use a tk i fun v s' _ _ m r => by subst r; exact hQ _ _ m rfl)

def TeA (w : World) (k : Nat) (env : Env) (I : HI) (op : BoolOp) (es : List Expr) (b : Bool) : Prop := Tr w k I (allTrue op es env) fun _ v _ => v = b
theorem tea_nil : TeA w k env I .And [] true := fun A s Q a tk i hQ => wpAny_allTrue_And_nil (hQ _ _ (.refl _) rfl)
theorem teo_nil : TeA w k env I .Or [] false := fun A s Q a tk i hQ => wpAny_allTrue_Or_nil (hQ _ _ (.refl _) rfl)
theorem tea_cons {e : Expr} {es : List Expr} {b c : Bool} (h : Te w k env I e b) (h' : b = true → TeA w k env I .And es c) : TeA w k env I .And (e :: es) (b && c) := fun A s Q a tk i hQ =>
  wpAny_allTrue_And_cons (h.use a tk i fun v s' tk' i' m r => by
    subst r
    cases v with
    | false => exact hQ _ _ m rfl
    | true => exact (h' rfl).use a tk' i' fun v2 s2 _ _ m2 r2 => hQ _ _ (m.trans m2) (by simpa using r2))
theorem teo_cons {e : Expr} {es : List Expr} {b c : Bool} (h : Te w k env I e b) (h' : b = false → TeA w k env I .Or es c) : TeA w k env I .Or (e :: es) (b || c) := fun A s Q a tk i hQ =>
  wpAny_allTrue_Or_cons (h.use a tk i fun v s' tk' i' m r => by
    subst r
    cases v with
    | true => exact hQ _ _ m rfl
    | false => exact (h' rfl).use a tk' i' fun v2 s2 _ _ m2 r2 => hQ _ _ (m.trans m2) (by simpa using r2))
theorem te_boolop {op : BoolOp} {es : List Expr} {pos : Pos} {b : Bool} (h : TeA w k env I op es b) : Te w k env I (.BoolOp op es pos) b := fun A s Q a tk i hQ =>
  wpAny_isTrue_BoolOp (h A s Q a tk i hQ)
theorem ev_ite {t e1 e2 : Expr} {pos : Pos} {b : Bool} {p : PV} (h : Te w k env I t b) (h1 : b = true → Ev w k env I e1 p) (h2 : b = false → Ev w k env I e2 p) :
    Ev w k env I (.IfExp t e1 e2 pos) p := fun A s Q a tk i hQ =>
  wpAny_IfExp (h.use a tk i fun v s' tk' i' m r => by
    subst r
    cases v with
    | true => exact (h1 rfl).use a tk' i' fun v2 s2 _ _ m2 r2 => hQ _ _ (m.trans m2) r2
    | false => exact (h2 rfl).use a tk' i' fun v2 s2 _ _ m2 r2 => hQ _ _ (m.trans m2) r2)
/-- «n or None» -/
theorem ev_orNone {e : Expr} {kk : Nat} {p pos : Pos} {n : Int} (h : Ev w k env I e (.int n)) :
    Ev w k env I (.BoolOp .Or [e, .Constant .none kk p] pos) (if n = 0 then .none else .int n) := fun A s Q a tk i hQ =>
  wpAny_Or2 (h.use a tk i fun v s' tk' i' m r => by
    cases r
    refine P.truthy_int ?_
    by_cases h0 : n = 0
    · subst h0
      simp only [bne_self_eq_false, Bool.false_eq_true, if_false]
      exact wpAny_pure (hQ _ _ m (by simpa using Val.none))
    · rw [if_pos (by simp [h0])]
      exact hQ _ _ m (by rw [if_neg h0]; exact .int _ _))

/- items -/
theorem ev_idx {e i : Expr} {pos : Pos} {xs : List PV} {n : Int} {p : PV} (h1 : Ev w k env I e (.list xs)) (h2 : Ev w k env I i (.int n)) (h0 : 0 ≤ n) (hf : n < 2 ^ 63) (hx : xs[n.toNat]? = some p)
    (hs : ∀ o j, subscripted i false o j = operate [o, j] (getItem o j) := by intro _ _; rfl) : Ev w k env I (.Subscript e i pos) p := fun A s Q a tk j hQ =>
  Subscript_ (h1.use a tk j fun v1 s1 tk1 j1 m1 r1 => h2.use a tk1 j1 fun v2 s2 tk2 j2 m2 r2 => by
    cases r2
    cases Val.le m2.le r1 with
    | list l hl pl vl =>
      obtain ⟨y, hy, vy⟩ := vl.get _ _ hx
      have il : s2.heap.IsList l _ := let ⟨o, c, e1, e2, _, e4⟩ := pl; ⟨o, e1, e2, c, e4⟩
      exact tail_any il.typeIs slot_list_getitem.lookup (wpAny_getItem_list il h0 hf (by simpa using hy) (hQ _ _ (m1.trans m2) vy)) (hs _ _))
theorem ev_idxn {e i : Expr} {pos : Pos} {xs : List PV} {n : Int} {p : PV} (h1 : Ev w k env I e (.list xs)) (h2 : Ev w k env I i (.int n)) (h0 : n < 0) (h0' : -(xs.length : Int) ≤ n) (hf : -(2 ^ 63) ≤ n) (hx : xs[(n + xs.length).toNat]? = some p)
    (hs : ∀ o j, subscripted i false o j = operate [o, j] (getItem o j) := by intro _ _; rfl) : Ev w k env I (.Subscript e i pos) p := fun A s Q a tk j hQ =>
  Subscript_ (h1.use a tk j fun v1 s1 tk1 j1 m1 r1 => h2.use a tk1 j1 fun v2 s2 tk2 j2 m2 r2 => by
    cases r2
    cases Val.le m2.le r1 with
    | list l hl pl vl =>
      obtain ⟨y, hy, vy⟩ := vl.get _ _ hx
      have il : s2.heap.IsList l _ := let ⟨o, c, e1, e2, _, e4⟩ := pl; ⟨o, e1, e2, c, e4⟩
      have hlen := vl.length
      exact tail_any il.typeIs slot_list_getitem.lookup (wpAny_getItem_list_neg il h0 (by simpa [hlen] using h0') hf (by simpa [hlen] using hy) (hQ _ _ (m1.trans m2) vy)) (hs _ _))
theorem ev_sidx {e i : Expr} {pos : Pos} {x : Str} {n : Int} {c : Nat} (h1 : Ev w k env I e (.str x)) (h2 : Ev w k env I i (.int n)) (hr : (decide (n < -(2 ^ 63 : Int)) || decide (n ≥ 2 ^ 63)) = false)
    (hc : (seqIndex? n x.length).bind (x.cps[·]?) = some c)
    (hs : ∀ o j, subscripted i false o j = operate [o, j] (getItem o j) := by intro _ _; rfl) : Ev w k env I (.Subscript e i pos) (.str ⟨#[c]⟩) := fun A s Q a tk j hQ =>
  Subscript_ (h1.use a tk j fun v1 s1 tk1 j1 m1 r1 => h2.use a tk1 j1 fun v2 s2 tk2 j2 m2 r2 => by
    cases r2
    cases r1
    exact tail_any (typeIs_str _ _ _) F.slot_str_getitem.lookup (P.getItem_str hr hc (hQ _ _ ((m1.trans m2).trans (.tok _ _)) (.str _ _))) (hs _ _))

end
end
end Mine

/- text L3 -/
namespace Mine
section
open PySem PySem.W PyProof.Rows PySem.Calls
section
variable {w : World} {k : Nat} {env : Env} {I : HI}

/- displays -/
def EvL (w : World) (k : Nat) (env : Env) (I : HI) (pos : Pos) (es : List Expr) (ps : List PV) : Prop :=
  Tr w k I (spliced (backTo pos (starEach es env))) fun _ vs s' => ValL s'.heap ps vs
theorem evl_nil {pos : Pos} : EvL w k env I pos [] [] := fun A s Q a tk i hQ => spliced_nil (hQ _ _ (.refl _) .nil)
theorem evl_cons {pos : Pos} {e : Expr} {es : List Expr} {p : PV} {ps : List PV} (h1 : Ev w k env I e p) (h2 : EvL w k env I pos es ps)
    (he : starEach (e :: es) env = (false, eval e env) :: starEach es env := by rfl) : EvL w k env I pos (e :: es) (p :: ps) := fun A s Q a tk i hQ => by
  rw [he]
  exact spliced_cons (h1.use a tk i fun v s1 tk1 i1 m1 r1 => h2.use a tk1 i1 fun vs s2 tk2 i2 m2 r2 => hQ _ _ (m1.trans m2) (.cons (Val.le m2.le r1) r2))
theorem ev_list {pos : Pos} {es : List Expr} {ps : List PV} (h : EvL w k env I pos es ps) (hs : ps.length ≤ sizeLine) : EvN w k env I (.List es pos) ps := fun A s Q a tk i hQ =>
  wpAny_List_spliced (h.use a tk i fun vs s1 tk1 i1 m1 r1 => ⟨by rw [r1.length]; exact hs,
    hQ _ _ (m1.trans ⟨.push _ _, rfl, id⟩) ⟨_, rfl, by
      cases e : s.heap.get? s1.heap.objs.size with
      | none => rfl
      | some o => exact absurd (Heap.lt_size (m1.le.keep _ _ (I.new i1) e)) (Nat.lt_irrefl _), .list _ (I.new i1) ⟨_, 0, Heap.get?_push_size _ rfl, rfl, rfl, rfl⟩ (ValL.le (.push _ _) r1)⟩⟩)
theorem ev_tuple {pos : Pos} {es : List Expr} {ps : List PV} {kk : Nat} (h : EvL w k env I pos es ps) (hs : ps.length ≤ sizeLine) : Ev w k env I (.Tuple es kk pos) (.tup ps) := fun A s Q a tk i hQ =>
  wpAny_Tuple_spliced (h.use a tk i fun vs s1 tk1 i1 m1 r1 => ⟨by rw [r1.length]; exact hs,
    hQ _ _ (m1.trans ⟨.push _ _, rfl, id⟩) (.tup _ (I.new i1) ⟨_, Heap.get?_push_size _ rfl, rfl, 0, rfl⟩ (ValL.le (.push _ _) r1))⟩)

/-- a new list is new to all heaps before -/
theorem new_of {h h' : Heap} (l : Le h h') {a : Addr} (ha : a ≠ 16) (e : h'.get? a = none) : h.get? a = none := by
  cases q : h.get? a with
  | none => rfl
  | some o => rw [l.keep _ _ ha q] at e; cases e
theorem new_size {h : Heap} : h.get? h.objs.size = none := by
  cases q : h.get? h.objs.size with
  | none => rfl
  | some o => exact absurd (Heap.lt_size q) (Nat.lt_irrefl _)

/-- a menu of new lists -/
def EvLN (w : World) (k : Nat) (env : Env) (I : HI) (pos : Pos) (es : List Expr) (xss : List (List PV)) : Prop :=
  Tr w k I (spliced (backTo pos (starEach es env))) fun s vs s' => ValL s'.heap (xss.map .list) vs ∧ ∀ v ∈ vs, ∀ a, v = .ref a → s.heap.get? a = none
theorem evln_nil {pos : Pos} : EvLN w k env I pos [] [] := fun A s Q a tk i hQ => spliced_nil (hQ _ _ (.refl _) ⟨.nil, fun _ h => nomatch h⟩)
theorem evln_cons {pos : Pos} {e : Expr} {es : List Expr} {xs : List PV} {xss : List (List PV)} (h1 : EvN w k env I e xs) (h2 : EvLN w k env I pos es xss)
    (he : starEach (e :: es) env = (false, eval e env) :: starEach es env := by rfl) : EvLN w k env I pos (e :: es) (xs :: xss) := fun A s Q a tk i hQ => by
  rw [he]
  refine spliced_cons (h1.use a tk i fun v s1 tk1 i1 m1 r1 => h2.use a tk1 i1 fun vs s2 tk2 i2 m2 r2 => hQ _ _ (m1.trans m2) ?_)
  obtain ⟨b, rfl, hn, vb⟩ := r1
  refine ⟨.cons (Val.le m2.le vb) r2.1, fun v hv c e => ?_⟩
  rcases List.mem_cons.mp hv with rfl | hv
  · cases e; exact hn
  · have h3 := r2.2 v hv c e
    refine new_of m1.le ?_ h3
    rintro rfl
    obtain ⟨_, t⟩ := I.tab i1
    rw [t.2.2] at h3; cases h3
theorem ev_menu {pos mpos : Pos} {es : List Expr} {i : Expr} {xss : List (List PV)} {n : Int} {xs : List PV} (h1 : EvLN w k env I mpos es xss) (hs : xss.length ≤ sizeLine) (h2 : Ev w k env I i (.int n)) (h0 : 0 ≤ n) (hf : n < 2 ^ 63)
    (hx : xss[n.toNat]? = some xs) (hsub : ∀ o j, subscripted i false o j = operate [o, j] (getItem o j) := by intro _ _; rfl) : EvN w k env I (.Subscript (.List es mpos) i pos) xs := fun A s Q a tk j hQ =>
  Subscript_ (wpAny_List_spliced (h1.use a tk j fun vs s1 tk1 j1 m1 r1 => ⟨by rw [r1.1.length, List.length_map]; exact hs, by
    have m1' : Mv s { s1 with heap := s1.heap.push { cls := .type "list", data := .seq vs.toArray } } := m1.trans ⟨.push _ _, rfl, id⟩
    refine h2.use a tk1 (I.st j1 (.push _ _)) fun v2 s2 tk2 j2 m2 r2 => ?_
    cases r2
    have pl : PlainL s2.heap s1.heap.objs.size vs.toArray := PlainL.extBut ⟨_, 0, Heap.get?_push_size _ rfl, rfl, rfl, rfl⟩ m2.le.keep (I.new j1)
    obtain ⟨y, hy, vy⟩ := (ValL.le (Le.trans (.push _ _) m2.le) r1.1).get n.toNat (.list xs) (by simp [hx])
    refine tail_any pl.isList.typeIs slot_list_getitem.lookup (wpAny_getItem_list pl.isList h0 hf (by simpa using hy) (hQ _ _ (m1'.trans m2) ?_)) (hsub _ _)
    cases vy with
    | list b hb pb vb => exact ⟨b, rfl, r1.2 _ (List.mem_of_getElem? hy) b rfl, .list b hb pb vb⟩⟩))

theorem ev_lcat {l r : Expr} {pos : Pos} {xs ys : List PV} (h1 : Ev w k env I l (.list xs)) (h2 : Ev w k env I r (.list ys)) (hs : xs.length + ys.length ≤ sizeLine) : EvN w k env I (.BinOp l .Add r pos) (xs ++ ys) := fun A s Q a tk i hQ =>
  wpAny_BinOp (h1.use a tk i fun v1 s1 tk1 i1 m1 r1 => h2.use a tk1 i1 fun v2 s2 tk2 i2 m2 r2 => by
    cases Val.le m2.le r1 with
    | list l1 n1 p1 q1 =>
      cases r2 with
      | list l2 n2 p2 q2 =>
        rename_i vs1 vs2
        obtain ⟨⟨c, d, dt, sl⟩, n, e1, e2, e3, e4⟩ := p1
        obtain ⟨⟨c', d', dt', sl'⟩, n', e1', e2', e3', e4'⟩ := p2
        dsimp only at e2 e3 e4 e2' e3' e4'
        subst e2 e3 e4 e2' e3' e4'
        have m := m1.trans m2
        have z : vs1.toArray.size + vs2.toArray.size ≤ sizeLine := by rw [List.size_toArray, List.size_toArray, q1.length, q2.length]; exact hs
        refine concat_meets ⟨_, e1, rfl⟩ ⟨_, e1', rfl⟩ noFill_list_add seq_list_add PySem.F.slot_list_add PySem.F.entry_list_add (PySem.F.args_list_add_2 _ _)
          (list_addW l1 l2 vs1.toArray vs2.toArray n n' none none sl sl' z) ⟨e1, e1', ?_⟩
        have e : vs1.toArray ++ vs2.toArray = (vs1 ++ vs2).toArray := by simp
        rw [e]
        exact hQ _ _ (m.trans ⟨.push _ _, rfl, id⟩) ⟨_, rfl, new_of m.le (I.new i2) new_size, .list _ (I.new i2) ⟨_, 0, Heap.get?_push_size _ rfl, rfl, rfl, rfl⟩ (ValL.le (.push _ _) (q1.append q2))⟩)

/- slices -/
def EvP (w : World) (k : Nat) (env : Env) (I : HI) (x : Option Expr) (p : PV) : Prop := Tr w k I (evalPart x env) fun _ v s' => Val s'.heap p v
theorem evp_none : EvP w k env I none .none := fun A s Q a tk i hQ => wpAny_pure (hQ _ _ (.refl _) .none)
theorem evp_some {e : Expr} {p : PV} (h : Ev w k env I e p) : EvP w k env I (some e) p := h
/-- a bound of a slice -/
def bnd : PV → Option Int
  | .int i => some i
  | _ => none
def IsBnd (p : PV) : Prop := p = .none ∨ ∃ i, p = .int i
theorem bnd_val {h : Heap} {p : PV} {v : Value} (hp : IsBnd p) (hv : Val h p v) : ∃ l : Option (Int × Tok), v = partValue l ∧ l.map (·.1) = bnd p := by
  rcases hp with rfl | ⟨i, rfl⟩
  · cases hv; exact ⟨none, rfl, rfl⟩
  · cases hv; exact ⟨some (i, _), rfl, rfl⟩
theorem bnd_part {h : Heap} {p : PV} {v : Value} (hp : IsBnd p) (hv : Val h p v) : IsPart v (bnd p) := by
  rcases hp with rfl | ⟨i, rfl⟩
  · cases hv; exact .none
  · cases hv; exact .int i _
theorem ev_slice {e : Expr} {lo hi : Option Expr} {p q : PV} {sp pos : Pos} {x : Str} (h1 : Ev w k env I e (.str x)) (h2 : EvP w k env I lo p) (h3 : EvP w k env I hi q) (hp : IsBnd p) (hq : IsBnd q) (hx : x.length ≤ sizeLine)
    (ht : ∀ o r, letTemporaryGo e o r = pure () := by intro _ _; rfl) : Ev w k env I (.Subscript e (.Slice lo hi none sp) pos) (.str (Txt.slice x (bnd p) (bnd q))) := fun A s Q a tk i hQ =>
  wpAny_Subscript_str_slice (h1.use a tk i fun v1 s1 tk1 i1 m1 r1 => h2.use a tk1 i1 fun v2 s2 tk2 i2 m2 r2 => h3.use a tk2 i2 fun v3 s3 tk3 i3 m3 r3 => by
    cases r1
    obtain ⟨l, e1, e2⟩ := bnd_val hp r2
    obtain ⟨u, e3, e4⟩ := bnd_val hq r3
    refine ⟨x, _, l, u, rfl, e1, e3, ?_⟩
    have key : ∀ t' k', Q (.str (Txt.slice x (bnd p) (bnd q)) t') { s3 with heap := s3.heap.push { cls := .type "slice", data := .fields #[v2, v3, .none] }, toks := k' } :=
      fun t' k' => hQ _ _ (((m1.trans m2).trans m3).trans ⟨.push _ _, rfl, id⟩) (.str _ _)
    rw [← e2, ← e4] at key
    exact post_val_or_str ⟨Nat.le_trans (Txt.slice_le x _ _) hx, key⟩) ht
theorem ev_lslice {e : Expr} {lo hi : Option Expr} {p q : PV} {sp pos : Pos} {xs ys : List PV} (h1 : Ev w k env I e (.list xs)) (h2 : EvP w k env I lo p) (h3 : EvP w k env I hi q) (hp : IsBnd p) (hq : IsBnd q) (hx : xs.length ≤ sizeLine)
    (hy : ∀ (h : Heap) (vs : List Value), ValL h xs vs → ∃ us, slicePick vs.toArray (bnd p) (bnd q) none = us.toArray ∧ ValL h ys us)
    (ht : ∀ o r, letTemporaryGo e o r = pure () := by intro _ _; rfl) : EvN w k env I (.Subscript e (.Slice lo hi none sp) pos) ys := fun A s Q a tk i hQ =>
  wpAny_Subscript_list_slice (h1.use a tk i fun v1 s1 tk1 i1 m1 r1 => h2.use a tk1 i1 fun v2 s2 tk2 i2 m2 r2 => h3.use a tk2 i2 fun v3 s3 tk3 i3 m3 r3 => by
    cases Val.le (m2.trans m3).le r1 with
    | list l hl pl vl =>
      refine ⟨l, _, bnd p, bnd q, rfl, pl.isList, by rw [List.size_toArray, vl.length]; exact hx, bnd_part hp r2, bnd_part hq r3, ?_⟩
      obtain ⟨us, e, vu⟩ := hy _ _ vl
      rw [e]
      have n1 : (s3.heap.push { cls := .type "slice", data := .fields #[v2, v3, .none] }).objs.size = s3.heap.objs.size + 1 := Heap.size_push ..
      have i3' := I.st i3 (.push s3.heap { cls := .type "slice", data := .fields #[v2, v3, .none] })
      have nn := I.new i3'
      rw [n1] at nn
      have m := (m1.trans m2).trans m3
      have g : ((s3.heap.push { cls := .type "slice", data := .fields #[v2, v3, .none] }).push { cls := .type "list", data := .seq us.toArray }).get? (s3.heap.objs.size + 1) = some { cls := .type "list", data := .seq us.toArray } := by
        rw [← n1]; exact Heap.get?_push_size _ rfl
      refine hQ _ _ (m.trans ⟨.trans (.push _ _) (.push _ _), rfl, id⟩) ⟨_, rfl, ?_, .list _ nn ⟨_, 0, g, rfl, rfl, rfl⟩ (ValL.le (.trans (.push _ _) (.push _ _)) vu)⟩
      refine new_of (m.le.trans (.push _ { cls := .type "slice", data := .fields #[v2, v3, .none] })) nn ?_
      rw [← n1]; exact new_size) ht
theorem ev_ltake {e hi : Expr} {sp pos : Pos} {xs : List PV} {n : Nat} (h1 : Ev w k env I e (.list xs)) (h3 : Ev w k env I hi (.int n)) (hx : xs.length ≤ sizeLine)
    (ht : ∀ o r, letTemporaryGo e o r = pure () := by intro _ _; rfl) : EvN w k env I (.Subscript e (.Slice none (some hi) none sp) pos) (xs.take n) :=
  ev_lslice h1 evp_none (evp_some h3) (.inl rfl) (.inr ⟨_, rfl⟩) hx (fun h vs v => ⟨vs.take n, by show slicePick vs.toArray none (some (n : Int)) none = _; rw [slicePick_upto'], v.take n⟩) ht
theorem ev_ldrop {e lo : Expr} {sp pos : Pos} {xs : List PV} {n : Nat} (h1 : Ev w k env I e (.list xs)) (h3 : Ev w k env I lo (.int n)) (hx : xs.length ≤ sizeLine)
    (ht : ∀ o r, letTemporaryGo e o r = pure () := by intro _ _; rfl) : EvN w k env I (.Subscript e (.Slice (some lo) none none sp) pos) (xs.drop n) :=
  ev_lslice h1 (evp_some h3) evp_none (.inr ⟨_, rfl⟩) (.inl rfl) hx (fun h vs v => ⟨vs.drop n, by show slicePick vs.toArray (some (n : Int)) none none = _; rw [slicePick_from'], v.drop n⟩) ht

/- built-ins by name, methods of strs -/
def EvG (w : World) (k : Nat) (env : Env) (I : HI) (e : Expr) (v : Value) : Prop := Tr w k I (eval e env) fun _ u _ => u = v
theorem ev_call1 {x : Str} {xp pos : Pos} {e : Expr} {id : String} {p : PV} {R : Shared → Value → Shared → Prop} (hf : EvG w k env I (.Name x xp) (.builtin id)) (h1 : Ev w k env I e p)
    (hc : ∀ (A : Around) (s : Shared) (v : Value) (Q : Value → Shared → Prop), AOk k A → 0 < s.toks → I.p s.heap → Val s.heap p v → (∀ u s', Mv s s' → R s u s' → Q u s') → wpAny (model pw w) A (call (.builtin id) [v]) Q Bot s)
    (hR : ∀ s s1 u s', Mv s s1 → Mv s1 s' → R s1 u s' → R s u s')
    (he : starEach [e] env = [(false, eval e env)] := by rfl) : Tr w k I (eval (.Call (.Name x xp) [e] [] pos) env) R := fun A s Q a tk i hQ =>
  wpAny_Call_NameR (hf.use a tk i fun v s1 tk1 i1 m1 r1 => by
    subst r1
    rw [he]
    exact PySem.callWith_builtin1 (h1.use a tk1 i1 fun v2 s2 tk2 i2 m2 r2 => hc A s2 v2 Q a tk2 i2 r2 fun u s' m r => hQ u s' ((m1.trans m2).trans m) (hR _ _ _ _ (m1.trans m2) m r)))
theorem ev_lens {x : Str} {xp pos : Pos} {e : Expr} {y : Str} (hf : EvG w k env I (.Name x xp) (.builtin "len")) (h1 : Ev w k env I e (.str y)) (hy : y.length ≤ sizeLine)
    (he : starEach [e] env = [(false, eval e env)] := by rfl) : Ev w k env I (.Call (.Name x xp) [e] [] pos) (.int y.length) :=
  ev_call1 hf h1 (fun A s v Q _ _ _ r hQ => by cases r; exact P.len_str (by rw [sizeLine_eq] at hy; omega) (hQ _ _ (.tok _ _) (.int _ _))) (fun _ _ _ _ _ _ r => r) he
theorem ev_lenl {x : Str} {xp pos : Pos} {e : Expr} {ys : List PV} (hf : EvG w k env I (.Name x xp) (.builtin "len")) (h1 : Ev w k env I e (.list ys)) (hy : ys.length ≤ sizeLine)
    (he : starEach [e] env = [(false, eval e env)] := by rfl) : Ev w k env I (.Call (.Name x xp) [e] [] pos) (.int ys.length) :=
  ev_call1 hf h1 (fun A s v Q _ _ _ r hQ => by
    cases r with
    | list l hl pl vl =>
      refine call_len_list pl.isList (by rw [List.size_toArray, vl.length]; rw [sizeLine_eq] at hy; omega) ?_
      rw [List.size_toArray, vl.length]
      exact hQ _ _ (.tok _ _) (.int _ _)) (fun _ _ _ _ _ _ r => r) he
theorem ev_min {x : Str} {xp pos : Pos} {e f : Expr} {a b : Int} (hf : EvG w k env I (.Name x xp) (.builtin "min")) (h1 : Ev w k env I e (.int a)) (h2 : Ev w k env I f (.int b))
    (he : starEach [e, f] env = [(false, eval e env), (false, eval f env)] := by rfl) : Ev w k env I (.Call (.Name x xp) [e, f] [] pos) (.int (if b < a then b else a)) := fun A s Q ao tk i hQ =>
  wpAny_Call_NameR (hf.use ao tk i fun v s1 tk1 i1 m1 r1 => by
    subst r1
    rw [he]
    refine Calls.callWith_builtin rfl (Calls.evalArgs_plain (Calls.spliced_cons (h1.use ao tk1 i1 fun v2 s2 tk2 i2 m2 r2 => Calls.spliced_cons (h2.use ao tk2 i2 fun v3 s3 tk3 i3 m3 r3 => Calls.spliced_nil ?_))))
    cases r2; cases r3
    refine min_two_ints ao.handled fun h' tk' hk => ?_
    have m : Mv s { s3 with heap := h', toks := tk' } := ((m1.trans m2).trans m3).trans ⟨.of_keep hk, rfl, id⟩
    by_cases c : b < a
    · rw [if_pos c]; exact hQ _ _ m (by rw [if_pos c]; exact .int _ _)
    · rw [if_neg c]; exact hQ _ _ m (by rw [if_neg c]; exact .int _ _))

theorem ev_lower {o : Expr} {apos pos : Pos} {x : Str} (h1 : Ev w k env I o (.str x)) (hx : (Txt.lower x).length ≤ sizeLine)
    (hbase : attributeBase o "lower" env (eval o env) = eval o env := by rfl) (hline : (apos.endLine == pos.line) = true := by rfl) : Ev w k env I (.Call (.Attribute o "lower" apos) [] [] pos) (.str (Txt.lower x)) := fun A s Q a tk i hQ =>
  Call_method0 hbase hline (h1.use a tk i fun v s1 tk1 i1 m1 r1 => by
    cases r1
    exact SB.lower (decide_eq_false (Nat.not_lt.mpr hx)) (hQ _ _ (m1.trans (.tok _ _)) (.str _ _)))
theorem ev_replace {o : Expr} {apos pos p1 p2 : Pos} {x y z : Str} {k1 k2 : Nat} (h1 : Ev w k env I o (.str x)) (hyz : (y == z) = false) (hb : x.length + (x.length + 1) * z.length ≤ 16777216)
    (hbase : attributeBase o "replace" env (eval o env) = eval o env := by rfl) (hline : (apos.endLine == pos.line) = true := by rfl) :
    Ev w k env I (.Call (.Attribute o "replace" apos) [.Constant (.str y) k1 p1, .Constant (.str z) k2 p2] [] pos) (.str (Txt.replace x y z)) := fun A s Q a tk i hQ =>
  Call_method2 hbase rfl hline (h1.use a tk i fun v s1 tk1 i1 m1 r1 => by
    cases r1
    refine ⟨"str", _, F.plainAttrs_str, F.slot_str_replace, F.type_str_replace, typeIs_str _ _ _, (fun _ e => nomatch e), ?_⟩
    refine Calls.callWith_builtin rfl (Calls.evalArgs_plain (Calls.spliced_cons (wpAny_mkText (Calls.spliced_cons (wpAny_mkText (Calls.spliced_nil ?_))))))
    have hu : s1.toks ≠ 0 := by omega
    have hv : s1.toks + 1 ≠ 0 := by omega
    have huv : s1.toks ≠ s1.toks + 1 := by omega
    exact SC.replace hu hv huv hyz hb fun t' k' => hQ _ _ (m1.trans (.tok _ _)) (.str _ _))
end
end
end Mine

/- text L4 -/
namespace Mine
section
open PySem PySem.W PyProof.Rows PySem.Calls

def PV.sc : PV → Prop
  | .list _ => False
  | .tup _ => False
  | _ => True
def PV.ok : PV → Prop
  | .list xs => ∀ x ∈ xs, x.sc
  | .tup _ => False
  | _ => True
theorem Val.sc {h h' : Heap} {p : PV} {v : Value} (x : Val h p v) (s : p.sc) : Val h' p v := by
  cases x with
  | none => exact .none
  | bool b => exact .bool b
  | int i t => exact .int i t
  | str x t => exact .str x t
  | list => exact s.elim
  | tup => exact s.elim
theorem ValL.sc {h h' : Heap} : ∀ {p : List PV} {v : List Value}, ValL h p v → (∀ x ∈ p, x.sc) → ValL h' p v
  | _, _, .nil, _ => .nil
  | _, _, .cons a b, s => .cons (a.sc (s _ (.head _))) (b.sc fun x hx => s x (.tail _ hx))

structure Fm where
  env : Env
  base : Heap
  vars : List Str
  own : List Nat
  g : HI

structure FmOk (F : Fm) : Prop where
  gb : F.g.p F.base
  kind : F.env.scope.kind = .function
  nodup : F.vars.Nodup
  l16 : F.env.locals ≠ 16
  lnew : F.base.get? F.env.locals = none
  kinds : ∀ x ∈ F.vars, F.env.kindOf x = some .local ∨ (F.env.kindOf x = some .cell ∧ ∃ c, F.env.cells.lookup x = some c)
  cells : ∀ x c, F.env.cells.lookup x = some c → c ≠ 16 ∧ c ≠ F.env.locals ∧ F.base.get? c = none
  apart : ∀ x y c, F.env.cells.lookup x = some c → F.env.cells.lookup y = some c → x = y

theorem Le.same {b h h' : Heap} {a : Addr} (l : Le b h) (hn : b.get? a = none) (hs : Heap.SameBut a h h') : Le b h' :=
  ⟨fun x o hx e => (hs.2 x (fun q => by rw [q, hn] at e; cases e)).trans (l.keep x o hx e), fun vs t => by
    obtain ⟨m, t'⟩ := l.tab vs t
    have h20 : (20 : Addr) ≠ a := fun q => by
      obtain ⟨⟨o, _, e, _⟩, _⟩ := t.2
      rw [q, hn] at e; cases e
    have h16 : (16 : Addr) ≠ a := fun q => by
      have e := t.2.2
      rw [q, hn] at e; cases e
    exact ⟨m, t'.1.sameBut hs h20 h16, t'.2.sameBut hs h20 h16⟩⟩

def Bd (F : Fm) (h : Heap) (m : Str → Option Value) (x : Str) (v : Value) : Prop :=
  (F.env.kindOf x = some .local ∧ m x = some v) ∨ (F.env.kindOf x = some .cell ∧ ∃ c, F.env.cells.lookup x = some c ∧ h.IsCell c (some v))

structure StD (F : Fm) (gh : List (Addr × Obj)) (σ : List (Option PV)) (m : Str → Option Value) (μ : Nat → Value) (h : Heap) : Prop where
  ok : FmOk F
  le : Le F.base h
  ns : h.Ns F.env.locals m
  cl : ∀ x c, F.env.cells.lookup x = some c → ∃ v, h.IsCell c v
  var : ∀ i p, σ[i]? = some (some p) → p.ok ∧ Val h p (μ i) ∧ ∃ x, F.vars[i]? = some x ∧ Bd F h m x (μ i)
  sep : ∀ i ∈ F.own, ∀ j xs ys, σ[i]? = some (some (.list xs)) → σ[j]? = some (some (.list ys)) → i ≠ j → μ i ≠ μ j
  own : ∀ i ∈ F.own, ∀ xs a, σ[i]? = some (some (.list xs)) → μ i = .ref a → F.base.get? a = none
  gho : ∀ q ∈ gh, h.get? q.1 = some q.2 ∧ q.1 ≠ 16 ∧ q.1 ≠ F.env.locals ∧ (∀ x c, F.env.cells.lookup x = some c → q.1 ≠ c) ∧ ∀ i ∈ F.own, ∀ xs, σ[i]? = some (some (.list xs)) → μ i ≠ .ref q.1
def St (F : Fm) (gh : List (Addr × Obj)) (σ : List (Option PV)) (h : Heap) : Prop := ∃ m μ, StD F gh σ m μ h

section
variable {F : Fm} {gh : List (Addr × Obj)} {σ : List (Option PV)} {m : Str → Option Value} {μ : Nat → Value} {h h' : Heap}
theorem IsCell.ext {c : Addr} {v : Option Value} (x : h.IsCell c v) (k : Heap.ExtBut 16 h h') (hc : c ≠ 16) : h'.IsCell c v := let ⟨o, e, d⟩ := x; ⟨o, k c o hc e, d⟩
theorem Bd.ext {x : Str} {v : Value} (ok : FmOk F) (b : Bd F h m x v) (k : Heap.ExtBut 16 h h') : Bd F h' m x v := by
  rcases b with b | ⟨b, c, hc, hv⟩
  · exact .inl b
  · exact .inr ⟨b, c, hc, IsCell.ext hv k (ok.cells x c hc).1⟩
theorem StD.mono (S : StD F gh σ m μ h) (l : Le h h') : StD F gh σ m μ h' :=
  ⟨S.ok, S.le.trans l, S.ns.extBut l.keep S.ok.l16, fun x c hc => let ⟨v, hv⟩ := S.cl x c hc; ⟨v, IsCell.ext hv l.keep (S.ok.cells x c hc).1⟩,
    fun i p e => let ⟨a, b, x, hx, c⟩ := S.var i p e; ⟨a, b.le l, x, hx, c.ext S.ok l.keep⟩, S.sep, S.own,
    fun q hq => let ⟨a, b, r⟩ := S.gho q hq; ⟨l.keep _ _ b a, b, r⟩⟩
theorem StD.glo (S : StD F gh σ m μ h) : F.g.p h := F.g.st S.ok.gb S.le
def hi (F : Fm) (gh : List (Addr × Obj)) (σ : List (Option PV)) : HI :=
  ⟨St F gh σ, fun ⟨m, μ, S⟩ l => ⟨m, μ, S.mono l⟩, fun ⟨_, _, S⟩ => F.g.tab S.glo⟩

/-- the live lists of a state -/
theorem StD.live (S : StD F gh σ m μ h) {i : Nat} {xs : List PV} (e : σ[i]? = some (some (.list xs))) : ∃ a, μ i = .ref a ∧ ∃ o, h.get? a = some o := by
  obtain ⟨_, v, _⟩ := S.var i _ e
  generalize μ i = y at v
  cases v with
  | list a _ p _ => obtain ⟨o, _, e, _⟩ := p; exact ⟨a, rfl, o, e⟩

/-- a value that may be stored under a name: no list, or one that is new to the heap h₀ -/
def NewTo (h₀ : Heap) (p : PV) (v : Value) : Prop := ∀ xs, p = .list xs → ∃ a, v = .ref a ∧ h₀.get? a = none

theorem NewTo.sc {h₀ : Heap} {p : PV} {v : Value} (s : p.sc) : NewTo h₀ p v := fun xs e => by subst e; exact s.elim

theorem get_set {i j : Nat} {p : PV} {q : Option PV} (e : (σ.set i (some p))[j]? = some q) : (j = i ∧ q = some p) ∨ (j ≠ i ∧ σ[j]? = some q) := by
  rw [List.getElem?_set] at e
  by_cases h : i = j
  · subst h
    rw [if_pos rfl] at e
    split at e
    · left; exact ⟨rfl, (Option.some.inj e).symm⟩
    · cases e
  · rw [if_neg h] at e
    exact .inr ⟨Ne.symm h, e⟩

/-- the store of a name: what is left to show is about the heap behind it -/
theorem StD.stored {h₀ : Heap} (S₀ : StD F gh σ m μ h₀) (l : Le h₀ h) {i : Nat} {x : Str} {p : PV} {v : Value} (hx : F.vars[i]? = some x) (hp : p.ok) (hv : Val h p v) (hn : NewTo h₀ p v)
    {m' : Str → Option Value} {a : Addr} (hs : Heap.SameBut a h h') (ha : F.base.get? a = none) (ha16 : a ≠ 16)
    (hns : h'.Ns F.env.locals m') (hcl : ∀ y c, F.env.cells.lookup y = some c → ∃ u, h'.IsCell c u)
    (hm : ∀ y u, y ≠ x → Bd F h m y u → Bd F h' m' y u) (hmx : Bd F h' m' x v)
    (hal : ∀ b its, PlainL h b its → b ≠ a) (hag : ∀ q ∈ gh, q.1 ≠ a) : StD F gh (σ.set i (some p)) m' (fun j => if j = i then v else μ j) h' := by
  have S := S₀.mono l
  have nod := S.ok.nodup
  have vk : ∀ {q : PV} {u : Value}, q.ok → Val h q u → Val h' q u := fun {q u} hq hu => by
    cases hu with
    | none => exact .none
    | bool b => exact .bool b
    | int i t => exact .int i t
    | str x t => exact .str x t
    | list b hb pb vb => exact .list b hb (pb.extBut hs.extBut (hal b _ pb)) (vb.sc hq)
    | tup => exact hq.elim
  have newne : ∀ j ys, σ[j]? = some (some (.list ys)) → ∀ zs, p = .list zs → μ j ≠ v := fun j ys ej zs ep q => by
    obtain ⟨b, eb, o, ho⟩ := S₀.live ej
    obtain ⟨c, ec, hc⟩ := hn zs ep
    rw [eb, ec] at q
    cases q
    rw [hc] at ho; cases ho
  refine ⟨S.ok, S.le.same ha hs, hns, hcl, fun j q e => ?_, fun j hj k xs ys e1 e2 hjk => ?_, fun j hj xs b e1 e2 => ?_, fun q hq => ?_⟩
  · rcases get_set e with ⟨rfl, e'⟩ | ⟨hji, e'⟩
    · cases e'
      simp only [if_true]
      exact ⟨hp, vk hp hv, x, hx, hmx⟩
    · obtain ⟨o1, o2, y, hy, o3⟩ := S.var j q e'
      simp only [if_neg hji]
      refine ⟨o1, vk o1 o2, y, hy, hm y _ ?_ o3⟩
      rintro rfl
      exact hji ((List.getElem?_inj (List.getElem?_eq_some_iff.mp hy).1 nod).mp (hy.trans hx.symm))
  · rcases get_set e1 with ⟨rfl, f1⟩ | ⟨h1, f1⟩ <;> rcases get_set e2 with ⟨rfl, f2⟩ | ⟨h2, f2⟩
    · exact (hjk rfl).elim
    · simp only [if_true, if_neg h2]
      exact fun q => newne k ys f2 xs (Option.some.inj f1).symm q.symm
    · simp only [if_true, if_neg h1]
      exact newne j xs f1 ys (Option.some.inj f2).symm
    · simp only [if_neg h1, if_neg h2]
      exact S.sep j hj k xs ys f1 f2 hjk
  · rcases get_set e1 with ⟨rfl, f1⟩ | ⟨h1, f1⟩
    · simp only [if_true] at e2
      obtain ⟨c, ec, hc⟩ := hn xs (Option.some.inj f1).symm
      rw [ec] at e2; cases e2
      have c16 : b ≠ 16 := by
        subst ec
        obtain rfl := (Option.some.inj f1)
        cases hv with
        | list _ hb _ _ => exact hb
      exact new_of S₀.le c16 hc
    · simp only [if_neg h1] at e2
      exact S.own j hj xs b f1 e2
  · obtain ⟨g1, g2, g3, g4, g5⟩ := S.gho q hq
    refine ⟨(hs.2 _ (hag q hq)).trans g1, g2, g3, g4, fun j hj xs e => ?_⟩
    rcases get_set e with ⟨rfl, f1⟩ | ⟨h1, f1⟩
    · simp only [if_true]
      obtain ⟨c, ec, hc⟩ := hn xs (Option.some.inj f1).symm
      rw [ec]
      intro q'
      cases q'
      rw [(S₀.gho q hq).1] at hc; cases hc
    · simp only [if_neg h1]
      exact g5 j hj xs f1
end

section
variable {w : World} {k : Nat} {F : Fm} {gh : List (Addr × Obj)} {σ : List (Option PV)} {A : Around}
theorem Ns.notList {h : Heap} {a b : Addr} {m : Str → Option Value} {its : Array Value} (n : h.Ns a m) (p : PlainL h b its) : b ≠ a := by
  rintro rfl
  obtain ⟨o, es, ep, ho, hd, _⟩ := n
  obtain ⟨o', n', ho', _, _, hd'⟩ := p
  rw [ho] at ho'; cases ho'
  rw [hd] at hd'; cases hd'
theorem IsCell.notList {h : Heap} {a b : Addr} {v : Option Value} {its : Array Value} (n : h.IsCell a v) (p : PlainL h b its) : b ≠ a := by
  rintro rfl
  obtain ⟨o, ho, hd⟩ := n
  obtain ⟨o', n', ho', _, _, hd'⟩ := p
  rw [ho] at ho'; cases ho'
  rw [hd] at hd'; cases hd'

theorem store_name {s₀ s : Shared} {Q : Unit → Shared → Prop} {m : Str → Option Value} {μ : Nat → Value} (S₀ : StD F gh σ m μ s₀.heap) (l : Le s₀.heap s.heap) {i : Nat} {x : Str} {p : PV} {v : Value} (hx : F.vars[i]? = some x)
    (hp : p.ok) (hv : Val s.heap p v) (hn : NewTo s₀.heap p v) (hQ : ∀ h' tk, St F gh (σ.set i (some p)) h' → Q () { s with heap := h', toks := tk }) :
    wpAny (model pw w) A (storeName F.env x v) Q Bot s := by
  have S := S₀.mono l
  rcases S.ok.kinds x (List.mem_of_getElem? hx) with hk | ⟨hk, c, hc⟩
  · refine wpAny_storeName_local hk S.ns (fun h' hn' hs' => hQ h' _ ⟨_, _, S₀.stored l hx hp hv hn hs' S.ok.lnew S.ok.l16 hn' (fun y c hc => ?_) (fun y u hy b => ?_) (.inl ⟨hk, by simp⟩) (fun b its pb => Ns.notList S.ns pb) fun q hq => (S₀.gho q hq).2.2.1⟩) (by rw [S.ok.kind]; rfl)
    · obtain ⟨u, hu⟩ := S.cl y c hc
      exact ⟨u, hu.sameBut hs' (S.ok.cells y c hc).2.1⟩
    · rcases b with ⟨b1, b2⟩ | ⟨b1, c, hc, hu⟩
      · exact .inl ⟨b1, by simp [hy, b2]⟩
      · exact .inr ⟨b1, c, hc, hu.sameBut hs' (S.ok.cells y c hc).2.1⟩
  · obtain ⟨u0, hu0⟩ := S.cl x c hc
    obtain ⟨c16, cL, cn⟩ := S.ok.cells x c hc
    refine wpAny_storeName_cell S.ok.kind hk hc hu0 (fun h' hv' hs' => hQ h' s.toks ⟨m, _, S₀.stored l hx hp hv hn hs' cn c16 (S.ns.sameBut hs' (Ne.symm cL)) (fun y c' hc' => ?_) (fun y u hy b => ?_) (.inr ⟨hk, c, hc, hv'⟩) (fun b its pb => IsCell.notList hu0 pb) fun q hq => (S₀.gho q hq).2.2.2.1 x c hc⟩)
    · by_cases e : c' = c
      · subst e; exact ⟨_, hv'⟩
      · obtain ⟨u, hu⟩ := S.cl y c' hc'
        exact ⟨u, hu.sameBut hs' e⟩
    · rcases b with b | ⟨b1, c', hc', hu⟩
      · exact .inl b
      · refine .inr ⟨b1, c', hc', hu.sameBut hs' fun e => ?_⟩
        subst e
        exact hy (S.ok.apart y x c' hc' hc)

/-- a name read -/
theorem ev_var {x : Str} {pos : Pos} (i : Nat) {p : PV} (hx : F.vars[i]? = some x := by rfl) (hs : σ[i]? = some (some p) := by rfl) (hd : (x == ("__debug__" : Str)) = false := by decide) :
    Ev w k F.env (hi F gh σ) (.Name x pos) p := fun A s Q a tk i' hQ => by
  obtain ⟨m, μ, S⟩ := i'
  obtain ⟨o1, o2, y, hy, b⟩ := S.var i p hs
  rw [hx] at hy
  cases hy
  rcases b with ⟨b1, b2⟩ | ⟨b1, c, hc, hu⟩
  · exact wpAny_Name (wpAny_loadName_local S.ok.kind b1 S.ns b2 (hQ _ _ (.refl _) o2)) hd
  · exact wpAny_Name (wpAny_loadName_cell S.ok.kind b1 hc hu (hQ _ _ (.refl _) o2)) hd
end
end
end Mine

/- text L5 -/
namespace Mine
section
open PySem PySem.W PyProof.Rows PySem.Calls

theorem PlainL.update {h : Heap} {a : Addr} {its : Array Value} (p : PlainL h a its) (f : Array Value → Array Value) : PlainL (h.update a (Obj.mapSeq f)) a (f its) := by
  obtain ⟨⟨c, d, dt, sl⟩, n, e1, e2, e3, e4⟩ := p
  dsimp only at e2 e3 e4
  subst e2 e3 e4
  exact ⟨_, _, Heap.get?_update_self _ e1 rfl, rfl, rfl, rfl⟩
section
variable {prog : Program} {w : World} {A : Around} {E : Value → Shared → Prop} {s : Shared}
theorem set_list {l : Addr} {items : Array Value} {n : Int} {j : Nat} {t : Tok} {v : Value} {Q : Unit → Shared → Prop} (pl : PlainL s.heap l items)
    (hj : j < items.size) (hn : (0 ≤ n ∧ n < 2 ^ 63 ∧ n = j) ∨ (n < 0 ∧ -(2 ^ 63) ≤ n ∧ n + items.size = j))
    (hQ : Q () { s with heap := s.heap.update l (Obj.mapSeq (·.setIfInBounds j v)) }) :
    wpAny (model prog w) A (setItem (.ref l) (.int n t) v) Q E s := by
  obtain ⟨⟨c, dc, dt, sl⟩, k, ho, rfl, _, rfl⟩ := pl
  have hT : s.TypeIs (.ref l) "list" := ⟨_, ho, rfl⟩
  have hx : items[j]? = some items[j] := Array.getElem?_eq_getElem hj
  have hf : Builtin.List.listFitsIndex n = true := by
    rcases hn with ⟨a, b, _⟩ | ⟨a, b, _⟩
    · exact fitsIndex_of a b
    · exact fitsIndex_neg a b
  unfold setItem
  refine wpAny_holding (wpAny_bind (wpAny_sequenceKey hT (by decide) (wpAny_bind (wpAny_callSpecial?_slot (name := Str.ofString "__setitem__") hT slot_list_setitem (wpAny_call_entry slot_list_setitem hT entry_list_setitem ?_ (args_list_setitem _ _ _))))))
  have neg : n < 0 → seqIndex? n items.size = some j := fun h => by
    rcases hn with ⟨h0, _⟩ | ⟨_, _, h2⟩
    · omega
    · rw [seqIndex_neg h (by omega)]
      congr 1
      omega
  wp_walk using wpAny_listSubscript_int hf
  have fin : wpAny (model prog w) A.in1 (do setSeqItemAt l j v; PySem.ret .none) (fun f s' => ∃ u, f = Fin.done (Flow.ret u) ∧ wpAny (model prog w) A (pure ()) Q E s') E s := by
    wp_walk using wpAny_setSeqItemAt ho rfl
    exact ⟨.none, rfl, wpAny_pure hQ⟩
  cases n with
  | ofNat m =>
    obtain rfl : m = j := by
      rcases hn with ⟨_, _, h⟩ | ⟨h, _, _⟩
      · exact Int.ofNat.inj h
      · exact absurd h (Int.not_lt.mpr (Int.natCast_nonneg m))
    wp_walk using wpAny_seqItemAt ho rfl
    rw [hx]
    exact fin
  | negSucc m =>
    wp_walk using wpAny_seqItems ho rfl
    rw [neg (Int.negSucc_lt_zero m)]
    simp only [Option.bind_some, hx, Option.map_some]
    exact fin
end

inductive Fl where
  | next
  | brk
  | cont
  | ret (p : PV)
  | retN (xs : List PV)

def FlV (F : Fm) (h : Heap) : Fl → Flow → Prop
  | .next, .next => True
  | .brk, .brk => True
  | .cont, .cont => True
  | .ret p, .ret v => Val h p v
  | .retN xs, .ret v => ∃ a, v = .ref a ∧ F.base.get? a = none ∧ Val h (.list xs) (.ref a)
  | _, _ => False

abbrev Sg := List (Option PV)

structure Ms (s s' : Shared) : Prop where
  os : s'.os = s.os
  gens : AllBare s.gens → AllBare s'.gens
theorem Mv.ms {s s' : Shared} (m : Mv s s') : Ms s s' := ⟨m.os, m.gens⟩
theorem Ms.trans {a b c : Shared} (x : Ms a b) (y : Ms b c) : Ms a c := ⟨y.os.trans x.os, fun g => y.gens (x.gens g)⟩
theorem Ms.refl (s : Shared) : Ms s s := ⟨rfl, id⟩

def Ex (w : World) (k : Nat) (F : Fm) (σ : Sg) (t : Sem Flow) (K : Fl → Sg → Prop) : Prop :=
  ∀ gh A s Q, AOk k A → 0 < s.toks → St F gh σ s.heap → (∀ f s' fl σ', K fl σ' → St F gh σ' s'.heap → Ms s s' → FlV F s'.heap fl f → Q f s') → wpAny (model pw w) A t Q Bot s

section
variable {w : World} {k : Nat} {F : Fm} {σ : Sg} {K : Fl → Sg → Prop}

theorem Ex.use {t : Sem Flow} (h : Ex w k F σ t K) {gh : List (Addr × Obj)} {A : Around} {s : Shared} {Q : Flow → Shared → Prop} (a : AOk k A) (tk : 0 < s.toks) (S : St F gh σ s.heap)
    (hQ : ∀ f s' fl σ', 0 < s'.toks → K fl σ' → St F gh σ' s'.heap → Ms s s' → FlV F s'.heap fl f → Q f s') : wpAny (model pw w) A t Q Bot s :=
  wpAny_with_toks (n := 1) tk (wpAny_mono (h gh A s (fun v s' => 1 ≤ s'.toks → Q v s') a tk S fun f s' fl σ' hk S' m r tk' => hQ f s' fl σ' tk' hk S' m r) (fun _ _ x => x) fun _ _ x => x.elim)
theorem Ex.mono {t : Sem Flow} {K' : Fl → Sg → Prop} (h : Ex w k F σ t K) (hk : ∀ fl σ', K fl σ' → K' fl σ') : Ex w k F σ t K' :=
  fun gh A s Q a tk S hQ => h gh A s Q a tk S fun f s' fl σ' q => hQ f s' fl σ' (hk fl σ' q)

theorem ex_nil (h : K .next σ) : Ex w k F σ (execs [] F.env) K := fun gh A s Q a tk S hQ => wpAny_execs_nil (hQ _ _ _ _ h S (.refl _) trivial)
theorem ex_cons {st : Stmt} {rest : List Stmt} (h : Ex w k F σ (exec st F.env) fun fl σ' => match fl with | .next => Ex w k F σ' (execs rest F.env) K | fl => K fl σ') :
    Ex w k F σ (execs (st :: rest) F.env) K := fun gh A s Q a tk S hQ =>
  wpAny_execs_cons (h.use a tk S fun f s' fl σ' tk' hk S' m r => by
    cases fl with
    | next =>
      cases f with
      | next => exact Ex.use hk a tk' S' fun f2 s2 fl2 σ2 _ hk2 S2 m2 r2 => hQ _ _ _ _ hk2 S2 (m.trans m2) r2
      | brk => exact r.elim
      | cont => exact r.elim
      | ret v => exact r.elim
    | brk => cases f <;> first | exact r.elim | exact hQ _ _ _ _ hk S' m r
    | cont => cases f <;> first | exact r.elim | exact hQ _ _ _ _ hk S' m r
    | ret p => cases f <;> first | exact r.elim | exact hQ _ _ _ _ hk S' m r
    | retN p => cases f <;> first | exact r.elim | exact hQ _ _ _ _ hk S' m r)

/-- x = e, no list -/
theorem ex_assign {x : Str} {px pos : Pos} {e : Expr} {p : PV} (i : Nat) (h : ∀ gh, Ev w k F.env (hi F gh σ) e p) (hk : K .next (σ.set i (some p)))
    (hp : p.sc := by trivial) (hx : F.vars[i]? = some x := by rfl) (hs : swapsWith e (some (.Name x px)) pos.line F.env = pure false := by rfl) :
    Ex w k F σ (exec (.Assign [.Name x px] e pos) F.env) K := fun gh A s Q a tk S hQ =>
  wpAny_Assign_Name ((h gh).use a tk S fun v s1 tk1 S1 m1 r1 => by
    obtain ⟨m, μ, S1⟩ := S1
    refine store_name (s₀ := s1) S1 (.refl _) hx ?_ r1 (.sc hp) fun h' tk' S' => hQ _ _ _ _ hk S' ⟨m1.os, m1.gens⟩ trivial
    cases p <;> first | trivial | exact hp.elim) hs
/-- x = e, a new list -/
theorem ex_assignN {x : Str} {px pos : Pos} {e : Expr} {xs : List PV} (i : Nat) (h : ∀ gh, EvN w k F.env (hi F gh σ) e xs) (hk : K .next (σ.set i (some (.list xs))))
    (hp : PV.ok (.list xs)) (hx : F.vars[i]? = some x := by rfl) (hs : swapsWith e (some (.Name x px)) pos.line F.env = pure false := by rfl) :
    Ex w k F σ (exec (.Assign [.Name x px] e pos) F.env) K := fun gh A s Q a tk S hQ => by
  obtain ⟨m, μ, S0⟩ := id S
  exact wpAny_Assign_Name ((h gh).use a tk S fun v s1 tk1 S1 m1 r1 => by
    obtain ⟨b, rfl, hn, vb⟩ := r1
    exact store_name (s₀ := s) S0 m1.le hx hp vb (fun _ _ => ⟨b, rfl, hn⟩) fun h' tk' S' => hQ _ _ _ _ hk S' ⟨m1.os, m1.gens⟩ trivial) hs
theorem ex_return {e : Expr} {pos : Pos} {p : PV} (h : ∀ gh, Ev w k F.env (hi F gh σ) e p) (hk : K (.ret p) σ) : Ex w k F σ (exec (.Return (some e) pos) F.env) K := fun gh A s Q a tk S hQ =>
  wpAny_Return_some ((h gh).use a tk S fun v s1 tk1 S1 m1 r1 => hQ _ _ _ _ hk S1 m1.ms r1)
/-- the return of an own list -/
theorem ex_returnN {x : Str} {px pos : Pos} {xs : List PV} (i : Nat) (hi' : i ∈ F.own) (hk : K (.retN xs) σ) (hx : F.vars[i]? = some x := by rfl) (hs : σ[i]? = some (some (.list xs)) := by rfl) (hd : (x == ("__debug__" : Str)) = false := by decide) :
    Ex w k F σ (exec (.Return (some (.Name x px)) pos) F.env) K := fun gh A s Q a tk S hQ => by
  obtain ⟨m, μ, S0⟩ := id S
  obtain ⟨o1, o2, y, hy, b⟩ := S0.var i _ hs
  rw [hx] at hy
  cases hy
  obtain ⟨c, ec, _⟩ := S0.live hs
  have fin : FlV F s.heap (.retN xs) (.ret (μ i)) := ⟨c, ec, S0.own i hi' xs c hs ec, by rw [ec] at o2; exact o2⟩
  rcases b with ⟨b1, b2⟩ | ⟨b1, c, hc, hu⟩
  · exact wpAny_Return_some (wpAny_Name (wpAny_loadName_local S0.ok.kind b1 S0.ns b2 (hQ _ _ _ _ hk S (.refl _) fin)) hd)
  · exact wpAny_Return_some (wpAny_Name (wpAny_loadName_cell S0.ok.kind b1 hc hu (hQ _ _ _ _ hk S (.refl _) fin)) hd)
theorem ex_if {t : Expr} {b1 b2 : List Stmt} {pos : Pos} {b : Bool} (h : ∀ gh, Te w k F.env (hi F gh σ) t b) (h1 : b = true → Ex w k F σ (execs b1 F.env) K) (h2 : b = false → Ex w k F σ (execs b2 F.env) K) :
    Ex w k F σ (exec (.If t b1 b2 pos) F.env) K := fun gh A s Q a tk S hQ =>
  wpAny_If ((h gh).use a tk S fun v s1 tk1 S1 m1 r1 => by
    subst r1
    cases v with
    | true => exact (h1 rfl).use a tk1 S1 fun f2 s2 fl2 σ2 _ hk2 S2 m2 r2 => hQ _ _ _ _ hk2 S2 (m1.ms.trans m2) r2
    | false => exact (h2 rfl).use a tk1 S1 fun f2 s2 fl2 σ2 _ hk2 S2 m2 r2 => hQ _ _ _ _ hk2 S2 (m1.ms.trans m2) r2)
theorem ex_break {pos : Pos} (hk : K .brk σ) : Ex w k F σ (exec (.Break pos) F.env) K := fun gh A s Q a tk S hQ => wpAny_Break (hQ _ _ _ _ hk S (.refl _) trivial)
/-- x += e, ints -/
theorem ex_augadd {x : Str} {px pos : Pos} {e : Expr} (i : Nat) {a b : Int} (h : ∀ gh, Ev w k F.env (hi F gh σ) e (.int b)) (hk : K .next (σ.set i (some (.int (a + b)))))
    (hx : F.vars[i]? = some x := by rfl) (hs : σ[i]? = some (some (.int a)) := by rfl) : Ex w k F σ (exec (.AugAssign (.Name x px) .Add e pos) F.env) K := fun gh A s Q ao tk S hQ => by
  obtain ⟨m, μ, S0⟩ := id S
  obtain ⟨o1, o2, y, hy, bd⟩ := S0.var i _ hs
  rw [hx] at hy
  cases hy
  have rest : ∀ u t, u = Value.int a t → wpAny (model pw w) A (eval e F.env) (fun v s₂ => wpAny (model pw w) A (inplaceOp .Add u v) (fun r s₃ => wpAny (model pw w) A (storeName F.env x r) (fun _ => Q .next) Bot s₃) Bot s₂) Bot s := fun u t hu =>
    (h gh).use ao tk S fun v s1 tk1 S1 m1 r1 => by
      subst hu
      cases r1
      obtain ⟨m', μ', S1⟩ := S1
      refine iadd_int (store_name (s₀ := s1) (s := { s1 with toks := s1.toks + 1 }) (p := .int (a + b)) S1 (.refl _) hx trivial (.int _ _) (.sc trivial) fun h' tk' S' => ?_)
      exact hQ .next _ .next _ hk S' ⟨m1.os, m1.gens⟩ trivial
  generalize hu : μ i = u at o2 bd
  cases o2 with
  | int _ t =>
    rcases bd with ⟨b1, b2⟩ | ⟨b1, c, hc, hu'⟩
    · exact wpAny_AugAssign_Name (wpAny_loadName_local S0.ok.kind b1 S0.ns b2 (rest _ t rfl))
    · exact wpAny_AugAssign_Name (wpAny_loadName_cell S0.ok.kind b1 hc hu' (rest _ t rfl))
theorem ex_augsub {x : Str} {px pos : Pos} {e : Expr} (i : Nat) {a b : Int} (h : ∀ gh, Ev w k F.env (hi F gh σ) e (.int b)) (hk : K .next (σ.set i (some (.int (a - b)))))
    (hx : F.vars[i]? = some x := by rfl) (hs : σ[i]? = some (some (.int a)) := by rfl) : Ex w k F σ (exec (.AugAssign (.Name x px) .Sub e pos) F.env) K := fun gh A s Q ao tk S hQ => by
  obtain ⟨m, μ, S0⟩ := id S
  obtain ⟨o1, o2, y, hy, bd⟩ := S0.var i _ hs
  rw [hx] at hy
  cases hy
  have rest : ∀ u t, u = Value.int a t → wpAny (model pw w) A (eval e F.env) (fun v s₂ => wpAny (model pw w) A (inplaceOp .Sub u v) (fun r s₃ => wpAny (model pw w) A (storeName F.env x r) (fun _ => Q .next) Bot s₃) Bot s₂) Bot s := fun u t hu =>
    (h gh).use ao tk S fun v s1 tk1 S1 m1 r1 => by
      subst hu
      cases r1
      obtain ⟨m', μ', S1⟩ := S1
      refine P.isub_int (store_name (s₀ := s1) (s := { s1 with toks := s1.toks + 1 }) (p := .int (a - b)) S1 (.refl _) hx trivial (.int _ _) (.sc trivial) fun h' tk' S' => ?_)
      exact hQ .next _ .next _ hk S' ⟨m1.os, m1.gens⟩ trivial
  generalize hu : μ i = u at o2 bd
  cases o2 with
  | int _ t =>
    rcases bd with ⟨b1, b2⟩ | ⟨b1, c, hc, hu'⟩
    · exact wpAny_AugAssign_Name (wpAny_loadName_local S0.ok.kind b1 S0.ns b2 (rest _ t rfl))
    · exact wpAny_AugAssign_Name (wpAny_loadName_cell S0.ok.kind b1 hc hu' (rest _ t rfl))
/-- x = y = e -/
theorem ex_assign2 {x y : Str} {px py pos : Pos} {e : Expr} {p : PV} (i j : Nat) (h : ∀ gh, Ev w k F.env (hi F gh σ) e p) (hk : K .next ((σ.set i (some p)).set j (some p)))
    (hp : p.sc := by trivial) (hx : F.vars[i]? = some x := by rfl) (hy : F.vars[j]? = some y := by rfl) :
    Ex w k F σ (exec (.Assign [.Name x px, .Name y py] e pos) F.env) K := fun gh A s Q a tk S hQ =>
  have po : p.ok := by cases p <;> first | trivial | exact hp.elim
  wpAny_Assign_two ((h gh).use a tk S fun v s1 tk1 S1 m1 r1 => by
    obtain ⟨m, μ, S1⟩ := S1
    refine wpAny_assign_Name (store_name (s₀ := s1) S1 (.refl _) hx po r1 (.sc hp) fun h' tk' S' => ?_)
    obtain ⟨m', μ', S'⟩ := S'
    exact wpAny_assign_Name (store_name (s₀ := { s1 with heap := h', toks := tk' }) S' (.refl _) hy po (r1.sc hp) (.sc hp) fun h'' tk'' S'' => hQ _ _ _ _ hk S'' ⟨m1.os, m1.gens⟩ trivial))
end
end
end Mine

/- text L6 -/
namespace Mine
section
open PySem PySem.W PyProof.Rows PySem.Calls
section
variable {F : Fm} {gh : List (Addr × Obj)} {σ : Sg} {m : Str → Option Value} {μ : Nat → Value} {h h' : Heap}

theorem StD.mutate (S : StD F gh σ m μ h) {i : Nat} (hi' : i ∈ F.own) {xs ys : List PV} (e : σ[i]? = some (some (.list xs))) {a : Addr} (ea : μ i = .ref a) (hs : Heap.SameBut a h h')
    {vs : List Value} (pl : PlainL h' a vs.toArray) (vl : ValL h' ys vs) (hy : ∀ y ∈ ys, y.sc) : StD F gh (σ.set i (some (.list ys))) m μ h' := by
  obtain ⟨o1, o2, x, hx, bd⟩ := S.var i _ e
  rw [ea] at o2
  obtain ⟨a16, pa⟩ : a ≠ 16 ∧ ∃ its, PlainL h a its := by cases o2 with | list _ ha p _ => exact ⟨ha, _, p⟩
  obtain ⟨its, pa⟩ := pa
  have an := S.own i hi' xs a e ea
  have La : a ≠ F.env.locals := Ns.notList S.ns pa
  have ca : ∀ y c, F.env.cells.lookup y = some c → a ≠ c := fun y c hc => let ⟨v, hv⟩ := S.cl y c hc; IsCell.notList hv pa
  have bk : ∀ y u, Bd F h m y u → Bd F h' m y u := fun y u b => by
    rcases b with b | ⟨b1, c, hc, hu⟩
    · exact .inl b
    · exact .inr ⟨b1, c, hc, hu.sameBut hs (Ne.symm (ca y c hc))⟩
  refine ⟨S.ok, S.le.same an hs, S.ns.sameBut hs (Ne.symm La), fun y c hc => let ⟨v, hv⟩ := S.cl y c hc; ⟨v, hv.sameBut hs (Ne.symm (ca y c hc))⟩, fun j q ej => ?_, fun j hj l us ws e1 e2 hjl => ?_, fun j hj us b e1 e2 => ?_, fun q hq => ?_⟩
  · rcases get_set ej with ⟨rfl, e'⟩ | ⟨hji, e'⟩
    · cases e'
      exact ⟨hy, by rw [ea]; exact .list a a16 pl vl, x, hx, bk _ _ bd⟩
    · obtain ⟨p1, p2, y, hy', p3⟩ := S.var j q e'
      refine ⟨p1, ?_, y, hy', bk _ _ p3⟩
      generalize hu : μ j = u at p2
      cases p2 with
      | none => exact .none
      | bool b => exact .bool b
      | int i t => exact .int i t
      | str x t => exact .str x t
      | list b hb pb vb =>
        refine .list b hb (pb.extBut hs.extBut fun q => ?_) (vb.sc p1)
        subst q
        exact S.sep i hi' j _ _ e e' (Ne.symm hji) (ea.trans hu.symm)
      | tup => exact p1.elim
  · have f : ∀ {n : Nat} {zs : List PV}, (σ.set i (some (.list ys)))[n]? = some (some (.list zs)) → ∃ zs', σ[n]? = some (some (.list zs')) := fun {n zs} q => by
      rcases get_set q with ⟨rfl, _⟩ | ⟨_, q'⟩
      · exact ⟨_, e⟩
      · exact ⟨_, q'⟩
    obtain ⟨_, g1⟩ := f e1
    obtain ⟨_, g2⟩ := f e2
    exact S.sep j hj l _ _ g1 g2 hjl
  · rcases get_set e1 with ⟨rfl, _⟩ | ⟨_, q'⟩
    · exact S.own j hj xs b e e2
    · exact S.own j hj us b q' e2
  · obtain ⟨g1, g2, g3, g4, g5⟩ := S.gho q hq
    refine ⟨(hs.2 _ fun q' => g5 i hi' xs e (by rw [ea, q'])).trans g1, g2, g3, g4, fun j hj us e1 => ?_⟩
    rcases get_set e1 with ⟨rfl, _⟩ | ⟨_, q'⟩
    · exact g5 j hj xs e
    · exact g5 j hj us q'
end

section
variable {w : World} {k : Nat} {F : Fm} {σ : Sg} {K : Fl → Sg → Prop}

theorem load_var {gh : List (Addr × Obj)} {m : Str → Option Value} {μ : Nat → Value} {A : Around} {s : Shared} {Q : Value → Shared → Prop} (S : StD F gh σ m μ s.heap) {i : Nat} {x : Str} {px : Pos} {p : PV}
    (hx : F.vars[i]? = some x) (hs : σ[i]? = some (some p)) (hd : (x == ("__debug__" : Str)) = false) (hQ : Q (μ i) s) : wpAny (model pw w) A (eval (.Name x px) F.env) Q Bot s := by
  obtain ⟨o1, o2, y, hy, b⟩ := S.var i p hs
  rw [hx] at hy
  cases hy
  rcases b with ⟨b1, b2⟩ | ⟨b1, c, hc, hu⟩
  · exact wpAny_Name (wpAny_loadName_local S.ok.kind b1 S.ns b2 hQ) hd
  · exact wpAny_Name (wpAny_loadName_cell S.ok.kind b1 hc hu hQ) hd

theorem ex_append {x : Str} {px apos cpos pos : Pos} {e : Expr} {xs : List PV} {p : PV} (i : Nat) (hi' : i ∈ F.own) (h : ∀ gh, Ev w k F.env (hi F gh σ) e p) (hk : K .next (σ.set i (some (.list (xs ++ [p])))))
    (hsz : xs.length ≤ sizeLine) (hp : p.sc := by trivial) (hx : F.vars[i]? = some x := by rfl) (hs : σ[i]? = some (some (.list xs)) := by rfl) (hd : (x == ("__debug__" : Str)) = false := by decide)
    (hbase : attributeBase (.Name x px) "append" F.env (eval (.Name x px) F.env) = eval (.Name x px) F.env := by rfl) (hline : (apos.endLine == cpos.line) = true := by rfl) (he : starEach [e] F.env = [(false, eval e F.env)] := by rfl)
    (hint : interactive F.env = false := by rfl) (hsw : swapsWith (.Call (.Attribute (.Name x px) "append" apos) [e] [] cpos) none pos.line F.env = pure false := by rfl) :
    Ex w k F σ (exec (.Expr (.Call (.Attribute (.Name x px) "append" apos) [e] [] cpos) pos) F.env) K := fun gh A s Q a tk S hQ => by
  obtain ⟨m, μ, S0⟩ := id S
  obtain ⟨o1, o2, _⟩ := S0.var i _ hs
  obtain ⟨b, eb, _⟩ := S0.live hs
  refine wpAny_Expr_any (wpAny_Call_append hbase (by rw [he]; rfl) hline (by rw [he]; rfl) (load_var S0 hx hs hd ?_)) hint hsw
  rw [eb] at o2
  rw [eb]
  cases o2 with
  | list _ b16 pb vb =>
    refine ⟨b, _, rfl, pb, (h gh).use a tk S fun v s1 tk1 _ m1 r1 => ?_⟩
    have S1 := S0.mono m1.le
    have pb' := pb.extBut m1.le.keep b16
    have vb' := ValL.le m1.le vb
    refine list_append_plainL pb' (fun h' pu hs' => ?_) (by rw [List.size_toArray, vb.length]; exact hsz)
    rw [List.push_toArray] at pu
    refine hQ _ _ .next _ hk ⟨m, μ, S1.mutate hi' hs eb hs' pu ((vb'.append (.cons r1 .nil)).sc ?_) ?_⟩ ⟨m1.os, m1.gens⟩ trivial
    all_goals
      intro y hy
      rcases List.mem_append.mp hy with hy | hy
      · exact o1 y hy
      · rw [List.mem_singleton.mp hy]; exact hp

theorem ex_setitem {x : Str} {px spos pos : Pos} {e ie : Expr} {xs : List PV} {p : PV} {n : Int} (i : Nat) (j : Nat) (hi' : i ∈ F.own) (h : ∀ gh, Ev w k F.env (hi F gh σ) e p) (h2 : ∀ gh, Ev w k F.env (hi F gh σ) ie (.int n))
    (hj : j < xs.length) (hn : (0 ≤ n ∧ n < 2 ^ 63 ∧ n = j) ∨ (n < 0 ∧ -(2 ^ 63) ≤ n ∧ n + xs.length = j)) (hk : K .next (σ.set i (some (.list (xs.set j p)))))
    (hp : p.sc := by trivial) (hx : F.vars[i]? = some x := by rfl) (hs : σ[i]? = some (some (.list xs)) := by rfl) (hd : (x == ("__debug__" : Str)) = false := by decide)
    (hsw : swapsWith e (some (.Subscript (.Name x px) ie spos)) pos.line F.env = pure false := by rfl) :
    Ex w k F σ (exec (.Assign [.Subscript (.Name x px) ie spos] e pos) F.env) K := fun gh A s Q a tk S hQ => by
  obtain ⟨m, μ, S0⟩ := id S
  obtain ⟨b, eb, _⟩ := S0.live hs
  refine wpAny_Assign_Subscript ((h gh).use a tk S fun v s1 tk1 S1' m1 r1 => load_var (S0.mono m1.le) hx hs hd ?_) hsw
  refine (h2 gh).use a tk1 S1' fun v2 s2 tk2 S2' m2 r2 => ?_
  cases r2
  have S2 := (S0.mono m1.le).mono m2.le
  obtain ⟨o1, o2, _⟩ := S2.var i _ hs
  rw [eb] at o2
  rw [eb]
  cases o2 with
  | list _ b16 pb vb =>
    have hlen := vb.length
    refine set_list pb (j := j) (by simpa [hlen] using hj) (by simpa [hlen] using hn) ?_
    have pu := Mine.PlainL.update pb (·.setIfInBounds j v)
    rw [List.setIfInBounds_toArray] at pu
    refine hQ _ _ .next _ hk ⟨m, μ, S2.mutate hi' hs eb (.update ..) pu ((vb.set j (Val.le m2.le r1)).sc ?_) ?_⟩ ⟨m2.os.trans m1.os, fun g => m2.gens (m1.gens g)⟩ trivial
    all_goals
      intro y hy
      rcases List.mem_or_eq_of_mem_set hy with hy | rfl
      · exact o1 y hy
      · exact hp

/- loops -/
theorem ex_while {t : Expr} {body : List Stmt} {pos : Pos} (J : Nat → Sg → Prop) {n₀ : Nat} (h0 : J n₀ σ)
    (turn : ∀ n τ, J n τ → ∃ b, (∀ gh, Te w k F.env (hi F gh τ) t b) ∧ (b = false → K .next τ) ∧ (b = true → Ex w k F τ (execs body F.env) fun fl τ' => match fl with
      | .next => ∃ m, m < n ∧ J m τ'
      | .cont => ∃ m, m < n ∧ J m τ'
      | .brk => K .next τ'
      | fl => K fl τ')) :
    Ex w k F σ (exec (.While t body [] pos) F.env) K := fun gh A s Q a tk S hQ => by
  refine wpAny_While (codeAny_whileLoop (fun n s' => ∃ τ, J n τ ∧ 0 < s'.toks ∧ St F gh τ s'.heap ∧ Ms s s') ?_ n₀ ⟨σ, h0, tk, S, .refl _⟩)
  rintro n s1 ⟨τ, hJ, tk1, S1, m1⟩
  obtain ⟨b, ht, hf, hb⟩ := turn n τ hJ
  refine wpAny_mono ((ht gh).use (Q := fun b' s₂ => b' = b ∧ 0 < s₂.toks ∧ St F gh τ s₂.heap ∧ Ms s s₂) a tk1 S1 fun v s2 tk2 S2 m2 r2 => ⟨r2, tk2, S2, m1.trans m2.ms⟩) (fun v s2 r => ?_) fun _ _ x => x.elim
  obtain ⟨rfl, tk2, S2, m2⟩ := r
  cases v with
  | false => exact wpAny_execs_nil (hQ _ _ .next _ (hf rfl) S2 m2 trivial)
  | true =>
    refine wpAny_mono ((hb rfl).use a tk2 S2 fun f s3 fl τ' tk3 hk S3 m3 r3 => ?_) (fun _ _ x => x) fun _ _ x => x.elim
    cases fl with
    | next => cases f <;> first | exact r3.elim | exact (let ⟨m, hm, hJ'⟩ := hk; ⟨m, hm, τ', hJ', tk3, S3, m2.trans m3⟩)
    | cont => cases f <;> first | exact r3.elim | exact (let ⟨m, hm, hJ'⟩ := hk; ⟨m, hm, τ', hJ', tk3, S3, m2.trans m3⟩)
    | brk => cases f <;> first | exact r3.elim | exact hQ _ _ .next _ hk S3 (m2.trans m3) trivial
    | ret p => cases f <;> first | exact r3.elim | exact hQ _ _ (.ret p) _ hk S3 (m2.trans m3) r3
    | retN p => cases f <;> first | exact r3.elim | exact hQ _ _ (.retN p) _ hk S3 (m2.trans m3) r3
end
end
end Mine

/- text L7 -/
namespace Mine
section
open PySem PySem.W PyProof.Rows PySem.Calls

theorem wtk {α : Type} {M : Model} {A : Around} {t : Sem α} {Q : α → Shared → Prop} {s : Shared} (tk : 0 < s.toks) (h : wpAny M A t (fun v s' => 0 < s'.toks → Q v s') Bot s) : wpAny M A t Q Bot s :=
  wpAny_with_toks (n := 1) tk (wpAny_mono h (fun _ _ x => x) fun _ _ (x : False) => x.elim)

theorem Le.but {b h h' : Heap} {a : Addr} (l : Le b h) (hn : b.get? a = none) (hs : Heap.ExtBut a h h') : Le b h' :=
  ⟨fun x o hx e => hs x o (fun q => by rw [q, hn] at e; cases e) (l.keep x o hx e), fun vs t => by
    obtain ⟨m, t'⟩ := l.tab vs t
    have h20 : (20 : Addr) ≠ a := fun q => by
      obtain ⟨⟨o, _, e, _⟩, _⟩ := t.2
      rw [q, hn] at e; cases e
    have h16 : (16 : Addr) ≠ a := fun q => by
      have e := t.2.2
      rw [q, hn] at e; cases e
    exact ⟨m, t'.1.extBut hs h20 h16, t'.2.extBut hs h20 h16⟩⟩

section
variable {F : Fm} {gh : List (Addr × Obj)} {σ : Sg} {m : Str → Option Value} {μ : Nat → Value} {h h' : Heap}
theorem StD.drop_ghost {I : Addr} {o : Obj} (S : StD F ((I, o) :: gh) σ m μ h) (hc : o.cls ≠ .type "list") (hb : F.base.get? I = none) (hd : ∀ q ∈ gh, q.1 ≠ I) (x : Heap.ExtBut I h h') : StD F gh σ m μ h' := by
  obtain ⟨g1, g2, g3, g4, g5⟩ := S.gho _ (.head _)
  dsimp only at g1 g2 g3 g4 g5
  refine ⟨S.ok, S.le.but hb x, S.ns.extBut x (Ne.symm g3), fun y c e => ?_, fun i p e => ?_, S.sep, S.own, fun q hq => ?_⟩
  · obtain ⟨v, o', e1, e2⟩ := S.cl y c e
    exact ⟨v, o', x c o' (Ne.symm (g4 y c e)) e1, e2⟩
  · obtain ⟨p1, p2, y, hy, p3⟩ := S.var i p e
    refine ⟨p1, ?_, y, hy, ?_⟩
    · generalize μ i = u at p2
      cases p2 with
      | none => exact .none
      | bool b => exact .bool b
      | int i t => exact .int i t
      | str x t => exact .str x t
      | list b hb pb vb =>
        refine .list b hb (pb.extBut x fun q => ?_) (vb.sc p1)
        subst q
        obtain ⟨o', n, e1, e2, _⟩ := pb
        rw [g1] at e1; cases e1
        exact hc e2
      | tup => exact p1.elim
    · rcases p3 with p3 | ⟨b1, c, hc', o', e1, e2⟩
      · exact .inl p3
      · exact .inr ⟨b1, c, hc', o', x c o' (Ne.symm (g4 y c hc')) e1, e2⟩
  · obtain ⟨k1, k2⟩ := S.gho q (.tail _ hq)
    exact ⟨x _ _ (hd q hq) k1, k2⟩
theorem StD.add_ghost {a : Addr} {o : Obj} (S : StD F gh σ m μ h) (ho : h.get? a = some o) (h16 : a ≠ 16) (hL : a ≠ F.env.locals) (hc : ∀ x c, F.env.cells.lookup x = some c → a ≠ c)
    (hl : ∀ i ∈ F.own, ∀ xs, σ[i]? = some (some (.list xs)) → μ i ≠ .ref a) : StD F ((a, o) :: gh) σ m μ h :=
  ⟨S.ok, S.le, S.ns, S.cl, S.var, S.sep, S.own, fun q hq => by
    rcases List.mem_cons.mp hq with rfl | hq
    · exact ⟨ho, h16, hL, hc, hl⟩
    · exact S.gho q hq⟩
/-- what was not there when the state stood -/
theorem StD.fresh (S : StD F gh σ m μ h) {a : Addr} (hn : h.get? a = none) : a ≠ F.env.locals ∧ (∀ x c, F.env.cells.lookup x = some c → a ≠ c) ∧ (∀ i ∈ F.own, ∀ xs, σ[i]? = some (some (.list xs)) → μ i ≠ .ref a) ∧ (∀ q ∈ gh, q.1 ≠ a) := by
  refine ⟨?_, fun x c e => ?_, fun i hi xs e q => ?_, fun q hq e => ?_⟩
  · rintro rfl
    obtain ⟨o, _, _, e, _⟩ := S.ns
    rw [hn] at e; cases e
  · rintro rfl
    obtain ⟨v, o, e1, _⟩ := S.cl x a e
    rw [hn] at e1; cases e1
  · obtain ⟨b, eb, o, ho⟩ := S.live e
    rw [eb] at q; cases q
    rw [hn] at ho; cases ho
  · have := (S.gho q hq).1
    rw [e, hn] at this; cases this
end

/-- an iterator of scalars -/
structure IterOk (w : World) (n : Nat) (item : Nat → PV) (I : Addr) (It : Nat → Obj → Prop) (src : List (Addr × Obj)) : Prop where
  cls : ∀ j o, It j o → o.cls ≠ .type "list"
  next : ∀ j o, j < n → It j o → ∀ (A : Around) (s : Shared) (Q : Option Value → Shared → Prop), s.heap.get? I = some o → (∀ q ∈ src, s.heap.get? q.1 = some q.2) →
    (∀ v h' tk o', Val h' (item j) v → h'.get? I = some o' → It (j + 1) o' → Heap.SameBut I s.heap h' → Q (some v) { s with heap := h', toks := tk }) → wpAny (model pw w) A (pyNext (.ref I)) Q Bot s
  stop : ∀ o, It n o → ∀ (A : Around) (s : Shared) (Q : Option Value → Shared → Prop), A.handled = none → s.heap.get? I = some o → (∀ q ∈ src, s.heap.get? q.1 = some q.2) →
    (∀ h', Heap.ExtBut I s.heap h' → Q none { s with heap := h' }) → wpAny (model pw w) A (pyNext (.ref I)) Q Bot s

def EvIt (w : World) (k : Nat) (env : Env) (I : HI) (iter : Expr) (n : Nat) (item : Nat → PV) : Prop :=
  ∀ (A : Around) (s : Shared) (Q : Value → Shared → Prop), AOk k A → 0 < s.toks → I.p s.heap →
    (∀ a It src s' o, 0 < s'.toks → Mv s s' → s.heap.get? a = none → a ≠ 16 → s'.heap.get? a = some o → It 0 o → (∀ q ∈ src, s'.heap.get? q.1 = some q.2 ∧ s.heap.get? q.1 = none ∧ q.1 ≠ 16 ∧ q.1 ≠ a) →
      IterOk w n item a It src → Q (.ref a) s') → wpAny (model pw w) A (eval iter env) (fun xv s₁ => wpAny (model pw w) A (pyIter xv) Q Bot s₁) Bot s

section
variable {w : World} {k : Nat} {F : Fm} {σ : Sg} {K : Fl → Sg → Prop}

theorem StD.add_ghosts {gh : List (Addr × Obj)} {m : Str → Option Value} {μ : Nat → Value} {h₀ h : Heap} (S₀ : StD F gh σ m μ h₀) (S : StD F gh σ m μ h) : ∀ (src : List (Addr × Obj)), (∀ q ∈ src, h.get? q.1 = some q.2 ∧ h₀.get? q.1 = none ∧ q.1 ≠ 16) → StD F (src ++ gh) σ m μ h
  | [], _ => S
  | q :: src, hq => by
    obtain ⟨a, b, c⟩ := hq q (.head _)
    obtain ⟨f1, f2, f3, _⟩ := S₀.fresh b
    exact (StD.add_ghosts S₀ S src fun q hq' => hq q (.tail _ hq')).add_ghost a c f1 f2 f3

theorem ex_for {x : Str} {px pos : Pos} {iter : Expr} {body : List Stmt} (i : Nat) (n : Nat) (item : Nat → PV) (J : Nat → Sg → Prop) (hit : ∀ gh, EvIt w k F.env (hi F gh σ) iter n item) (h0 : J 0 σ)
    (turn : ∀ j τ, j < n → J j τ → Ex w k F (τ.set i (some (item j))) (execs body F.env) fun fl τ' => match fl with
      | .next => J (j + 1) τ'
      | .cont => J (j + 1) τ'
      | .brk => K .next τ'
      | fl => K fl τ')
    (done : ∀ τ, J n τ → K .next τ) (hsc : ∀ j, (item j).sc := by intro _; trivial) (hx : F.vars[i]? = some x := by rfl) (hs : ∀ x, foldedSetIterable iter F.env x = pure x := by intro _; rfl) :
    Ex w k F σ (exec (.For (.Name x px) iter body [] pos) F.env) K := fun gh A s Q a tk S hQ => by
  obtain ⟨m, μ, S0⟩ := id S
  refine wpAny_For (hit gh A s _ a tk S fun c It src s1 o₀ tk1 m1 hn h16 hc hIt hsrc it => ?_) hs
  have base : F.base.get? c = none := new_of S0.le h16 hn
  obtain ⟨f1, f2, f3, f4⟩ := S0.fresh hn
  have S1 := S0.mono m1.le
  have S2 : StD F (src ++ gh) σ m μ s1.heap := StD.add_ghosts S0 S1 src fun q hq => let ⟨a, b, c, _⟩ := hsrc q hq; ⟨a, b, c⟩
  have dist : ∀ q ∈ src ++ gh, q.1 ≠ c := fun q hq => by
    rcases List.mem_append.mp hq with hq | hq
    · exact (hsrc q hq).2.2.2
    · exact f4 q hq
  have po : ∀ j, (item j).ok := fun j => by have := hsc j; revert this; cases item j <;> intro h <;> first | trivial | exact h.elim
  refine codeAny_forLoop (fun r s' => ∃ j τ o, j + r = n ∧ J j τ ∧ It j o ∧ 0 < s'.toks ∧ St F ((c, o) :: (src ++ gh)) τ s'.heap ∧ Ms s s') ?_ n ⟨0, σ, o₀, by omega, h0, hIt, tk1, ⟨m, μ, S2.add_ghost hc h16 f1 f2 f3⟩, m1.ms⟩
  rintro r s2 ⟨j, τ, oj, ej, hJ, hIj, tk2, S3, m3⟩
  obtain ⟨m', μ', S3⟩ := S3
  have srcs : ∀ q ∈ src, s2.heap.get? q.1 = some q.2 := fun q hq => (S3.gho q (.tail _ (List.mem_append_left _ hq))).1
  have hcur := (S3.gho _ (.head _)).1
  by_cases hj : j < n
  · refine wpAny_mono (wtk (Q := fun r s₁ => ∃ v o', r = some v ∧ It (j + 1) o' ∧ Val s₁.heap (item j) v ∧ St F ((c, o') :: (src ++ gh)) τ s₁.heap ∧ Ms s s₁ ∧ 0 < s₁.toks) tk2 (it.next j oj hj hIj A s2 _ hcur srcs fun v h' tk' o' hv hI hI' hsb tk3 => ?_)) (fun r s₁ y => ?_) fun _ _ (x : False) => x.elim
    · refine ⟨v, o', rfl, hI', hv, ⟨m', μ', (S3.drop_ghost (it.cls j oj hIj) base dist hsb.extBut).add_ghost hI h16 (S3.gho _ (.head _)).2.2.1 (S3.gho _ (.head _)).2.2.2.1 (S3.gho _ (.head _)).2.2.2.2⟩, ⟨m3.os, m3.gens⟩, tk3⟩
    · obtain ⟨v, o', rfl, hI', hv, S4, m4, tk4⟩ := y
      obtain ⟨m'', μ'', S4⟩ := S4
      refine wpAny_mono (wtk (Q := fun _ s₂ => 0 < s₂.toks ∧ St F ((c, o') :: (src ++ gh)) (τ.set i (some (item j))) s₂.heap ∧ Ms s s₂) tk4 (wpAny_assign_Name (store_name (s₀ := s₁) S4 (.refl _) hx (po j) hv (.sc (hsc j)) fun h' tk' S' tk5 => ⟨tk5, S', ⟨m4.os, m4.gens⟩⟩))) (fun _ s₂ y => ?_) fun _ _ (x : False) => x.elim
      obtain ⟨tk5, S5, m5⟩ := y
      refine wpAny_mono ((turn j τ hj hJ).use a tk5 S5 fun f s3 fl τ' tk6 hk S6 m6 r6 => ?_) (fun _ _ x => x) fun _ _ (x : False) => x.elim
      have out : St F gh τ' s3.heap := by
        obtain ⟨m7, μ7, S7⟩ := S6
        have S8 := S7.drop_ghost (it.cls (j + 1) o' hI') base dist (Heap.ExtBut.refl _ _)
        exact ⟨m7, μ7, ⟨S8.ok, S8.le, S8.ns, S8.cl, S8.var, S8.sep, S8.own, fun q hq => S8.gho q (List.mem_append_right _ hq)⟩⟩
      cases fl with
      | next => cases f <;> first | exact r6.elim | exact ⟨r - 1, by omega, j + 1, τ', o', by omega, hk, hI', tk6, S6, m5.trans m6⟩
      | cont => cases f <;> first | exact r6.elim | exact ⟨r - 1, by omega, j + 1, τ', o', by omega, hk, hI', tk6, S6, m5.trans m6⟩
      | brk => cases f <;> first | exact r6.elim | exact hQ _ _ .next _ hk out (m5.trans m6) trivial
      | ret p => cases f <;> first | exact r6.elim | exact hQ _ _ (.ret p) _ hk out (m5.trans m6) r6
      | retN p => cases f <;> first | exact r6.elim | exact hQ _ _ (.retN p) _ hk out (m5.trans m6) r6
  · obtain rfl : j = n := by omega
    refine wpAny_mono (it.stop oj hIj A s2 (fun r s₁ => r = none ∧ St F gh τ s₁.heap ∧ Ms s s₁) a.handled hcur srcs fun h' hx' => ⟨rfl, ?_, ⟨m3.os, m3.gens⟩⟩) (fun r s₁ y => ?_) fun _ _ (x : False) => x.elim
    · have S8 := S3.drop_ghost (it.cls j oj hIj) base dist hx'
      exact ⟨m', μ', ⟨S8.ok, S8.le, S8.ns, S8.cl, S8.var, S8.sep, S8.own, fun q hq => S8.gho q (List.mem_append_right _ hq)⟩⟩
    · obtain ⟨rfl, S4, m4⟩ := y
      exact wpAny_execs_nil (hQ _ _ .next _ (done τ hJ) S4 m4 trivial)
end
end
end Mine

/- text L8 -/
namespace Mine
section
open PySem PySem.W PyProof.Rows PySem.Calls

/- iterators -/
section
variable {w : World} {k : Nat} {env : Env} {I : HI}
theorem iter_range (a : Int) (n : Nat) (c : Addr) : IterOk w n (fun j => .int (a + j)) c (fun j o => o = { cls := .type "range_iterator", dict := none, data := .fields #[rawInt (a + j), rawInt ((n : Int) - j), rawInt 1], slots := #[] }) [] where
  cls := fun j o e q => by subst e; exact absurd (Value.type.inj q) (by decide)
  next := fun j o hj e A s Q ho _ hQ => by
    subst e
    refine wpAny_pyNext_range_item (x := a + j) (left := (n : Int) - j) (step := 1) ho (by omega) fun h' hit hs => hQ _ h' _ _ (.int _ _) hit ?_ hs
    have e1 : a + (j : Int) + 1 = a + ((j + 1 : Nat) : Int) := by omega
    have e2 : (n : Int) - j - 1 = (n : Int) - ((j + 1 : Nat) : Int) := by omega
    rw [e1, e2]
  stop := fun o e A s Q hh ho _ hQ => by
    subst e
    exact wpAny_pyNext_range_end (x := a + n) (left := (n : Int) - n) (step := 1) hh ho (by omega) hQ
theorem iter_range0 (n : Nat) (c : Addr) : IterOk w n (fun j => .int j) c (fun j o => o = { cls := .type "range_iterator", dict := none, data := .fields #[rawInt (0 + j), rawInt ((n : Int) - j), rawInt 1], slots := #[] }) [] := by
  have it := iter_range (w := w) 0 n c
  have e0 : (fun j : Nat => PV.int (0 + (j : Int))) = fun j => .int j := by funext j; rw [Int.zero_add]
  rw [e0] at it
  exact it
theorem evit_range2 {x : Str} {xp pos : Pos} {e f : Expr} {a b : Int} (hf : EvG w k env I (.Name x xp) (.type "range")) (h1 : Ev w k env I e (.int a)) (h2 : Ev w k env I f (.int b)) (n : Nat) (hn : a + n = b ∨ (b ≤ a ∧ n = 0))
    (ha : -(2 ^ 62) ≤ a) (ha' : a < 2 ^ 62) (hb : -(2 ^ 62) ≤ b) (hb' : b < 2 ^ 62)
    (he : starEach [e, f] env = [(false, eval e env), (false, eval f env)] := by rfl) : EvIt w k env I (.Call (.Name x xp) [e, f] [] pos) n (fun j => .int (a + j)) := fun A s Q ao tk i hQ =>
  wpAny_Call_NameR (hf.use ao tk i fun v s1 tk1 i1 m1 r1 => by
    subst r1
    rw [he]
    refine PySem.callWith_type rfl (Calls.evalArgs_plain (Calls.spliced_cons (h1.use ao tk1 i1 fun v2 s2 tk2 i2 m2 r2 => Calls.spliced_cons (h2.use ao tk2 i2 fun v3 s3 tk3 i3 m3 r3 => Calls.spliced_nil ?_))))
    cases r2; cases r3
    have m := (m1.trans m2).trans m3
    refine call_range_2 (wpAny_pyIter_range (IsRange.new ..) (small_one ha ha' hb hb') ?_)
    have hsz : Builtin.Range.rangeSize a b 1 = (n : Int) := by rw [rangeSize_one]; split <;> omega
    rw [hsz]
    refine hQ _ _ [] _ _ ?_ (m.trans ⟨(Le.push _ _).trans (.push _ _), rfl, id⟩) ?_ ?_ (Heap.get?_push_size _ rfl) (by simp) (fun q hq => nomatch hq) (iter_range a n _)
    · show 0 < s3.toks + 1; omega
    · exact new_of (m.le.trans (Le.push _ _)) (I.new (I.st i3 (Le.push _ _))) new_size
    · exact I.new (I.st i3 (Le.push _ _)))
theorem evit_range1 {x : Str} {xp pos : Pos} {e : Expr} {n : Nat} (hf : EvG w k env I (.Name x xp) (.type "range")) (h1 : Ev w k env I e (.int n)) (hb' : (n : Int) < 2 ^ 62)
    (he : starEach [e] env = [(false, eval e env)] := by rfl) : EvIt w k env I (.Call (.Name x xp) [e] [] pos) n (fun j => .int j) := fun A s Q ao tk i hQ =>
  wpAny_Call_NameR (hf.use ao tk i fun v s1 tk1 i1 m1 r1 => by
    subst r1
    rw [he]
    refine PySem.callWith_type rfl (Calls.evalArgs_plain (Calls.spliced_cons (h1.use ao tk1 i1 fun v2 s2 tk2 i2 m2 r2 => Calls.spliced_nil ?_)))
    cases r2
    have m := m1.trans m2
    refine call_range_1 (wpAny_pyIter_range (IsRange.new ..) (small_one (by decide) (by decide) (by omega) hb') ?_)
    have hsz : Builtin.Range.rangeSize 0 n 1 = (n : Int) := by rw [rangeSize_one]; split <;> omega
    rw [hsz]
    refine hQ _ _ [] _ _ ?_ (m.trans ⟨(Le.push _ _).trans (.push _ _), rfl, id⟩) ?_ ?_ (Heap.get?_push_size _ rfl) (by simp) (fun q hq => nomatch hq) (iter_range0 n _)
    · show 0 < s2.toks + 1 + 1; omega
    · exact new_of (m.le.trans (Le.push _ _)) (I.new (I.st i2 (Le.push _ _))) new_size
    · exact I.new (I.st i2 (Le.push _ _)))
/-- over a new list of scalars -/
theorem evit_listN {iter : Expr} {xs : List PV} (h : EvN w k env I iter xs) (hsc : ∀ x ∈ xs, x.sc) : EvIt w k env I iter xs.length (fun j => xs.getD j .none) := fun A s Q ao tk i hQ =>
  h.use ao tk i fun v s1 tk1 i1 m1 r1 => by
    obtain ⟨l, rfl, hn, vl⟩ := r1
    cases vl with
    | list _ l16 pl vl =>
      rename_i vs
      have hlen := vl.length
      obtain ⟨o, n, e1, e2, e3, e4⟩ := id pl
      have ne : l ≠ s1.heap.objs.size := Nat.ne_of_lt (Heap.lt_size e1)
      refine wpAny_pyIter_list pl.isList (hQ s1.heap.objs.size (fun j o => o.cls = .type "list_iterator" ∧ o.data = .fields #[.ref l, .int j 0]) [(l, o)] _ _ tk1 (m1.trans ⟨.push _ _, rfl, id⟩) (new_of m1.le (I.new i1) new_size) (I.new i1) (Heap.get?_push_size _ rfl) ⟨rfl, rfl⟩ ?_ ⟨?_, ?_, ?_⟩)
      · intro q hq
        rw [List.mem_singleton.mp hq]
        exact ⟨Heap.get?_push_of_some _ e1, hn, l16, ne⟩
      · rintro j o ⟨e, _⟩ q
        rw [e] at q
        exact absurd (Value.type.inj q) (by decide)
      · intro j o' hj hI A' s' Q' ho hsrc hQ'
        have hx : xs[j]? = some xs[j] := List.getElem?_eq_getElem hj
        obtain ⟨y, hy, vy⟩ := vl.get j _ hx
        have il : s'.heap.IsList l vs.toArray := ⟨o, hsrc _ (List.mem_singleton.mpr rfl), e2, n, e4⟩
        refine wpAny_pyNext_list_item (i := j) ⟨_, ho, hI⟩ il (by simpa using hy) fun h' hit hs => ?_
        obtain ⟨o'', g1, g2⟩ := hit
        refine hQ' y h' _ o'' ?_ g1 g2 hs
        have : xs.getD j .none = xs[j] := by simp [List.getD_eq_getElem?_getD, hx]
        rw [this]
        exact vy.sc (hsc _ (List.getElem_mem hj))
      · intro o' hI A' s' Q' hh ho hsrc hQ'
        have il : s'.heap.IsList l vs.toArray := ⟨o, hsrc _ (List.mem_singleton.mpr rfl), e2, n, e4⟩
        exact wpAny_pyNext_list_end (i := xs.length) hh ⟨_, ho, hI⟩ il (by simp [hlen]) hQ'
/-- over a tuple display -/
theorem evit_tuple {pos : Pos} {es : List Expr} {kk : Nat} {xs : List PV} (h : EvL w k env I pos es xs) (hs : xs.length ≤ sizeLine) (hsc : ∀ x ∈ xs, x.sc) : EvIt w k env I (.Tuple es kk pos) xs.length (fun j => xs.getD j .none) := fun A s Q ao tk i hQ =>
  wpAny_Tuple_spliced (h.use ao tk i fun vs s1 tk1 i1 m1 vl => ⟨by rw [vl.length]; exact hs, by
    have hlen := vl.length
    have i2 := I.st i1 (Le.push s1.heap { cls := .type "tuple", data := .seq vs.toArray })
    have g0 : (s1.heap.push { cls := .type "tuple", data := .seq vs.toArray }).get? s1.heap.objs.size = some { cls := .type "tuple", data := .seq vs.toArray } := Heap.get?_push_size _ rfl
    have it : (s1.heap.push { cls := .type "tuple", data := .seq vs.toArray }).IsTuple s1.heap.objs.size vs.toArray := ⟨_, g0, rfl, 0, rfl⟩
    have ne : s1.heap.objs.size ≠ (s1.heap.push { cls := .type "tuple", data := .seq vs.toArray }).objs.size := by rw [Heap.size_push]; omega
    have m2 : Mv s { s1 with heap := s1.heap.push { cls := .type "tuple", data := .seq vs.toArray } } := m1.trans ⟨.push _ _, rfl, id⟩
    refine wpAny_pyIter_tuple it (hQ _ (fun j o => o.cls = .type "tuple_iterator" ∧ o.data = .fields #[.ref s1.heap.objs.size, .int j 0]) [(s1.heap.objs.size, { cls := .type "tuple", data := .seq vs.toArray })] _ _ tk1 (m2.trans ⟨.push _ _, rfl, id⟩) (new_of m2.le (I.new i2) new_size) (I.new i2) (Heap.get?_push_size _ rfl) ⟨rfl, rfl⟩ ?_ ⟨?_, ?_, ?_⟩)
    · intro q hq
      rw [List.mem_singleton.mp hq]
      exact ⟨Heap.get?_push_of_some _ g0, new_of m1.le (I.new i1) new_size, I.new i1, ne⟩
    · rintro j o ⟨e, _⟩ q
      rw [e] at q
      exact absurd (Value.type.inj q) (by decide)
    · intro j o' hj hI A' s' Q' ho hsrc hQ'
      have hx : xs[j]? = some xs[j] := List.getElem?_eq_getElem hj
      obtain ⟨y, hy, vy⟩ := vl.get j _ hx
      have il : s'.heap.IsTuple s1.heap.objs.size vs.toArray := ⟨_, hsrc _ (List.mem_singleton.mpr rfl), rfl, 0, rfl⟩
      refine wpAny_pyNext_tuple_item (i := j) ⟨_, ho, hI⟩ il (by simpa using hy) fun h' hit hs => ?_
      obtain ⟨o'', g1, g2⟩ := hit
      refine hQ' y h' _ o'' ?_ g1 g2 hs
      have : xs.getD j .none = xs[j] := by simp [List.getD_eq_getElem?_getD, hx]
      rw [this]
      exact vy.sc (hsc _ (List.getElem_mem hj))
    · intro o' hI A' s' Q' hh ho hsrc hQ'
      have il : s'.heap.IsTuple s1.heap.objs.size vs.toArray := ⟨_, hsrc _ (List.mem_singleton.mpr rfl), rfl, 0, rfl⟩
      exact wpAny_pyNext_tuple_end (i := xs.length) hh ⟨_, ho, hI⟩ il (by simp [hlen]) hQ'⟩)
end
end
end Mine

/- text L9 -/
namespace Mine
section
open PySem PySem.W PyProof.Rows PySem.Calls

def fdef (i : Nat) : Str × Arguments × List Stmt × Scope := match pw.main.body[i]? with
  | some (.FunctionDef n a b _ _ _ sc _ _ _) => (n, a, b, sc)
  | _ => (Str.empty, ⟨[], [], none, [], [], none, []⟩, [], default)
abbrev fName (i : Nat) : Str := (fdef i).1
abbrev fArgs (i : Nat) : Arguments := (fdef i).2.1
abbrev fBody (i : Nat) : List Stmt := (fdef i).2.2.1
abbrev fScope (i : Nat) : Scope := (fdef i).2.2.2

def gtab : List (Str × Option Value) := [("_platform", some (.ref 21)), ("_MAX_STRING_SIZE", some (.int 40 200)), ("_MOVE_COST", some (.int 2 202)), ("_CASE_COST", some (.int 1 204)), ("_substitution_cost", some (.ref 28)),
  ("_levenshtein_distance", some (.ref 35)), ("_law_parts", some (.ref 42)), ("_law_cut", some (.ref 49)), ("_law_within", some (.ref 56)), ("len", none), ("range", none), ("list", none), ("min", none), ("sum", none), ("filter", none)]
/-- address, address of the code, place in the text -/
def ftab : List (Addr × Addr × Nat) := [(21, 20, 1), (28, 27, 6), (35, 34, 7), (42, 41, 9), (49, 48, 10), (56, 55, 11), (61, 60, 12)]

def FnAt (h : Heap) (a cd : Addr) (i : Nat) : Prop :=
  (∃ o pm doc, h.get? a = some o ∧ o.data = .func (docDef (fName i) (fArgs i) (fBody i) (fScope i) pm (.ref cd) doc)) ∧ h.CodeRec (.ref cd) (fName i)

structure GloP (h : Heap) : Prop where
  tab : ∃ vs, TabAt h vs
  nolimit : h.NoLimit
  names : ∃ mg, h.Ns mainGlobals mg ∧ ∀ x v, gtab.lookup x = some v → mg x = v
  bi : ∃ mb, h.Ns builtinsNs mb ∧ ∀ x : Str, x ≠ "__name__" → mb x = bootBuiltins x
  bmod : ∃ mg bm ob, BMod h mainGlobals mg bm ob
  fns : ∀ f ∈ ftab, FnAt h f.1 f.2.1 f.2.2

theorem ftab_ne : ∀ f ∈ ftab, f.1 ≠ 16 ∧ f.2.1 ≠ 16 := by decide
theorem FnAt.ext {h h' : Heap} {a cd : Addr} {i : Nat} (x : FnAt h a cd i) (k : Heap.ExtBut 16 h h') (h1 : a ≠ 16) (h2 : cd ≠ 16) : FnAt h' a cd i := by
  obtain ⟨⟨o, pm, doc, e, d⟩, c, oc, vs, t, e1, e2, e3⟩ := x
  cases e1
  exact ⟨⟨o, pm, doc, k _ _ h1 e, d⟩, cd, oc, vs, t, rfl, k _ _ h2 e2, e3⟩
def GloI : HI where
  p := GloP
  st := fun {h h'} g l => by
    obtain ⟨vs, t⟩ := g.tab
    refine ⟨let ⟨m, t'⟩ := l.tab vs t; ⟨_, t'⟩, g.nolimit.extBut l.keep (by decide), ?_, ?_, ?_, fun f hf => (g.fns f hf).ext l.keep (ftab_ne f hf).1 (ftab_ne f hf).2⟩
    · obtain ⟨mg, a, b⟩ := g.names
      exact ⟨mg, a.extBut l.keep (by decide), b⟩
    · obtain ⟨mb, a, b⟩ := g.bi
      exact ⟨mb, a.extBut l.keep (by decide), b⟩
    · obtain ⟨mg, bm, ob, x⟩ := g.bmod
      exact ⟨mg, bm, ob, x.extBut t.2 l.keep⟩
  tab := fun g => g.tab

/- names of the module and built-ins -/
section
variable {w : World} {k : Nat} {env : Env} {I : HI}
theorem ev_glob {x : Str} {pos : Pos} {v : Value} (hI : ∀ {h}, I.p h → GloP h) (hg : env.globals = mainGlobals) (hk : env.scope.kind = .function) (hx : env.kindOf x = some .globalImplicit) (hv : gtab.lookup x = some (some v))
    (hd : (x == ("__debug__" : Str)) = false := by decide) : EvG w k env I (.Name x pos) v := fun A s Q a tk i hQ => by
  obtain ⟨mg, n, e⟩ := (hI i).names
  exact Name_function_global hk hx (loadGlobal_global (by rw [hg]; exact n) (e x _ hv) (hQ _ _ (.refl _) rfl)) hd
theorem ev_bi {x : Str} {pos : Pos} {v : Value} (hI : ∀ {h}, I.p h → GloP h) (hg : env.globals = mainGlobals) (hb : env.builtins = builtinsNs) (hk : env.scope.kind = .function) (hx : env.kindOf x = some .globalImplicit) (hv : gtab.lookup x = some none)
    (hn : x ≠ "__name__") (hbv : bootBuiltins x = some v)
    (hd : (x == ("__debug__" : Str)) = false := by decide) : EvG w k env I (.Name x pos) v := fun A s Q a tk i hQ => by
  obtain ⟨mg, n, e⟩ := (hI i).names
  obtain ⟨mb, n', e'⟩ := (hI i).bi
  exact Name_function_global hk hx (loadGlobal_builtin (by rw [hg]; exact n) (e x _ hv) (by rw [hb]; exact n') ((e' x hn).trans hbv) (hQ _ _ (.refl _) rfl)) hd
end

def mkF (a cd : Addr) (i : Nat) (vars : List Str) (own : List Nat) (L : Addr) (base : Heap) : Fm :=
  { env := envOf (fName i) (fScope i) L a (.ref cd), base := base, vars := vars, own := own, g := GloI }

theorem hi_glo {a cd : Addr} {i : Nat} {vars : List Str} {own : List Nat} {L : Addr} {base : Heap} {gh : List (Addr × Obj)} {σ : Sg} {h : Heap} (x : (hi (mkF a cd i vars own L base) gh σ).p h) : GloP h :=
  let ⟨_, _, S⟩ := x; S.glo

def Fn (w : World) (k : Nat) (a : Addr) (args : List PV) (p : PV) : Prop :=
  ∀ (A : Around) (s : Shared) (vs : List Value) (Q : Value → Shared → Prop), AOk k A → 0 < s.toks → GloP s.heap → ValL s.heap args vs → (∀ v s', Mv s s' → Val s'.heap p v → Q v s') → wpAny (model pw w) A (call (.ref a) vs) Q Bot s
def FnN (w : World) (k : Nat) (a : Addr) (args : List PV) (xs : List PV) : Prop :=
  ∀ (A : Around) (s : Shared) (vs : List Value) (Q : Value → Shared → Prop), AOk k A → 0 < s.toks → GloP s.heap → ValL s.heap args vs →
    (∀ b s', Mv s s' → s.heap.get? b = none → Val s'.heap (.list xs) (.ref b) → Q (.ref b) s') → wpAny (model pw w) A (call (.ref a) vs) Q Bot s

theorem lookup_nodup {x : Str} {v : Value} : ∀ {l : List (Str × Value)}, (l.map (·.1)).Nodup → (x, v) ∈ l → l.lookup x = some v
  | (y, u) :: l, hn, hm => by
    obtain ⟨h1, h2⟩ := List.nodup_cons.mp hn
    rw [List.lookup_cons]
    rcases List.mem_cons.mp hm with e | hm
    · cases e; simp
    · have hne : x ≠ y := fun e => h1 (List.mem_map.mpr ⟨_, hm, e⟩)
      rw [beq_eq_false_iff_ne.mpr hne]
      exact lookup_nodup h2 hm
theorem zip_fst_sub : ∀ (names : List Str) (vs : List Value), List.Sublist ((names.zip vs).map (·.1)) names
  | [], _ => by simp
  | _ :: _, [] => by simp
  | n :: ns, v :: vs => by
    rw [List.zip_cons_cons, List.map_cons]
    exact (zip_fst_sub ns vs).cons_cons n
theorem zip_rev {names : List Str} {vs : List Value} (hn : names.Nodup) {j : Nat} {x : Str} {v : Value} (hx : names[j]? = some x) (hv : vs[j]? = some v) : (names.zip vs).reverse.lookup x = some v := by
  refine lookup_nodup ?_ ?_
  · rw [List.map_reverse]
    rw [List.nodup_iff_pairwise_ne, List.pairwise_reverse]
    refine List.Pairwise.imp (R := fun a b => a ≠ b) (fun h => Ne.symm h) ?_
    exact hn.sublist (zip_fst_sub names vs)
  · refine List.mem_reverse.mpr (List.mem_of_getElem? (i := j) ?_)
    rw [List.getElem?_zip_eq_some]
    exact ⟨hx, hv⟩

def st0 (args : List PV) (n : Nat) : Sg := args.map some ++ List.replicate (n - args.length) none

/-- what the frame of a plain def knows -/
theorem fn_body {w : World} {k : Nat} {a cd : Addr} {i : Nat} {args : List PV} (vars : List Str) (own : List Nat) (K : Fl → Sg → Prop) (hf : (a, cd, i) ∈ ftab)
    (hargs : ∀ x ∈ args, x.ok) (hown : ∀ j ∈ own, args.length ≤ j)
    (hn : vars.Nodup) (hk : (fScope i).kind = .function) (hloc : ∀ x ∈ vars, (fScope i).names.lookup x = some .local)
    (hbind : ∀ pm doc vs, vs.length = args.length → bindArgs (docDef (fName i) (fArgs i) (fBody i) (fScope i) pm (.ref cd) doc) ⟨vs, []⟩ = pure ((vars.take args.length).zip vs))
    (hlen : args.length ≤ vars.length)
    (hco : (fScope i).isCoroutine = false) (hgen : (fScope i).isGenerator = false) (hcell : ∀ x ∈ (fScope i).names, x.2 ≠ .cell)
    (body : ∀ L base, Ex w k (mkF a cd i vars own L base) (st0 args vars.length) (execs (fBody i) (mkF a cd i vars own L base).env) K)
    {A : Around} {s : Shared} {vs : List Value} {Q : Value → Shared → Prop} (ao : AOk (k + 1) A) (tk : 0 < s.toks) (g : GloP s.heap) (hv : ValL s.heap args vs)
    (hQ : ∀ f s' fl σ' , K fl σ' → St (mkF a cd i vars own s.heap.objs.size s.heap) [] σ' s'.heap → Ms s s' → FlV (mkF a cd i vars own s.heap.objs.size s.heap) s'.heap fl f → Q (match f with | .ret v => v | _ => .none) s') :
    wpAny (model pw w) A (call (.ref a) vs) Q Bot s := by
  obtain ⟨⟨o, pm, doc, e, d⟩, cr⟩ := g.fns _ hf
  obtain ⟨vt, t⟩ := g.tab
  have hvl : vs.length = args.length := hv.length
  refine wpAny_call (call_plain_ret (binds := (vars.take args.length).zip vs) ao.d e d g.nolimit cr (hbind pm doc vs hvl) (fun x hx => ?_) (fun h₁ F => ?_) hco hgen hk hcell)
  · have := List.of_mem_zip (a := x.1) (b := x.2) hx
    exact hloc x.1 (List.mem_of_mem_take this.1)
  · have le : Le s.heap h₁ := .of_keep F.keep
    have get0 : ∀ j p, (st0 args vars.length)[j]? = some (some p) → args[j]? = some p := fun j p ej => by
      unfold st0 at ej
      rw [List.getElem?_append] at ej
      split at ej
      · rw [List.getElem?_map] at ej
        cases q : args[j]? with
        | none => rw [q] at ej; cases ej
        | some r => rw [q] at ej; simpa using ej
      · rw [List.getElem?_replicate] at ej
        split at ej <;> cases ej
    have S : St (mkF a cd i vars own s.heap.objs.size s.heap) [] (st0 args vars.length) h₁ := by
      refine ⟨_, fun j => vs.getD j .none, ⟨⟨g, hk, hn, t.new, new_size, fun x hx => .inl (hloc x hx), (fun x c hc => by cases hc), (fun x y c hc => by cases hc)⟩, le, F.ns, (fun x c hc => by cases hc), fun j p ej => ?_, fun j hj l xs ys e1 e2 hjl => ?_, fun j hj xs b e1 e2 => ?_, fun q hq => nomatch hq⟩⟩
      · have ea := get0 j p ej
        obtain ⟨y, hy, vy⟩ := hv.get j p ea
        have hj : j < args.length := (List.getElem?_eq_some_iff.mp ea).1
        have hjv : j < vars.length := by omega
        have yv : vs.getD j .none = y := by simp [List.getD_eq_getElem?_getD, hy]
        rw [yv]
        refine ⟨hargs p (List.mem_of_getElem? ea), vy.le le, vars[j], List.getElem?_eq_getElem hjv, .inl ⟨hloc _ (List.getElem_mem hjv), ?_⟩⟩
        exact zip_rev (hn.sublist (List.take_sublist _ _)) (by rw [List.getElem?_take]; simp [hj, List.getElem?_eq_getElem hjv]) hy
      all_goals
        have ea := get0 j _ e1
        have hj' : j < args.length := (List.getElem?_eq_some_iff.mp ea).1
        exact absurd (hown j hj) (by omega)
    have tk1 : 0 < s.toks + ((vars.take args.length).zip vs).length := by omega
    exact wpAny_mono ((body s.heap.objs.size s.heap).use (s := { s with heap := h₁, toks := s.toks + ((vars.take args.length).zip vs).length }) (ao.deeper _) tk1 S (Q := fun f s' => Q (match f with | .ret v => v | _ => .none) s')
      fun f s' fl σ' _ hk' S' m r => hQ f s' fl σ' hk' S' ⟨m.os, m.gens⟩ r) (fun f s' q => q) fun _ _ (x : False) => x.elim

theorem fn_intro {w : World} {k : Nat} {a cd : Addr} {i : Nat} {args : List PV} {p : PV} (vars : List Str) (own : List Nat) (hf : (a, cd, i) ∈ ftab)
    (body : ∀ L base, Ex w k (mkF a cd i vars own L base) (st0 args vars.length) (execs (fBody i) (mkF a cd i vars own L base).env) fun fl _ => fl = .ret p)
    (hargs : ∀ x ∈ args, x.ok) (hlen : args.length ≤ vars.length) (hown : ∀ j ∈ own, args.length ≤ j)
    (hbind : ∀ pm doc vs, vs.length = args.length → bindArgs (docDef (fName i) (fArgs i) (fBody i) (fScope i) pm (.ref cd) doc) ⟨vs, []⟩ = pure ((vars.take args.length).zip vs))
    (hn : vars.Nodup) (hloc : ∀ x ∈ vars, (fScope i).names.lookup x = some .local) (hcell : ∀ x ∈ (fScope i).names, x.2 ≠ .cell)
    (hk : (fScope i).kind = .function := by rfl) (hco : (fScope i).isCoroutine = false := by rfl) (hgen : (fScope i).isGenerator = false := by rfl) : Fn w (k + 1) a args p :=
  fun A s vs Q ao tk g hv hQ => fn_body vars own _ hf hargs hown hn hk hloc hbind hlen hco hgen hcell body ao tk g hv fun f s' fl σ' hk' S' m r => by
    subst hk'
    obtain ⟨_, _, S'⟩ := S'
    cases f with
    | ret v => exact hQ v s' ⟨S'.le, m.os, m.gens⟩ r
    | next => exact r.elim
    | brk => exact r.elim
    | cont => exact r.elim
theorem fn_introN {w : World} {k : Nat} {a cd : Addr} {i : Nat} {args : List PV} {xs : List PV} (vars : List Str) (own : List Nat) (hf : (a, cd, i) ∈ ftab)
    (body : ∀ L base, Ex w k (mkF a cd i vars own L base) (st0 args vars.length) (execs (fBody i) (mkF a cd i vars own L base).env) fun fl _ => fl = .retN xs)
    (hargs : ∀ x ∈ args, x.ok) (hlen : args.length ≤ vars.length) (hown : ∀ j ∈ own, args.length ≤ j)
    (hbind : ∀ pm doc vs, vs.length = args.length → bindArgs (docDef (fName i) (fArgs i) (fBody i) (fScope i) pm (.ref cd) doc) ⟨vs, []⟩ = pure ((vars.take args.length).zip vs))
    (hn : vars.Nodup) (hloc : ∀ x ∈ vars, (fScope i).names.lookup x = some .local) (hcell : ∀ x ∈ (fScope i).names, x.2 ≠ .cell)
    (hk : (fScope i).kind = .function := by rfl) (hco : (fScope i).isCoroutine = false := by rfl) (hgen : (fScope i).isGenerator = false := by rfl) : FnN w (k + 1) a args xs :=
  fun A s vs Q ao tk g hv hQ => fn_body vars own _ hf hargs hown hn hk hloc hbind hlen hco hgen hcell body ao tk g hv fun f s' fl σ' hk' S' m r => by
    subst hk'
    obtain ⟨_, _, S'⟩ := S'
    cases f with
    | ret v => obtain ⟨b, rfl, e1, e2⟩ := r; exact hQ b s' ⟨S'.le, m.os, m.gens⟩ e1 e2
    | next => exact r.elim
    | brk => exact r.elim
    | cont => exact r.elim

/- calls of the text's defs -/
section
variable {w : World} {k : Nat} {env : Env} {I : HI}
theorem ev_fn {x : Str} {xp pos : Pos} {e : Expr} {es : List Expr} {a cd : Addr} {i : Nat} {args : List PV} {p : PV} (hI : ∀ {h}, I.p h → GloP h) (hft : (a, cd, i) ∈ ftab) (hf : EvG w k env I (.Name x xp) (.ref a)) (hc : Fn w k a args p) (h : EvL w k env I pos (e :: es) args)
    (he : starEach (e :: es) env = (false, eval e env) :: starEach es env := by rfl) : Ev w k env I (.Call (.Name x xp) (e :: es) [] pos) p := fun A s Q ao tk i' hQ =>
  wpAny_Call_NameR (hf.use ao tk i' fun v s1 tk1 i1 m1 r1 => by
    subst r1
    obtain ⟨⟨o, pm, doc, eo, d⟩, _⟩ := (hI i1).fns _ hft
    refine callWith_function (o := o) (fd := docDef (fName i) (fArgs i) (fBody i) (fScope i) pm (.ref cd) doc) ?_
    have key : wpAny (model pw w) A (spliced (backTo pos (starEach (e :: es) env))) (fun vs s' => (s'.heap.get? a = some o ∧ o.data = .func (docDef (fName i) (fArgs i) (fBody i) (fScope i) pm (.ref cd) doc)) ∧ wpAny (model pw w) A (call (.ref a) ([] ++ vs) []) Q Bot s') Bot s1 :=
      h.use ao tk1 i1 fun vs s2 tk2 i2 m2 r2 => ⟨⟨m2.le.keep _ _ (ftab_ne _ hft).1 eo, d⟩, hc A s2 vs Q ao tk2 (hI i2) r2 fun v s' m hv => hQ v s' ((m1.trans m2).trans m) hv⟩
    rw [he] at key ⊢
    exact Calls.evalArgs_plain key)
theorem ev_fnN {x : Str} {xp pos : Pos} {e : Expr} {es : List Expr} {a cd : Addr} {i : Nat} {args : List PV} {xs : List PV} (hI : ∀ {h}, I.p h → GloP h) (hft : (a, cd, i) ∈ ftab) (hf : EvG w k env I (.Name x xp) (.ref a)) (hc : FnN w k a args xs) (h : EvL w k env I pos (e :: es) args)
    (he : starEach (e :: es) env = (false, eval e env) :: starEach es env := by rfl) : EvN w k env I (.Call (.Name x xp) (e :: es) [] pos) xs := fun A s Q ao tk i' hQ =>
  wpAny_Call_NameR (hf.use ao tk i' fun v s1 tk1 i1 m1 r1 => by
    subst r1
    obtain ⟨⟨o, pm, doc, eo, d⟩, _⟩ := (hI i1).fns _ hft
    refine callWith_function (o := o) (fd := docDef (fName i) (fArgs i) (fBody i) (fScope i) pm (.ref cd) doc) ?_
    have key : wpAny (model pw w) A (spliced (backTo pos (starEach (e :: es) env))) (fun vs s' => (s'.heap.get? a = some o ∧ o.data = .func (docDef (fName i) (fArgs i) (fBody i) (fScope i) pm (.ref cd) doc)) ∧ wpAny (model pw w) A (call (.ref a) ([] ++ vs) []) Q Bot s') Bot s1 :=
      h.use ao tk1 i1 fun vs s2 tk2 i2 m2 r2 => ⟨⟨m2.le.keep _ _ (ftab_ne _ hft).1 eo, d⟩, hc A s2 vs Q ao tk2 (hI i2) r2 fun b s' m hn hv => hQ _ s' ((m1.trans m2).trans m) ⟨b, rfl, new_of (m1.trans m2).le (by cases hv; assumption) hn, hv⟩⟩
    rw [he] at key ⊢
    exact Calls.evalArgs_plain key)
end
end
end Mine

/- text L10 -/
namespace Mine
section
open PySem PySem.W PyProof.Rows PySem.Calls
theorem Le.ofNew {h h' : Heap} (x : Heap.ExtBut h.objs.size h h') : Le h h' := .of_keep fun b o e => x b o (Nat.ne_of_lt (Heap.lt_size e)) e
theorem PV.sc.ok {p : PV} (h : p.sc) : p.ok := by cases p <;> first | trivial | exact h.elim

section
variable {w : World} {k : Nat} {F : Fm} {σ : Sg} {K : Fl → Sg → Prop}
/-- x, y = e1, e2 (locals): the stores go from behind -/
theorem ex_swap {x y : Str} {px py tpos vpos pos : Pos} {k1 k2 : Nat} {e1 e2 : Expr} {p q : PV} (i j : Nat) (h1 : ∀ gh, Ev w k F.env (hi F gh σ) e1 p) (h2 : ∀ gh, Ev w k F.env (hi F gh σ) e2 q) (hk : K .next ((σ.set j (some q)).set i (some p)))
    (hp : p.sc := by trivial) (hq : q.sc := by trivial) (hx : F.vars[i]? = some x := by rfl) (hy : F.vars[j]? = some y := by rfl)
    (hs1 : starEach [e1, e2] F.env = (false, eval e1 F.env) :: starEach [e2] F.env := by rfl) (hs2 : starEach [e2] F.env = (false, eval e2 F.env) :: starEach [] F.env := by rfl)
    (hsw : swapsWithSole [.Tuple [.Name x px, .Name y py] k1 tpos] (.Tuple [e1, e2] k2 vpos) pos.line F.env = pure false := by rfl)
    (hw : swappedStores [.Tuple [.Name x px, .Name y py] k1 tpos] (.Tuple [e1, e2] k2 vpos) F.env = pure (some [x, y]) := by rfl) :
    Ex w k F σ (exec (.Assign [.Tuple [.Name x px, .Name y py] k1 tpos] (.Tuple [e1, e2] k2 vpos) pos) F.env) K := fun gh A s Q a tk S hQ => by
  refine Assign_Tuple_swapped (Tr.use (ev_tuple (evl_cons (h1 gh) (evl_cons (h2 gh) evl_nil hs2) hs1) (by rw [sizeLine_eq]; simp)) a tk S fun v s1 tk1 S1 m1 r1 => ?_) hsw hw
  cases r1 with
  | tup t t16 pt vt =>
    rename_i vs
    cases vt with
    | cons v1 vt =>
      cases vt with
      | cons v2 vt =>
        cases vt
        rename_i u1 u2
        refine unpackItems_tuple (items := [u1, u2].toArray) a.handled pt fun h' he => ?_
        have l := Le.ofNew he
        obtain ⟨m, μ, S1⟩ := S1
        show wpAny _ A (assignInOrder [fun v => bindName F.env y v, fun v => bindName F.env x v] [u2, u1]) _ _ _
        refine wpAny_bind (wpAny_holding (wpAny_bindName (store_name (s₀ := { s1 with heap := h' }) (S1.mono l) (.refl _) hy hq.ok (v2.sc hq) (.sc hq) fun h2 tk2 S2 => ?_)))
        obtain ⟨m2, μ2, S2⟩ := S2
        refine wpAny_bind (wpAny_holding (wpAny_bindName (store_name (s₀ := { s1 with heap := h2, toks := tk2 }) S2 (.refl _) hx hp.ok (v1.sc hp) (.sc hp) fun h3 tk3 S3 => ?_)))
        exact wpAny_pure (hQ _ _ .next _ hk S3 ⟨m1.os, m1.gens⟩ trivial)
/-- x, y = e, a pair of scalars -/
theorem ex_unpack2 {x y : Str} {px py tpos pos : Pos} {k1 : Nat} {e : Expr} {p q : PV} (i j : Nat) (h : ∀ gh, Ev w k F.env (hi F gh σ) e (.tup [p, q])) (hk : K .next ((σ.set i (some p)).set j (some q)))
    (hp : p.sc := by trivial) (hq : q.sc := by trivial) (hx : F.vars[i]? = some x := by rfl) (hy : F.vars[j]? = some y := by rfl)
    (hsw : swapsWithSole [.Tuple [.Name x px, .Name y py] k1 tpos] e pos.line F.env = pure false := by rfl)
    (hw : swappedStores [.Tuple [.Name x px, .Name y py] k1 tpos] e F.env = pure none := by rfl) :
    Ex w k F σ (exec (.Assign [.Tuple [.Name x px, .Name y py] k1 tpos] e pos) F.env) K := fun gh A s Q a tk S hQ => by
  refine Assign_Tuple ((h gh).use a tk S fun v s1 tk1 S1 m1 r1 => ?_) hsw hw
  cases r1 with
  | tup t t16 pt vt =>
    rename_i vs
    cases vt with
    | cons v1 vt =>
      cases vt with
      | cons v2 vt =>
        cases vt
        rename_i u1 u2
        show wpAny _ A (do standAt tpos; unpack (.ref t) (assignEach [.Name x px, .Name y py] F.env)) _ _ _
        refine wpAny_bind (wpAny_standAt (unpack_tuple (items := [u1, u2].toArray) a.handled pt rfl rfl fun h' he => ?_))
        have l := Le.ofNew he
        obtain ⟨m, μ, S1⟩ := S1
        show wpAny _ A (assignInOrder [assign (.Name x px) F.env, assign (.Name y py) F.env] [u1, u2]) _ _ _
        refine wpAny_bind (wpAny_holding (wpAny_assign_Name (store_name (s₀ := { s1 with heap := h' }) (S1.mono l) (.refl _) hx hp.ok (v1.sc hp) (.sc hp) fun h2 tk2 S2 => ?_)))
        obtain ⟨m2, μ2, S2⟩ := S2
        refine wpAny_bind (wpAny_holding (wpAny_assign_Name (store_name (s₀ := { s1 with heap := h2, toks := tk2 }) S2 (.refl _) hy hq.ok (v2.sc hq) (.sc hq) fun h3 tk3 S3 => ?_)))
        exact wpAny_pure (hQ _ _ .next _ hk S3 ⟨m1.os, m1.gens⟩ trivial)
end

section
variable {w : World} {k : Nat} {env : Env} {I : HI}
/-- list(range(a, b, c)) -/
theorem ev_listrange3 {x y : Str} {xp yp pos pos' : Pos} {e f g : Expr} {a b c : Int} (n : Nat) (hl : EvG w k env I (.Name x xp) (.type "list")) (hf : EvG w k env I (.Name y yp) (.type "range"))
    (h1 : Ev w k env I e (.int a)) (h2 : Ev w k env I f (.int b)) (h3 : Ev w k env I g (.int c)) (hc : c ≠ 0) (hc' : c.natAbs < 1073741824) (hsm : Builtin.Range.small a b c = true) (hn : Builtin.Range.rangeSize a b c = n) (hlen : n ≤ 2 ^ 24)
    (he0 : starEach [.Call (.Name y yp) [e, f, g] [] pos'] env = [(false, eval (.Call (.Name y yp) [e, f, g] [] pos') env)] := by rfl)
    (he : starEach [e, f, g] env = [(false, eval e env), (false, eval f env), (false, eval g env)] := by rfl) :
    EvN w k env I (.Call (.Name x xp) [.Call (.Name y yp) [e, f, g] [] pos'] [] pos) ((List.range n).map fun (j : Nat) => .int (a + j * c)) := fun A s Q ao tk i hQ =>
  wpAny_Call_NameR (hl.use ao tk i fun v0 s0 tk0 i0 m0 r0 => by
    subst r0
    rw [he0]
    refine PySem.callWith_type1 (wpAny_Call_NameR (hf.use ao tk0 i0 fun v s1 tk1 i1 m1 r1 => ?_))
    subst r1
    rw [he]
    refine PySem.callWith_type rfl (Calls.evalArgs_plain (Calls.spliced_cons (h1.use ao tk1 i1 fun v2 s2 tk2 i2 m2 r2 => Calls.spliced_cons (h2.use ao tk2 i2 fun v3 s3 tk3 i3 m3 r3 => Calls.spliced_cons (h3.use ao tk3 i3 fun v4 s4 tk4 i4 m4 r4 => Calls.spliced_nil ?_)))))
    cases r2; cases r3; cases r4
    have m := (((m0.trans m1).trans m2).trans m3).trans m4
    refine call_range_3 hc (call_list_range ao.handled (IsRange.new ..) hsm hn hlen fun h' tk' acc c' hk hS hit => ?_) (.inl (PyProof.noPylong_small hc'))
    have nn : ∀ o, (s4.heap.push o).objs.size ≠ 16 := fun o => I.new (I.st i4 (Le.push _ o))
    refine hQ _ _ (m.trans ⟨Le.trans (.push _ _) (.of_keep hk), rfl, id⟩) ⟨_, rfl, new_of (m.le.trans (.push _ _)) (nn _) new_size, ?_⟩
    refine .list (vs := acc.toList) _ (nn _) ⟨_, c', hS, rfl, rfl, by simp⟩ ?_
    obtain ⟨hz, hv⟩ := hit
    have gen : ∀ (vs : List Value) (off : Nat), (∀ j v, vs[j]? = some v → ∃ t, v = Value.int (a + ((off + j : Nat) : Int) * c) t) → ValL h' ((List.range' off vs.length).map fun (j : Nat) => .int (a + j * c)) vs := by
      intro vs
      induction vs with
      | nil => intro off _; exact .nil
      | cons v vs ih =>
        intro off hh
        rw [List.length_cons, List.range'_succ, List.map_cons]
        obtain ⟨t, rfl⟩ := hh 0 v rfl
        refine .cons (.int _ _) (ih (off + 1) fun j u hu => ?_)
        obtain ⟨t', ht'⟩ := hh (j + 1) u hu
        exact ⟨t', by rw [ht']; congr 4; omega⟩
    have e1 := gen acc.toList 0 fun j v hj => by
      obtain ⟨t, ht⟩ := hv j v (by simpa using hj)
      exact ⟨t, by rw [ht]; simp⟩
    have e2 : acc.toList.length = n := by simpa using hz
    rw [e2, ← List.range_eq_range'] at e1
    exact e1)
/-- n in (a, b) -/
theorem te_in2 {l : Expr} {es : List Expr} {kk : Nat} {tp pos : Pos} {n a b : Int} (h1 : Ev w k env I l (.int n)) (h2 : EvL w k env I tp es [.int a, .int b]) : Te w k env I (.Compare l [.In] [.Tuple es kk tp] pos) (a == n || b == n) :=
  te_cmp h1 (ev_tuple h2 (by rw [sizeLine_eq]; simp)) (fun A s v1 v2 Q ao tk i r1 r2 hQ => by
    cases r1
    rename_i t
    cases r2 with
    | tup tt t16 pt vt =>
      cases vt with
      | cons va vt =>
        cases vt with
        | cons vb vt =>
          cases vt
          cases va
          cases vb
          rename_i t1 t2
          refine SeqAt.in_tupleAt (e := isInt n) pt (fun y hy => ?_) (hQ _ _ (.refl _) ?_)
          · exact MeetsSeq.EqGives.at (eq_isInt n t (.cons a t1 (.cons b t2 .nil)) y (by simpa using hy)) _ _
          · simp [isInt])
theorem ev_join {o e : Expr} {apos pos : Pos} {x : Str} {ts : List Str} (h1 : Ev w k env I o (.str x)) (h2 : Ev w k env I e (.list (ts.map .str))) (hok : JoinOk x ts = true)
    (hbase : attributeBase o "join" env (eval o env) = eval o env := by rfl) (hs : starEach [e] env = [(false, eval e env)] := by rfl) (hline : (apos.endLine == pos.line) = true := by rfl) :
    Ev w k env I (.Call (.Attribute o "join" apos) [e] [] pos) (.str (Txt.join x ts)) := fun A s Q a tk i hQ =>
  Call_method1 hbase hs hline (h1.use a tk i fun v s1 tk1 i1 m1 r1 => by
    cases r1
    refine SB.join (h2.use a tk1 i1 fun v2 s2 tk2 i2 m2 r2 => ?_)
    cases r2 with
    | list l l16 pl vl =>
      have gen : ∀ {ts : List Str} {vs : List Value}, ValL s2.heap (ts.map .str) vs → ∃ l, vs = strValues l ∧ l.map (·.1) = ts := by
        intro ts
        induction ts with
        | nil => intro vs h; cases h; exact ⟨[], rfl, rfl⟩
        | cons t ts ih =>
          intro vs h
          cases h with
          | cons a b =>
            cases a
            obtain ⟨l, e1, e2⟩ := ih b
            exact ⟨(t, _) :: l, by rw [e1]; rfl, by rw [List.map_cons, e2]⟩
      obtain ⟨lt, e1, e2⟩ := gen vl
      subst e1
      exact ⟨l, lt, rfl, pl.isList, ts, e2, hok, fun t' k' => hQ _ _ ((m1.trans m2).trans (.tok _ _)) (.str _ _)⟩)
theorem ev_sum {x : Str} {xp pos : Pos} {e : Expr} {ns : List Int} (hf : EvG w k env I (.Name x xp) (.builtin "sum")) (h1 : Ev w k env I e (.list (ns.map .int))) (hfit : ∀ j, j < ns.length → InLong (ns.getD j 0) ∧ InLong (preSum (fun i => ns.getD i 0) (j + 1)))
    (he : starEach [e] env = [(false, eval e env)] := by rfl) : Ev w k env I (.Call (.Name x xp) [e] [] pos) (.int ns.sum) :=
  ev_call1 hf h1 (fun A s v Q ao _ i r hQ => by
    cases r with
    | list l hl pl vl =>
      rename_i vs
      refine call_sum_walk (wpAny_pyIter_list pl.isList ?_)
      obtain ⟨o, n, e1, e2, e3, e4⟩ := id pl
      have ne : l ≠ s.heap.objs.size := Nat.ne_of_lt (Heap.lt_size e1)
      have hlen : vs.length = ns.length := by simpa using vl.length
      have W := Walks.list (prog := pw) (w := w) (A := A.in1) ao.handled s.heap.objs.size l ne vs.toArray
      refine ⟨s.heap.objs.size, _, _, vs.toArray.size, _, _, fun i => ns.getD i 0, rfl, W, ⟨⟨_, Heap.get?_push_size _ rfl, rfl, rfl⟩, pl.isList.push _⟩, fun b hb => ?_, fun j v hv => ?_, fun j hj => hfit j (by simpa [hlen] using hj), fun h' tk t' hk => ?_⟩
      · simp at hb
        show b < (s.heap.push _).objs.size
        rw [Heap.size_push]
        rcases hb with rfl | rfl
        · exact Nat.lt_succ_self _
        · exact Nat.lt_succ_of_lt (Heap.lt_size e1)
      · have hv' : vs[j]? = some v := by simpa using hv
        have hj : j < ns.length := by rw [← hlen]; exact (List.getElem?_eq_some_iff.mp hv').1
        obtain ⟨y, hy, vy⟩ := vl.get j (.int ns[j]) (by simp [hj])
        rw [hv'] at hy
        cases hy
        cases vy
        rename_i t0
        exact ⟨t0, by simp [List.getD_eq_getElem?_getD, hj]⟩
      · have e5 : preSum (fun i => ns.getD i 0) vs.toArray.size = ns.sum := by rw [List.size_toArray, hlen, preSum_getD, List.take_length]
        rw [e5]
        refine hQ _ _ ⟨.of_keep fun b o' e => hk b o' (fun hm => ?_) (Heap.get?_push_of_some _ e), rfl, id⟩ (.int _ _)
        rw [List.mem_singleton.mp hm] at e
        exact absurd (Heap.lt_size e) (Nat.lt_irrefl _)) (fun _ _ _ _ _ _ r => r) he
end
end
end Mine

/- text P1 -/
namespace Mine
section
open PySem PySem.W PyProof.Rows PySem.Calls
theorem ev_gint {w : World} {k : Nat} {env : Env} {I : HI} {e : Expr} {i : Int} {t : Tok} (h : EvG w k env I e (.int i t)) : Ev w k env I e (.int i) :=
  Tr.mono h fun _ _ _ _ r => by subst r; exact .int i t

theorem len1 {vs : List Value} (h : vs.length = 1) : ∃ x, vs = [x] := List.length_eq_one_iff.mp h
theorem len2 {vs : List Value} (h : vs.length = 2) : ∃ x y, vs = [x, y] := by
  obtain ⟨x, r, rfl⟩ := List.exists_cons_of_length_eq_add_one h
  obtain ⟨y, rfl⟩ := len1 (Nat.succ.inj h)
  exact ⟨x, y, rfl⟩
theorem len3 {vs : List Value} (h : vs.length = 3) : ∃ x y z, vs = [x, y, z] := by
  obtain ⟨x, r, rfl⟩ := List.exists_cons_of_length_eq_add_one h
  obtain ⟨y, z, rfl⟩ := len2 (Nat.succ.inj h)
  exact ⟨x, y, z, rfl⟩
theorem len4 {vs : List Value} (h : vs.length = 4) : ∃ x y z u, vs = [x, y, z, u] := by
  obtain ⟨x, r, rfl⟩ := List.exists_cons_of_length_eq_add_one h
  obtain ⟨y, z, u, rfl⟩ := len3 (Nat.succ.inj h)
  exact ⟨x, y, z, u, rfl⟩
def subF (a b : Str) : Int := if a == b then 0 else if Txt.lower a == Txt.lower b then 1 else 2
theorem fn_sub {w : World} (a b : Str) (ha : (Txt.lower a).length ≤ sizeLine) (hb : (Txt.lower b).length ≤ sizeLine) : Fn w 2 28 [.str a, .str b] (.int (subF a b)) := by
  refine fn_intro (cd := 27) (i := 6) ["ch_a", "ch_b"] [] (by decide) (fun L base => ?_) (by intro x hx; simp at hx; rcases hx with rfl | rfl <;> trivial) (by simp) (by simp) ?_ (by decide) (by decide) (by decide)
  · refine ex_cons (ex_if (b := a == b) (fun gh => te_cmp (ev_var 0) (ev_var 1) op_eqs) (fun h => ?_) (fun h => ?_))
    · refine ex_cons (ex_return (fun gh => ev_int) ?_)
      unfold subF; rw [if_pos h]
    · refine ex_nil ?_
      refine ex_cons (ex_if (b := Txt.lower a == Txt.lower b) (fun gh => te_cmp (ev_lower (ev_var 0) ha) (ev_lower (ev_var 1) hb) op_eqs) (fun h' => ?_) (fun h' => ?_))
      · refine ex_cons (ex_return (fun gh => ev_gint (ev_glob hi_glo rfl rfl rfl rfl)) ?_)
        unfold subF; rw [if_neg (by simp [h]), if_pos h']
      · refine ex_nil ?_
        refine ex_cons (ex_return (fun gh => ev_gint (ev_glob hi_glo rfl rfl rfl rfl)) ?_)
        unfold subF; rw [if_neg (by simp [h]), if_neg (by simp [h'])]
  · intro pm doc vs hl
    obtain ⟨x, y, rfl⟩ := len2 hl
    rfl
end
end Mine

/- text P2a -/
namespace Mine
section
open PySem PySem.W PyProof.Rows PySem.Calls PySem.Builtin.Str
def S (l : List Nat) : Str := ⟨l.toArray⟩
theorem S_len (l : List Nat) : (S l).length = l.length := by show l.toArray.size = _; simp
theorem S_eq (a b : List Nat) : (S a == S b) = (a == b) := by
  rw [Bool.eq_iff_iff]; simp [S]
theorem S_app (a b : List Nat) : S a ++ S b = S (a ++ b) := by
  show Str.mk (a.toArray ++ b.toArray) = Str.mk _
  simp

theorem pick_run (l : List Nat) (a n : Nat) : (((List.range n).map (a + ·)).filterMap (l.toArray[·]?)) = (l.drop a).take n := by
  induction n with
  | zero => simp
  | succ n ih =>
    rw [List.range_succ, List.map_append, List.filterMap_append, ih, List.take_add_one]
    congr 1
    simp [List.getElem?_drop]
    cases h : l[a + n]? <;> simp [h]
theorem slice_core (l : List Nat) (lo hi : Option Int) (a b : Nat) (ha : a ≤ l.length) (hb : b ≤ l.length) (e : strSliceIndices lo hi 1 l.length = (List.range (b - a)).map (a + ·)) : Txt.slice (S l) lo hi = S ((l.drop a).take (b - a)) := by
  unfold Txt.slice
  rw [S_len, e]
  split
  · rename_i h
    simp at h
    have : b - a = l.length := h
    have h1 : a = 0 ∨ l.length = 0 := by omega
    rcases h1 with rfl | h1
    · rw [List.drop_zero, List.take_of_length_le (by omega)]
    · have : l = [] := List.length_eq_zero_iff.mp h1
      subst this; simp
  · show Str.mk _ = Str.mk _
    rw [show (S l).cps = l.toArray from rfl, pick_run]
theorem slice_from (l : List Nat) (p : Nat) (hp : p ≤ l.length) : Txt.slice (S l) (some p) none = S (l.drop p) := by
  rw [slice_core l (some p) none p l.length hp (Nat.le_refl _), List.take_of_length_le (by simp)]
  have e : strSliceIndices (some (p : Int)) none 1 l.length = sliceRange (p : Int) (l.length : Int) 1 := by
    unfold strSliceIndices
    simp only [show (1 : Int) > 0 by decide, if_true]
    congr 1
    split <;> omega
  rw [e, sliceRange_one]
theorem slice_to (l : List Nat) (q : Nat) (hq : q ≤ l.length) : Txt.slice (S l) none (bnd (if -(q : Int) = 0 then .none else .int (-(q : Int)))) = S (l.take (l.length - q)) := by
  rw [slice_core l none _ 0 (l.length - q) (Nat.zero_le _) (by omega)]
  · simp
  · by_cases h : q = 0
    · subst h
      have e : strSliceIndices none none 1 l.length = sliceRange ((0 : Nat) : Int) (l.length : Int) 1 := by
        unfold strSliceIndices; simp
      show strSliceIndices none none 1 l.length = _
      rw [e, sliceRange_one]; rfl
    · rw [if_neg (by omega)]
      simp only [bnd]
      have e : strSliceIndices none (some (-(q : Int))) 1 l.length = sliceRange ((0 : Nat) : Int) ((l.length - q : Nat) : Int) 1 := by
        unfold strSliceIndices
        simp only [show (1 : Int) > 0 by decide, if_true]
        congr 1
        rw [if_pos (by omega)]; omega
      rw [e, sliceRange_one]
theorem sidx (l : List Nat) (p : Nat) (c : Nat) (h : l[p]? = some c) : (seqIndex? (p : Int) (S l).length).bind ((S l).cps[·]?) = some c := by
  have hl : p < l.length := (List.getElem?_eq_some_iff.mp h).1
  rw [S_len]
  unfold seqIndex?
  have q1 : ¬ (p : Int) < 0 := by omega
  have := (List.getElem?_eq_some_iff.mp h).2
  simp [q1, hl, S, this]
theorem sidxn (l : List Nat) (q : Nat) (c : Nat) (hq : q < l.length) (h : l[l.length - (q + 1)]? = some c) : (seqIndex? (-(q : Int) - 1) (S l).length).bind ((S l).cps[·]?) = some c := by
  rw [S_len]
  have q1 : (-(q : Int) - 1) < 0 := by omega
  rw [seqIndex_neg q1 (by omega)]
  have : (-(q : Int) - 1 + (l.length : Int)).toNat = l.length - (q + 1) := by omega
  simp [this, S, h]
end
end Mine

/- text P2 -/
namespace Mine
section
open PySem PySem.W PyProof.Rows PySem.Calls
def pfx : List Nat → List Nat → Nat
  | x :: a, y :: b => if x = y then pfx a b + 1 else 0
  | _, _ => 0
def mn2 (a b : Int) : Int := if b < a then b else a
def inner (cost : Nat → Nat → Int) (c : Nat) : List Nat → List Int → Int → Int → Int → List Int × Int × Int
  | x :: as, r :: row, d, res, mn =>
    let res' := mn2 (mn2 res r + 2) (d + cost c x)
    let q := inner cost c as row r res' (if res' < mn then res' else mn)
    (res' :: q.1, q.2)
  | _, _, _, res, mn => ([], res, mn)
def outer (cost : Nat → Nat → Int) (as : List Nat) (m : Int) : List Nat → Nat → List Int → Int → Int
  | [], _, _, res => res
  | c :: bs, i, row, _ =>
    let q := inner cost c as row (i * 2) (i * 2) 9223372036854775807
    if m < q.2.2 then m + 1 else outer cost as m bs (i + 1) q.1 q.2.1
def row0 (n : Nat) : List Int := (List.range n).map fun (j : Nat) => 2 + (j : Int) * 2
def levE (cost : Nat → Nat → Int) (a b : List Nat) (m : Int) : Int :=
  if m < ((b.length : Int) - a.length) * 2 then m + 1 else outer cost a m b 0 (row0 a.length) 0
def levD (cost : Nat → Nat → Int) (a b : List Nat) (m : Int) : Int :=
  if a.length = 0 ∨ b.length = 0 then 2 * ((a.length : Int) + b.length)
  else if 40 < a.length ∨ 40 < b.length then m + 1
  else if b.length < a.length then levE cost b a m else levE cost a b m
def levS (cost : Nat → Nat → Int) (a b : List Nat) (m : Int) : Int :=
  levD cost (a.take (a.length - pfx a.reverse b.reverse)) (b.take (b.length - pfx a.reverse b.reverse)) m
def levL (cost : Nat → Nat → Int) (a b : List Nat) (m : Int) : Int :=
  if a = b then 0 else levS cost (a.drop (pfx a b)) (b.drop (pfx a b)) m
def cst (c x : Nat) : Int := subF (S [c]) (S [x])

theorem pfx_le : ∀ (a b : List Nat), pfx a b ≤ a.length ∧ pfx a b ≤ b.length
  | [], b => by simp [pfx]
  | _ :: _, [] => by simp [pfx]
  | x :: a, y :: b => by
    have := pfx_le a b
    unfold pfx; split <;> simp <;> omega
theorem pfx_step {a b : List Nat} {p : Nat} {x : Nat} (ha : a[p]? = some x) (hb : b[p]? = some x) : pfx (a.drop p) (b.drop p) = pfx (a.drop (p + 1)) (b.drop (p + 1)) + 1 := by
  have e1 : a.drop p = x :: a.drop (p + 1) := by
    obtain ⟨h, e⟩ := List.getElem?_eq_some_iff.mp ha
    rw [List.drop_eq_getElem_cons h, e]
  have e2 : b.drop p = x :: b.drop (p + 1) := by
    obtain ⟨h, e⟩ := List.getElem?_eq_some_iff.mp hb
    rw [List.drop_eq_getElem_cons h, e]
  rw [e1, e2, pfx, if_pos rfl]
theorem pfx_stop {a b : List Nat} {p : Nat} (h : ∀ x, a[p]? = some x → b[p]? ≠ some x) : pfx (a.drop p) (b.drop p) = 0 := by
  cases ha : a[p]? with
  | none => rw [List.drop_eq_nil_of_le (List.getElem?_eq_none_iff.mp ha)]; simp [pfx]
  | some x =>
    cases hb : b[p]? with
    | none => rw [List.drop_eq_nil_of_le (List.getElem?_eq_none_iff.mp hb)]; cases a.drop p <;> simp [pfx]
    | some y =>
      obtain ⟨h1, e1⟩ := List.getElem?_eq_some_iff.mp ha
      obtain ⟨h2, e2⟩ := List.getElem?_eq_some_iff.mp hb
      rw [List.drop_eq_getElem_cons h1, List.drop_eq_getElem_cons h2, pfx, if_neg]
      rw [e1, e2]; rintro rfl; exact h _ ha hb
theorem S_one (c d : Nat) : ((⟨#[c]⟩ : Str) == ⟨#[d]⟩) = (c == d) := by
  have := S_eq [c] [d]
  simpa [S] using this

abbrev lvars : List Str := ["a", "b", "max_cost", "pre", "post", "row", "result", "bindex", "bchar", "distance", "minimum", "index", "substitute", "insert_delete"]

section
variable {w : World} {k : Nat} {env : Env} {I : HI}
theorem ev_from {e lo : Expr} {sp pos : Pos} {l : List Nat} {p : Nat} (h1 : Ev w k env I e (.str (S l))) (h2 : Ev w k env I lo (.int p)) (hp : p ≤ l.length) (hl : l.length ≤ 1000)
    (ht : ∀ o r, letTemporaryGo e o r = pure () := by intro _ _; rfl) : Ev w k env I (.Subscript e (.Slice (some lo) none none sp) pos) (.str (S (l.drop p))) := by
  have := ev_slice (sp := sp) (pos := pos) h1 (evp_some h2) evp_none (.inr ⟨_, rfl⟩) (.inl rfl) (by rw [S_len, sizeLine_eq]; omega) ht
  rw [show bnd (PV.int (p : Int)) = some (p : Int) from rfl, show bnd PV.none = none from rfl, slice_from l p hp] at this
  exact this
theorem ev_to {e hi : Expr} {sp pos : Pos} {l : List Nat} {q : Nat} (h1 : Ev w k env I e (.str (S l))) (h2 : Ev w k env I hi (if -(q : Int) = 0 then .none else .int (-(q : Int)))) (hq : q ≤ l.length) (hl : l.length ≤ 1000)
    (ht : ∀ o r, letTemporaryGo e o r = pure () := by intro _ _; rfl) : Ev w k env I (.Subscript e (.Slice none (some hi) none sp) pos) (.str (S (l.take (l.length - q)))) := by
  have := ev_slice (sp := sp) (pos := pos) h1 evp_none (evp_some h2) (.inl rfl) (by by_cases h : -(q : Int) = 0 <;> simp only [h, if_true, if_false]; exact .inl rfl; exact .inr ⟨_, rfl⟩) (by rw [S_len, sizeLine_eq]; omega) ht
  rw [show bnd PV.none = none from rfl, slice_to l q hq] at this
  exact this
theorem te_S {e : Expr} {l : List Nat} (h : Ev w k env I e (.str (S l))) (hl : l.length ≤ 1000)
    (he : ∀ whole, isTrue e env whole = (do let v ← whole; standAt e.pos; holding [v] (truthy v)) := by intro _; rfl) : Te w k env I e (decide (l.length ≠ 0)) := by
  have := te_str h (by rw [S_len, sizeLine_eq]; omega) he
  rw [S_len] at this
  exact this
theorem te_eq1 {e f : Expr} {pos : Pos} {c d : Nat} (h1 : Ev w k env I e (.str ⟨#[c]⟩)) (h2 : Ev w k env I f (.str ⟨#[d]⟩)) (hm : behindInMarks .Eq f = false := by with_unfolding_all rfl) : Te w k env I (.Compare e [.Eq] [f] pos) (c == d) := by
  have := te_cmp (pos := pos) h1 h2 op_eqs hm
  rw [S_one] at this
  exact this
end
abbrev lF (L : Addr) (base : Heap) : Fm := mkF 35 34 7 lvars [5] L base
section
variable {w : World} {L : Addr} {base : Heap} {K : Fl → Sg → Prop}
theorem lev_pre (la lb : List Nat) (m : Int) (hla : la.length ≤ 1000) (hlb : lb.length ≤ 1000) {rest : List Stmt}
    (hk : Ex w 3 (lF L base) [some (.str (S la)), some (.str (S lb)), some (.int m), some (.int (pfx la lb)), none, none, none, none, none, none, none, none, none, none] (execs rest (lF L base).env) K)
    (t : Expr) (body : List Stmt) (pos : Pos) (ht : (fBody 7)[2]? = some (.While t body [] pos)) :
    Ex w 3 (lF L base) [some (.str (S la)), some (.str (S lb)), some (.int m), some (.int 0), none, none, none, none, none, none, none, none, none, none] (execs (.While t body [] pos :: rest) (lF L base).env) K := by
  cases ht
  refine ex_cons (ex_while (fun n τ => ∃ p : Nat, n = la.length - p ∧ p ≤ la.length ∧ p ≤ lb.length ∧ pfx la lb = p + pfx (la.drop p) (lb.drop p) ∧ τ = [some (.str (S la)), some (.str (S lb)), some (.int m), some (.int p), none, none, none, none, none, none, none, none, none, none])
    (n₀ := la.length) ⟨0, rfl, Nat.zero_le _, Nat.zero_le _, by simp, rfl⟩ ?_)
  rintro n τ ⟨p, rfl, h1, h2, h3, rfl⟩
  have done : pfx (la.drop p) (lb.drop p) = 0 → Ex w 3 (lF L base) [some (.str (S la)), some (.str (S lb)), some (.int m), some (.int p), none, none, none, none, none, none, none, none, none, none] (execs rest (lF L base).env) K := fun z => by
    rw [z, Nat.add_zero] at h3
    rw [← h3]; exact hk
  by_cases c1 : p < la.length
  · by_cases c2 : p < lb.length
    · have g1 : la[p]? = some la[p] := List.getElem?_eq_getElem c1
      have g2 : lb[p]? = some lb[p] := List.getElem?_eq_getElem c2
      refine ⟨_, fun gh => te_boolop (tea_cons (te_S (ev_from (ev_var 0) (ev_var 3) h1 hla) (by simp; omega)) fun _ =>
        tea_cons (te_S (ev_from (ev_var 1) (ev_var 3) h2 hlb) (by simp; omega)) fun _ =>
        tea_cons (te_eq1 (ev_sidx (ev_var 0) (ev_var 3) (by simp; omega) (sidx la p _ g1)) (ev_sidx (ev_var 1) (ev_var 3) (by simp; omega) (sidx lb p _ g2))) fun _ => tea_nil), ?_, ?_⟩
      · intro hf
        have e1 : la.length - p ≠ 0 := by omega
        have e2 : lb.length - p ≠ 0 := by omega
        simp [e1, e2] at hf
        exact done (pfx_stop fun x hx hy => by
          rw [g1] at hx; rw [g2] at hy
          cases hx
          exact hf (Option.some.inj hy).symm)
      · intro hf
        refine ex_cons (ex_augadd 3 (fun gh => ev_int) ?_)
        refine ex_nil ⟨la.length - (p + 1), by omega, p + 1, rfl, c1, c2, ?_, ?_⟩
        · have e : la[p] = lb[p] := by simp at hf; exact hf.2.2
          rw [h3, pfx_step g1 (by rw [g2, e])]
          omega
        · simp
    · refine ⟨_, fun gh => te_boolop (tea_cons (te_S (ev_from (ev_var 0) (ev_var 3) h1 hla) (by simp; omega)) fun _ =>
        tea_cons (c := true) (te_S (ev_from (ev_var 1) (ev_var 3) h2 hlb) (by simp; omega)) fun h => by simp at h; omega), fun _ => ?_, ?_⟩
      · exact done (pfx_stop fun x hx hy => c2 (List.getElem?_eq_some_iff.mp hy).1)
      · intro h; simp at h; omega
  · refine ⟨_, fun gh => te_boolop (tea_cons (c := true) (te_S (ev_from (ev_var 0) (ev_var 3) h1 hla) (by simp; omega)) fun h => by simp at h; omega), fun _ => ?_, ?_⟩
    · exact done (pfx_stop fun x hx hy => c1 (List.getElem?_eq_some_iff.mp hx).1)
    · intro h; simp at h; omega

theorem lev_post (la lb : List Nat) (m : Int) (x : PV) (hla : la.length ≤ 1000) (hlb : lb.length ≤ 1000) {rest : List Stmt}
    (hk : Ex w 3 (lF L base) [some (.str (S la)), some (.str (S lb)), some (.int m), some x, some (.int (-(pfx la.reverse lb.reverse : Nat))), none, none, none, none, none, none, none, none, none] (execs rest (lF L base).env) K)
    (t : Expr) (body : List Stmt) (pos : Pos) (ht : (fBody 7)[6]? = some (.While t body [] pos)) :
    Ex w 3 (lF L base) [some (.str (S la)), some (.str (S lb)), some (.int m), some x, some (.int 0), none, none, none, none, none, none, none, none, none] (execs (.While t body [] pos :: rest) (lF L base).env) K := by
  cases ht
  refine ex_cons (ex_while (fun n τ => ∃ p : Nat, n = la.length - p ∧ p ≤ la.length ∧ p ≤ lb.length ∧ pfx la.reverse lb.reverse = p + pfx (la.reverse.drop p) (lb.reverse.drop p) ∧ τ = [some (.str (S la)), some (.str (S lb)), some (.int m), some x, some (.int (-(p : Int))), none, none, none, none, none, none, none, none, none])
    (n₀ := la.length) ⟨0, rfl, Nat.zero_le _, Nat.zero_le _, by simp, rfl⟩ ?_)
  rintro n τ ⟨p, rfl, h1, h2, h3, rfl⟩
  have done : pfx (la.reverse.drop p) (lb.reverse.drop p) = 0 → Ex w 3 (lF L base) [some (.str (S la)), some (.str (S lb)), some (.int m), some x, some (.int (-(p : Int))), none, none, none, none, none, none, none, none, none] (execs rest (lF L base).env) K := fun z => by
    rw [z, Nat.add_zero] at h3
    rw [← h3]; exact hk
  by_cases c1 : p < la.length
  · by_cases c2 : p < lb.length
    · have g1 : la[la.length - (p + 1)]? = some la[la.length - (p + 1)] := List.getElem?_eq_getElem (by omega)
      have g2 : lb[lb.length - (p + 1)]? = some lb[lb.length - (p + 1)] := List.getElem?_eq_getElem (by omega)
      have r1 : la.reverse[p]? = some la[la.length - (p + 1)] := by rw [List.getElem?_reverse c1, ← g1]; congr 1; omega
      have r2 : lb.reverse[p]? = some lb[lb.length - (p + 1)] := by rw [List.getElem?_reverse c2, ← g2]; congr 1; omega
      refine ⟨_, fun gh => te_boolop (tea_cons (te_S (ev_to (ev_var 0) (ev_orNone (ev_var 4)) h1 hla) (by simp; omega)) fun _ =>
        tea_cons (te_S (ev_to (ev_var 1) (ev_orNone (ev_var 4)) h2 hlb) (by simp; omega)) fun _ =>
        tea_cons (te_eq1 (ev_sidx (ev_var 0) (ev_sub (ev_var 4) ev_int) (by simp; omega) (sidxn la p _ c1 g1)) (ev_sidx (ev_var 1) (ev_sub (ev_var 4) ev_int) (by simp; omega) (sidxn lb p _ c2 g2))) fun _ => tea_nil), ?_, ?_⟩
      · intro hf
        have hf2 : ¬ la[la.length - (p + 1)] = lb[lb.length - (p + 1)] := by
          intro e
          rw [e] at hf
          simp at hf
          omega
        exact done (pfx_stop fun x hx hy => by
          rw [r1] at hx; rw [r2] at hy
          cases hx
          exact hf2 (Option.some.inj hy).symm)
      · intro hf
        refine ex_cons (ex_augsub 4 (fun gh => ev_int) ?_)
        refine ex_nil ⟨la.length - (p + 1), by omega, p + 1, rfl, c1, c2, ?_, ?_⟩
        · have e : la[la.length - (p + 1)] = lb[lb.length - (p + 1)] := by simp at hf; exact hf.2.2
          rw [h3, pfx_step r1 (by rw [r2, e])]
          omega
        · have : -(p : Int) - 1 = -((p + 1 : Nat) : Int) := by omega
          simp only [List.set, this]
    · refine ⟨_, fun gh => te_boolop (tea_cons (te_S (ev_to (ev_var 0) (ev_orNone (ev_var 4)) h1 hla) (by simp; omega)) fun _ =>
        tea_cons (c := true) (te_S (ev_to (ev_var 1) (ev_orNone (ev_var 4)) h2 hlb) (by simp; omega)) fun h => by simp at h; omega), fun _ => ?_, ?_⟩
      · exact done (pfx_stop fun x hx hy => c2 (by simpa using (List.getElem?_eq_some_iff.mp hy).1))
      · intro h; simp at h; omega
  · refine ⟨_, fun gh => te_boolop (tea_cons (c := true) (te_S (ev_to (ev_var 0) (ev_orNone (ev_var 4)) h1 hla) (by simp; omega)) fun h => by simp at h; omega), fun _ => ?_, ?_⟩
    · exact done (pfx_stop fun x hx hy => c1 (by simpa using (List.getElem?_eq_some_iff.mp hx).1))
    · intro h; simp at h; omega
end
end
end Mine

/- text P3 -/
namespace Mine
section
open PySem PySem.W PyProof.Rows PySem.Calls
theorem Fn.lift {w : World} {k j : Nat} {a : Addr} {args : List PV} {p : PV} (h : Fn w k a args p) (hj : k ≤ j) : Fn w j a args p :=
  fun A s vs Q ao tk g hv hQ => h A s vs Q (ao.le hj) tk g hv hQ
theorem FnN.lift {w : World} {k j : Nat} {a : Addr} {args : List PV} {p : List PV} (h : FnN w k a args p) (hj : k ≤ j) : FnN w j a args p :=
  fun A s vs Q ao tk g hv hQ => h A s vs Q (ao.le hj) tk g hv hQ

def LowOk (l : List Nat) : Prop := ∀ c ∈ l, (Txt.lower (S [c])).length ≤ sizeLine
abbrev lst (a b : List Nat) (m : Int) (x y : Option PV) (row : List Int) (res : Int) (bi bc di mi ix su ins : Option PV) : Sg :=
  [some (.str (S a)), some (.str (S b)), some (.int m), x, y, some (.list (row.map .int)), some (.int res), bi, bc, di, mi, ix, su, ins]
def outFor : Option Stmt := (fBody 7)[15]?
def inFor : Option Stmt := match outFor with
  | some (.For _ _ b _ _) => b[3]?
  | _ => none
theorem ints_sc {xs : List Int} : ∀ x ∈ xs.map PV.int, x.sc := by
  intro x hx
  obtain ⟨y, _, rfl⟩ := List.mem_map.mp hx
  trivial

theorem ev_lenS {w : World} {k : Nat} {env : Env} {I : HI} {x : Str} {xp pos : Pos} {e : Expr} {l : List Nat} (hf : EvG w k env I (.Name x xp) (.builtin "len")) (h1 : Ev w k env I e (.str (S l))) (hl : l.length ≤ 1000)
    (he : starEach [e] env = [(false, eval e env)] := by rfl) : Ev w k env I (.Call (.Name x xp) [e] [] pos) (.int l.length) := by
  have := ev_lens (pos := pos) hf h1 (by rw [S_len, sizeLine_eq]; omega) he
  rw [S_len] at this
  exact this
section
variable {w : World} {L : Addr} {base : Heap} {K : Fl → Sg → Prop}
theorem lev_inner (a b : List Nat) (m : Int) (x y bi : Option PV) (c : Nat) (row0 : List Int) (d0 res0 mn0 : Int) (ix0 su0 ins0 : Option PV) (hrow : row0.length = a.length) (hla : a.length ≤ 1000)
    (hc : LowOk [c]) (ha : LowOk a) {rest : List Stmt}
    (hk : ∀ d ix su ins, Ex w 3 (lF L base) (lst a b m x y (inner cst c a row0 d0 res0 mn0).1 (inner cst c a row0 d0 res0 mn0).2.1 bi (some (.str (S [c]))) (some (.int d)) (some (.int (inner cst c a row0 d0 res0 mn0).2.2)) ix su ins) (execs rest (lF L base).env) K)
    {t i : Expr} {body : List Stmt} {pos : Pos} (ht : inFor = some (.For t i body [] pos)) :
    Ex w 3 (lF L base) (lst a b m x y row0 res0 bi (some (.str (S [c]))) (some (.int d0)) (some (.int mn0)) ix0 su0 ins0) (execs (.For t i body [] pos :: rest) (lF L base).env) K := by
  cases ht
  refine ex_cons (ex_for 11 a.length (fun j => .int j) (fun j τ => ∃ d res mn ix su ins rd rr, rd.length = j ∧ j + rr.length = a.length ∧ τ = lst a b m x y (rd ++ rr) res bi (some (.str (S [c]))) (some (.int d)) (some (.int mn)) ix su ins ∧
      inner cst c a row0 d0 res0 mn0 = (rd ++ (inner cst c (a.drop j) rr d res mn).1, (inner cst c (a.drop j) rr d res mn).2))
    (fun gh => evit_range1 (ev_bi hi_glo rfl rfl rfl rfl rfl (by decide) rfl) (ev_lenS (ev_bi hi_glo rfl rfl rfl rfl rfl (by decide) rfl) (ev_var 0) hla) (by omega))
    ⟨d0, res0, mn0, ix0, su0, ins0, [], row0, rfl, by simpa using hrow, rfl, rfl⟩ ?_ ?_)
  · rintro j τ hj ⟨d, res, mn, ix, su, ins, rd, rr, h1, h2, rfl, h3⟩
    obtain ⟨r, rr, rfl⟩ : ∃ r rr', rr = r :: rr' := by
      cases rr with
      | nil => simp at h2; omega
      | cons r rr => exact ⟨r, rr, rfl⟩
    have ga : a[j]? = some a[j] := List.getElem?_eq_getElem hj
    have gd : a.drop j = a[j] :: a.drop (j + 1) := List.drop_eq_getElem_cons hj
    refine ex_cons (ex_assign 12 (fun gh => ev_add (ev_var 9) (ev_fn (cd := 27) (i := 6) hi_glo (by decide) (ev_glob hi_glo rfl rfl rfl rfl) ((fn_sub (S [c]) (S [a[j]]) (hc c (.head _)) (ha _ (List.getElem_mem hj))).lift (j := 3) (by decide)) (evl_cons (ev_var 8) (evl_cons (ev_sidx (ev_var 0) (ev_var 11) (by simp; omega) (sidx a j _ ga)) evl_nil)))) ?_)
    refine ex_cons (ex_assign 9 (fun gh => ev_idx (p := .int r) (ev_var 5) (ev_var 11) (by omega) (by omega) (by simp [← h1])) ?_)
    refine ex_cons (ex_assign 13 (fun gh => ev_add (ev_min (ev_bi hi_glo rfl rfl rfl rfl rfl (by decide) rfl) (ev_var 6) (ev_var 9)) (ev_gint (ev_glob hi_glo rfl rfl rfl rfl))) ?_)
    refine ex_cons (ex_assign 6 (fun gh => ev_min (ev_bi hi_glo rfl rfl rfl rfl rfl (by decide) rfl) (ev_var 13) (ev_var 12)) ?_)
    refine ex_cons (ex_setitem (xs := (rd ++ r :: rr).map .int) 5 j (.head _) (fun gh => ev_var 6) (fun gh => ev_var 11) (by simp; omega) (.inl ⟨by omega, by omega, rfl⟩) ?_)
    have es : ((rd ++ r :: rr).map PV.int).set j (.int (mn2 (mn2 res r + 2) (d + cst c a[j]))) = (((rd ++ [mn2 (mn2 res r + 2) (d + cst c a[j])]) ++ rr).map PV.int) := by
      subst h1
      simp
    have h4 : inner cst c a row0 d0 res0 mn0 = ((rd ++ [mn2 (mn2 res r + 2) (d + cst c a[j])]) ++ (inner cst c (a.drop (j + 1)) rr r (mn2 (mn2 res r + 2) (d + cst c a[j])) (if mn2 (mn2 res r + 2) (d + cst c a[j]) < mn then mn2 (mn2 res r + 2) (d + cst c a[j]) else mn)).1, (inner cst c (a.drop (j + 1)) rr r (mn2 (mn2 res r + 2) (d + cst c a[j])) (if mn2 (mn2 res r + 2) (d + cst c a[j]) < mn then mn2 (mn2 res r + 2) (d + cst c a[j]) else mn)).2) := by
      rw [h3, gd, inner]
      simp
    have h5 : j + 1 + rr.length = a.length := by simp at h2; omega
    have h6 : (rd ++ [mn2 (mn2 res r + 2) (d + cst c a[j])]).length = j + 1 := by simp [h1]
    refine ex_cons (ex_if (fun gh => te_cmp (ev_var 6) (ev_var 10) op_lt) (fun h => ?_) (fun h => ?_))
    · refine ex_cons (ex_assign 10 (fun gh => ev_var 6) ?_)
      refine ex_nil (ex_nil ⟨r, mn2 (mn2 res r + 2) (d + cst c a[j]), mn2 (mn2 res r + 2) (d + cst c a[j]), some (.int j), some (.int (d + cst c a[j])), some (.int (mn2 res r + 2)), rd ++ [mn2 (mn2 res r + 2) (d + cst c a[j])], rr, h6, h5, ?_, ?_⟩)
      · unfold lst
        rw [← es]
        rfl
      · have h' : mn2 (mn2 res r + 2) (d + cst c a[j]) < mn := of_decide_eq_true h
        rw [if_pos h'] at h4
        exact h4
    · refine ex_nil (ex_nil ⟨r, mn2 (mn2 res r + 2) (d + cst c a[j]), mn, some (.int j), some (.int (d + cst c a[j])), some (.int (mn2 res r + 2)), rd ++ [mn2 (mn2 res r + 2) (d + cst c a[j])], rr, h6, h5, ?_, ?_⟩)
      · unfold lst
        rw [← es]
        rfl
      · have h' : ¬ mn2 (mn2 res r + 2) (d + cst c a[j]) < mn := fun q => by
          have := decide_eq_true q
          exact absurd (h.symm.trans this) (by decide)
        rw [if_neg h'] at h4
        exact h4
  · rintro τ ⟨d, res, mn, ix, su, ins, rd, rr, h1, h2, rfl, h3⟩
    obtain rfl : rr = [] := List.length_eq_zero_iff.mp (by omega)
    have e : a.drop a.length = [] := by simp
    rw [e] at h3
    simp only [inner] at h3
    have := hk d ix su ins
    rw [h3] at this
    exact this

theorem lev_outer (a b : List Nat) (m : Int) (x y : Option PV) (hla : a.length ≤ 1000) (hlb : b.length ≤ 1000) (ha : LowOk a) (hb : LowOk b) {rest : List Stmt} {res : Int}
    (hr : outer cst a m b 0 (row0 a.length) 0 = res) (hret : ∀ σ, K (.ret (.int res)) σ)
    (hk : ∀ row bi bc di mi ix su ins, Ex w 3 (lF L base) (lst a b m x y row res bi bc di mi ix su ins) (execs rest (lF L base).env) K)
    {t i : Expr} {body : List Stmt} {pos : Pos} (ht : outFor = some (.For t i body [] pos)) :
    Ex w 3 (lF L base) (lst a b m x y (row0 a.length) 0 none none none none none none none) (execs (.For t i body [] pos :: rest) (lF L base).env) K := by
  cases ht
  refine ex_cons (ex_for 7 b.length (fun j => .int j) (fun j τ => ∃ row r bi bc di mi ix su ins, row.length = a.length ∧ τ = lst a b m x y row r bi bc di mi ix su ins ∧ outer cst a m (b.drop j) j row r = res)
    (fun gh => evit_range1 (ev_bi hi_glo rfl rfl rfl rfl rfl (by decide) rfl) (ev_lenS (ev_bi hi_glo rfl rfl rfl rfl rfl (by decide) rfl) (ev_var 1) hlb) (by omega))
    ⟨row0 a.length, 0, none, none, none, none, none, none, none, by simp [row0], rfl, by simpa using hr⟩ ?_ ?_)
  · rintro j τ hj ⟨row, r, bi, bc, di, mi, ix, su, ins, h1, rfl, h2⟩
    have gb : b[j]? = some b[j] := List.getElem?_eq_getElem hj
    have gd : b.drop j = b[j] :: b.drop (j + 1) := List.drop_eq_getElem_cons hj
    rw [gd, outer] at h2
    refine ex_cons (ex_assign (p := .str (S [b[j]])) 8 (fun gh => ev_sidx (ev_var 1) (ev_var 7) (by simp; omega) (sidx b j _ gb)) ?_)
    refine ex_cons (ex_assign2 9 6 (fun gh => ev_mul (ev_var 7) (ev_gint (ev_glob hi_glo rfl rfl rfl rfl)) (.of_right (by decide))) ?_)
    refine ex_cons (ex_assign 10 (fun gh => ev_int) ?_)
    refine lev_inner a b m x y (some (.int j)) b[j] row ((j : Int) * 2) ((j : Int) * 2) 9223372036854775807 ix su ins h1 hla (fun c hc => by rw [List.mem_singleton.mp hc]; exact hb _ (List.getElem_mem hj)) ha (fun d ix su ins => ?_) rfl
    have hlen : ∀ (c : Nat) (a : List Nat) (row : List Int) (d res mn : Int), row.length = a.length → (inner cst c a row d res mn).1.length = a.length := by
      intro c a
      induction a with
      | nil => intro row d res mn h; simp [inner]
      | cons x a ih =>
        intro row d res mn h
        cases row with
        | nil => simp at h
        | cons r row => simp only [inner, List.length_cons]; rw [ih]; simpa using h
    refine ex_cons (ex_if (fun gh => te_cmp (ev_var 10) (ev_var 2) op_gt) (fun h => ?_) (fun h => ?_))
    · rw [if_pos (of_decide_eq_true h)] at h2
      refine ex_cons (ex_return (fun gh => ev_add (ev_var 2) ev_int) ?_)
      rw [h2]
      exact hret _
    · rw [if_neg (of_decide_eq_false h)] at h2
      exact ex_nil (ex_nil ⟨_, _, _, _, _, _, ix, su, ins, hlen _ _ _ _ _ _ h1, rfl, h2⟩)
  · rintro τ ⟨row, r, bi, bc, di, mi, ix, su, ins, h1, rfl, h2⟩
    rw [List.drop_length, outer] at h2
    subst h2
    exact hk row bi bc di mi ix su ins
end
end
end Mine

/- text P4 -/
namespace Mine
section
open PySem PySem.W PyProof.Rows PySem.Calls
section
variable {w : World} {L : Addr} {base : Heap}
theorem lev_tail (a b : List Nat) (m : Int) (x y : Option PV) (hla : a.length ≤ 1000) (hlb : b.length ≤ 1000) (ha : LowOk a) (hb : LowOk b) :
    Ex w 3 (lF L base) [some (.str (S a)), some (.str (S b)), some (.int m), x, y, none, none, none, none, none, none, none, none, none] (execs ((fBody 7).drop 12) (lF L base).env) fun fl _ => fl = .ret (.int (levE cst a b m)) := by
  refine ex_cons (ex_if (b := decide (m < ((b.length : Int) - a.length) * 2)) (fun gh => te_cmp (ev_mul (ev_sub (ev_lenS (ev_bi hi_glo rfl rfl rfl rfl rfl (by decide) rfl) (ev_var 1) hlb) (ev_lenS (ev_bi hi_glo rfl rfl rfl rfl rfl (by decide) rfl) (ev_var 0) hla)) (ev_gint (ev_glob hi_glo rfl rfl rfl rfl)) (.of_right (by decide))) (ev_var 2) op_gt) (fun h => ?_) (fun h => ?_))
  · refine ex_cons (ex_return (fun gh => ev_add (ev_var 2) ev_int) ?_)
    unfold levE
    rw [if_pos (of_decide_eq_true h)]
  · refine ex_nil ?_
    refine ex_cons (ex_assignN 5 (fun gh => ev_listrange3 (a := 2) (b := 2 * ((a.length : Int) + 1)) (c := 2) a.length (ev_bi hi_glo rfl rfl rfl rfl rfl (by decide) rfl) (ev_bi hi_glo rfl rfl rfl rfl rfl (by decide) rfl)
      (ev_gint (ev_glob hi_glo rfl rfl rfl rfl)) (ev_mul (ev_gint (ev_glob hi_glo rfl rfl rfl rfl)) (ev_add (ev_lenS (ev_bi hi_glo rfl rfl rfl rfl rfl (by decide) rfl) (ev_var 0) hla) ev_int) (.of_left (by decide))) (ev_gint (ev_glob hi_glo rfl rfl rfl rfl)) (by decide) (by decide) ?_ ?_ ?_) ?_ ?_)
    · have e : Builtin.Range.rangeSize 2 (2 * ((a.length : Int) + 1)) 2 = a.length := by unfold Builtin.Range.rangeSize; simp; omega
      unfold Builtin.Range.small
      rw [e]
      unfold Builtin.Range.rangeFitsLong
      simp
      omega
    · unfold Builtin.Range.rangeSize
      simp
      omega
    · omega
    · have e : ((List.range a.length).map fun (j : Nat) => PV.int (2 + (j : Int) * 2)) = (row0 a.length).map .int := by simp [row0]
      rw [e]
      refine ex_cons (ex_assign 6 (fun gh => ev_int) ?_)
      refine lev_outer (res := levE cst a b m) a b m x y hla hlb ha hb ?_ (fun _ => rfl) (fun row bi bc di mi ix su ins => ?_) rfl
      · unfold levE
        rw [if_neg (of_decide_eq_false h)]
      · exact ex_cons (ex_return (fun gh => ev_var 6) rfl)
    · intro x hx
      obtain ⟨y, _, rfl⟩ := List.mem_map.mp hx
      trivial

theorem fn_lev (a b : List Nat) (m : Int) (hla : a.length ≤ 1000) (hlb : b.length ≤ 1000) (ha : LowOk a) (hb : LowOk b) : Fn w 4 35 [.str (S a), .str (S b), .int m] (.int (levL cst a b m)) := by
  refine fn_intro (cd := 34) (i := 7) lvars [5] (by decide) (fun L base => ?_) (by intro x hx; simp at hx; rcases hx with rfl | rfl | rfl <;> trivial) (by simp) (by simp) ?_ (by decide) (by decide) (by decide)
  · refine ex_cons (ex_if (b := S a == S b) (fun gh => te_cmp (ev_var 0) (ev_var 1) op_eqs) (fun h => ?_) (fun h => ?_))
    · refine ex_cons (ex_return (fun gh => ev_int) ?_)
      rw [S_eq] at h
      unfold levL
      rw [if_pos (by simpa using h)]
    · refine ex_nil ?_
      rw [S_eq] at h
      have hne : ¬ a = b := by simpa using h
      refine ex_cons (ex_assign 3 (fun gh => ev_int) ?_)
      refine lev_pre a b m hla hlb ?_ _ _ _ rfl
      obtain ⟨p1, p2⟩ := pfx_le a b
      have hd : levL cst a b m = levS cst (a.drop (pfx a b)) (b.drop (pfx a b)) m := by unfold levL; rw [if_neg hne]
      rw [hd]
      refine ex_cons (ex_assign 0 (fun gh => ev_from (ev_var 0) (ev_var 3) p1 hla) ?_)
      refine ex_cons (ex_assign 1 (fun gh => ev_from (ev_var 1) (ev_var 3) p2 hlb) ?_)
      have la1 : (a.drop (pfx a b)).length ≤ 1000 := by simp; omega
      have lb1 : (b.drop (pfx a b)).length ≤ 1000 := by simp; omega
      have ha1 : LowOk (a.drop (pfx a b)) := fun c hc => ha c (List.mem_of_mem_drop hc)
      have hb1 : LowOk (b.drop (pfx a b)) := fun c hc => hb c (List.mem_of_mem_drop hc)
      show Ex w 3 (lF L base) [some (.str (S (a.drop (pfx a b)))), some (.str (S (b.drop (pfx a b)))), some (.int m), some (.int (pfx a b)), none, none, none, none, none, none, none, none, none, none] (execs ((fBody 7).drop 5) (lF L base).env) _
      generalize a.drop (pfx a b) = a1 at *
      generalize b.drop (pfx a b) = b1 at *
      refine ex_cons (ex_assign 4 (fun gh => ev_int) ?_)
      refine lev_post a1 b1 m (.int (pfx a b)) la1 lb1 ?_ _ _ _ rfl
      obtain ⟨q1, q2⟩ := pfx_le a1.reverse b1.reverse
      rw [List.length_reverse] at q1 q2
      refine ex_cons (ex_assign 0 (fun gh => ev_to (ev_var 0) (ev_orNone (ev_var 4)) q1 la1) ?_)
      refine ex_cons (ex_assign 1 (fun gh => ev_to (ev_var 1) (ev_orNone (ev_var 4)) q2 lb1) ?_)
      unfold levS
      have la2 : (a1.take (a1.length - pfx a1.reverse b1.reverse)).length ≤ 1000 := by simp; omega
      have lb2 : (b1.take (b1.length - pfx a1.reverse b1.reverse)).length ≤ 1000 := by simp; omega
      have ha2 : LowOk (a1.take (a1.length - pfx a1.reverse b1.reverse)) := fun c hc => ha1 c (List.mem_of_mem_take hc)
      have hb2 : LowOk (b1.take (b1.length - pfx a1.reverse b1.reverse)) := fun c hc => hb1 c (List.mem_of_mem_take hc)
      show Ex w 3 (lF L base) [some (.str (S (a1.take (a1.length - pfx a1.reverse b1.reverse)))), some (.str (S (b1.take (b1.length - pfx a1.reverse b1.reverse)))), some (.int m), some (.int (pfx a b)), some (.int (-(pfx a1.reverse b1.reverse : Nat))), none, none, none, none, none, none, none, none, none] (execs ((fBody 7).drop 9) (lF L base).env) _
      generalize a1.take (a1.length - pfx a1.reverse b1.reverse) = a2 at *
      generalize b1.take (b1.length - pfx a1.reverse b1.reverse) = b2 at *
      generalize some (PV.int (pfx a b : Nat)) = xx
      generalize some (PV.int (-(pfx a1.reverse b1.reverse : Nat) : Int)) = yy
      refine ex_cons (ex_if (b := !(decide (a2.length ≠ 0)) || (!(decide (b2.length ≠ 0)) || false)) (fun gh => te_boolop (teo_cons (te_not (te_S (ev_var 0) la2)) fun _ => teo_cons (te_not (te_S (ev_var 1) lb2)) fun _ => teo_nil)) (fun h => ?_) (fun h => ?_))
      · refine ex_cons (ex_return (fun gh => ev_mul (ev_gint (ev_glob hi_glo rfl rfl rfl rfl)) (ev_add (ev_lenS (ev_bi hi_glo rfl rfl rfl rfl rfl (by decide) rfl) (ev_var 0) la2) (ev_lenS (ev_bi hi_glo rfl rfl rfl rfl rfl (by decide) rfl) (ev_var 1) lb2)) (.of_left (by decide))) ?_)
        unfold levD
        rw [if_pos]
        simp at h
        rcases h with h | h
        · left; simp [h]
        · right; simp [h]
      · refine ex_nil ?_
        have n0 : ¬ (a2.length = 0 ∨ b2.length = 0) := by simp at h; simpa using h
        unfold levD
        rw [if_neg n0]
        refine ex_cons (ex_if (b := decide ((40 : Int) < a2.length) || (decide ((40 : Int) < b2.length) || false)) (fun gh => te_boolop (teo_cons (te_cmp (ev_lenS (ev_bi hi_glo rfl rfl rfl rfl rfl (by decide) rfl) (ev_var 0) la2) (ev_gint (ev_glob hi_glo rfl rfl rfl rfl)) op_gt) fun _ => teo_cons (te_cmp (ev_lenS (ev_bi hi_glo rfl rfl rfl rfl rfl (by decide) rfl) (ev_var 1) lb2) (ev_gint (ev_glob hi_glo rfl rfl rfl rfl)) op_gt) fun _ => teo_nil)) (fun h => ?_) (fun h => ?_))
        · refine ex_cons (ex_return (fun gh => ev_add (ev_var 2) ev_int) ?_)
          rw [if_pos]
          simp at h
          rcases h with h | h
          · left; omega
          · right; omega
        · refine ex_nil ?_
          rw [if_neg (by simp at h; omega)]
          refine ex_cons (ex_if (b := decide ((b2.length : Int) < a2.length)) (fun gh => te_cmp (ev_lenS (ev_bi hi_glo rfl rfl rfl rfl rfl (by decide) rfl) (ev_var 1) lb2) (ev_lenS (ev_bi hi_glo rfl rfl rfl rfl rfl (by decide) rfl) (ev_var 0) la2) op_lt) (fun h => ?_) (fun h => ?_))
          · refine ex_cons (ex_swap 0 1 (fun gh => ev_var 1) (fun gh => ev_var 0) ?_)
            refine ex_nil ?_
            rw [if_pos (by have := of_decide_eq_true h; omega)]
            exact lev_tail b2 a2 m xx yy lb2 la2 hb2 ha2
          · refine ex_nil ?_
            rw [if_neg (by have := of_decide_eq_false h; omega)]
            exact lev_tail a2 b2 m xx yy la2 lb2 ha2 hb2
  · intro pm doc vs hl
    obtain ⟨x, y, z, rfl⟩ := len3 hl
    rfl
end
end
end Mine

/- text M1 -/
namespace Mine
section
open PySem PySem.W PyProof.Rows PySem.Calls PySem.Builtin.Str
/-- replace, the first number of signs still to be passed over -/
def rp (y z : List Nat) : Nat → List Nat → List Nat
  | _, [] => []
  | n + 1, _ :: l => rp y z n l
  | 0, c :: l => if y.isPrefixOf (c :: l) then z ++ rp y z (y.length - 1) l else c :: rp y z 0 l

def oc (y : List Nat) (n : Nat) : Nat → Nat → List Nat → List Nat
  | i, _, [] => []
  | i, 0, c :: l => if y.isPrefixOf (c :: l) then i :: oc y n (i + 1) (y.length - 1) l else oc y n (i + 1) 0 l
  | i, k + 1, c :: l => oc y n (i + 1) k l

theorem subAt_iff (x y : List Nat) (i : Nat) : (i + y.length ≤ x.length ∧ subAt (S x) (S y) i = true) ↔ (i ≤ x.length ∧ y.isPrefixOf (x.drop i) = true) := by
  unfold subAt
  rw [S_len]
  have e : (S x).cps.extract i (i + y.length) = ((x.drop i).take y.length).toArray := by
    show x.toArray.extract i (i + y.length) = _
    simp
  rw [e]
  show (i + y.length ≤ x.length ∧ (((x.drop i).take y.length).toArray == y.toArray) = true) ↔ _
  have e2 : ((((x.drop i).take y.length).toArray == y.toArray) = true) ↔ (x.drop i).take y.length = y := by simp
  rw [e2, List.isPrefixOf_iff_prefix, List.prefix_iff_eq_take]
  constructor
  · rintro ⟨a, b⟩; exact ⟨by omega, b.symm⟩
  · rintro ⟨a, b⟩
    refine ⟨?_, b.symm⟩
    have := congrArg List.length b
    simp at this
    omega
theorem occ_oc (x y : List Nat) (hy : y ≠ []) : ∀ (l : List Nat) (i : Nat) (F : Array Nat) (k : Nat), i + l.length = x.length → x.drop i = l → F.size ≤ i →
    (forIn (List.range' i (l.length + 1)) (F, i + k) (StrLaws.occBody (S x) (S y) x.length (x.length + 1))).run.fst.toList = F.toList ++ oc y x.length i k l := by
  intro l
  induction l with
  | nil =>
    intro i F k hi hd hF
    have : y.length ≠ 0 := by simpa using hy
    simp only [List.length_nil, List.range'_succ, List.forIn_cons]
    unfold StrLaws.occBody
    rw [if_neg]
    · simp [oc]
    · rw [S_len]; simp at hi ⊢; omega
  | cons c l ih =>
    intro i F k hi hd hF
    have hl : y.length ≠ 0 := by simpa using hy
    simp at hi
    have hd' : x.drop (i + 1) = l := by rw [← List.drop_drop, hd]; rfl
    rw [show (c :: l).length + 1 = (l.length + 1) + 1 from rfl, List.range'_succ, List.forIn_cons]
    have key := subAt_iff x y i
    rw [hd] at key
    unfold StrLaws.occBody
    cases k with
    | zero =>
      rw [oc]
      by_cases h : y.isPrefixOf (c :: l) = true
      · obtain ⟨k1, k2⟩ := key.mpr ⟨by omega, h⟩
        rw [if_pos h, if_pos ⟨⟨⟨by show F.size < _; omega, by show i + 0 ≤ i; omega⟩, by rw [S_len]; exact k1⟩, k2⟩]
        have := ih (i + 1) (F.push i) (y.length - 1) (by omega) hd' (by simp; omega)
        have e : i + 1 + (y.length - 1) = i + (S y).length := by rw [S_len]; omega
        rw [e] at this
        simp only [Array.toList_push, List.append_assoc, List.singleton_append] at this
        exact this
      · rw [if_neg h, if_neg (fun q => h (key.mp ⟨by have := q.1.2; rw [S_len] at this; exact this, q.2⟩).2)]
        have := ih (i + 1) F 0 (by omega) hd' (by omega)
        -- the free place may lie behind
        have mv : ∀ (m : Nat) (j : Nat) (F : Array Nat) (f g : Nat), f ≤ j → g ≤ j → (forIn (List.range' j m) (F, f) (StrLaws.occBody (S x) (S y) x.length (x.length + 1))).run.fst = (forIn (List.range' j m) (F, g) (StrLaws.occBody (S x) (S y) x.length (x.length + 1))).run.fst := by
          intro m
          induction m with
          | zero => intro j F f g _ _; rfl
          | succ m ihm =>
            intro j F f g h1 h2
            rw [List.range'_succ, List.forIn_cons, List.forIn_cons]
            unfold StrLaws.occBody
            by_cases hc : (F.size < x.length + 1 ∧ j + (S y).length ≤ x.length) ∧ subAt (S x) (S y) j = true
            · rw [if_pos ⟨⟨⟨hc.1.1, h1⟩, hc.1.2⟩, hc.2⟩, if_pos ⟨⟨⟨hc.1.1, h2⟩, hc.1.2⟩, hc.2⟩]
            · rw [if_neg (fun q => hc ⟨⟨q.1.1.1, q.1.2⟩, q.2⟩), if_neg (fun q => hc ⟨⟨q.1.1.1, q.1.2⟩, q.2⟩)]
              exact ihm (j + 1) F f g (by omega) (by omega)
        have e := mv (l.length + 1) (i + 1) F (i + 0) (i + 1 + 0) (by omega) (by omega)
        rw [← e] at this
        exact this
    | succ k =>
      rw [oc, if_neg (fun q => by have := q.1.1.2; simp at this; omega)]
      have := ih (i + 1) F k (by omega) hd' (by omega)
      have e : i + 1 + k = i + (k + 1) := by omega
      rw [e] at this
      exact this

def gl (z x : List Nat) (w : Nat) : Nat → List Nat → List Nat
  | a, [] => x.drop a
  | a, c :: cs => (x.take c).drop a ++ z ++ gl z x w (c + w) cs
theorem gl_rp (x y z : List Nat) (hy : y ≠ []) : ∀ (l : List Nat) (i k : Nat), i + l.length = x.length → x.drop i = l →
    (∀ a, a ≤ i → gl z x y.length a (oc y x.length i 0 l) = (x.take i).drop a ++ rp y z 0 l) ∧ gl z x y.length (i + k) (oc y x.length i k l) = rp y z k l := by
  intro l
  induction l with
  | nil =>
    intro i k hi hd
    refine ⟨fun a ha => ?_, ?_⟩
    · cases k <;> simp [oc, rp, gl] <;> simp at hi <;> rw [hi] <;> simp
    · simp at hi
      cases k <;> simp [oc, rp, gl, hi]
  | cons c l ih =>
    intro i k hi hd
    have hl : y.length ≠ 0 := by simpa using hy
    simp at hi
    have hd' : x.drop (i + 1) = l := by rw [← List.drop_drop, hd]; rfl
    have hc : x[i]? = some c := by
      have : (x.drop i)[0]? = some c := by rw [hd]; rfl
      simpa using this
    have A : ∀ a, a ≤ i → gl z x y.length a (oc y x.length i 0 (c :: l)) = (x.take i).drop a ++ rp y z 0 (c :: l) := fun a ha => by
      rw [oc, rp]
      by_cases h : y.isPrefixOf (c :: l) = true
      · rw [if_pos h, if_pos h, gl]
        have := (ih (i + 1) (y.length - 1) (by omega) hd').2
        have e : i + 1 + (y.length - 1) = i + y.length := by omega
        rw [e] at this
        rw [this, List.append_assoc]
      · rw [if_neg h, if_neg h, (ih (i + 1) 0 (by omega) hd').1 a (by omega)]
        rw [List.take_add_one, hc, List.drop_append_of_le_length (by simp; omega)]
        simp
    refine ⟨A, ?_⟩
    cases k with
    | zero =>
      have := A i (Nat.le_refl _)
      simpa using this
    | succ k =>
      rw [oc, rp]
      have := (ih (i + 1) k (by omega) hd').2
      have e : i + 1 + k = i + (k + 1) := by omega
      rw [e] at this
      exact this

def joinL (sep : List Nat) : List (List Nat) → List Nat
  | [] => []
  | [x] => x
  | x :: y :: r => x ++ sep ++ joinL sep (y :: r)
theorem join_S (sep : List Nat) : ∀ ts : List (List Nat), Str.join (S sep) (ts.map S) = S (joinL sep ts)
  | [] => rfl
  | [x] => rfl
  | x :: y :: r => by
    have := join_S sep (y :: r)
    show S x ++ S sep ++ Str.join (S sep) ((y :: r).map S) = _
    rw [this, S_app, S_app]
    rfl
theorem glued_S (sep : List Nat) (ts : List (List Nat)) : Txt.join (S sep) (ts.map S) = S (joinL sep ts) := by
  unfold Txt.join
  rw [StrLaws.glued_eq_join, join_S]
theorem parts_gl (x z : List Nat) (w : Nat) : ∀ (cuts : List Nat) (a : Nat),
    S (joinL z ((((a :: cuts.map (· + w)).zip (cuts ++ [x.length])).map fun (p : Nat × Nat) => (x.take p.2).drop p.1))) = S (gl z x w a cuts)
  | [], a => by simp [joinL, gl]
  | c :: cs, a => by
    have ih := parts_gl x z w cs (c + w)
    have ih' := congrArg (fun s => s.cps.toList) ih
    simp only [S] at ih'
    simp only [List.map_cons, List.cons_append, List.zip_cons_cons]
    rw [gl, ← ih']
    cases cs <;> simp [joinL]
theorem replace_rp (x y z : List Nat) (hy : y ≠ []) : Txt.replace (S x) (S y) (S z) = S (rp y z 0 x) := by
  have hl : y.length ≠ 0 := by simpa using hy
  have ho : occurrences (S x) (S y) 0 (S x).length ((S x).length + 1) = oc y x.length 0 0 x := by
    rw [StrLaws.occ_eq, S_len]
    have := occ_oc x y hy x 0 #[] 0 (by simp) (by simp) (by simp)
    simpa using this
  have hg := (gl_rp x y z hy x 0 0 (by simp) (by simp)).2
  unfold Txt.replace
  rw [ho, S_len, S_len]
  have hz : (y.length == 0 && z.length == 0) = false := by simp [hl]
  rw [hz, Bool.or_false]
  split
  · rename_i h
    have e : oc y x.length 0 0 x = [] := by simpa using h
    rw [e] at hg
    simp only [gl] at hg
    rw [← hg]
    rfl
  · rw [StrLaws.glued_eq_join]
    unfold partsBetween
    rw [S_len]
    have e : (((0 :: (oc y x.length 0 0 x).map (· + y.length)).zip (oc y x.length 0 0 x ++ [x.length])).map fun (p : Nat × Nat) => strSub (S x) p.1 p.2) = ((((0 :: (oc y x.length 0 0 x).map (· + y.length)).zip (oc y x.length 0 0 x ++ [x.length])).map fun (p : Nat × Nat) => (x.take p.2).drop p.1)).map S := by
      rw [List.map_map]
      apply List.map_congr_left
      intro p _
      show Str.mk (x.toArray.extract p.1 p.2) = Str.mk _
      simp [List.drop_take]
    show Str.join (S z) (((0 :: (oc y x.length 0 0 x).map (· + y.length)).zip (oc y x.length 0 0 x ++ [x.length])).map fun (p : Nat × Nat) => strSub (S x) p.1 p.2) = _
    rw [e, join_S, parts_gl]
    simp only [Nat.zero_add] at hg
    rw [hg]

def stripL (l : List Nat) : List Nat := ((l.dropWhile Unicode.isSpace).reverse.dropWhile Unicode.isSpace).reverse
theorem strip_S (l : List Nat) : Txt.strip (S l) = S (stripL l) := by
  have hdw : ∀ (p : Nat → Bool) (l : List Nat), l.dropWhile p = l.drop (l.takeWhile p).length := by
    intro p l
    induction l with
    | nil => rfl
    | cons c l ih => simp only [List.dropWhile, List.takeWhile]; split <;> simp [*]
  have e : stripL l = (l.take (l.length - ((l.drop (l.takeWhile Unicode.isSpace).length).reverse.takeWhile Unicode.isSpace).length)).drop (l.takeWhile Unicode.isSpace).length := by
    unfold stripL
    rw [hdw, hdw, List.reverse_drop, List.reverse_reverse]
    rw [List.take_drop, List.length_reverse, List.length_drop]
    congr 2
    have h1 : (l.takeWhile Unicode.isSpace).length ≤ l.length := (List.takeWhile_sublist _).length_le
    have h2 : ((l.drop (l.takeWhile Unicode.isSpace).length).reverse.takeWhile Unicode.isSpace).length ≤ l.length - (l.takeWhile Unicode.isSpace).length := by
      have := (List.takeWhile_sublist Unicode.isSpace (l := (l.drop (l.takeWhile Unicode.isSpace).length).reverse)).length_le
      simpa using this
    omega
  unfold Txt.strip Txt.stripBy
  have lo : stripLo Unicode.isSpace true (S l) = (l.takeWhile Unicode.isSpace).length := rfl
  have hi : stripHi Unicode.isSpace true (S l) (l.takeWhile Unicode.isSpace).length = l.length - ((l.drop (l.takeWhile Unicode.isSpace).length).reverse.takeWhile Unicode.isSpace).length := by
    unfold stripHi; rw [if_pos rfl, S_len]; rfl
  unfold stripSame PySem.stripped
  rw [lo, hi, S_len]
  split
  · rename_i h
    simp only [Bool.and_eq_true, beq_iff_eq] at h
    rw [e, h.2, h.1]; simp
  · rw [e]
    show Str.mk (l.toArray.extract _ _) = Str.mk _
    simp [List.drop_take]
theorem mul_S (l : List Nat) (n : Int) : Txt.mul (S l) n = S (List.replicate n.toNat l).flatten := by
  unfold Txt.mul
  split
  · have : n.toNat = 0 := by omega
    rw [this]; rfl
  · split
    · rename_i h
      simp only [Bool.or_eq_true, beq_iff_eq, S_len] at h
      rcases h with h | h
      · subst h; simp
      · have : l = [] := List.length_eq_zero_iff.mp h
        subst this; simp
    · have : ∀ (m : Nat) (acc : Array Nat), (List.replicate m (S l).cps).foldl (· ++ ·) acc = acc ++ ((List.replicate m l).flatten).toArray := by
        intro m
        induction m with
        | zero => intro acc; simp
        | succ m ih => intro acc; rw [List.replicate_succ, List.foldl_cons, ih]; simp [List.replicate_succ, S]
      rw [this]
      simp [S]
end
end Mine

/- text P5 -/
namespace Mine
section
open PySem PySem.W PyProof.Rows PySem.Calls
def withinF (t d l : Int) : Bool := if d ≤ l then t == d else decide (l < t)
theorem fn_within {w : World} (t d l : Int) : Fn w 1 56 [.int t, .int d, .int l] (.bool (withinF t d l)) := by
  refine fn_intro (cd := 55) (i := 11) ["told", "due", "limit"] [] (by decide) (fun L base => ?_) (by intro x hx; simp at hx; rcases hx with rfl | rfl | rfl <;> trivial) (by simp) (by simp) ?_ (by decide) (by decide) (by decide)
  · refine ex_cons (ex_return (p := .bool (withinF t d l)) (fun gh => ev_ite (b := decide (d ≤ l)) (te_cmp (ev_var 1) (ev_var 2) op_le) (fun h => ?_) (fun h => ?_)) rfl)
    · have : withinF t d l = (t == d) := by unfold withinF; rw [if_pos (of_decide_eq_true h)]
      rw [this]
      exact ev_cmp (ev_var 0) (ev_var 1) op_eq
    · have : withinF t d l = decide (l < t) := by unfold withinF; rw [if_neg (of_decide_eq_false h)]
      rw [this]
      exact ev_cmp (ev_var 0) (ev_var 2) op_gt
  · intro pm doc vs hl
    obtain ⟨x, y, z, rfl⟩ := len3 hl
    rfl

section
variable {w : World} {k : Nat} {env : Env} {I : HI}
theorem ev_strS {x : Str} {l : List Nat} {kk : Nat} {pos : Pos} (h : x = S l := by decide +kernel) : Ev w k env I (.Constant (.str x) kk pos) (.str (S l)) := by
  rw [← h]; exact ev_str
theorem ev_catS {l r : Expr} {pos : Pos} {x y : List Nat} (h1 : Ev w k env I l (.str (S x))) (h2 : Ev w k env I r (.str (S y))) (hs : x.length + y.length ≤ 1000000) :
    Ev w k env I (.BinOp l .Add r pos) (.str (S (x ++ y))) := by
  rw [← S_app]
  exact ev_cat h1 h2 (by rw [S_len, S_len, sizeLine_eq]; omega)
theorem mulOk_small {l : List Nat} {n : Int} (hl : l.length ≤ 1000) (h1 : -1000 ≤ n) (h2 : n ≤ 1000) : MulOk (S l) n := by
  refine ⟨by simp; omega, fun h3 h4 => ?_, fun h3 h4 => ?_⟩
  · rw [S_len]
    have h5 : (1000 : Int) ≤ (2 ^ 63 - 1) / n := (Int.le_ediv_iff_mul_le (by omega)).mpr (by omega)
    omega
  · rw [S_len]
    unfold Builtin.Str.tooLong
    rw [sizeLine_eq]
    have : l.length * n.toNat ≤ 1000 * 1000 := Nat.mul_le_mul hl (by omega)
    simp; omega
theorem ev_repS {l r : Expr} {pos : Pos} {x : List Nat} {n : Int} (h1 : Ev w k env I l (.str (S x))) (h2 : Ev w k env I r (.int n)) (hl : x.length ≤ 1000) (h3 : -1000 ≤ n) (h4 : n ≤ 1000) :
    Ev w k env I (.BinOp l .Mult r pos) (.str (S (List.replicate n.toNat x).flatten)) := by
  rw [← mul_S]
  exact ev_rep h1 h2 (mulOk_small hl h3 h4)
theorem ev_replS {o : Expr} {apos pos p1 p2 : Pos} {x y z : List Nat} {a b : Str} {k1 k2 : Nat} (h1 : Ev w k env I o (.str (S x))) (ha : a = S y) (hb : b = S z) (hy : y ≠ []) (hyz : y ≠ z) (hx : x.length ≤ 10000) (hz : z.length ≤ 100)
    (hbase : attributeBase o "replace" env (eval o env) = eval o env := by rfl) (hline : (apos.endLine == pos.line) = true := by rfl) :
    Ev w k env I (.Call (.Attribute o "replace" apos) [.Constant (.str a) k1 p1, .Constant (.str b) k2 p2] [] pos) (.str (S (rp y z 0 x))) := by
  subst ha hb
  have := ev_replace (pos := pos) (apos := apos) (p1 := p1) (p2 := p2) (k1 := k1) (k2 := k2) (y := S y) (z := S z) h1 (by rw [S_eq]; simpa using hyz)
    (by rw [S_len, S_len]; have : (x.length + 1) * z.length ≤ 10001 * 100 := Nat.mul_le_mul (by omega) hz; omega) hbase hline
  rw [replace_rp x y z hy] at this
  exact this
end
theorem rp_len (y z : List Nat) : ∀ (l : List Nat) (n : Nat), (rp y z n l).length ≤ l.length * (z.length + 1)
  | [], n => by cases n <;> simp [rp]
  | c :: l, n + 1 => by
    have := rp_len y z l n
    simp only [rp, List.length_cons, Nat.add_mul]; omega
  | c :: l, 0 => by
    have h1 := rp_len y z l (y.length - 1)
    have h2 := rp_len y z l 0
    simp only [rp]
    split <;> simp only [List.length_cons, List.length_append, Nat.add_mul] <;> omega

/- _law_parts -/
def reps (n : Int) (l : List Nat) : List Nat := (List.replicate n.toNat l).flatten
theorem reps_len (n : Int) (l : List Nat) : (reps n l).length = n.toNat * l.length := by simp [reps]
def pstep (ws : List (List Nat)) (ds : List Int) (op cl : List Nat) (i : Nat) : List (List Nat) := [reps (ds.getD i 0 - ds.getD (i + 1) 0 + 1) cl ++ op, ws.getD (i + 1) []]
def partsF (ws : List (List Nat)) (ds : List Int) (op cl : List Nat) : List (List Nat) :=
  (ws.getD 0 [] :: (List.range (ws.length - 1)).flatMap (pstep ws ds op cl)) ++ [reps (ds.getD (ds.length - 1) 0) cl]
def txs (l : List (List Nat)) : List PV := l.map fun x => .str (S x)
def nms (l : List Int) : List PV := l.map .int
theorem txs_sc {l : List (List Nat)} : ∀ x ∈ txs l, x.sc := by
  intro x hx
  obtain ⟨y, _, rfl⟩ := List.mem_map.mp hx
  trivial
theorem txs_get (l : List (List Nat)) (i : Nat) (h : i < l.length) : (txs l)[i]? = some (.str (S (l.getD i []))) := by
  simp [txs, h, List.getD_eq_getElem?_getD]
theorem nms_get (l : List Int) (i : Nat) (h : i < l.length) : (nms l)[i]? = some (.int (l.getD i 0)) := by
  simp [nms, h, List.getD_eq_getElem?_getD]
theorem txs_len (l : List (List Nat)) : (txs l).length = l.length := by simp [txs]
theorem nms_len (l : List Int) : (nms l).length = l.length := by simp [nms]
theorem txs_app (a b : List (List Nat)) : txs a ++ txs b = txs (a ++ b) := by simp [txs]

theorem ev_lenL {w : World} {k : Nat} {env : Env} {I : HI} {x : Str} {xp pos : Pos} {e : Expr} {l : List PV} {n : Nat} (hf : EvG w k env I (.Name x xp) (.builtin "len")) (h1 : Ev w k env I e (.list l)) (hn : l.length = n) (hl : l.length ≤ 1000)
    (he : starEach [e] env = [(false, eval e env)] := by rfl) : Ev w k env I (.Call (.Name x xp) [e] [] pos) (.int n) := by
  subst hn
  exact ev_lenl hf h1 (by rw [sizeLine_eq]; omega) he
/-- the last one -/
theorem ev_last {w : World} {k : Nat} {env : Env} {I : HI} {e : Expr} {pos p1 p2 : Pos} {kk : Nat} {xs : List PV} {p : PV} (h1 : Ev w k env I e (.list xs)) (h0 : xs.length ≠ 0) (hx : xs[xs.length - 1]? = some p) :
    Ev w k env I (.Subscript e (.UnaryOp .USub (.Constant (.int 1) kk p1) p2) pos) p :=
  ev_idxn h1 (ev_neg ev_int) (by decide) (by omega) (by decide) (by rw [← hx]; congr 1; omega)

theorem ix1 (j : Nat) : ((1 : Int) + (j : Nat) - 1).toNat = j := by omega
theorem ix2 (j : Nat) : ((1 : Int) + (j : Nat)).toNat = j + 1 := by omega
theorem ix3 (j : Nat) : ((2 : Int) * (1 + (j : Nat)) - 1).toNat = 2 * j + 1 := by omega
theorem ix4 (j : Nat) : ((2 : Int) * (1 + (j : Nat))).toNat = 2 * j + 2 := by omega
theorem iy1 (j : Nat) : (0 : Int) ≤ 1 + (j : Nat) - 1 := by omega
theorem iy2 (j : Nat) : (0 : Int) ≤ 1 + (j : Nat) := by omega
theorem iy3 (j : Nat) : (0 : Int) ≤ 2 * (1 + (j : Nat)) - 1 := by omega
theorem iy4 (j : Nat) : (0 : Int) ≤ 2 * (1 + (j : Nat)) := by omega
theorem iz1 {j : Nat} (h : j ≤ 100) : (1 : Int) + (j : Nat) - 1 < 2 ^ 63 := by omega
theorem iz2 {j : Nat} (h : j ≤ 100) : (1 : Int) + (j : Nat) < 2 ^ 63 := by omega
theorem iz3 {j : Nat} (h : j ≤ 100) : (2 : Int) * (1 + (j : Nat)) - 1 < 2 ^ 63 := by omega
theorem iz4 {j : Nat} (h : j ≤ 100) : (2 : Int) * (1 + (j : Nat)) < 2 ^ 63 := by omega
theorem dif_bd {a b : Int} (h1 : 0 ≤ a ∧ a ≤ 100) (h2 : 0 ≤ b ∧ b ≤ 100) : -1000 ≤ a - b + 1 ∧ a - b + 1 ≤ 1000 ∧ (a - b + 1).toNat ≤ 200 := by omega
theorem flen (ws : List (List Nat)) (ds : List Int) (op cl : List Nat) : ∀ j, ((List.range j).flatMap (pstep ws ds op cl)).length = 2 * j := by
  intro j
  induction j with
  | zero => rfl
  | succ j ih => rw [List.range_succ, List.flatMap_append, List.length_append, ih]; rfl
theorem fn_parts {w : World} (ws : List (List Nat)) (ds : List Int) (op cl : List Nat) (hw : ws.length ≤ 100) (h0 : ws.length ≠ 0) (hd : ds.length = ws.length) (hdb : ∀ i, 0 ≤ ds.getD i 0 ∧ ds.getD i 0 ≤ 100) (ho : op.length ≤ 10) (hc : cl.length ≤ 10) :
    FnN w 1 42 [.list (txs ws), .list (nms ds), .str (S op), .str (S cl)] (txs (partsF ws ds op cl)) := by
  refine fn_introN (cd := 41) (i := 9) ["words", "depths", "opening", "closing", "parts", "at"] [4] (by decide) (fun L base => ?_) ?_ (by simp) (by simp) ?_ (by decide) (by decide) (by decide)
  · refine ex_cons (ex_assignN 4 (fun gh => ev_list (evl_cons (ev_idx (ev_var 0) ev_int (by decide) (by decide) (txs_get ws 0 (by omega))) evl_nil) (by rw [sizeLine_eq]; simp)) ?_ (txs_sc (l := [_])))
    refine ex_cons (ex_for 5 (ws.length - 1) (fun j => .int (1 + j)) (fun j τ => ∃ at', τ = [some (.list (txs ws)), some (.list (nms ds)), some (.str (S op)), some (.str (S cl)), some (.list (txs (ws.getD 0 [] :: (List.range j).flatMap (pstep ws ds op cl)))), at'])
      (fun gh => evit_range2 (ev_bi hi_glo rfl rfl rfl rfl rfl (by decide) rfl) ev_int (ev_lenL (ev_bi hi_glo rfl rfl rfl rfl rfl (by decide) rfl) (ev_var 0) (txs_len ws) (by rw [txs_len]; omega)) (ws.length - 1) (.inl (by omega)) (by decide) (by decide) (by omega) (by omega))
      ⟨none, rfl⟩ ?_ ?_)
    · rintro j τ hj ⟨at', rfl⟩
      have j1 : j ≤ 100 := by omega
      have j2 : j < ds.length := by omega
      have j3 : j + 1 < ds.length := by omega
      have j4 : j + 1 < ws.length := by omega
      obtain ⟨d1, d2, d3⟩ := dif_bd (hdb j) (hdb (j + 1))
      refine ex_cons (ex_append (p := .str (S (reps (ds.getD j 0 - ds.getD (j + 1) 0 + 1) cl ++ op))) 4 (.head _) (fun gh => ev_catS (ev_repS (ev_var 3) (ev_add (ev_sub
        (ev_idx (ev_var 1) (ev_sub (ev_var 5) ev_int) (iy1 j) (iz1 j1) (by rw [ix1]; exact nms_get ds j j2))
        (ev_idx (ev_var 1) (ev_var 5) (iy2 j) (iz2 j1) (by rw [ix2]; exact nms_get ds (j + 1) j3))) ev_int) (Nat.le_trans hc (by decide)) d1 d2) (ev_var 2) ?_) ?_ ?_)
      · rw [reps_len]
        have : (ds.getD j 0 - ds.getD (j + 1) 0 + 1).toNat * cl.length ≤ 200 * 10 := Nat.mul_le_mul d3 hc
        clear d1 d2 d3
        omega
      · refine ex_cons (ex_append 4 (.head _) (fun gh => ev_idx (ev_var 0) (ev_var 5) (iy2 j) (iz2 j1) (by rw [ix2]; exact txs_get ws (j + 1) j4)) ?_ ?_)
        · refine ex_nil ⟨some (.int (1 + (j : Nat))), ?_⟩
          have e : (txs (ws.getD 0 [] :: (List.range j).flatMap (pstep ws ds op cl)) ++ [PV.str (S (reps (ds.getD j 0 - ds.getD (j + 1) 0 + 1) cl ++ op))]) ++ [PV.str (S (ws.getD (j + 1) []))] = txs (ws.getD 0 [] :: (List.range (j + 1)).flatMap (pstep ws ds op cl)) := by
            rw [List.range_succ, List.flatMap_append]
            simp [txs, pstep]
          rw [← e]
          rfl
        · rw [List.length_append, txs_len, List.length_cons, flen, List.length_singleton, sizeLine_eq]
          clear d1 d2 d3
          omega
      · rw [txs_len, List.length_cons, flen, sizeLine_eq]
        clear d1 d2 d3
        omega
    · rintro τ ⟨at', rfl⟩
      have b1 := hdb (ds.length - 1)
      have c1 : ds.length - 1 < ds.length := Nat.sub_lt (by omega) (by decide)
      have c2 : -1000 ≤ ds.getD (ds.length - 1) 0 := Int.le_trans (by decide) b1.1
      have c3 : ds.getD (ds.length - 1) 0 ≤ 1000 := Int.le_trans b1.2 (by decide)
      refine ex_cons (ex_append 4 (.head _) (fun gh => ev_repS (ev_var 3) (ev_last (ev_var 1) (by rw [nms_len, hd]; exact h0) (by rw [nms_len]; exact nms_get ds _ c1)) (Nat.le_trans hc (by decide)) c2 c3) ?_ ?_)
      · refine ex_cons (ex_returnN 4 (.head _) ?_)
        simp [txs, partsF, reps]
      · rw [sizeLine_eq, txs_len]
        rw [List.length_cons, flen]
        clear b1
        omega
  · intro x hx
    simp at hx
    rcases hx with rfl | rfl | rfl | rfl
    · exact txs_sc
    · exact ints_sc
    · trivial
    · trivial
  · intro pm doc vs hl
    obtain ⟨x, y, z, u, rfl⟩ := len4 hl
    rfl
end
end Mine

/- text P6 -/
namespace Mine
section
open PySem PySem.W PyProof.Rows PySem.Calls
abbrev unk : List Nat := [117, 110, 107, 110, 111, 119, 110]
abbrev sgn : List Nat := [45, 47, 92, 58, 59, 34, 40, 41, 45]
def wordF (q : List Nat) : List Nat := rp [32, 32] (unk ++ [32, 32]) 0 q
def extra : Nat → List (List Nat)
  | 3 => [[]]
  | 4 => [unk]
  | 6 => [[32, 32]]
  | 7 => [sgn]
  | _ => []
def tabs (k : Nat) : List Nat := if k / 2 % 2 = 1 then [9] else []
def cutL (p : List Nat) (kd : Nat) (l : List Nat) : List Nat := ((l ++ p) ++ if kd = 5 then unk else []) ++ if kd = 2 then [32] else []
def cutStep (p q : List Nat) (kd : Nat) (T : List (List Nat) × List Nat) : List (List Nat) × List Nat :=
  if kd = 0 ∨ kd = 5 then (T.1, cutL p kd T.2 ++ wordF q) else ((T.1 ++ [cutL p kd T.2]) ++ extra kd, tabs kd ++ wordF q)
def cutN (ps : List (List Nat)) (ks : List Nat) : Nat → List (List Nat) × List Nat
  | 0 => ([], ps.getD 0 [])
  | j + 1 => cutStep (ps.getD (2 * j + 1) []) (ps.getD (2 * j + 2) []) (ks.getD (j + 1) 0) (cutN ps ks j)
def cutF (ps : List (List Nat)) (ks : List Nat) (n : Nat) : List (List Nat) := (cutN ps ks (n - 1)).1 ++ [(cutN ps ks (n - 1)).2 ++ ps.getD (ps.length - 1) []]

section
variable {w : World} {k : Nat} {F : Fm} {σ : Sg} {K : Fl → Sg → Prop}
theorem ex_lastadd {x : Str} {px px' spos spos' pos' p1 p2 p3 p4 pos : Pos} {k1 k2 : Nat} {e : Expr} {ini : List (List Nat)} {last y : List Nat} (i : Nat) (hi' : i ∈ F.own) (h : ∀ gh, Ev w k F.env (hi F gh σ) e (.str (S y)))
    (hk : K .next (σ.set i (some (.list (txs (ini ++ [last ++ y])))))) (hlen : last.length + y.length ≤ 1000000) (hn : ini.length ≤ 1000)
    (hx : F.vars[i]? = some x := by rfl) (hs : σ[i]? = some (some (.list (txs (ini ++ [last])))) := by rfl) (hd : (x == ("__debug__" : Str)) = false := by decide)
    (hsw : swapsWith (.BinOp (.Subscript (.Name x px') (.UnaryOp .USub (.Constant (.int 1) k2 p3) p4) spos') .Add e pos') (some (.Subscript (.Name x px) (.UnaryOp .USub (.Constant (.int 1) k1 p1) p2) spos)) pos.line F.env = pure false := by rfl) :
    Ex w k F σ (exec (.Assign [.Subscript (.Name x px) (.UnaryOp .USub (.Constant (.int 1) k1 p1) p2) spos] (.BinOp (.Subscript (.Name x px') (.UnaryOp .USub (.Constant (.int 1) k2 p3) p4) spos') .Add e pos') pos) F.env) K := by
  have hl : (txs (ini ++ [last])).length = ini.length + 1 := by simp [txs]
  refine ex_setitem (xs := txs (ini ++ [last])) (p := .str (S (last ++ y))) (n := -1) i ini.length hi' (fun gh => ev_catS (ev_last (ev_var i hx hs hd) (by omega) ?_) (h gh) hlen) (fun gh => ev_neg ev_int) (by omega) (.inr ⟨by decide, by decide, by omega⟩) ?_ trivial hx hs hd hsw
  · rw [hl]; simp [txs]
  · have : (txs (ini ++ [last])).set ini.length (.str (S (last ++ y))) = txs (ini ++ [last ++ y]) := by simp [txs]
    rw [this]; exact hk
end

theorem wordF_len (q : List Nat) : (wordF q).length ≤ q.length * 10 := rp_len _ _ _ _
theorem cutL_len (p : List Nat) (kd : Nat) (l : List Nat) : (cutL p kd l).length ≤ l.length + p.length + 8 := by
  unfold cutL
  simp only [List.length_append]
  split <;> split <;> simp <;> omega
theorem extra_len (k : Nat) : (extra k).length ≤ 1 := by unfold extra; split <;> simp
theorem tabs_len (k : Nat) : (tabs k).length ≤ 1 := by unfold tabs; split <;> simp
theorem cutN_len (ps : List (List Nat)) (ks : List Nat) (hp : ∀ i, (ps.getD i []).length ≤ 50) : ∀ j, (cutN ps ks j).2.length ≤ 600 * (j + 1) ∧ (cutN ps ks j).1.length ≤ 2 * j
  | 0 => by have := hp 0; simp only [cutN]; simp at this ⊢; omega
  | j + 1 => by
    obtain ⟨h1, h2⟩ := cutN_len ps ks hp j
    have a1 := hp (2 * j + 1)
    have a2 := hp (2 * j + 2)
    have w1 := wordF_len (ps.getD (2 * j + 2) [])
    have c1 := cutL_len (ps.getD (2 * j + 1) []) (ks.getD (j + 1) 0) (cutN ps ks j).2
    have e1 := extra_len (ks.getD (j + 1) 0)
    have t1 := tabs_len (ks.getD (j + 1) 0)
    rw [cutN, cutStep]
    split <;> simp only [List.length_append, List.length_cons, List.length_nil] <;> omega

def cutMenu : List (List PV) := [[], [], [.str (S [])], [.str (S unk)], [], [.str (S [32, 32])], [.str (S sgn)]]
theorem menu_get : ∀ kd : Nat, kd < 8 → ¬ (kd = 0 ∨ kd = 5) → cutMenu[((kd : Int) - 1).toNat]? = some (txs (extra kd))
  | 0, _, h => absurd (.inl rfl) h
  | 1, _, _ => rfl
  | 2, _, _ => rfl
  | 3, _, _ => rfl
  | 4, _, _ => rfl
  | 5, _, h => absurd (.inr rfl) h
  | 6, _, _ => rfl
  | 7, _, _ => rfl
  | n + 8, h, _ => by omega
theorem tabs_get : ∀ kd : Nat, kd < 8 → (List.replicate (((kd : Int).fdiv 2).fmod 2).toNat [9]).flatten = tabs kd
  | 0, _ => rfl
  | 1, _ => rfl
  | 2, _ => rfl
  | 3, _ => rfl
  | 4, _ => rfl
  | 5, _ => rfl
  | 6, _ => rfl
  | 7, _ => rfl
  | n + 8, h => by omega
theorem fmod2 (a : Int) : 0 ≤ a.fmod 2 ∧ a.fmod 2 < 2 := ⟨Int.fmod_nonneg_of_pos a (by decide), Int.fmod_lt_of_pos a (by decide)⟩

def cutElse : Option Expr := match (fBody 10).getD 1 (.Break ⟨0,0,0,0⟩) with
  | .For _ _ b _ _ => match b.getD 5 (.Break ⟨0,0,0,0⟩) with
    | .If _ _ e _ => match e with
      | [.Assign _ v _] => some v
      | _ => none
    | _ => none
  | _ => none
section
variable {w : World} {k : Nat} {env : Env} {I : HI}
set_option maxHeartbeats 400000
def cutLt : List Expr := match cutElse with
  | some (.BinOp (.BinOp _ _ (.Subscript (.List lt _) _ _) _) _ _ _) => lt
  | _ => []
theorem cut_menu {lt : List Expr} {mpos : Pos} (h : lt = cutLt) : EvLN w k env I mpos lt cutMenu := by
  subst h
  refine evln_cons ?_ ?_ ?_
  · exact ev_list (ps := []) evl_nil (by simp)
  · refine evln_cons ?_ ?_ ?_
    · exact ev_list (ps := []) evl_nil (by simp)
    · refine evln_cons ?_ ?_ ?_
      · exact ev_list (ps := [.str (S [])]) (evl_cons (ev_strS (l := [])) evl_nil) (by rw [sizeLine_eq]; simp)
      · refine evln_cons ?_ ?_ ?_
        · exact ev_list (ps := [.str (S unk)]) (evl_cons (ev_strS (l := unk)) evl_nil) (by rw [sizeLine_eq]; simp)
        · refine evln_cons ?_ ?_ ?_
          · exact ev_list (ps := []) evl_nil (by simp)
          · refine evln_cons ?_ ?_ ?_
            · exact ev_list (ps := [.str (S [32, 32])]) (evl_cons (ev_strS (l := [32, 32])) evl_nil) (by rw [sizeLine_eq]; simp)
            · refine evln_cons ?_ ?_ ?_
              · exact ev_list (ps := [.str (S sgn)]) (evl_cons (ev_strS (l := sgn)) evl_nil) (by rw [sizeLine_eq]; simp)
              · exact evln_nil
              · rfl
            · rfl
          · rfl
        · rfl
      · rfl
    · rfl
  · rfl

theorem cut_pick {lt : List Expr} {mpos pos : Pos} {i : Expr} (kd : Nat) (c8 : kd < 8) (hc : ¬ (kd = 0 ∨ kd = 5)) (hi : Ev w k env I i (.int ((kd : Int) - 1))) (h : lt = cutLt)
    (h5 : ∀ o j, subscripted i false o j = operate [o, j] (getItem o j)) : EvN w k env I (.Subscript (.List lt mpos) i pos) (txs (extra kd)) := by
  have h1 := cut_menu (w := w) (k := k) (env := env) (I := I) (mpos := mpos) h
  have h2 : cutMenu.length ≤ sizeLine := by rw [sizeLine_eq]; simp [cutMenu]
  have h3 : (0 : Int) ≤ (kd : Int) - 1 := by omega
  have h4 : (kd : Int) - 1 < 2 ^ 63 := by omega
  exact ev_menu h1 h2 hi h3 h4 (menu_get kd c8 hc) h5
end
theorem b600 {x j : Nat} (h : x ≤ 600 * (j + 1)) (hj : j ≤ 60) : x ≤ 40000 := by omega
theorem b2j {x j : Nat} (h : x ≤ 2 * j) (hj : j ≤ 100) : x ≤ 200 := by omega
theorem b10q {x q : Nat} (h : x ≤ q * 10) (hq : q ≤ 50) : x ≤ 500 := by omega
theorem is5 {kd : Nat} (h : ((kd : Int) == 5) = true) : kd = 5 := by simp at h; omega
theorem no5 {kd : Nat} (h : ((kd : Int) == 5) = false) : ¬ kd = 5 := by simp at h; omega
theorem is2 {kd : Nat} (h : ((kd : Int) == 2) = true) : kd = 2 := by simp at h; omega
theorem no2 {kd : Nat} (h : ((kd : Int) == 2) = false) : ¬ kd = 2 := by simp at h; omega
theorem in05 {kd : Nat} (h : ((0 : Int) == kd || (5 : Int) == kd) = true) : kd = 0 ∨ kd = 5 := by simp at h; omega
theorem no05 {kd : Nat} (h : ((0 : Int) == kd || (5 : Int) == kd) = false) : ¬ (kd = 0 ∨ kd = 5) := by simp at h; omega
set_option maxHeartbeats 800000 in
theorem fn_cut {w : World} (ps : List (List Nat)) (ks : List Nat) (n : Nat) (hn : ps.length = 2 * n) (h0 : n ≠ 0) (h1 : n ≤ 50) (hp : ∀ i, (ps.getD i []).length ≤ 50) (hk : ks.length = n) (hk8 : ∀ i, ks.getD i 0 < 8) :
    FnN w 1 49 [.list (txs ps), .list (nms (ks.map Int.ofNat))] (txs (cutF ps ks n)) := by
  have kget : ∀ i, i < n → (nms (ks.map Int.ofNat))[i]? = some (.int ((ks.getD i 0 : Nat) : Int)) := fun i hi => by
    simp [nms, hk, hi, List.getD_eq_getElem?_getD]
  refine fn_introN (cd := 48) (i := 10) ["parts", "dress", "texts", "at", "word", "kind"] [2] (by decide) (fun L base => ?_) ?_ (by simp) (by simp) ?_ (by decide) (by decide) (by decide)
  · refine ex_cons (ex_assignN 2 (fun gh => ev_list (evl_cons (ev_idx (ev_var 0) ev_int (by decide) (by decide) (txs_get ps 0 (by omega))) evl_nil) (by rw [sizeLine_eq]; simp)) ?_ (txs_sc (l := [_])))
    refine ex_cons (ex_for 3 (n - 1) (fun j => .int (1 + j)) (fun j τ => ∃ at' wd kd, τ = [some (.list (txs ps)), some (.list (nms (ks.map Int.ofNat))), some (.list (txs ((cutN ps ks j).1 ++ [(cutN ps ks j).2]))), at', wd, kd])
      (fun gh => evit_range2 (ev_bi hi_glo rfl rfl rfl rfl rfl (by decide) rfl) ev_int (ev_fdiv (ev_lenL (ev_bi hi_glo rfl rfl rfl rfl rfl (by decide) rfl) (ev_var 0) (txs_len ps) (by rw [txs_len]; omega)) ev_int (by decide) (by decide)) (n - 1) (.inl ?_) (by decide) (by decide) ?_ ?_)
      ⟨none, none, none, rfl⟩ ?_ ?_)
    · rw [hn, Int.fdiv_eq_ediv_of_nonneg _ (by decide)]; omega
    · rw [hn, Int.fdiv_eq_ediv_of_nonneg _ (by decide)]; omega
    · rw [hn, Int.fdiv_eq_ediv_of_nonneg _ (by decide)]; omega
    · rintro j τ hj ⟨at', wd, kd', rfl⟩
      have c8 := hk8 (j + 1)
      have j1 : j ≤ 100 := by omega
      have j2 : 2 * j + 1 < ps.length := by omega
      have j3 : 2 * j + 2 < ps.length := by omega
      have j4 : j + 1 < n := by omega
      have hA : (cutN ps ks j).2.length ≤ 40000 := b600 (cutN_len ps ks hp j).1 (by omega)
      have hB : (cutN ps ks j).1.length ≤ 200 := b2j (cutN_len ps ks hp j).2 j1
      have hP : (ps.getD (2 * j + 1) []).length ≤ 50 := hp (2 * j + 1)
      have hQ : (ps.getD (2 * j + 2) []).length ≤ 50 := hp (2 * j + 2)
      have hW : (wordF (ps.getD (2 * j + 2) [])).length ≤ 500 := b10q (wordF_len _) hQ
      have key : (cutN ps ks (j + 1)) = cutStep (ps.getD (2 * j + 1) []) (ps.getD (2 * j + 2) []) (ks.getD (j + 1) 0) (cutN ps ks j) := rfl
      refine ex_cons (ex_lastadd (ini := (cutN ps ks j).1) (last := (cutN ps ks j).2) 2 (.head _) (fun gh => ev_idx (ev_var 0) (ev_sub (ev_mul ev_int (ev_var 3) (.of_left (by decide))) ev_int) (iy3 j) (iz3 j1) (by rw [ix3]; exact txs_get ps _ j2)) ?_ (Nat.le_trans (Nat.add_le_add hA hP) (by decide)) (Nat.le_trans hB (by decide)))
      refine ex_cons (ex_assign (p := .str (S (wordF (ps.getD (2 * j + 2) [])))) 4 (fun gh => ev_replS (ev_idx (ev_var 0) (ev_mul ev_int (ev_var 3) (.of_left (by decide))) (iy4 j) (iz4 j1) (by rw [ix4]; exact txs_get ps _ j3)) (by decide +kernel) (by decide +kernel) (by decide) (by decide) (Nat.le_trans hQ (by decide)) (by decide)) ?_)
      refine ex_cons (ex_assign 5 (fun gh => ev_idx (ev_var 1) (ev_var 3) (iy2 j) (iz2 j1) (by rw [ix2]; exact kget _ j4)) ?_)
      generalize hkd : ks.getD (j + 1) 0 = kd at *
      generalize hT1 : (cutN ps ks j).1 = T1 at *
      generalize hT2 : (cutN ps ks j).2 = T2 at *
      generalize ps.getD (2 * j + 1) [] = p at *
      generalize ps.getD (2 * j + 2) [] = q at *
      -- the two small steps
      refine ex_cons ((?_ : Ex w 0 _ _ _ fun fl σ => fl = .next ∧ σ = [some (.list (txs ps)), some (.list (nms (ks.map Int.ofNat))), some (.list (txs (T1 ++ [(T2 ++ p) ++ if kd = 5 then unk else []]))), some (.int (1 + (j : Nat))), some (.str (S (wordF q))), some (.int kd)]).mono ?_)
      · refine ex_if (fun gh => te_cmp (ev_var 5) ev_int op_eq) (fun h => ?_) (fun h => ?_)
        · have : kd = 5 := is5 h
          subst this
          refine ex_cons (ex_lastadd (ini := T1) (last := T2 ++ p) 2 (.head _) (fun gh => ev_strS (l := unk)) (ex_nil ⟨rfl, ?_⟩) (by rw [List.length_append]; exact Nat.le_trans (Nat.add_le_add (Nat.add_le_add hA hP) (Nat.le_refl 7)) (by decide)) (Nat.le_trans hB (by decide)))
          rw [if_pos rfl]; rfl
        · have : ¬ kd = 5 := no5 h
          refine ex_nil ⟨rfl, ?_⟩
          rw [if_neg this, List.append_nil]
          rfl
      rintro fl σ ⟨rfl, rfl⟩
      refine ex_cons ((?_ : Ex w 0 _ _ _ fun fl σ => fl = .next ∧ σ = [some (.list (txs ps)), some (.list (nms (ks.map Int.ofNat))), some (.list (txs (T1 ++ [cutL p kd T2]))), some (.int (1 + (j : Nat))), some (.str (S (wordF q))), some (.int kd)]).mono ?_)
      · refine ex_if (fun gh => te_cmp (ev_var 5) ev_int op_eq) (fun h => ?_) (fun h => ?_)
        · have : kd = 2 := is2 h
          subst this
          refine ex_cons (ex_lastadd (ini := T1) (last := (T2 ++ p) ++ if 2 = 5 then unk else []) 2 (.head _) (fun gh => ev_strS (l := [32])) (ex_nil ⟨rfl, ?_⟩) (by rw [if_neg (by decide), List.append_nil, List.length_append]; exact Nat.le_trans (Nat.add_le_add (Nat.add_le_add hA hP) (Nat.le_refl 1)) (by decide)) (Nat.le_trans hB (by decide)))
          rfl
        · have : ¬ kd = 2 := no2 h
          refine ex_nil ⟨rfl, ?_⟩
          unfold cutL
          rw [if_neg this, List.append_nil]
      rintro fl σ ⟨rfl, rfl⟩
      have hC : (cutL p kd T2).length ≤ 40058 := Nat.le_trans (cutL_len p kd T2) (Nat.add_le_add (Nat.add_le_add hA hP) (Nat.le_refl 8))
      refine ex_cons (ex_if (fun gh => te_in2 (ev_var 5) (evl_cons ev_int (evl_cons ev_int evl_nil))) (fun h => ?_) (fun h => ?_))
      · have hc : kd = 0 ∨ kd = 5 := in05 h
        refine ex_cons (ex_lastadd (ini := T1) (last := cutL p kd T2) (y := wordF q) 2 (.head _) (fun gh => ev_var 4) (ex_nil (ex_nil ⟨some (.int (1 + (j : Nat))), some (.str (S (wordF q))), some (.int kd), ?_⟩)) (Nat.le_trans (Nat.add_le_add hC hW) (by decide)) (Nat.le_trans hB (by decide)))
        rw [key, cutStep, if_pos hc, hT1, hT2]
        rfl
      · have hc : ¬ (kd = 0 ∨ kd = 5) := no05 h
        have tl := tabs_len kd
        have el := extra_len kd
        refine ex_cons (ex_assignN (xs := (txs (T1 ++ [cutL p kd T2]) ++ txs (extra kd)) ++ txs [tabs kd ++ wordF q]) 2 (fun gh => ?_) ?_ ?_)
        · refine ev_lcat (xs := txs (T1 ++ [cutL p kd T2]) ++ txs (extra kd)) (ys := txs [tabs kd ++ wordF q]) (EvN.ev ?_) (EvN.ev ?_) ?_
          · refine ev_lcat (xs := txs (T1 ++ [cutL p kd T2])) (ys := txs (extra kd)) ?_ (EvN.ev ?_) ?_
            · exact ev_var 2
            · have hh : ∀ {lt : List Expr} {i : Expr} {mpos pos : Pos} {env : Env} {I : HI}, lt = cutLt → (∀ o j, subscripted i false o j = operate [o, j] (getItem o j)) → Ev w 0 env I i (.int ((kd : Int) - 1)) → EvN w 0 env I (.Subscript (.List lt mpos) i pos) (txs (extra kd)) := fun a b c => cut_pick kd c8 hc c a b
              refine hh ?_ ?_ ?_
              · rfl
              · intro _ _; rfl
              · exact ev_sub (ev_var 5) ev_int
            · rw [sizeLine_eq, txs_len, txs_len, List.length_append, List.length_singleton]; exact Nat.le_trans (Nat.add_le_add (Nat.add_le_add hB (Nat.le_refl 1)) el) (by decide)
          · refine ev_list ?_ (by rw [sizeLine_eq]; simp [txs])
            refine evl_cons (p := .str (S (tabs kd ++ wordF q))) ?_ evl_nil
            have fm := fmod2 ((kd : Int).fdiv 2)
            have := tabs_get kd c8
            rw [← this]
            refine ev_catS (ev_repS (ev_strS (l := [9])) ?_ (by decide) (Int.le_trans (by decide) fm.1) (Int.le_trans (Int.le_of_lt fm.2) (by decide))) (ev_var 4) (by rw [this]; exact Nat.le_trans (Nat.add_le_add tl hW) (by decide))
            exact ev_mod (ev_fdiv (ev_var 5) ev_int (by decide) (by decide)) ev_int (by decide)
          · rw [sizeLine_eq, List.length_append, txs_len, txs_len, txs_len, List.length_append, List.length_singleton, List.length_singleton]; exact Nat.le_trans (Nat.add_le_add (Nat.add_le_add (Nat.add_le_add hB (Nat.le_refl 1)) el) (Nat.le_refl 1)) (by decide)
        · refine ex_nil (ex_nil ⟨some (.int (1 + (j : Nat))), some (.str (S (wordF q))), some (.int kd), ?_⟩)
          rw [key, cutStep, if_neg hc, hT1, hT2, txs_app, txs_app]
          rfl
        · rw [txs_app, txs_app]; exact txs_sc
    · rintro τ ⟨at', wd, kd, rfl⟩
      have hA : (cutN ps ks (n - 1)).2.length ≤ 40000 := b600 (cutN_len ps ks hp (n - 1)).1 (by omega)
      have hB : (cutN ps ks (n - 1)).1.length ≤ 200 := b2j (cutN_len ps ks hp (n - 1)).2 (by omega)
      have a1 := hp (ps.length - 1)
      have c0 : ps.length ≠ 0 := by omega
      have c1 : ps.length - 1 < ps.length := Nat.sub_lt (Nat.pos_of_ne_zero c0) (by decide)
      refine ex_cons (ex_lastadd (ini := (cutN ps ks (n - 1)).1) (last := (cutN ps ks (n - 1)).2) 2 (.head _) (fun gh => ev_last (ev_var 0) (by rw [txs_len]; exact c0) (by rw [txs_len]; exact txs_get ps _ c1)) ?_ (Nat.le_trans (Nat.add_le_add hA a1) (by decide)) (Nat.le_trans hB (by decide)))
      exact ex_cons (ex_returnN 2 (.head _) rfl)
  · intro x hx
    simp at hx
    rcases hx with rfl | rfl
    · exact txs_sc
    · exact ints_sc
  · intro pm doc vs hl
    obtain ⟨x, y, rfl⟩ := len2 hl
    rfl
end
end Mine

/- text Q1 -/
namespace Mine
section
open PySem PySem.W PyProof.Rows PySem.Calls
/- facts about filter -/
theorem slot_filter_next : Slot "filter" "__next__" "filter.__next__" :=
  .of (owner := "filter") (n := "__next__") (by rw [typeLookup_type, builtinLookup_eq_fast]; kernel_rfl) (by decide +kernel) (by decide +kernel) (by decide +kernel)
    (by first | exact .inl (by decide +kernel) | exact .inr (by decide +kernel)) (by rw [isSubtype_type]; kernel_rfl)
theorem entry_filter_next : entryFor table "filter.__next__" = some Builtin.«filter.__next__» := entryFor_of_tree (by kernel_rfl)
theorem owner_filter : Manifest.owners.lookup (String.ofList ['r', 'e', 't', 'l', 'i', 'f'].reverse) = some Manifest.sig_filter := by kernel_rfl
theorem args_filter_next (a : Value) : argsOk "filter.__next__" ⟨[a], []⟩ := by
  unfold argsOk; rw [signature?_of (id := "filter.__next__") (n := ['_', '_', 't', 'x', 'e', 'n', '_', '_']) (o := ['r', 'e', 't', 'l', 'i', 'f']) (by kernel_rfl) owner_filter]; kernel_rfl
theorem slot_filter_iter : Slot "filter" "__iter__" "filter.__iter__" :=
  .of (owner := "filter") (n := "__iter__") (by rw [typeLookup_type, builtinLookup_eq_fast]; kernel_rfl) (by decide +kernel) (by decide +kernel) (by decide +kernel)
    (by first | exact .inl (by decide +kernel) | exact .inr (by decide +kernel)) (by rw [isSubtype_type]; kernel_rfl)
theorem args_filter_iter (a : Value) : argsOk "filter.__iter__" ⟨[a], []⟩ := by
  unfold argsOk; rw [signature?_of (id := "filter.__iter__") (n := ['_', '_', 'r', 'e', 't', 'i', '_', '_']) (o := ['r', 'e', 't', 'l', 'i', 'f']) (by kernel_rfl) owner_filter]; kernel_rfl
theorem entry_filter_iter : entryFor table "filter.__iter__" = some Builtin.«dict_keyiterator.__iter__» :=
  entryFor_alias (id' := "dict_keyiterator.__iter__") (by rw [fastTable_eq_tree]; kernel_rfl) (by first | rfl | decide +kernel | (unfold String.splitOn; simp +decide [String.splitOnAux])) (by decide +kernel) (by rw [fastTable_eq_tree]; kernel_rfl)
theorem mro_filter : mroOf (.type "filter") = pure [.type "filter", .type "object"] := by rw [mroOf_type]; kernel_rfl
theorem lookup_filter_new : typeLookup (.type "filter") "__new__" = pure (some (.builtin "filter.__new__")) := by rw [typeLookup_type, builtinLookup_eq_fast]; kernel_rfl
theorem slot_filter_init : Slot "filter" "__init__" "object.__init__" :=
  .of (owner := "object") (n := "__init__") (by rw [typeLookup_type, builtinLookup_eq_fast]; kernel_rfl) (by decide +kernel) (by decide +kernel) (by decide +kernel)
    (by first | exact .inl (by decide +kernel) | exact .inr (by decide +kernel)) (by rw [isSubtype_type]; kernel_rfl)
theorem called_filter : TypeCalled "filter" "filter.__new__" "object.__init__" :=
  ⟨by decide +kernel, by decide +kernel, ⟨_, _, mro_filter⟩, madeBy_type mro_filter lookup_filter_new (by decide +kernel), by decide +kernel, by rw [isSubtype_type]; kernel_rfl, slot_filter_init⟩
theorem typeCall_filter (a b : Value) : checkTypeCall "filter" ⟨[a, b], []⟩ = pure () := by kernel_rfl
theorem newCall_filter (a b : Value) : checkBuiltinCall "filter.__new__" ⟨[.type "filter", a, b], []⟩ = pure () := by kernel_rfl
theorem entry_filter_new : entryFor table "filter.__new__" = some Builtin.«filter.__new__» := entryFor_of_tree (by kernel_rfl)
theorem sub_filter : isSubtype (.type "filter") (.type "filter") = pure true := by rw [isSubtype_type]; kernel_rfl
end
end Mine

/- text Q2 -/
namespace Mine
section
open PySem PySem.W PyProof.Rows PySem.Calls
abbrev IsFilt (h : Heap) (f it : Addr) : Prop := h.get? f = some { cls := .type "filter", dict := none, data := .fields #[.builtin "len", .ref it], slots := #[] }
theorem meets_filter_new (t : Addr) (items : Array Value) (n : Nat) (dct : Option Addr) (sl : Array (Option Value)) :
    Meets (Builtin.«filter.__new__» ⟨[.type "filter", .builtin "len", .ref t], []⟩) (fun _ R s => s.heap.get? t = some { cls := .type "tuple", dict := dct, data := .seq items n, slots := sl } ∧
      R (.ok (.ret (.ref (s.heap.push { cls := .type "tuple_iterator", data := .fields #[.ref t, .int 0 0] }).objs.size)))
        { s with heap := (s.heap.push { cls := .type "tuple_iterator", data := .fields #[.ref t, .int 0 0] }).push { cls := .type "filter", data := .fields #[.builtin "len", .ref s.heap.objs.size] } }) :=
  .of_wp fun prog w A R s h => by
    obtain ⟨hp, g, d, tk, os⟩ := s; obtain ⟨hl, h⟩ := h
    have hsub := sub_filter
    have hL : Heap.IsTuple (Shared.heap ⟨hp, g, d, tk, os⟩) t items := ⟨_, hl, rfl, n, rfl⟩
    wp_walk using wpAny_pyIter_tuple hL
    exact ⟨_, rfl, h⟩

section
variable {prog : Program} {w : World} {A : Around} {E : Value → Shared → Prop} {s : Shared}
theorem call_filter {t : Addr} {items : Array Value} {Q : Value → Shared → Prop} (hL : s.heap.IsTuple t items)
    (h : ∀ h', IsFilt h' (s.heap.objs.size + 1) s.heap.objs.size → h'.IsTupleIter s.heap.objs.size t 0 → h'.objs.size = s.heap.objs.size + 2 →
      (∀ b o, s.heap.get? b = some o → h'.get? b = some o) → Q (.ref (s.heap.objs.size + 1)) { s with heap := h' }) :
    wpAny (model prog w) A (call (.type "filter") [.builtin "len", .ref t]) Q E s := by
  obtain ⟨⟨c, dct, dt, sl⟩, hl, hc, n, hd⟩ := hL
  replace hc : c = .type "tuple" := hc
  replace hd : dt = .seq items n := hd
  subst hc hd
  refine callType_new called_filter (by decide) (typeCall_filter _ _) (newCall_filter _ _) (fun obj => F.args_object_init_3 obj _ _) entry_filter_new
    (meets_filter_new t items n dct sl) ⟨hl, ?_⟩
  have hz : (s.heap.push { cls := .type "tuple_iterator", data := .fields #[.ref t, .int 0 0] }).objs.size = s.heap.objs.size + 1 := Heap.size_push ..
  show _ ∧ _
  rw [hz]
  have he : IsFilt ((s.heap.push { cls := .type "tuple_iterator", data := .fields #[.ref t, .int 0 0] }).push
      { cls := .type "filter", data := .fields #[.builtin "len", .ref s.heap.objs.size] }) (s.heap.objs.size + 1) s.heap.objs.size := by
    have := Heap.get?_push_size (s.heap.push { cls := .type "tuple_iterator", data := .fields #[.ref t, .int 0 0] })
      (o := { cls := .type "filter", data := .fields #[.builtin "len", .ref s.heap.objs.size] }) rfl
    rw [hz] at this; exact this
  refine ⟨⟨_, he, rfl⟩, h _ he ⟨_, Heap.get?_push_of_some _ (Heap.get?_push_size _ rfl), rfl, rfl⟩ (by rw [Heap.size_push, hz]) fun b o x => Heap.get?_push_of_some _ (Heap.get?_push_of_some _ x)⟩

theorem pyIter_filter {f it : Addr} {Q : Value → Shared → Prop} (hf : IsFilt s.heap f it) (h : Q (.ref f) s) : wpAny (model prog w) A (pyIter (.ref f)) Q E s := by
  have hT : s.TypeIs (.ref f) "filter" := ⟨_, hf, rfl⟩
  refine wpAny_pyIter_slot hT slot_filter_iter (wpAny_call_entry slot_filter_iter hT entry_filter_iter ?_ (args_filter_iter _))
  show wpAny _ _ (ret (.ref f)) _ _ s
  exact wpAny_pure ⟨_, rfl, "filter", _, hT, slot_filter_next.lookup, h⟩

theorem tup_next_item {it t : Addr} {i : Nat} {items : Array Value} {x : Value} {Q : Option Value → Shared → Prop} (hit : s.heap.IsTupleIter it t i)
    (ht : s.heap.IsTuple t items) (hx : items[i]? = some x)
    (hQ : ∀ h', h'.IsTupleIter it t (i + 1) → Heap.SameBut it s.heap h' → Q (some x) { s with heap := h' }) :
    wpAny (model prog w) A (callSpecial? (.ref it) "__next__") Q E s := by
  have hT := hit.typeIs
  obtain ⟨⟨c, dc, dt, sl⟩, ho, rfl, rfl⟩ := hit
  obtain ⟨ot, et, _, nt, dtt⟩ := ht
  refine wpAny_callSpecial?_slot (name := Str.ofString "__next__") hT F.slot_tuple_iterator_next (wpAny_call_entry F.slot_tuple_iterator_next hT F.entry_tuple_iterator_next ?_ (F.args_tuple_iterator_next_1 _))
  have hi : items[((i : Int)).toNat]? = some x := hx
  wp_walk using wpAny_field ho rfl rfl
  rw [dtt]
  wp_walk
  simp only [hi]
  wp_walk using wpAny_setField ho rfl
  · exact Nat.lt_succ_self 1
  · exact wpAny_pure ⟨x, rfl, hQ _ ⟨_, Heap.get?_update_self _ ho rfl, rfl, rfl⟩ (Heap.SameBut.update ..)⟩
theorem tup_next_end {it t : Addr} {i : Nat} {items : Array Value} {Q : Option Value → Shared → Prop} (hh : A.handled = none)
    (hit : s.heap.IsTupleIter it t i) (ht : s.heap.IsTuple t items) (hx : items[i]? = none)
    (hE : ∀ e h', Heap.ExtBut it s.heap h' → (∃ o, h'.get? e = some o ∧ o.cls = .type "StopIteration") → E (.ref e) { s with heap := h' }) : wpAny (model prog w) A (callSpecial? (.ref it) "__next__") Q E s := by
  have hT := hit.typeIs
  obtain ⟨⟨c, dc, dt, sl⟩, ho, rfl, rfl⟩ := hit
  obtain ⟨ot, et, _, nt, dtt⟩ := ht
  have hA : A.in1.handled = none := hh
  refine wpAny_callSpecial?_slot (name := Str.ofString "__next__") hT F.slot_tuple_iterator_next (wpAny_call_entry F.slot_tuple_iterator_next hT F.entry_tuple_iterator_next ?_ (F.args_tuple_iterator_next_1 _))
  have hi : items[((i : Int)).toNat]? = none := hx
  wp_walk using wpAny_field ho rfl rfl
  rw [dtt]
  wp_walk
  simp only [hi]
  wp_walk using wpAny_setField ho rfl
  · exact Nat.zero_lt_two
  · wp_walk
    unfold raiseNew
    wp_walk
    exact hE _ _ (((Heap.SameBut.update ..).extBut.push _).push _) ⟨_, Heap.get?_push_size _ rfl, rfl⟩

/-- does filter keep it -/
def nz : Value → Bool
  | .str x _ => decide (x.length ≠ 0)
  | _ => false
def Txts (items : Array Value) : Prop := ∀ (i : Nat) (v : Value), items[i]? = some v → ∃ x t, v = Value.str x t ∧ x.length ≤ sizeLine

theorem len_keep {x : Str} {t : Tok} {Q : Bool → Shared → Prop} (hx : x.length ≤ sizeLine) (h : ∀ tk, Q (decide (x.length ≠ 0)) { s with toks := tk }) :
    wpAny (model prog w) A (do let good ← call (.builtin "len") [.str x t]; holding [good] (truthy good)) Q E s := by
  refine wpAny_bind (P.len_str (by rw [sizeLine_eq] at hx; omega) ?_)
  refine wpAny_holding (P.truthy_int ?_)
  have e : ((x.length : Int) != 0) = decide (x.length ≠ 0) := by
    by_cases h0 : x.length = 0
    · simp [h0]
    · have : ((x.length : Int) != 0) = true := by simp; omega
      rw [this]; simp [h0]
  rw [e]; exact h _

theorem code_filter {f it t : Addr} {items : Array Value} (htx : Txts items) (hfi : f ≠ it) (hti : t ≠ it) (hh : A.handled = none) {R : Result → Shared → Prop} : ∀ (r i : Nat) (s : Shared), i + r = items.size → IsFilt s.heap f it → s.heap.IsTupleIter it t i → s.heap.IsTuple t items →
    (∀ j v h' tk, i ≤ j → items[j]? = some v → nz v = true → (∀ k u, i ≤ k → k < j → items[k]? = some u → nz u = false) → h'.IsTupleIter it t (j + 1) → Heap.SameBut it s.heap h' → R (.ok (.ret v)) { s with heap := h', toks := tk }) →
    (∀ e h' tk, (∀ k u, i ≤ k → items[k]? = some u → nz u = false) → Heap.ExtBut it s.heap h' → (∃ o, h'.get? e = some o ∧ o.cls = .type "StopIteration") → R (.error (.ref e)) { s with heap := h', toks := tk }) →
    codeAny (model prog w) A (.builtin "filter.__next__" ⟨[.ref f], []⟩) R s := by
  intro r
  induction r with
  | zero =>
    intro i s hi hf hit ht _ hE
    refine codeAny_builtin entry_filter_next ?_
    rw [Around.under_plainId slot_filter_next.plain _]
    show wpAny _ A.in1 (field (.ref f) 0 >>= _) _ _ s
    refine wpAny_bind (wpAny_field hf rfl (x := .builtin "len") rfl ?_)
    show wpAny _ A.in1 (field (.ref f) 1 >>= _) _ _ s
    refine wpAny_bind (wpAny_field hf rfl (x := .ref it) rfl ?_)
    have hnone : items[i]? = none := Array.getElem?_eq_none (by omega)
    refine wpAny_bind (tup_next_end (A := A.in1) hh hit ht hnone fun e h' hx he => ?_)
    exact hE e h' s.toks (fun k u hk hu => by have := (Array.getElem?_eq_some_iff.mp hu).1; omega) hx he
  | succ r ih =>
    intro i s hi hf hit ht hQ hE
    have hlt : i < items.size := by omega
    have hx : items[i]? = some items[i] := Array.getElem?_eq_getElem hlt
    obtain ⟨x, tx, ex, hxl⟩ := htx i _ hx
    refine codeAny_builtin entry_filter_next ?_
    rw [Around.under_plainId slot_filter_next.plain _]
    show wpAny _ A.in1 (field (.ref f) 0 >>= _) _ _ s
    refine wpAny_bind (wpAny_field hf rfl (x := .builtin "len") rfl ?_)
    show wpAny _ A.in1 (field (.ref f) 1 >>= _) _ _ s
    refine wpAny_bind (wpAny_field hf rfl (x := .ref it) rfl ?_)
    refine wpAny_bind (tup_next_item (A := A.in1) hit ht hx fun h' hit' hs => ?_)
    rw [ex]
    show wpAny _ A.in1 (holding [.str x tx] (do let good ← call (.builtin "len") [.str x tx]; holding [good] (truthy good)) >>= _) _ _ _
    refine wpAny_bind (wpAny_holding (len_keep hxl fun tk => ?_))
    by_cases h0 : x.length = 0
    · simp only [h0, ne_eq, not_true_eq_false, decide_false, Bool.false_eq_true, if_false]
      refine wpAny_pure ⟨plainId_quiet slot_filter_next.plain _, ih (i + 1) _ (by omega) ((hs.2 f hfi).trans hf) hit' (ht.extBut hs.extBut hti) (fun j v h2 tk2 hj hv hnz hall hi2 hs2 => ?_) (fun e h2 tk2 hall hx2 he => ?_)⟩
      · refine hQ j v h2 tk2 (by omega) hv hnz (fun k u hk hkj hu => ?_) hi2 (hs.trans hs2)
        by_cases hki : k = i
        · subst hki; rw [hx, ex] at hu; cases hu; simp [nz, h0]
        · exact hall k u (by omega) hkj hu
      · refine hE e h2 tk2 (fun k u hk hu => ?_) (hs.extBut.trans hx2) he
        by_cases hki : k = i
        · subst hki; rw [hx, ex] at hu; cases hu; simp [nz, h0]
        · exact hall k u (by omega) hu
    · simp only [h0, ne_eq, not_false_eq_true, decide_true, if_true]
      refine wpAny_pure (hQ i _ h' tk (Nat.le_refl _) (by rw [hx, ex]) (by simp [nz, h0]) (fun k u hk hkj _ => by omega) hit' hs)
end
end
end Mine

/- text Q3 -/
namespace Mine
section
open PySem PySem.W PyProof.Rows PySem.Calls
theorem take_skip (l : List Value) (i : Nat) : ∀ (j : Nat), i ≤ j → (∀ k u, i ≤ k → k < j → l[k]? = some u → nz u = false) → (l.take j).filter nz = (l.take i).filter nz := by
  intro j
  induction j with
  | zero => intro h _; have : i = 0 := by omega
            subst this; rfl
  | succ j ih =>
    intro h hall
    by_cases e : i = j + 1
    · subst e; rfl
    · rw [List.take_add_one, List.filter_append, ih (by omega) (fun k u a b c => hall k u a (by omega) c)]
      cases q : l[j]? with
      | none => simp
      | some u => simp [hall j u (by omega) (by omega) q]
theorem take_pick (l : List Value) (i j : Nat) (v : Value) (hij : i ≤ j) (hall : ∀ k u, i ≤ k → k < j → l[k]? = some u → nz u = false) (hv : l[j]? = some v) (hnz : nz v = true) :
    (l.take (j + 1)).filter nz = (l.take i).filter nz ++ [v] := by
  rw [List.take_add_one, List.filter_append, take_skip l i j hij hall, hv]
  simp [hnz]

section
variable {prog : Program} {w : World} {A : Around}
theorem pyNext_filter {E : Value → Shared → Prop} {s : Shared} {f it t : Addr} {items : Array Value} {i : Nat} {Q : Option Value → Shared → Prop} (htx : Txts items) (hfi : f ≠ it) (hti : t ≠ it) (hh : A.handled = none) (hi : i ≤ items.size)
    (hf : IsFilt s.heap f it) (hit : s.heap.IsTupleIter it t i) (ht : s.heap.IsTuple t items)
    (hQ : ∀ j v h' tk, i ≤ j → items[j]? = some v → nz v = true → (∀ k u, i ≤ k → k < j → items[k]? = some u → nz u = false) → h'.IsTupleIter it t (j + 1) → Heap.SameBut it s.heap h' → Q (some v) { s with heap := h', toks := tk })
    (hE : ∀ h' tk, (∀ k u, i ≤ k → items[k]? = some u → nz u = false) → Heap.ExtBut it s.heap h' → Q none { s with heap := h', toks := tk }) : wpAny (model prog w) A (pyNext (.ref f)) Q E s := by
  have hT : s.TypeIs (.ref f) "filter" := ⟨_, hf, rfl⟩
  unfold pyNext
  refine wpAny_bind (wpAny_attempt (wpAny_callSpecial?_slot (name := Str.ofString "__next__") hT slot_filter_next (wpAny_call ?_)))
  refine codeAny_call_builtin_code (plainId_quiet slot_filter_next.plain _) (slot_filter_next.check _ _ _ _ _ _ _ _ hT (args_filter_next _) ?_)
  refine code_filter htx hfi hti hh (items.size - i) i s (by omega) hf hit ht (fun j v h' tk a b c d e g => ?_) (fun e h' tk a b c => ?_)
  · exact wpAny_pure (hQ j v h' tk a b c d e g)
  · obtain ⟨o, ho, hc⟩ := c
    refine wpAny_bind (wpAny_isInstance (T := "StopIteration") (b := true) ⟨o, ho, hc⟩ isSubtype_stop ?_)
    exact wpAny_pure (hE h' tk a b)

theorem walks_filter (hh : A.handled = none) (f it t : Addr) (items : Array Value) (htx : Txts items) (hfi : f ≠ it) (hti : t ≠ it) :
    Walks prog w A f [f, it, t] [it] (items.toList.filter nz).length (fun k v => (items.toList.filter nz)[k]? = some v)
      (fun k h => IsFilt h f it ∧ h.IsTuple t items ∧ ∃ i, i ≤ items.size ∧ h.IsTupleIter it t i ∧ ((items.toList.take i).filter nz).length = k) where
  sub := fun b hb => by simp at hb; simp [hb]
  frame := fun _ _ _ st hk => ⟨hk f (by simp) _ st.1, st.2.1.at fun o e => hk t (by simp) o e, let ⟨i, a, b, c⟩ := st.2.2; ⟨i, a, b.at fun o e => hk it (by simp) o e, c⟩⟩
  item := fun k s Q E hk st hQ => by
    obtain ⟨hf, ht, i, hi, hit, hc⟩ := st
    refine pyNext_filter htx hfi hti hh hi hf hit ht (fun j v h' tk hij hv hnz hall hit' hs => ?_) (fun h' tk hall _ => ?_)
    · have hp := take_pick items.toList i j v hij (fun k u a b c => hall k u a b (by simpa using c)) (by simpa using hv) hnz
      have hj : j < items.size := (Array.getElem?_eq_some_iff.mp hv).1
      refine hQ v h' tk ?_ ⟨(hs.2 f hfi).trans hf, ht.extBut hs.extBut hti, j + 1, hj, hit', by rw [hp]; simp [hc]⟩ fun b o hb e => hs.extBut b o (fun q => hb (by simp [q])) e
      have e : items.toList.filter nz = (items.toList.take (j + 1)).filter nz ++ (items.toList.drop (j + 1)).filter nz := by rw [← List.filter_append, List.take_append_drop]
      rw [e, hp, List.append_assoc, List.getElem?_append_right (by omega), hc]
      simp
    · exfalso
      have e := take_skip items.toList i items.size hi (fun k u a b c => hall k u a (by simpa using c))
      rw [List.take_of_length_le (by simp)] at e
      rw [← e] at hc
      omega
  done := fun s Q E st hQ => by
    obtain ⟨hf, ht, i, hi, hit, hc⟩ := st
    refine pyNext_filter htx hfi hti hh hi hf hit ht (fun j v h' tk hij hv hnz hall hit' hs => ?_) (fun h' tk hall hx => ?_)
    · exfalso
      have hp := take_pick items.toList i j v hij (fun k u a b c => hall k u a b (by simpa using c)) (by simpa using hv) hnz
      have e : items.toList.filter nz = (items.toList.take (j + 1)).filter nz ++ (items.toList.drop (j + 1)).filter nz := by rw [← List.filter_append, List.take_append_drop]
      have := congrArg List.length e
      rw [hp] at this
      simp only [List.length_append, List.length_cons, List.length_nil] at this
      omega
    · exact hQ h' tk fun b o hb e => hx b o (fun q => hb (by simp [q])) e
  self := fun _ _ _ _ st hQ => pyIter_filter st.1 hQ
end
end
end Mine

/- text Q4 -/
namespace Mine
section
open PySem PySem.W PyProof.Rows PySem.Calls
theorem Le.moved {b h h' : Heap} {wr : List Addr} (l : Le b h) (hn : ∀ x ∈ wr, b.get? x = none) (hs : ∀ x o, x ∉ wr → h.get? x = some o → h'.get? x = some o) : Le b h' :=
  ⟨fun x o hx e => hs x o (fun q => by rw [hn x q] at e; cases e) (l.keep x o hx e), fun vs t => by
    obtain ⟨m, t'⟩ := l.tab vs t
    have h20 : (20 : Addr) ∉ wr := fun q => by
      obtain ⟨⟨o, _, e, _⟩, _⟩ := t.2
      rw [hn _ q] at e; cases e
    have h16 : (16 : Addr) ∉ wr := fun q => by
      have e := t.2.2
      rw [hn _ q] at e; cases e
    refine ⟨m, ?_, ?_⟩
    · obtain ⟨o, vs, file, tf, flags, tg, inF, text, tt, op, ho, hd, h11, h2, h7, h9, h10, hop, hpd, htr, hne⟩ := t'.1
      exact ⟨o, vs, file, tf, flags, tg, inF, text, tt, op, hs _ _ h20 ho, hd, h11, h2, h7, h9, h10, hs _ _ h16 hop, hpd, htr, hne⟩
    · obtain ⟨⟨o, v, e, r⟩, e2⟩ := t'.2
      exact ⟨⟨o, v, hs _ _ h20 e, r⟩, hs _ _ h16 e2⟩⟩

def nel (l : List Nat) : Bool := decide (l.length ≠ 0)
theorem vals_filter {h : Heap} : ∀ {ts : List (List Nat)} {vs : List Value}, ValL h (txs ts) vs → ValL h (txs (ts.filter nel)) (vs.filter nz)
  | [], _, .nil => .nil
  | l :: ts, _, .cons a b => by
    cases a with
    | str x t =>
      have ih := vals_filter b
      have e : nz (.str (S l) t) = nel l := by simp only [nz, nel, S_len]
      rw [List.filter_cons, List.filter_cons, e]
      cases nel l
      · exact ih
      · exact .cons (.str _ t) ih
theorem vals_get {h : Heap} {ts : List (List Nat)} {vs : List Value} (v : ValL h (txs ts) vs) (i : Nat) (u : Value) (e : vs[i]? = some u) : ∃ t, i < ts.length ∧ u = .str (S (ts.getD i [])) t := by
  have hl := v.length
  rw [txs_len] at hl
  have hi : i < vs.length := (List.getElem?_eq_some_iff.mp e).1
  obtain ⟨y, hy, vy⟩ := v.get i _ (txs_get ts i (by omega))
  rw [e] at hy
  cases hy
  cases vy with
  | str x t => exact ⟨t, by omega, rfl⟩
theorem stripL_len (l : List Nat) : (stripL l).length ≤ l.length := by
  unfold stripL
  rw [List.length_reverse]
  refine Nat.le_trans (List.dropWhile_sublist _).length_le ?_
  rw [List.length_reverse]
  exact (List.dropWhile_sublist _).length_le

section
variable {w : World} {k : Nat} {env : Env} {I : HI}
set_option maxHeartbeats 1000000 in
theorem ev_joingen {t : Addr} {vs : List Value} {ts : List (List Nat)} {h0 : Heap} {sep : List Nat} {sepS x fN lN aN : Str} {xp px ap sp ip fq lp np gp apos pos spos : Pos} {kk : Nat} {scope : Scope}
    (hI : ∀ {h}, I.p h → GloP h) (ht16 : t ≠ 16) (hIt : ∀ {h}, I.p h → IsTup h t vs.toArray) (hv : ValL h0 (txs ts) vs) (hts : ts.length ≤ 100) (hlen : ∀ l ∈ ts, l.length ≤ 20000) (hsep : sepS = S sep) (hsl : sep.length ≤ 10)
    (hf : EvG w k env I (.Name fN fq) (.type "filter")) (hl : EvG w k env I (.Name lN lp) (.builtin "len")) (ha : EvG w k env I (.Name aN np) (.ref t))
    (hcode : env.code = .ref 20) (hg : env.globals = mainGlobals) (hclos : closureFor scope env = pure []) (hco : scope.isCoroutine = false) (hcell : ∀ y ∈ scope.names, y.2 ≠ .cell) (hd0 : scope.names.lookup (".0" : Str) = some NameKind.local)
    (hx : scope.names.lookup x = some .local) (hkind : scope.kind = .function) (hxd : (x == ("__debug__" : Str)) = false)
    (hbase : attributeBase (.Constant (.str sepS) kk spos) "join" env (eval (.Constant (.str sepS) kk spos) env) = eval (.Constant (.str sepS) kk spos) env)
    (hs1 : ∀ e : Expr, e = .GeneratorExp (.Call (.Attribute (.Name x xp) "strip" ap) [] [] sp) [⟨.Name x px, .Call (.Name fN fq) [.Name lN lp, .Name aN np] [] ip, [], 0⟩] scope gp → starEach [e] env = [(false, eval e env)])
    (hline : (apos.endLine == pos.line) = true) (hbase2 : ∀ env', attributeBase (.Name x xp) "strip" env' (eval (.Name x xp) env') = eval (.Name x xp) env') (hline2 : (ap.endLine == sp.line) = true)
    (hst2 : starEach [.Name lN lp, .Name aN np] env = [(false, eval (.Name lN lp) env), (false, eval (.Name aN np) env)])
    (hfold : ∀ v, genFold (.Call (.Name fN fq) [.Name lN lp, .Name aN np] [] ip) env v = pure v) :
    Ev w k env I (.Call (.Attribute (.Constant (.str sepS) kk spos) "join" apos) [.GeneratorExp (.Call (.Attribute (.Name x xp) "strip" ap) [] [] sp) [⟨.Name x px, .Call (.Name fN fq) [.Name lN lp, .Name aN np] [] ip, [], 0⟩] scope gp] [] pos)
      (.str (S (joinL sep ((ts.filter nel).map stripL)))) := fun A s Q a tk i hQ => by
  have htx : Txts vs.toArray := fun j u hu => by
    obtain ⟨t', hj, rfl⟩ := vals_get hv j u (by simpa using hu)
    refine ⟨_, _, rfl, ?_⟩
    rw [S_len, sizeLine_eq]
    have : ts.getD j [] ∈ ts := by
      rw [List.getD_eq_getElem?_getD, List.getElem?_eq_getElem hj]; exact List.getElem_mem hj
    have := hlen _ this
    omega
  have hvf := vals_filter hv
  refine Call_method1 hbase (hs1 _ rfl) hline (wpAny_mkText ?_)
  refine ⟨"str", _, F.plainAttrs_str, F.slot_str_join, F.type_str_join, typeIs_str _ _ _, (fun _ e => nomatch e), ?_⟩
  refine Calls.callWith_builtin rfl (Calls.evalArgs_plain (Calls.spliced_cons ?_))
  have tk0 : 0 < s.toks + 1 := by omega
  refine wpAny_GeneratorExp_walksQ (cl := []) a.handled hco hclos hcell hd0 hx hkind a.d ?_ hfold
  -- filter(len, args)
  refine wpAny_Call_NameR (hf.use (s := { s with toks := s.toks + 1 }) a tk0 i fun v1 s1 tk1 i1 m1 r1 => ?_)
  subst r1
  rw [hst2]
  refine PySem.callWith_type rfl (Calls.evalArgs_plain (Calls.spliced_cons (hl.use a tk1 i1 fun v2 s2 tk2 i2 m2 r2 => Calls.spliced_cons (ha.use a tk2 i2 fun v3 s3 tk3 i3 m3 r3 => Calls.spliced_nil ?_))))
  subst r2; subst r3
  have m : Mv s s3 := ((Mv.tok s _).trans m1).trans (m2.trans m3)
  have hit := hIt i3
  obtain ⟨ot, eot, ct, nt, dt⟩ := hit
  refine call_filter ⟨ot, eot, ct, nt, dt⟩ fun h' hfl htit hsz hkp => ?_
  have i4 : I.p h' := I.st i3 (.of_keep hkp)
  have l4 : Le s.heap h' := m.le.trans (.of_keep hkp)
  refine pyIter_filter (s := { s3 with heap := h' }) hfl ⟨(hI i4).nolimit, ?_⟩
  obtain ⟨vt, tt⟩ := (hI i3).tab
  have s16 : 16 < s3.heap.objs.size := tt.1.lt.2
  have it16 : s3.heap.objs.size ≠ 16 := Nat.ne_of_gt s16
  have f16 : s3.heap.objs.size + 1 ≠ 16 := Nat.ne_of_gt (Nat.lt_succ_of_lt s16)
  have tlt : t < s3.heap.objs.size := Heap.lt_size eot
  have rest : ∀ (code : Value) (h4 : Heap) (tk4 : Nat), Le h' h4 → wpAny (model pw w) A (builtinsFor env.globals env.builtins) (fun bi s₄ =>
        ∃ I fp wr n₀ P St₀ pz F, Value.ref (s3.heap.objs.size + 1) = .ref I ∧ (∀ A' : Around, A'.handled = none → Walks pw w A' I fp wr n₀ P St₀) ∧ St₀ 0 s₄.heap ∧ (∀ b ∈ fp, b < s₄.heap.objs.size) ∧ s₄.heap.NoLimit ∧ cStatics ∉ wr ∧
          (∀ href : Heap, (∀ b o, s₄.heap.get? b = some o → href.get? b = some o) →
            QuietGen pw w (genEnv scope [] s₄.heap.objs.size code bi env) x [] (.Call (.Attribute (.Name x xp) "strip" ap) [] [] sp) (List.range s₄.heap.objs.size) wr P pz F href) ∧
          (∀ a h₅ tk gs, gs.bare = true → s₄.heap.objs.size < a → h₅.objs.size = a + 1 → (∀ b o, s₄.heap.get? b = some o → h₅.get? b = some o) →
            WalksS pw w A.in4 a (a :: s₄.heap.objs.size :: List.range s₄.heap.objs.size) (s₄.heap.objs.size :: wr) (GenOnlyQ s₄.gens.size) (passing pz n₀ 0).length
              (fun j y => ∃ i, (passing pz n₀ 0)[j]? = some i ∧ F i y) (GenAt pw w A.in4 a s₄.gens.size s₄.heap.objs.size (List.range s₄.heap.objs.size) wr pz n₀ F) →
            GenAt pw w A.in4 a s₄.gens.size s₄.heap.objs.size (List.range s₄.heap.objs.size) wr pz n₀ F 0 { s₄ with gens := s₄.gens.push gs, toks := tk, heap := h₅ } →
            wpAny (model pw w) A (spliced (backTo pos [])) (fun vs' s' => wpAny (model pw w) A (call (.builtin "str.join") (Value.str sepS s.toks :: .ref a :: vs')) Q Bot s') Bot { s₄ with gens := s₄.gens.push gs, toks := tk, heap := h₅ })) Bot { s3 with heap := h4, toks := tk4 } := by
    intro code h4 tk4 l
    have i5 : I.p h4 := I.st i4 l
    have g5 := hI i5
    have l5 : Le s.heap h4 := l4.trans l
    obtain ⟨mg, bm, ob, M⟩ := g5.bmod
    rw [hg]
    refine wpAny_builtinsFor (s := { s3 with heap := h4, toks := tk4 }) M.ns M.name M.ne M.obj M.cls M.dict M.data ?_
    have e1 : IsFilt h4 (s3.heap.objs.size + 1) s3.heap.objs.size := l.keep _ _ f16 hfl
    have e2 : h4.IsTupleIter s3.heap.objs.size t 0 := htit.extBut l.keep it16
    have e3 : h4.IsTuple t vs.toArray := ⟨ot, l.keep _ _ ht16 (hkp _ _ eot), ct, nt, dt⟩
    have lt1 : s3.heap.objs.size + 1 < h4.objs.size := Heap.lt_size e1
    have lt2 : s3.heap.objs.size < h4.objs.size := Nat.lt_of_succ_lt lt1
    have lt3 : t < h4.objs.size := Nat.lt_trans tlt lt2
    have hcs : cStatics ≠ s3.heap.objs.size := by
      obtain ⟨_, hns, _⟩ := (hI i3).nolimit
      exact Nat.ne_of_lt hns.lt
    have hK : (vs.toArray.toList.filter nz).length = (ts.filter nel).length := by
      have := hvf.length
      rw [txs_len] at this
      simpa using this
    have hKl : (ts.filter nel).length ≤ 100 := Nat.le_trans (List.length_filter_le _ _) hts
    refine ⟨_, [s3.heap.objs.size + 1, s3.heap.objs.size, t], [s3.heap.objs.size], _, _, _, fun _ => true, fun j y => ∃ u, j < (ts.filter nel).length ∧ y = .str (S (stripL ((ts.filter nel).getD j []))) u, rfl,
      fun A' hA => walks_filter hA _ _ t vs.toArray htx (Nat.succ_ne_self _) (Nat.ne_of_lt tlt), ⟨e1, e3, 0, Nat.zero_le _, e2, by simp⟩, ?_, g5.nolimit, by simpa using hcs, ?_, ?_⟩
    · intro b hb
      simp at hb
      rcases hb with rfl | rfl | rfl
      · exact lt1
      · exact lt2
      · exact lt3
    · intro href hk
      refine ⟨fun A' E' j v s₂ m₂ hA hP hn hm _ => ?_, fun A' E' j v s₂ m₂ hA hP _ hn hm _ => ?_⟩
      · exact wpAny_pure ⟨rfl, s₂.heap, s₂.toks, rfl, fun _ _ e => e⟩
      · obtain ⟨t', hj, rfl⟩ := vals_get hvf j v (by simpa using hP)
        refine Call_method0 (hbase2 _) hline2 (wpAny_Name (wpAny_loadName_local hkind hx hn hm ?_) hxd)
        have hll : (S ((ts.filter nel).getD j [])).length ≤ sizeLine := by
          rw [S_len, sizeLine_eq]
          have : (ts.filter nel).getD j [] ∈ ts.filter nel := by
            rw [List.getD_eq_getElem?_getD, List.getElem?_eq_getElem hj]; exact List.getElem_mem hj
          have := hlen _ (List.mem_filter.mp this).1
          omega
        exact SB.strip (fun t'' k' => ⟨⟨t'', hj, by rw [strip_S]⟩, s₂.heap, k', rfl, fun _ _ e => e⟩) hll
    · intro a' h₅ tk₅ gs hgb hag hsz₅ hk₅ W hat
      have hpass : passing (fun _ => true) (vs.toArray.toList.filter nz).length 0 = List.range (ts.filter nel).length := by
        unfold passing; rw [hK]; simp
      refine Calls.spliced_nil ?_
      refine SC.joinGen W.in4_2 (fun i s' st => st.1.typeIs) hat ?_ List.mem_cons_self ?_ ?_ ?_
      · intro b hb
        show b < h₅.objs.size
        rw [hsz₅]
        rcases List.mem_cons.mp hb with rfl | hb
        · exact Nat.lt_succ_self _
        · rcases List.mem_cons.mp hb with rfl | hb
          · exact Nat.lt_succ_of_lt hag
          · exact Nat.lt_succ_of_lt (Nat.lt_trans (List.mem_range.mp hb) hag)
      · rintro j v ⟨i', _, u, _, rfl⟩
        exact ⟨_, _, rfl⟩
      · intro s' l' hm hacc
        rw [hpass] at hacc
        have hsz' : l'.length = (ts.filter nel).length := by simpa [strValues] using hacc.1
        have hl' : l'.map (·.1) = ((ts.filter nel).map stripL).map S := by
          apply List.ext_getElem?
          intro j
          by_cases hj : j < (ts.filter nel).length
          · have hj' : j < l'.length := by omega
            obtain ⟨i', hi', u, hiu, hv'⟩ := hacc.2 j (.str l'[j].1 l'[j].2) (by simp [strValues, List.getElem?_eq_getElem hj'])
            have : i' = j := by
              rw [List.getElem?_range hj] at hi'
              exact (Option.some.inj hi').symm
            subst this
            injection hv' with h1 _
            simp [List.getElem?_eq_getElem hj', h1, List.getD_eq_getElem?_getD, List.getElem?_eq_getElem hj]
          · rw [List.getElem?_eq_none (by simp; omega), List.getElem?_eq_none (by simp; omega)]
        rw [hl']
        refine ⟨?_, fun t' k' => ?_⟩
        · unfold JoinOk
          rw [Bool.not_eq_true', hsep]
          refine StrLaws.joinFits (B := 20000) (fun y hy => ?_) ?_
          · obtain ⟨z, hz, rfl⟩ := List.mem_map.mp hy
            obtain ⟨z', hz', rfl⟩ := List.mem_map.mp hz
            rw [S_len]
            exact Nat.le_trans (stripL_len _) (hlen _ (List.mem_filter.mp hz').1)
          · rw [S_len, List.length_map, List.length_map]
            have : (ts.filter nel).length * sep.length ≤ 100 * 10 := Nat.mul_le_mul hKl hsl
            omega
        · rw [hsep, glued_S]
          have l6 : Le s.heap s'.heap := (l5.trans (.of_keep hk₅)).moved (fun b hb => ?_) hm.heap
          · refine hQ _ _ ⟨l6, hm.os.trans m.os, fun gb => ?_⟩ (.str _ _)
            exact ((m.gens gb).push hgb).moved hm.gens
          · have nn : ∀ c, s3.heap.objs.size ≤ c → s.heap.get? c = none := fun c hc => by
              cases q : s.heap.get? c with
              | none => rfl
              | some o =>
                have := Heap.lt_size (m.le.keep c o (Nat.ne_of_gt (Nat.lt_of_lt_of_le s16 hc)) q)
                exact absurd (Nat.lt_of_lt_of_le this hc) (Nat.lt_irrefl _)
            rcases List.mem_cons.mp hb with rfl | hb
            · exact nn _ (Nat.le_of_lt lt2)
            · rw [List.mem_singleton.mp hb]; exact nn _ (Nat.le_refl _)
      · rw [hpass, List.length_range, sizeLine_eq]; omega
  obtain ⟨vt', tt'⟩ := I.tab i4
  cases hc : codeAmong gp vt'.toList with
  | some c' => exact wpAny_genexprCode_hit hcode tt'.1 hc (rest c' h' s3.toks (.refl _))
  | none =>
    refine wpAny_genexprCodeX (s := { s3 with heap := h' }) hcode tt'.1 tt'.2 hc fun c' h4 tk4 hx4 hge hlt hcode4 _ htab4 _ => ?_
    refine rest (.ref c') h4 tk4 ⟨hx4, fun vs' t' => ?_⟩
    have e : vs' = vt' := by
      have e1 := t'.2.2
      rw [tt'.2.2] at e1
      cases e1; rfl
    subst e
    exact ⟨_, hcode4, htab4⟩
end
end
end Mine

/- text Q5 -/
namespace Mine
section
open PySem PySem.W PyProof.Rows PySem.Calls
/- hyphens -/
def col : List Nat → List Nat
  | [] => []
  | c :: l => if c = 45 ∧ (col l).head? = some 45 then col l else c :: col l
def rs (p : List Nat) : List Nat := (p.reverse.dropWhile (· == 45)).reverse
def rp2 (p : List Nat) : List Nat := rp [45, 45] [45] 0 p
theorem rp2_two (l : List Nat) : rp2 (45 :: 45 :: l) = 45 :: rp2 l := by
  simp [rp2, rp]
theorem rp2_one (c : Nat) (l : List Nat) (h : ¬ (c = 45 ∧ l.head? = some 45)) : rp2 (c :: l) = c :: rp2 l := by
  unfold rp2
  rw [rp, if_neg]
  intro q
  cases l with
  | nil => simp at q
  | cons d l => simp at q; simp at h; exact h q.1.symm q.2.symm
theorem two_or (p : List Nat) : p = [] ∨ (∃ l, p = 45 :: 45 :: l) ∨ ∃ c l, p = c :: l ∧ ¬ (c = 45 ∧ l.head? = some 45) := by
  cases p with
  | nil => exact .inl rfl
  | cons c l =>
    by_cases h : c = 45 ∧ l.head? = some 45
    · obtain ⟨rfl, h⟩ := h
      cases l with
      | nil => simp at h
      | cons d l => simp at h; subst h; exact .inr (.inl ⟨l, rfl⟩)
    · exact .inr (.inr ⟨c, l, rfl, h⟩)
theorem rp2_le : ∀ (n : Nat) (p : List Nat), p.length ≤ n → (rp2 p).length ≤ p.length ∧ ((rp2 p).length = p.length → rp2 p = p) ∧ col (rp2 p) = col p ∧ (rp2 p = p → col p = p)
  | 0, p, h => by
    have : p = [] := List.length_eq_zero_iff.mp (by omega)
    subst this; simp [rp2, rp, col]
  | n + 1, p, h => by
    rcases two_or p with rfl | ⟨l, rfl⟩ | ⟨c, l, rfl, hc⟩
    · simp [rp2, rp, col]
    · simp at h
      obtain ⟨h1, h2, h3, h4⟩ := rp2_le n l (by omega)
      rw [rp2_two]
      refine ⟨by simp; omega, fun q => by simp at q; omega, ?_, fun q => ?_⟩
      · have e : ∀ a b, col a = col b → col (45 :: a) = col (45 :: b) := fun a b e => by simp only [col, e]
        rw [e _ _ h3]
        have : (col (45 :: l)).head? = some 45 := by
          simp only [col]
          split
          · rename_i q; exact q.2
          · rfl
        conv => rhs; rw [col]
        rw [if_pos ⟨rfl, this⟩]
      · have := congrArg List.length q
        simp at this; omega
    · simp at h
      obtain ⟨h1, h2, h3, h4⟩ := rp2_le n l (by omega)
      rw [rp2_one c l hc]
      refine ⟨by simp; omega, fun q => by simp at q; rw [h2 q], ?_, fun q => ?_⟩
      · simp only [col, h3]
      · simp at q
        have := h4 q
        simp only [col, this]
        rw [if_neg hc]

def chain (x : List Nat) : List Nat :=
  rp unk [] 0 (rp [41] [45] 0 (rp [40] [45] 0 (rp [34] [45] 0 (rp [59] [45] 0 (rp [58] [45] 0 (rp [92] [45] 0 (rp [47] [45] 0 (rp [32] [95] 0 x))))))))
def platF (ts : List (List Nat)) : List Nat := rs (col (chain (joinL [45] ((ts.filter nel).map stripL))))

theorem bind_plat (pm doc : Value) (vs : List Value) : bindArgs (docDef (fName 1) (fArgs 1) (fBody 1) (fScope 1) pm (.ref 20) doc) ⟨vs, []⟩ = (newTuple vs >>= fun t => (pure [(("args" : Str), t)] : Sem (List (Str × Value)))) := by
  cases vs <;> rfl
theorem rp1_len (a b : Nat) : ∀ l, (rp [a] [b] 0 l).length = l.length
  | [] => by simp [rp]
  | c :: l => by simp only [rp]; split <;> simp [rp1_len a b l]
theorem rpd_len (y : List Nat) : ∀ (l : List Nat) (n : Nat), (rp y [] n l).length ≤ l.length
  | [], n => by cases n <;> simp [rp]
  | c :: l, n + 1 => by have := rpd_len y l n; simp only [rp, List.length_cons]; omega
  | c :: l, 0 => by
    have h1 := rpd_len y l (y.length - 1)
    have h2 := rpd_len y l 0
    simp only [rp]
    split <;> simp <;> omega

abbrev pF (L : Addr) (base : Heap) : Fm := mkF 21 20 1 ["args", "platform", "cleaned"] [] L base
section
variable {w : World} {L : Addr} {base : Heap}
/-- all behind the first line -/
theorem plat_tail (x : List Nat) (hx : x.length ≤ 10000) (rest : List Stmt) (hr : rest = (fBody 1).drop 1) :
    Ex w 1 (pF L base) [none, some (.str (S x)), none] (execs rest (pF L base).env) fun fl _ => fl = .ret (.str (S (rs (col (chain x))))) := by
  subst hr
  have h1 : (rp [32] [95] 0 x).length = x.length := rp1_len _ _ _
  refine ex_cons (ex_assign 1 (fun gh => ev_replS (y := [32]) (z := [95]) (ev_var 1) (by decide +kernel) (by decide +kernel) (by decide) (by decide) hx (by decide)) ?_)
  unfold chain
  generalize rp [32] [95] 0 x = x1 at *
  have h2 : (rp [47] [45] 0 x1).length = x1.length := rp1_len _ _ _
  refine ex_cons (ex_assign 1 (fun gh => ev_replS (y := [47]) (z := [45]) (ev_var 1) (by decide +kernel) (by decide +kernel) (by decide) (by decide) (by omega) (by decide)) ?_)
  generalize rp [47] [45] 0 x1 = x2 at *
  have h3 : (rp [92] [45] 0 x2).length = x2.length := rp1_len _ _ _
  refine ex_cons (ex_assign 1 (fun gh => ev_replS (y := [92]) (z := [45]) (ev_var 1) (by decide +kernel) (by decide +kernel) (by decide) (by decide) (by omega) (by decide)) ?_)
  generalize rp [92] [45] 0 x2 = x3 at *
  have h4 : (rp [58] [45] 0 x3).length = x3.length := rp1_len _ _ _
  refine ex_cons (ex_assign 1 (fun gh => ev_replS (y := [58]) (z := [45]) (ev_var 1) (by decide +kernel) (by decide +kernel) (by decide) (by decide) (by omega) (by decide)) ?_)
  generalize rp [58] [45] 0 x3 = x4 at *
  have h5 : (rp [59] [45] 0 x4).length = x4.length := rp1_len _ _ _
  refine ex_cons (ex_assign 1 (fun gh => ev_replS (y := [59]) (z := [45]) (ev_var 1) (by decide +kernel) (by decide +kernel) (by decide) (by decide) (by omega) (by decide)) ?_)
  generalize rp [59] [45] 0 x4 = x5 at *
  have h6 : (rp [34] [45] 0 x5).length = x5.length := rp1_len _ _ _
  refine ex_cons (ex_assign 1 (fun gh => ev_replS (y := [34]) (z := [45]) (ev_var 1) (by decide +kernel) (by decide +kernel) (by decide) (by decide) (by omega) (by decide)) ?_)
  generalize rp [34] [45] 0 x5 = x6 at *
  have h7 : (rp [40] [45] 0 x6).length = x6.length := rp1_len _ _ _
  refine ex_cons (ex_assign 1 (fun gh => ev_replS (y := [40]) (z := [45]) (ev_var 1) (by decide +kernel) (by decide +kernel) (by decide) (by decide) (by omega) (by decide)) ?_)
  generalize rp [40] [45] 0 x6 = x7 at *
  have h8 : (rp [41] [45] 0 x7).length = x7.length := rp1_len _ _ _
  refine ex_cons (ex_assign 1 (fun gh => ev_replS (y := [41]) (z := [45]) (ev_var 1) (by decide +kernel) (by decide +kernel) (by decide) (by decide) (by omega) (by decide)) ?_)
  generalize rp [41] [45] 0 x7 = x8 at *
  have h9 := rpd_len unk x8 0
  refine ex_cons (ex_assign 1 (fun gh => ev_replS (y := unk) (z := []) (ev_var 1) (by decide +kernel) (by decide +kernel) (by decide) (by decide) (by omega) (by decide)) ?_)
  generalize rp unk [] 0 x8 = p0 at *
  have hp0 : p0.length ≤ 10000 := by omega
  show Ex w 1 (pF L base) [none, some (.str (S p0)), none] (execs ((fBody 1).drop 10) (pF L base).env) _
  clear h1 h2 h3 h4 h5 h6 h7 h8 h9 hx
  clear x x1 x2 x3 x4 x5 x6 x7 x8
  refine ex_cons (ex_while (fun n τ => ∃ p c, τ = [none, some (.str (S p)), c] ∧ n = p.length ∧ p.length ≤ 10000 ∧ col p = col p0) (n₀ := p0.length) ⟨p0, none, rfl, rfl, hp0, rfl⟩ ?_)
  rintro n τ ⟨p, c, rfl, rfl, hp, hc⟩
  refine ⟨true, fun gh => te_boolv ev_bool, fun h => (by cases h), fun _ => ?_⟩
  obtain ⟨r1, r2, r3, r4⟩ := rp2_le p.length p (Nat.le_refl _)
  refine ex_cons (ex_assign (p := .str (S (rp2 p))) 2 (fun gh => ev_replS (y := [45, 45]) (z := [45]) (ev_var 1) (by decide +kernel) (by decide +kernel) (by decide) (by decide) (by omega) (by decide)) ?_)
  refine ex_cons (ex_if (b := rp2 p == p) (fun gh => ?_) (fun h => ?_) (fun h => ?_))
  · rw [← S_eq]; exact te_cmp (ev_var 2) (ev_var 1) op_eqs
  · refine ex_cons (ex_break ?_)
    have hq : col p = p := r4 (by simpa using h)
    rw [hq] at hc
    subst hc
    -- strip from behind
    refine ex_cons (ex_while (fun n τ => ∃ q c, τ = [none, some (.str (S q)), c] ∧ n = q.length ∧ q.length ≤ 10000 ∧ rs q = rs (col p0)) (n₀ := (col p0).length) ⟨col p0, _, rfl, rfl, hp, rfl⟩ ?_)
    rintro n τ ⟨q, c, rfl, rfl, hq', hr⟩
    have fin : rs q = q → Ex w 1 (pF L base) [none, some (.str (S q)), c] (execs ((fBody 1).drop 12) (pF L base).env) fun fl _ => fl = .ret (.str (S (rs (col p0)))) := fun e => by
      refine ex_cons (ex_return (fun gh => ev_var 1) ?_)
      rw [← hr, e]
    rcases List.eq_nil_or_concat q with rfl | ⟨q', d, rfl⟩
    · refine ⟨_, fun gh => te_boolop (tea_cons (c := true) (te_str (ev_var 1) (by rw [S_len, sizeLine_eq]; simp)) fun h => by simp [S_len] at h), fun _ => ?_, fun h => by simp [S_len] at h⟩
      exact fin rfl
    · rw [List.concat_eq_append] at *
      refine ⟨_, fun gh => te_boolop (tea_cons (te_str (ev_var 1) (by rw [S_len, sizeLine_eq]; omega)) fun _ => tea_cons (te_cmp (q := .str ⟨#[45]⟩) (ev_sidx (c := d) (ev_var 1) (ev_neg ev_int) (by decide) ?_) ?_ op_eqs) fun _ => tea_nil), fun h => ?_, fun h => ?_⟩
      · have := sidxn (q' ++ [d]) 0 d (by simp) (by simp)
        simpa using this
      · exact ev_strS (l := [45])
      · rw [S_one, S_len] at h
        simp at h
        refine fin ?_
        unfold rs
        simp [h]
      · rw [S_one, S_len] at h
        simp at h
        subst h
        refine ex_cons (ex_assign (p := .str (S q')) 1 (fun gh => ?_) ?_)
        · have e : Txt.slice (S (q' ++ [45])) none (some (-1)) = S q' := by
            have := slice_to (q' ++ [45]) 1 (by simp)
            simpa [bnd] using this
          rw [← e]
          exact ev_slice (p := .none) (q := .int (-1)) (ev_var 1) evp_none (evp_some (ev_neg ev_int)) (.inl rfl) (.inr ⟨_, rfl⟩) (by rw [S_len, sizeLine_eq]; omega)
        · refine ex_nil ⟨q'.length, by simp, q', _, rfl, rfl, by simp at hq'; omega, ?_⟩
          rw [← hr]
          unfold rs
          simp
  · refine ex_nil ?_
    refine ex_cons (ex_assign 1 (fun gh => ev_var 2) ?_)
    refine ex_nil ⟨(rp2 p).length, ?_, rp2 p, _, rfl, rfl, by omega, r3.trans hc⟩
    have : ¬ rp2 p = p := by simpa using h
    have : ¬ (rp2 p).length = p.length := fun q => this (r2 q)
    omega
end
end
end Mine

/- text Q6 -/
namespace Mine
section
open PySem PySem.W PyProof.Rows PySem.Calls
/-- the first line's facts -/
def hiA (F : Fm) (x : Str) (t : Addr) (vs : List Value) (hL : F.env.locals ≠ 16) (ht : t ≠ 16) (σ : Sg) : HI where
  p := fun h => St F [] σ h ∧ (∃ m, h.Ns F.env.locals m ∧ m x = some (.ref t)) ∧ IsTup h t vs.toArray
  st := fun {h h'} i l => ⟨(hi F [] σ).st i.1 l, let ⟨m, a, b⟩ := i.2.1; ⟨m, a.extBut l.keep hL, b⟩, IsTup.ext i.2.2 l.keep ht⟩
  tab := fun i => (hi F [] σ).tab i.1

theorem rp0_len (l : List (List Nat)) : (joinL [45] l).length ≤ (l.map (·.length)).sum + l.length := by
  induction l with
  | nil => simp [joinL]
  | cons x l ih =>
    cases l with
    | nil => simp [joinL]
    | cons y l => simp only [joinL, List.length_append, List.map_cons, List.sum_cons, List.length_cons, List.length_nil] at ih ⊢; omega
theorem sum_le (l : List (List Nat)) (B : Nat) (h : ∀ x ∈ l, x.length ≤ B) : (l.map (·.length)).sum ≤ l.length * B := by
  induction l with
  | nil => simp
  | cons x l ih =>
    have h1 := h x (.head _)
    have h2 := ih fun y hy => h y (.tail _ hy)
    simp only [List.map_cons, List.sum_cons, List.length_cons, Nat.add_mul]; omega

theorem cell1 : ∀ x ∈ (fScope 1).names, x.2 ≠ .cell := by decide
theorem loc1 : (fScope 1).names.lookup ("args" : Str) = some .local := by decide
theorem nod1 : (["args", "platform", "cleaned"] : List Str).Nodup := by decide
set_option maxHeartbeats 1000000 in
theorem fn_plat {w : World} (ts : List (List Nat)) (hts : ts.length ≤ 20) (hlen : ∀ l ∈ ts, l.length ≤ 400) : Fn w 4 21 (txs ts) (.str (S (platF ts))) := fun A s vs Q ao tk g hv hQ => by
  have hft : ((21, 20, 1) : Addr × Addr × Nat) ∈ ftab := by decide
  obtain ⟨⟨o, pm, doc, e, d⟩, cr⟩ := g.fns _ hft
  have hlv : vs.length = ts.length := by rw [hv.length, txs_len]
  refine wpAny_call (codeAny_call_function ao.d e d rfl rfl rfl cr ?_)
  rw [bind_plat]
  refine wpAny_bind (wpAny_newTuple ?_ (by rw [hlv, sizeLine_eq]; omega))
  have leb : Le s.heap (s.heap.push { cls := .type "tuple", data := .seq vs.toArray }) := .push _ _
  have tup : IsTup (s.heap.push { cls := .type "tuple", data := .seq vs.toArray }) s.heap.objs.size vs.toArray := ⟨_, Heap.get?_push_size _ rfl, rfl, 0, rfl⟩
  have gb : GloP (s.heap.push { cls := .type "tuple", data := .seq vs.toArray }) := GloI.st g leb
  have t16 : s.heap.objs.size ≠ 16 := let ⟨_, t⟩ := g.tab; t.new
  generalize hb : s.heap.push { cls := .type "tuple", data := .seq vs.toArray } = b at *
  obtain ⟨vt, tt⟩ := gb.tab
  refine wpAny_pure (wpAny_newFunctionEnv cell1 (fun x hx => by rw [List.mem_singleton.mp hx]; exact loc1) (fun h₁ hns hsb => ⟨gb.nolimit.fresh _ hsb, ?_⟩) rfl)
  show codeAny _ _ (.func (fBody 1) (envOf (fName 1) (fScope 1) b.objs.size 21 (.ref 20))) _ _
  refine codeAny_func ?_
  have le1 : Le b h₁ := .of_keep fun c o e => hsb.extBut c o (Nat.ne_of_lt (Heap.lt_size e)) (Heap.get?_push_of_some _ e)
  have S0 : St (pF b.objs.size b) [] [none, none, none] h₁ := by
    refine ⟨_, fun _ => .none, ⟨⟨gb, rfl, nod1, tt.new, new_size, fun x hx => .inl ?_, (fun x c hc => by cases hc), (fun x y c hc => by cases hc)⟩, le1, hns, (fun x c hc => by cases hc), fun j p ej => ?_, (fun j hj => nomatch hj), (fun j hj => nomatch hj), fun q hq => nomatch hq⟩⟩
    · have : ∀ x ∈ (["args", "platform", "cleaned"] : List Str), (fScope 1).names.lookup x = some .local := by decide
      exact this x hx
    · match j, ej with
      | 0, ej => cases ej
      | 1, ej => cases ej
      | 2, ej => cases ej
      | n + 3, ej => simp at ej
  have i0 : (hiA (pF b.objs.size b) "args" s.heap.objs.size vs tt.new t16 [none, none, none]).p h₁ :=
    ⟨S0, ⟨_, hns, by simp⟩, IsTup.ext tup le1.keep t16⟩
  have tk1 : 0 < s.toks + 1 := by omega
  have ao' := AOk.deeper (ao.le (by decide : 3 + 1 ≤ 4)) (pF b.objs.size b).env
  have hjl : (joinL [45] ((ts.filter nel).map stripL)).length ≤ 10000 := by
    have h1 := rp0_len ((ts.filter nel).map stripL)
    have h2 := sum_le ((ts.filter nel).map stripL) 400 (fun x hx => by
      obtain ⟨y, hy, rfl⟩ := List.mem_map.mp hx
      exact Nat.le_trans (stripL_len _) (hlen _ (List.mem_filter.mp hy).1))
    have h3 : (ts.filter nel).length ≤ 20 := Nat.le_trans (List.length_filter_le _ _) hts
    rw [List.length_map] at h1 h2
    omega
  have hglo : ∀ {h}, (hiA (pF b.objs.size b) "args" s.heap.objs.size vs tt.new t16 [none, none, none]).p h → GloP h := fun i => hi_glo i.1
  refine wpAny_mono (Q := fun f s' => Q (match f with | .ret v => v | _ => .none) s') (E := Bot) ?_ (fun f s' q => q) (fun _ _ x => x.elim)
  refine wpAny_execs_cons (wpAny_Assign_Name (Tr.use (k := 3) (s := { s with heap := h₁, toks := s.toks + 1 }) (I := hiA (pF b.objs.size b) "args" s.heap.objs.size vs tt.new t16 [none, none, none])
    (ev_joingen (t := s.heap.objs.size) (vs := vs) (ts := ts) (h0 := s.heap) (sep := [45]) hglo t16 (fun i => i.2.2) hv (by omega) (fun l hl => by have := hlen l hl; omega) (by decide +kernel) (by decide)
      (ev_bi hglo rfl rfl rfl rfl rfl (by decide) rfl) (ev_bi hglo rfl rfl rfl rfl rfl (by decide) rfl) ?_ rfl rfl rfl rfl ?_ rfl rfl rfl ?_ rfl ?_ rfl ?_ rfl rfl ?_) ao' tk1 i0 fun v s2 tk2 i2 m2 r2 => ?_) rfl)
  · intro A' s' Q' a' tk' i' hQ'
    obtain ⟨_, ⟨m, hn, hm⟩, _⟩ := i'
    exact wpAny_Name (wpAny_loadName_local rfl loc1 hn hm (hQ' _ _ (.refl _) rfl)) (by decide)
  · decide
  · decide
  · intro e he; subst he; rfl
  · intro _; rfl
  · intro _; rfl
  · obtain ⟨⟨m, μ, S2⟩, _, _⟩ := i2
    refine wtk tk2 (store_name (F := pF b.objs.size b) (s₀ := s2) (i := 1) (p := .str (S (joinL [45] ((ts.filter nel).map stripL)))) S2 (.refl _) rfl trivial r2 (.sc trivial) fun h3 tk3 S3 tk4 => ?_)
    refine Ex.use (plat_tail (w := w) (L := b.objs.size) (base := b) _ hjl _ rfl) (ao'.le (by decide)) tk4 S3 fun f s4 fl σ' tk5 hk S4 m4 r4 => ?_
    subst hk
    obtain ⟨_, _, S4⟩ := S4
    cases f with
    | ret v => exact hQ v s4 ⟨leb.trans S4.le, m4.os.trans m2.os, fun gb => m4.gens (m2.gens gb)⟩ r4
    | next => exact r4.elim
    | brk => exact r4.elim
    | cont => exact r4.elim
end
end Mine

/- text K1 -/
namespace Mine
section
open PySem PySem.W PyProof.Rows PySem.Calls
/- within a comprehension: nothing changes at all -/
abbrev Kp (h h' : Heap) : Prop := ∀ b o, h.get? b = some o → h'.get? b = some o
structure HK where
  p : Heap → Prop
  st : ∀ {h h' : Heap}, p h → Kp h h' → p h'
structure Ks (s s' : Shared) : Prop where
  k : Keeps s s'
theorem Ks.rfl' {s : Shared} : Ks s s := ⟨s.heap, s.toks, rfl, fun _ _ e => e⟩
theorem Ks.tr {a b c : Shared} (x : Ks a b) (y : Ks b c) : Ks a c := by
  obtain ⟨h, t, rfl, k⟩ := x
  obtain ⟨h', t', rfl, k'⟩ := y
  exact ⟨h', t', rfl, fun b o e => k' b o (k b o e)⟩
theorem Ks.tok {s : Shared} {k : Nat} : Ks s { s with toks := k } := ⟨s.heap, k, rfl, fun _ _ e => e⟩
theorem Ks.kp {s s' : Shared} (x : Ks s s') : Kp s.heap s'.heap := by obtain ⟨h, t, rfl, k⟩ := x; exact k
theorem Ks.le {s s' : Shared} (x : Ks s s') : Le s.heap s'.heap := .of_keep x.kp

section
variable {w : World} {A : Around} {env : Env} {I : HK}
def TrK {α : Type} (w : World) (A : Around) (I : HK) (t : Sem α) (R : α → Heap → Prop) : Prop :=
  ∀ (s : Shared) (Q : α → Shared → Prop) (E : Value → Shared → Prop), 0 < s.toks → I.p s.heap → (∀ v s', Ks s s' → R v s'.heap → Q v s') → wpAny (model pw w) A t Q E s
def EvK (w : World) (A : Around) (env : Env) (I : HK) (e : Expr) (p : PV) : Prop := TrK w A I (eval e env) fun v h => Val h p v
theorem TrK.use {α : Type} {t : Sem α} {R : α → Heap → Prop} (h : TrK w A I t R) {s : Shared} {Q : α → Shared → Prop} {E : Value → Shared → Prop} (tk : 0 < s.toks) (i : I.p s.heap)
    (hQ : ∀ v s', 0 < s'.toks → I.p s'.heap → Ks s s' → R v s'.heap → Q v s') : wpAny (model pw w) A t Q E s :=
  wpAny_with_toks (n := 1) tk (h s _ _ tk i fun v s' m r tk' => hQ v s' tk' (I.st i m.kp) m r)

theorem k_int {i : Int} {kk : Nat} {pos : Pos} : EvK w A env I (.Constant (.int i) kk pos) (.int i) := fun s Q E _ _ hQ => wpAny_Constant_int (hQ _ _ .tok (.int i _))
theorem k_str {x : Str} {kk : Nat} {pos : Pos} : EvK w A env I (.Constant (.str x) kk pos) (.str x) := fun s Q E _ _ hQ => wpAny_mkText (hQ _ _ .tok (.str x _))
theorem k_strS {x : Str} {l : List Nat} {kk : Nat} {pos : Pos} (h : x = S l := by decide +kernel) : EvK w A env I (.Constant (.str x) kk pos) (.str (S l)) := by rw [← h]; exact k_str
theorem k_bin {l r : Expr} {op : Operator} {pos : Pos} {p q : PV} {R : Value → Heap → Prop} (h1 : EvK w A env I l p) (h2 : EvK w A env I r q)
    (h3 : ∀ (s : Shared) (a b : Value) (Q : Value → Shared → Prop) (E : Value → Shared → Prop), Val s.heap p a → Val s.heap q b → (∀ v s', Ks s s' → R v s'.heap → Q v s') → wpAny (model pw w) A (binaryOp op a b) Q E s) :
    TrK w A I (eval (.BinOp l op r pos) env) R := fun s Q E tk i hQ =>
  wpAny_BinOp (h1.use tk i fun v1 s1 tk1 i1 m1 r1 => h2.use tk1 i1 fun v2 s2 tk2 i2 m2 r2 => h3 s2 v1 v2 Q E (Val.le m2.le r1) r2 fun v s' m hv => hQ v s' ((m1.tr m2).tr m) hv)
theorem k_add {l r : Expr} {pos : Pos} {a b : Int} (h1 : EvK w A env I l (.int a)) (h2 : EvK w A env I r (.int b)) : EvK w A env I (.BinOp l .Add r pos) (.int (a + b)) :=
  k_bin h1 h2 fun s v1 v2 Q E r1 r2 hQ => by cases r1; cases r2; exact add_int (hQ _ _ .tok (.int _ _))
theorem k_sub {l r : Expr} {pos : Pos} {a b : Int} (h1 : EvK w A env I l (.int a)) (h2 : EvK w A env I r (.int b)) : EvK w A env I (.BinOp l .Sub r pos) (.int (a - b)) :=
  k_bin h1 h2 fun s v1 v2 Q E r1 r2 hQ => by cases r1; cases r2; exact sub_int (hQ _ _ .tok (.int _ _))
theorem k_mul {l r : Expr} {pos : Pos} {a b : Int} (h1 : EvK w A env I l (.int a)) (h2 : EvK w A env I r (.int b)) (hm : IntMulOk a b) : EvK w A env I (.BinOp l .Mult r pos) (.int (a * b)) :=
  k_bin h1 h2 fun s v1 v2 Q E r1 r2 hQ => by cases r1; cases r2; exact mul_int (hQ _ _ .tok (.int _ _)) hm
theorem k_mod {l r : Expr} {pos : Pos} {a b : Int} (h1 : EvK w A env I l (.int a)) (h2 : EvK w A env I r (.int b)) (hb : b ≠ 0) : EvK w A env I (.BinOp l .Mod r pos) (.int (a.fmod b)) :=
  k_bin h1 h2 fun s v1 v2 Q E r1 r2 hQ => by cases r1; cases r2; exact mod_int hb (hQ _ _ .tok (.int _ _))
theorem k_cat {l r : Expr} {pos : Pos} {x y : List Nat} (h1 : EvK w A env I l (.str (S x))) (h2 : EvK w A env I r (.str (S y))) (hs : x.length + y.length ≤ 1000000) : EvK w A env I (.BinOp l .Add r pos) (.str (S (x ++ y))) :=
  k_bin h1 h2 fun s v1 v2 Q E r1 r2 hQ => by cases r1; cases r2; exact SB.add (fun t' k => by rw [S_app]; exact hQ _ _ .tok (.str _ _)) (by rw [S_len, S_len, sizeLine_eq]; omega)
theorem k_rep {l r : Expr} {pos : Pos} {x : List Nat} {n : Int} (h1 : EvK w A env I l (.str (S x))) (h2 : EvK w A env I r (.int n)) (hl : x.length ≤ 1000) (h3 : -1000 ≤ n) (h4 : n ≤ 1000) : EvK w A env I (.BinOp l .Mult r pos) (.str (S (reps n x))) :=
  k_bin h1 h2 fun s v1 v2 Q E r1 r2 hQ => by cases r1; cases r2; exact SB.mul (mulOk_small hl h3 h4) (fun t' k => by rw [mul_S]; exact hQ _ _ .tok (.str _ _))
theorem k_idx {e i : Expr} {pos : Pos} {xs : List PV} {n : Int} {p : PV} (h1 : EvK w A env I e (.list xs)) (h2 : EvK w A env I i (.int n)) (h0 : 0 ≤ n) (hf : n < 2 ^ 63) (hx : xs[n.toNat]? = some p)
    (hs : ∀ o j, subscripted i false o j = operate [o, j] (getItem o j) := by intro _ _; rfl) : EvK w A env I (.Subscript e i pos) p := fun s Q E tk j hQ =>
  Subscript_ (h1.use tk j fun v1 s1 tk1 j1 m1 r1 => h2.use tk1 j1 fun v2 s2 tk2 j2 m2 r2 => by
    cases r2
    cases Val.le m2.le r1 with
    | list l hl pl vl =>
      obtain ⟨y, hy, vy⟩ := vl.get _ _ hx
      exact tail_any pl.isList.typeIs slot_list_getitem.lookup (wpAny_getItem_list pl.isList h0 hf (by simpa using hy) (hQ _ _ (m1.tr m2) vy)) (hs _ _))
theorem k_sidx {e i : Expr} {pos : Pos} {l : List Nat} {n : Nat} {c : Nat} (h1 : EvK w A env I e (.str (S l))) (h2 : EvK w A env I i (.int n)) (hn : n < 100000) (hc : l[n]? = some c)
    (hs : ∀ o j, subscripted i false o j = operate [o, j] (getItem o j) := by intro _ _; rfl) : EvK w A env I (.Subscript e i pos) (.str (S [c])) := fun s Q E tk j hQ =>
  Subscript_ (h1.use tk j fun v1 s1 tk1 j1 m1 r1 => h2.use tk1 j1 fun v2 s2 tk2 j2 m2 r2 => by
    cases r2
    cases r1
    exact tail_any (typeIs_str _ _ _) F.slot_str_getitem.lookup (P.getItem_str (by simp; omega) (sidx l n c hc) (hQ _ _ ((m1.tr m2).tr .tok) (.str _ _))) (hs _ _))
theorem k_repl {o : Expr} {apos pos p1 p2 : Pos} {x y z : List Nat} {a b : Str} {k1 k2 : Nat} (h1 : EvK w A env I o (.str (S x))) (ha : a = S y) (hb : b = S z) (hy : y ≠ []) (hyz : y ≠ z) (hx : x.length ≤ 10000) (hz : z.length ≤ 100)
    (hbase : attributeBase o "replace" env (eval o env) = eval o env := by rfl) (hline : (apos.endLine == pos.line) = true := by rfl) :
    EvK w A env I (.Call (.Attribute o "replace" apos) [.Constant (.str a) k1 p1, .Constant (.str b) k2 p2] [] pos) (.str (S (rp y z 0 x))) := fun s Q E tk i hQ =>
  Call_method2 hbase rfl hline (h1.use tk i fun v s1 tk1 i1 m1 r1 => by
    subst ha hb
    cases r1
    refine ⟨"str", _, F.plainAttrs_str, F.slot_str_replace, F.type_str_replace, typeIs_str _ _ _, (fun _ e => nomatch e), ?_⟩
    refine Calls.callWith_builtin rfl (Calls.evalArgs_plain (Calls.spliced_cons (wpAny_mkText (Calls.spliced_cons (wpAny_mkText (Calls.spliced_nil ?_))))))
    have hu : s1.toks ≠ 0 := by omega
    have hv : s1.toks + 1 ≠ 0 := by omega
    have huv : s1.toks ≠ s1.toks + 1 := by omega
    have hb' : (S x).length + ((S x).length + 1) * (S z).length ≤ 16777216 := by
      rw [S_len, S_len]; have : (x.length + 1) * z.length ≤ 10001 * 100 := Nat.mul_le_mul (by omega) hz; omega
    exact SC.replace hu hv huv (by rw [S_eq]; simpa using hyz) hb' fun t' k' => by rw [replace_rp x y z hy]; exact hQ _ _ (m1.tr .tok) (.str _ _))
theorem k_gt {l r : Expr} {pos : Pos} {a b : Int} (h1 : EvK w A env I l (.int a)) (h2 : EvK w A env I r (.int b)) (hm : behindInMarks .Gt r = false := by with_unfolding_all rfl) :
    TrK w A I (isTrue (.Compare l [.Gt] [r] pos) env (eval (.Compare l [.Gt] [r] pos) env)) fun v _ => v = decide (b < a) := fun s Q E tk i hQ =>
  wpAny_isTrue_Compare1 (h1.use tk i fun v1 s1 tk1 i1 m1 r1 => h2.use tk1 i1 fun v2 s2 tk2 i2 m2 r2 => by
    cases r1; cases r2
    exact gt_int (wpAny_truthy_bool (hQ _ _ (m1.tr m2) rfl))) hm
theorem k_local {x : Str} {pos : Pos} {p : PV} (hk : env.scope.kind = .function) (hx : env.kindOf x = some .local) (h : ∀ {g}, I.p g → ∃ m v, g.Ns env.locals m ∧ m x = some v ∧ Val g p v)
    (hd : (x == ("__debug__" : Str)) = false := by decide) : EvK w A env I (.Name x pos) p := fun s Q E tk i hQ => by
  obtain ⟨m, v, hn, hm, hv⟩ := h i
  exact wpAny_Name (wpAny_loadName_local hk hx hn hm (hQ _ _ .rfl' hv)) hd
theorem k_cell {x : Str} {pos : Pos} {p : PV} {c : Addr} (hk : env.scope.kind = .function) (hx : env.kindOf x = some .cell) (hc : env.cells.lookup x = some c) (h : ∀ {g}, I.p g → ∃ v, g.IsCell c (some v) ∧ Val g p v)
    (hd : (x == ("__debug__" : Str)) = false := by decide) : EvK w A env I (.Name x pos) p := fun s Q E tk i hQ => by
  obtain ⟨v, hn, hv⟩ := h i
  exact wpAny_Name (wpAny_loadName_cell hk hx hc hn (hQ _ _ .rfl' hv)) hd
end
end
end Mine

/- text K2 -/
namespace Mine
section
open PySem PySem.W PyProof.Rows PySem.Calls
/- range as an iterator for comprehensions -/
def RgIt (w : World) (k : Nat) (env : Env) (I : HI) (iter : Expr) (a : Int) (n : Nat) : Prop :=
  ∀ (A : Around) (s : Shared) (Q : Value → Shared → Prop), AOk k A → 0 < s.toks → I.p s.heap →
    (∀ c s', 0 < s'.toks → Mv s s' → s.heap.get? c = none → c ≠ 16 → IsRangeIter s'.heap c a n 1 → Q (.ref c) s') → wpAny (model pw w) A (eval iter env) (fun xv s₁ => wpAny (model pw w) A (pyIter xv) Q Bot s₁) Bot s
section
variable {w : World} {k : Nat} {env : Env} {I : HI}
theorem rg_range2 {x : Str} {xp pos : Pos} {e f : Expr} {a b : Int} (hf : EvG w k env I (.Name x xp) (.type "range")) (h1 : Ev w k env I e (.int a)) (h2 : Ev w k env I f (.int b)) (n : Nat) (hn : a + n = b ∨ (b ≤ a ∧ n = 0))
    (ha : -(2 ^ 62) ≤ a) (ha' : a < 2 ^ 62) (hb : -(2 ^ 62) ≤ b) (hb' : b < 2 ^ 62)
    (he : starEach [e, f] env = [(false, eval e env), (false, eval f env)] := by rfl) : RgIt w k env I (.Call (.Name x xp) [e, f] [] pos) a n := fun A s Q ao tk i hQ =>
  wpAny_Call_NameR (hf.use ao tk i fun v s1 tk1 i1 m1 r1 => by
    subst r1
    rw [he]
    refine PySem.callWith_type rfl (Calls.evalArgs_plain (Calls.spliced_cons (h1.use ao tk1 i1 fun v2 s2 tk2 i2 m2 r2 => Calls.spliced_cons (h2.use ao tk2 i2 fun v3 s3 tk3 i3 m3 r3 => Calls.spliced_nil ?_))))
    cases r2; cases r3
    have m := (m1.trans m2).trans m3
    refine call_range_2 (wpAny_pyIter_range (IsRange.new ..) (small_one ha ha' hb hb') ?_)
    have hsz : Builtin.Range.rangeSize a b 1 = (n : Int) := by rw [rangeSize_one]; split <;> omega
    rw [hsz]
    refine hQ _ _ ?_ (m.trans ⟨(Le.push _ _).trans (.push _ _), rfl, id⟩) ?_ ?_ (Heap.get?_push_size _ rfl)
    · show 0 < s3.toks + 1; omega
    · exact new_of (m.le.trans (Le.push _ _)) (I.new (I.st i3 (Le.push _ _))) new_size
    · exact I.new (I.st i3 (Le.push _ _)))
theorem rg_range1 {x : Str} {xp pos : Pos} {e : Expr} {n : Nat} (hf : EvG w k env I (.Name x xp) (.type "range")) (h1 : Ev w k env I e (.int n)) (hb' : (n : Int) < 2 ^ 62)
    (he : starEach [e] env = [(false, eval e env)] := by rfl) : RgIt w k env I (.Call (.Name x xp) [e] [] pos) 0 n := fun A s Q ao tk i hQ =>
  wpAny_Call_NameR (hf.use ao tk i fun v s1 tk1 i1 m1 r1 => by
    subst r1
    rw [he]
    refine PySem.callWith_type rfl (Calls.evalArgs_plain (Calls.spliced_cons (h1.use ao tk1 i1 fun v2 s2 tk2 i2 m2 r2 => Calls.spliced_nil ?_)))
    cases r2
    have m := m1.trans m2
    refine call_range_1 (wpAny_pyIter_range (IsRange.new ..) (small_one (by decide) (by decide) (by omega) hb') ?_)
    have hsz : Builtin.Range.rangeSize 0 n 1 = (n : Int) := by rw [rangeSize_one]; split <;> omega
    rw [hsz]
    refine hQ _ _ ?_ (m.trans ⟨(Le.push _ _).trans (.push _ _), rfl, id⟩) ?_ ?_ (Heap.get?_push_size _ rfl)
    · show 0 < s2.toks + 1 + 1; omega
    · exact new_of (m.le.trans (Le.push _ _)) (I.new (I.st i2 (Le.push _ _))) new_size
    · exact I.new (I.st i2 (Le.push _ _)))
end

/-- the cells of a frame, seen from within a comprehension -/
theorem StD.cellAt {F : Fm} {gh : List (Addr × Obj)} {σ : Sg} {m : Str → Option Value} {μ : Nat → Value} {h h₂ g : Heap} (S : StD F gh σ m μ h) (l : Le h h₂) {c : Addr} (hc : h.get? c = none) (x : Heap.ExtBut c h₂ g)
    {j : Nat} {p : PV} {y : Str} {d : Addr} (e : σ[j]? = some (some p)) (hy : F.vars[j]? = some y) (hk : F.env.kindOf y = some .cell) (hd : F.env.cells.lookup y = some d) : ∃ v, g.IsCell d (some v) ∧ Val g p v := by
  obtain ⟨o1, o2, y', hy', b⟩ := S.var j p e
  rw [hy] at hy'
  cases hy'
  rcases b with ⟨b1, _⟩ | ⟨_, d', hd', hu⟩
  · rw [hk] at b1; cases b1
  rw [hd] at hd'
  cases hd'
  have ne : ∀ a o, h.get? a = some o → a ≠ c := fun a o ea q => by rw [q, hc] at ea; cases ea
  refine ⟨μ j, ?_, ?_⟩
  · obtain ⟨o, eo, ed⟩ := hu
    exact ⟨o, x _ _ (ne _ _ eo) (l.keep _ _ (S.ok.cells y d hd).1 eo), ed⟩
  · generalize μ j = u at o2
    cases o2 with
    | none => exact .none
    | bool b => exact .bool b
    | int i t => exact .int i t
    | str x t => exact .str x t
    | list b hb pb vb =>
      obtain ⟨o, n, eo, r⟩ := pb
      exact .list b hb ⟨o, n, x _ _ (ne _ _ eo) (l.keep _ _ hb eo), r⟩ (vb.sc o1)
    | tup => exact o1.elim

/-- what an element of a comprehension may lean on -/
structure CompI (F : Fm) (σ : Sg) (x : Str) (p : PV) (C : Addr) (J : HK) : Prop where
  own : ∀ {g}, J.p g → ∃ m v, g.Ns C m ∧ m x = some v ∧ Val g p v
  cell : ∀ {g}, J.p g → ∀ (j : Nat) (q : PV) (y : Str) (d : Addr), σ[j]? = some (some q) → F.vars[j]? = some y → F.env.kindOf y = some .cell → F.env.cells.lookup y = some d → ∃ v, g.IsCell d (some v) ∧ Val g q v

theorem ints_paired {h : Heap} {a : Int} {pz : Nat → Bool} {val : Nat → PV} {p : Value → Bool} {G : Value → Value → Prop} (hsc : ∀ i, (val i).sc) : ∀ (vs : List Value) (ys : List Value) (off : Nat),
    (∀ j v, vs[j]? = some v → ∃ t, v = Value.int (a + ((off + j : Nat) : Int)) t) → (∀ i t, p (.int (a + (i : Nat)) t) = pz i) → (∀ i t y, G (.int (a + (i : Nat)) t) y → ∃ h, Val h (val i) y) →
    Paired G (vs.filter p) ys → ValL h (((List.range' off vs.length).filter pz).map val) ys := by
  intro vs
  induction vs with
  | nil => intro ys off _ _ _ hp; cases hp; exact .nil
  | cons v vs ih =>
    intro ys off hv hpz hG hp
    obtain ⟨t, rfl⟩ := hv 0 v rfl
    have e1 := hpz off t
    have hv' : ∀ j u, vs[j]? = some u → ∃ t, u = Value.int (a + ((off + 1 + j : Nat) : Int)) t := fun j u hu => by
      obtain ⟨t', ht'⟩ := hv (j + 1) u hu
      exact ⟨t', by rw [ht']; congr 3; omega⟩
    rw [List.length_cons, List.range'_succ, List.filter_cons]
    rw [List.filter_cons, show p (Value.int (a + ((off + 0 : Nat) : Int)) t) = pz off from e1] at hp
    cases q : pz off with
    | false =>
      simp only [q, Bool.false_eq_true, if_false] at hp ⊢
      exact ih ys (off + 1) hv' hpz hG hp
    | true =>
      simp only [q, if_true] at hp ⊢
      cases hp with
      | cons g r =>
        obtain ⟨h2, hval⟩ := hG off t _ g
        exact .cons (hval.sc (hsc off)) (ih _ (off + 1) hv' hpz hG r)

theorem PlainList.pl {h : Heap} {a : Addr} {its : Array Value} (x : h.PlainList a its) : PlainL h a its := let ⟨n, e⟩ := x; ⟨_, n, e, rfl, rfl, rfl⟩

def pzV (a : Int) (pz : Nat → Bool) : Value → Bool
  | .int z _ => pz (z - a).toNat
  | _ => false
def gV (a : Int) (n : Nat) (val : Nat → PV) (v y : Value) : Prop := ∃ i t h, v = Value.int (a + (i : Nat)) t ∧ i < n ∧ Val h (val i) y
def testsOf (ifs : List Expr) (env : Env) : Sem Bool := forIn ifs true fun c r => if r = true then do let ok ← isTrue c env (eval c env); pure (ForInStep.yield ok) else pure (ForInStep.yield r)
section
variable {w : World} {k : Nat} {F : Fm} {σ : Sg} {K : Fl → Sg → Prop}
/-- the two premises of a comprehension over a range -/
structure CompOk (w : World) (F : Fm) (σ : Sg) (scope : Scope) (cl : List (Str × Addr)) (x : Str) (ifs : List Expr) (elt : Expr) (a : Int) (n : Nat) (pz : Nat → Bool) (val : Nat → PV) : Prop where
  tests : ∀ A C J i, i < n → CompI F σ x (.int (a + (i : Nat))) C J → TrK w A J (testsOf ifs (compEnvC scope cl C F.env)) fun v _ => v = pz i
  elt : ∀ A C J i, i < n → pz i = true → CompI F σ x (.int (a + (i : Nat))) C J → EvK w A (compEnvC scope cl C F.env) J elt (val i)

theorem comp_quiet {scope : Scope} {cl : List (Str × Addr)} {x : Str} {ifs : List Expr} {elt : Expr} {a : Int} {n : Nat} {pz : Nat → Bool} {val : Nat → PV} (H : CompOk w F σ scope cl x ifs elt a n pz val)
    {gh : List (Addr × Obj)} {m : Str → Option Value} {μ : Nat → Value} {A : Around} {h : Heap} {s₂ : Shared} {c : Addr} (S : StD F gh σ m μ h) (l : Le h s₂.heap) (hc : h.get? c = none) (tk : 0 < s₂.toks) :
    QuietOnC pw w A F.env scope cl x ifs elt [c] (fun i v => ∃ t, v = .int (a + i * 1) t ∧ i < n) (pzV a pz) (gV a n val) s₂ := by
  have mk : ∀ (C : Addr) (i : Nat) (t : Tok) (s₃ : Shared) (m₃ : Str → Option Value), s₃.heap.Ns C m₃ → m₃ x = some (.int (a + (i : Nat)) t) → (∀ b o, b ∉ [c] → s₂.heap.get? b = some o → s₃.heap.get? b = some o) →
      ∃ J : HK, J.p s₃.heap ∧ CompI F σ x (.int (a + (i : Nat))) C J := fun C i t s₃ m₃ hn hm hk => by
    refine ⟨⟨fun g => Heap.ExtBut c s₂.heap g ∧ g.Ns C m₃, fun {h h'} j kp => ⟨fun b o hb e => kp _ _ (j.1 b o hb e), j.2.keeps kp⟩⟩, ⟨fun b o hb e => hk b o (by simpa using hb) e, hn⟩, ?_, ?_⟩
    · rintro g ⟨_, g2⟩
      exact ⟨m₃, _, g2, hm, .int _ t⟩
    · rintro g ⟨g1, _⟩ j q y d e1 e2 e3 e4
      exact S.cellAt l hc g1 e1 e2 e3 e4
  refine ⟨fun C i v s₃ m₃ E' _ hP hn hm hk htk => ?_, fun C i v s₃ m₃ E' _ hP hp hn hm hk htk => ?_⟩
  · obtain ⟨t, rfl, hi⟩ := hP
    rw [Int.mul_one] at hm ⊢
    obtain ⟨J, hJ, HJ⟩ := mk C i t s₃ m₃ hn hm hk
    have e : (a + (i : Int) - a).toNat = i := by omega
    simp only [pzV, e]
    exact H.tests A C J i hi HJ s₃ _ _ (Nat.lt_of_lt_of_le tk htk) hJ fun v s' k r => ⟨r, k.k⟩
  · obtain ⟨t, rfl, hi⟩ := hP
    rw [Int.mul_one] at hm hp ⊢
    obtain ⟨J, hJ, HJ⟩ := mk C i t s₃ m₃ hn hm hk
    have e : (a + (i : Int) - a).toNat = i := by omega
    simp only [pzV, e] at hp
    exact H.elt A C J i hi hp HJ s₃ _ _ (Nat.lt_of_lt_of_le tk htk) hJ fun v s' k r => ⟨⟨i, t, s'.heap, rfl, hi, r⟩, k.k⟩

/-- the list that a comprehension gives -/
def compL (n : Nat) (pz : Nat → Bool) (val : Nat → PV) : List PV := ((List.range n).filter pz).map val
theorem comp_vals {h : Heap} {a : Int} {n : Nat} {pz : Nat → Bool} {val : Nat → PV} (hsc : ∀ i, (val i).sc) {vs : List Value} {ys : Array Value} (hl : vs.length = n) (hP : ∀ (j : Nat) v, vs[j]? = some v → ∃ t, v = Value.int (a + j * 1) t ∧ j < n)
    (hp : Paired (gV a n val) (vs.filter (pzV a pz)) ys.toList) : ValL h (compL n pz val) ys.toList := by
  have := ints_paired (h := h) (a := a) (pz := pz) (val := val) hsc vs ys.toList 0 (fun j v hv => by obtain ⟨t, e, _⟩ := hP j v hv; exact ⟨t, by rw [e]; simp⟩)
    (fun i t => by have e : (a + (i : Int) - a).toNat = i := by omega
                   simp only [pzV, e])
    (fun i t y ⟨i', t', h', e, _, hv⟩ => by
      injection e with e1 _
      have : i' = i := by omega
      subst this
      exact ⟨h', hv⟩) hp
  rw [hl, ← List.range_eq_range'] at this
  exact this

theorem walks_rg {A : Around} (hh : A.handled = none) (c : Addr) (a : Int) (n : Nat) : Walks pw w A c [c] [c] n (fun i v => ∃ t, v = .int (a + i * 1) t ∧ i < n) (fun i h => IsRangeIter h c (a + (i : Nat) * 1) ((n : Int) - (i : Nat)) 1) := by
  have W := Walks.range (prog := pw) (w := w) hh c a 1 n
  exact { sub := W.sub, frame := W.frame, item := fun i s Q E hi st hQ => W.item i s Q E hi st fun v h' tk ⟨t, e⟩ st' hk => hQ v h' tk ⟨t, e, hi⟩ st' hk, done := W.done, self := W.self }

theorem ev_comp {gh : List (Addr × Obj)} {scope : Scope} {cl : List (Str × Addr)} {x : Str} {px pos : Pos} {ifs : List Expr} {elt iter : Expr} {a : Int} {n : Nat} {pz : Nat → Bool} {val : Nat → PV} (hit : RgIt w k F.env (hi F gh σ) iter a n) (H : CompOk w F σ scope cl x ifs elt a n pz val)
    (hsc : ∀ i, (val i).sc) (hn : n ≤ 1000) (hclos : closureFor scope F.env = pure cl) (hcell : ∀ y ∈ scope.names, y.2 ≠ .cell) (hkind : scope.kind = .function)
    (hnames : ∀ y ∈ scope.names, y.2 = .local → scope.names.lookup y.1 = some .local) (hx : scope.names.lookup x = some .local) (hs : ∀ x, foldedSetIterable iter F.env x = pure x) :
    EvN w k F.env (hi F gh σ) (.ListComp elt [⟨.Name x px, iter, ifs, 0⟩] scope pos) (compL n pz val) := fun A s Q ao tk i hQ => by
  obtain ⟨m, μ, S⟩ := id i
  refine wpAny_ListComp_free (pzV a pz) (gV a n val) hclos hcell hkind hnames hx (hit A s _ ao tk i fun c s₂ tk₂ m₂ hc h16 hr => ?_) hs
  refine ⟨c, [c], [c], n, _, _, rfl, walks_rg ao.handled c a n, by rw [sizeLine_eq]; omega, ?_, ?_, comp_quiet H S m₂.le hc tk₂, ?_⟩
  · simpa using hr
  · intro b hb; rw [List.mem_singleton.mp hb]; exact Heap.lt_size hr
  · intro D h' tk' ys vs hD _ hpl hlen hP hF hk
    have hl : Le s.heap h' := m₂.le.moved (wr := [c]) (fun b hb => by rw [List.mem_singleton.mp hb]; exact hc) hk
    have D16 : D ≠ 16 := by
      rintro rfl
      obtain ⟨_, t⟩ := (hi F gh σ).tab ((hi F gh σ).st i m₂.le)
      rw [t.2.2] at hD; cases hD
    exact hQ _ _ ⟨hl, m₂.os, m₂.gens⟩ ⟨D, rfl, new_of m₂.le D16 hD, .list D D16 (by simpa using PlainList.pl hpl) (comp_vals hsc hlen hP hF)⟩
end
end
end Mine

/- text K3 -/
namespace Mine
section
open PySem PySem.W PyProof.Rows PySem.Calls
theorem StD.storedC {F : Fm} {gh : List (Addr × Obj)} {σ : Sg} {m : Str → Option Value} {μ : Nat → Value} {h₀ h₂ h' : Heap} (S₀ : StD F gh σ m μ h₀) (l : Le h₀ h₂) {i : Nat} {x : Str} {xs : List PV} {D c : Addr} (hx : F.vars[i]? = some x)
    (hk : F.env.kindOf x = some .local) (hp : PV.ok (.list xs)) (hv : Val h' (.list xs) (.ref D)) (hD : h₀.get? D = none) (hc : h₀.get? c = none)
    (keep : ∀ b o, b ≠ F.env.locals → b ∉ [c] → h₂.get? b = some o → h'.get? b = some o)
    (hns : h'.Ns F.env.locals (fun z => if z = x then some (.ref D) else m z)) :
    StD F gh (σ.set i (some (.list xs))) (fun z => if z = x then some (.ref D) else m z) (fun j => if j = i then .ref D else μ j) h' := by
  have S := S₀.mono l
  have nod := S.ok.nodup
  have D16 : D ≠ 16 := by cases hv; assumption
  have nc : ∀ a o, h₀.get? a = some o → a ∉ [c] := fun a o e q => by rw [List.mem_singleton.mp q, hc] at e; cases e
  have kc : ∀ a o, h₀.get? a = some o → a ≠ 16 → a ≠ F.env.locals → h'.get? a = some o := fun a o e h16 hL => keep a o hL (nc a o e) (l.keep a o h16 e)
  have le' : Le F.base h' := by
    refine ⟨fun b o hb e => ?_, fun vs t => ?_⟩
    · have e1 := S₀.le.keep b o hb e
      exact kc b o e1 hb (fun q => by rw [q, S.ok.lnew] at e; cases e)
    · obtain ⟨mr, t'⟩ := S.le.tab vs t
      obtain ⟨vt, tt⟩ := F.g.tab S₀.glo
      have h20 : (20 : Addr) ∉ [c] := by
        obtain ⟨⟨o, _, e, _⟩, _⟩ := tt.2
        exact nc _ _ e
      have h16 : (16 : Addr) ∉ [c] := nc _ _ tt.2.2
      have l20 : (20 : Addr) ≠ F.env.locals := fun q => by
        obtain ⟨⟨o, _, e, _⟩, _⟩ := t.2
        rw [q, S.ok.lnew] at e; cases e
      have l16 := S.ok.l16
      refine ⟨mr, ?_, ?_⟩
      · obtain ⟨o, vs, file, tf, flags, tg, inF, text, tt, op, ho, hd, h11, h2, h7, h9, h10, hop, hpd, htr, hne⟩ := t'.1
        exact ⟨o, vs, file, tf, flags, tg, inF, text, tt, op, keep _ _ l20 h20 ho, hd, h11, h2, h7, h9, h10, keep _ _ (Ne.symm l16) h16 hop, hpd, htr, hne⟩
      · obtain ⟨⟨o, v, e, r⟩, e2⟩ := t'.2
        exact ⟨⟨o, v, keep _ _ l20 h20 e, r⟩, keep _ _ (Ne.symm l16) h16 e2⟩
  have vk : ∀ {q : PV} {u : Value}, q.ok → Val h₀ q u → Val h' q u := fun {q u} hq hu => by
    cases hu with
    | none => exact .none
    | bool b => exact .bool b
    | int i t => exact .int i t
    | str x t => exact .str x t
    | list b hb pb vb =>
      have bL : b ≠ F.env.locals := Ns.notList S₀.ns pb
      obtain ⟨o, n, eo, r⟩ := pb
      exact .list b hb ⟨o, n, kc _ _ eo hb bL, r⟩ (vb.sc hq)
    | tup => exact hq.elim
  have ck : ∀ d v, h₀.IsCell d v → d ≠ 16 → d ≠ F.env.locals → h'.IsCell d v := fun d v ⟨o, e, r⟩ a b => ⟨o, kc _ _ e a b, r⟩
  have newne : ∀ j ys, σ[j]? = some (some (.list ys)) → μ j ≠ .ref D := fun j ys ej q => by
    obtain ⟨b, eb, o, ho⟩ := S₀.live ej
    rw [eb] at q
    cases q
    rw [hD] at ho; cases ho
  refine ⟨S.ok, le', hns, fun y d hd => ?_, fun j q e => ?_, fun j hj k xs ys e1 e2 hjk => ?_, fun j hj xs b e1 e2 => ?_, fun q hq => ?_⟩
  · obtain ⟨v, hv⟩ := S₀.cl y d hd
    obtain ⟨c1, c2, _⟩ := S.ok.cells y d hd
    exact ⟨v, ck _ _ hv c1 c2⟩
  · rcases get_set e with ⟨rfl, e'⟩ | ⟨hji, e'⟩
    · cases e'
      simp only [if_true]
      exact ⟨hp, hv, x, hx, .inl ⟨hk, by simp⟩⟩
    · obtain ⟨o1, o2, y, hy, o3⟩ := S₀.var j q e'
      simp only [if_neg hji]
      refine ⟨o1, vk o1 o2, y, hy, ?_⟩
      have hyx : y ≠ x := by
        rintro rfl
        exact hji ((List.getElem?_inj (List.getElem?_eq_some_iff.mp hy).1 nod).mp (hy.trans hx.symm))
      rcases o3 with ⟨b1, b2⟩ | ⟨b1, d, hd, hu⟩
      · exact .inl ⟨b1, by simp [hyx, b2]⟩
      · obtain ⟨c1, c2, _⟩ := S.ok.cells y d hd
        exact .inr ⟨b1, d, hd, ck _ _ hu c1 c2⟩
  · rcases get_set e1 with ⟨rfl, f1⟩ | ⟨h1, f1⟩ <;> rcases get_set e2 with ⟨rfl, f2⟩ | ⟨h2, f2⟩
    · exact (hjk rfl).elim
    · simp only [if_true, if_neg h2]
      exact fun q => newne k ys f2 q.symm
    · simp only [if_true, if_neg h1]
      exact newne j xs f1
    · simp only [if_neg h1, if_neg h2]
      exact S₀.sep j hj k xs ys f1 f2 hjk
  · rcases get_set e1 with ⟨rfl, f1⟩ | ⟨h1, f1⟩
    · simp only [if_true] at e2
      cases e2
      exact new_of S₀.le D16 hD
    · simp only [if_neg h1] at e2
      exact S₀.own j hj xs b f1 e2
  · obtain ⟨g1, g2, g3, g4, g5⟩ := S₀.gho q hq
    refine ⟨kc _ _ g1 g2 g3, g2, g3, g4, fun j hj xs e => ?_⟩
    rcases get_set e with ⟨rfl, f1⟩ | ⟨h1, f1⟩
    · simp only [if_true]
      intro q'
      cases q'
      rw [g1] at hD; cases hD
    · simp only [if_neg h1]
      exact g5 j hj xs f1

section
variable {w : World} {k : Nat} {F : Fm} {σ : Sg} {K : Fl → Sg → Prop}
theorem ex_comp {scope : Scope} {cl : List (Str × Addr)} {x y : Str} {px py pos spos : Pos} {ifs : List Expr} {elt iter : Expr} {a : Int} {n : Nat} {pz : Nat → Bool} {val : Nat → PV} (i : Nat) (hit : ∀ gh, RgIt w k F.env (hi F gh σ) iter a n)
    (H : CompOk w F σ scope cl x ifs elt a n pz val) (hk : K .next (σ.set i (some (.list (compL n pz val)))))
    (hsc : ∀ i, (val i).sc) (hn : n ≤ 1000) (hy : F.vars[i]? = some y) (hyk : F.env.kindOf y = some .local) (hclos : closureFor scope F.env = pure cl) (hcell : ∀ y ∈ scope.names, y.2 ≠ .cell) (hkind : scope.kind = .function)
    (hnames : ∀ y ∈ scope.names, y.2 = .local → scope.names.lookup y.1 = some .local) (hx : scope.names.lookup x = some .local) (hs : ∀ x, foldedSetIterable iter F.env x = pure x)
    (hsw : swapsWith (.ListComp elt [⟨.Name x px, iter, ifs, 0⟩] scope pos) (some (.Name y py)) spos.line F.env = pure true) :
    Ex w k F σ (exec (.Assign [.Name y py] (.ListComp elt [⟨.Name x px, iter, ifs, 0⟩] scope pos) spos) F.env) K := fun gh A s Q ao tk i' hQ => by
  obtain ⟨m, μ, S⟩ := id i'
  refine wpAny_Assign_ListComp_free (pzV a pz) (gV a n val) hsw hclos hcell hkind hnames hx hyk (by rw [S.ok.kind]; rfl) (hit gh A s _ ao tk i' fun c s₂ tk₂ m₂ hc h16 hr => ?_) hs
  have Lc : F.env.locals ∉ [c] := fun q => by
    obtain ⟨o, _, _, e, _⟩ := S.ns
    rw [List.mem_singleton.mp q, hc] at e; cases e
  refine ⟨c, [c], [c], n, _, _, m, rfl, walks_rg ao.handled c a n, by rw [sizeLine_eq]; omega, by simpa using hr, ?_, Lc, (S.mono m₂.le).ns, comp_quiet H S m₂.le hc tk₂, ?_⟩
  · intro b hb; rw [List.mem_singleton.mp hb]; exact Heap.lt_size hr
  · intro D h' tk' ys vs hD _ hpl hlen hP hF hns hk'
    have D16 : D ≠ 16 := by
      rintro rfl
      obtain ⟨_, t⟩ := (hi F gh σ).tab ((hi F gh σ).st i' m₂.le)
      rw [t.2.2] at hD; cases hD
    have hsc' : PV.ok (.list (compL n pz val)) := fun q hq => by
      obtain ⟨j, _, rfl⟩ := List.mem_map.mp hq
      exact hsc j
    refine hQ _ _ .next _ hk ⟨_, _, S.storedC m₂.le hy hyk hsc' (.list D D16 (by simpa using PlainList.pl hpl) (comp_vals hsc hlen hP hF)) (new_of m₂.le D16 hD) hc hk' hns⟩ ⟨m₂.os, m₂.gens⟩ trivial

/-- a comprehension over a list of texts held by a name -/
theorem ev_compS {gh : List (Addr × Obj)} {scope : Scope} {x : Str} {px pos : Pos} {elt iter : Expr} {ts : List (List Nat)} (f : List Nat → List Nat) (hit : Ev w k F.env (hi F gh σ) iter (.list (txs ts)))
    (H : ∀ A C J l, l ∈ ts → (∀ {g}, J.p g → ∃ m v, g.Ns C m ∧ m x = some v ∧ Val g (.str (S l)) v) → EvK w A (compEnvC scope [] C F.env) J elt (.str (S (f l))))
    (hn : ts.length ≤ 1000) (hclos : closureFor scope F.env = pure []) (hcell : ∀ y ∈ scope.names, y.2 ≠ .cell) (hkind : scope.kind = .function)
    (hnames : ∀ y ∈ scope.names, y.2 = .local → scope.names.lookup y.1 = some .local) (hx : scope.names.lookup x = some .local) (hs : ∀ x, foldedSetIterable iter F.env x = pure x) :
    EvN w k F.env (hi F gh σ) (.ListComp elt [⟨.Name x px, iter, [], 0⟩] scope pos) (txs (ts.map f)) := fun A s Q ao tk i' hQ => by
  refine wpAny_ListComp_free (fun _ => true) (fun v y => ∃ l t u, v = Value.str (S l) t ∧ l ∈ ts ∧ y = Value.str (S (f l)) u) hclos hcell hkind hnames hx ?_ hs
  refine hit.use ao tk i' fun v s1 tk1 i1 m1 r1 => ?_
  cases r1 with
  | list b b16 pb vb =>
    rename_i vs
    have hlen : vs.length = ts.length := by rw [vb.length, txs_len]
    have bl : b < s1.heap.objs.size := let ⟨o, _, e, _⟩ := pb; Heap.lt_size e
    have nI := (hi F gh σ).new i1
    refine wpAny_pyIter_list pb.isList ⟨s1.heap.objs.size, [s1.heap.objs.size, b], [s1.heap.objs.size], vs.toArray.size, _, _, rfl, Walks.list ao.handled _ b (Nat.ne_of_lt bl) vs.toArray, by rw [sizeLine_eq, List.size_toArray]; omega,
      ⟨⟨_, Heap.get?_push_size _ rfl, rfl, rfl⟩, pb.isList.push _⟩, ?_, ⟨?_, ?_⟩, ?_⟩
    · intro c hc
      show c < (s1.heap.push _).objs.size
      rw [Heap.size_push]
      rcases List.mem_cons.mp hc with rfl | hc
      · exact Nat.lt_succ_self _
      · rw [List.mem_singleton.mp hc]; exact Nat.lt_succ_of_lt bl
    · intro C i v s₃ m₃ E' _ hP hn' hm hk htk
      exact wpAny_pure ⟨rfl, s₃.heap, s₃.toks, rfl, fun _ _ e => e⟩
    · intro C i v s₃ m₃ E' _ hP _ hn' hm hk htk
      obtain ⟨t, hi, rfl⟩ := vals_get vb i v (by simpa using hP)
      have hmem : ts.getD i [] ∈ ts := by
        rw [List.getD_eq_getElem?_getD, List.getElem?_eq_getElem hi]; exact List.getElem_mem hi
      refine H A C ⟨fun g => g.Ns C m₃, fun j kp => j.keeps kp⟩ _ hmem (fun {g} j => ⟨m₃, _, j, hm, .str _ t⟩) s₃ _ _ (Nat.lt_of_lt_of_le tk1 htk) hn' fun v s' k r => ?_
      cases r
      exact ⟨⟨_, t, _, rfl, hmem, rfl⟩, k.k⟩
    · intro D h' tk' ys us hD _ hpl hlen' hP hF hk
      have m2 : Mv s { s1 with heap := s1.heap.push { cls := .type "list_iterator", data := .fields #[.ref b, .int 0 0] } } := m1.trans ⟨.push _ _, rfl, id⟩
      have hl : Le s.heap h' := m2.le.moved (wr := [s1.heap.objs.size]) (fun c hc => by rw [List.mem_singleton.mp hc]; exact new_of m1.le nI new_size) hk
      have D16 : D ≠ 16 := by
        rintro rfl
        obtain ⟨_, t⟩ := (hi F gh σ).tab ((hi F gh σ).st i' m2.le)
        have hD' : (s1.heap.push { cls := .type "list_iterator", data := .fields #[.ref b, .int 0 0] }).get? 16 = none := hD
        rw [t.2.2] at hD'; cases hD'
      refine hQ _ _ ⟨hl, m1.os, m1.gens⟩ ⟨D, rfl, new_of m2.le D16 hD, .list D D16 (vs := ys.toList) (by simpa using PlainList.pl hpl) ?_⟩
      -- the values
      have hus : us = vs := by
        apply List.ext_getElem?
        intro j
        by_cases hj : j < us.length
        · have := hP j us[j] (List.getElem?_eq_getElem hj)
          rw [List.getElem?_eq_getElem hj]
          simpa using this.symm
        · rw [List.getElem?_eq_none (by omega), List.getElem?_eq_none (by simp at hlen'; omega)]
      have ft : us.filter (fun _ => true) = vs := by rw [hus]; exact List.filter_eq_self.mpr (fun _ _ => rfl)
      rw [ft] at hF
      have gen : ∀ {ts' : List (List Nat)} {vs' ys' : List Value}, ValL s1.heap (txs ts') vs' → Paired (fun v y => ∃ l t u, v = Value.str (S l) t ∧ l ∈ ts ∧ y = Value.str (S (f l)) u) vs' ys' → ValL h' (txs (ts'.map f)) ys' := by
        intro ts'
        induction ts' with
        | nil => intro vs' ys' hv hp; cases hv; cases hp; exact .nil
        | cons l ts' ih =>
          intro vs' ys' hv hp
          cases hv with
          | cons a b =>
            cases hp with
            | cons c d =>
              cases a
              obtain ⟨l', t, u, e1, _, rfl⟩ := c
              injection e1 with e1 _
              have : l = l' := by
                have := congrArg (fun s => s.cps.toList) e1
                simpa [S] using this
              subst this
              exact .cons (.str _ u) (ih b d)
      exact gen vb hF
end
end
end Mine

/- text R1 -/
namespace Mine
section
open PySem PySem.W PyProof.Rows PySem.Calls
section
variable {w : World} {k : Nat} {env : Env} {I : HI}
theorem ev_fnStar {x : Str} {xp sp pos : Pos} {e : Expr} {a cd : Addr} {i : Nat} {xs : List PV} {p : PV} (hI : ∀ {h}, I.p h → GloP h) (hft : (a, cd, i) ∈ ftab) (hf : EvG w k env I (.Name x xp) (.ref a)) (hc : Fn w k a xs p) (h : Ev w k env I e (.list xs))
    (hs : xs.length ≤ 1000) : Ev w k env I (.Call (.Name x xp) [.Starred e sp] [] pos) p := fun A s Q ao tk i' hQ =>
  wpAny_Call_NameR (hf.use ao tk i' fun v s1 tk1 i1 m1 r1 => by
    subst r1
    obtain ⟨⟨o, pm, doc, eo, d⟩, _⟩ := (hI i1).fns _ hft
    refine callWith_function (o := o) (fd := docDef (fName i) (fArgs i) (fBody i) (fScope i) pm (.ref cd) doc) ?_
    rw [arm_starEach_Starred]
    refine ks_lone (h.use ao tk1 i1 fun v2 s2 tk2 i2 m2 r2 => ?_)
    cases r2 with
    | list l l16 pl vl =>
      rename_i vs
      have hlen := vl.length
      obtain ⟨ol, nl, e1, e2, e3, e4⟩ := id pl
      have hT : s2.TypeIs (.ref l) "list" := ⟨ol, e1, e2⟩
      unfold StarOf notIterableAtAll
      refine wpAny_bind (wpAny_specialOf hT PySem.F.slot_list_iter.lookup (wpAny_pure ⟨rfl, ?_⟩))
      refine wpAny_collect_seq l (.inl rfl) e1 e2 e4 (fun h' hk => ?_) (by rw [List.size_toArray, hlen, sizeLine_eq]; omega)
      have le : Le s2.heap h' := .of_keep hk
      refine ⟨⟨hk _ _ (m2.le.keep _ _ (ftab_ne _ hft).1 eo), d⟩, ?_⟩
      exact hc A { s2 with heap := h' } vs Q ao tk2 (hI (I.st i2 le)) (ValL.le le vl) fun v s' m hv => hQ v s' ((m1.trans m2).trans (Mv.trans (b := { s2 with heap := h' }) ⟨le, rfl, id⟩ m)) hv)
end

abbrev wvars : List Str := ["script", "size", "look", "opening", "closing", "depths", "lifted", "dress", "drawn", "deep", "below", "blanks", "words", "name", "texts", "higher", "hung", "parts", "text", "first", "ahead", "cut", "runs", "limit", "far", "pair"]
def wF (L : Addr) (base : Heap) : Fm := { env := envOfC (fName 12) (fScope 12) L 61 (.ref 60), base := base, vars := wvars, own := [5, 6, 7, 14], g := GloI }
theorem wF_glo {L : Addr} {base : Heap} {gh : List (Addr × Obj)} {σ : Sg} {h : Heap} (x : (hi (wF L base) gh σ).p h) : GloP h := let ⟨_, _, S⟩ := x; S.glo
def wst0 (xs : List PV) : Sg := some (.list xs) :: List.replicate 25 none

theorem wkinds : ∀ x ∈ wvars, (fScope 12).names.lookup x = some .local ∨ ((fScope 12).names.lookup x = some .cell ∧ ((cellsFrom 0 (fScope 12).names []).lookup x).isSome = true) := by decide
theorem wnodup : wvars.Nodup := by decide
theorem wscript : (fScope 12).names.lookup ("script" : Str) = some .local := by decide
theorem cells_shift (n : Nat) : ∀ (names : List (Str × NameKind)) (acc acc' : List (Str × Addr)) (x : Str), (acc.lookup x).isSome = (acc'.lookup x).isSome → ∀ k, ((cellsFrom n names acc).lookup x).isSome = ((cellsFrom k names acc').lookup x).isSome
  := by
  intro names
  induction names generalizing n with
  | nil => intro acc acc' x h k; exact h
  | cons y r ih =>
    intro acc acc' x h k
    obtain ⟨nm, kd⟩ := y
    simp only [cellsFrom]
    split
    · refine ih (n + 1) _ _ x ?_ (k + 1)
      simp only [List.lookup_cons]
      split <;> simp_all
    · exact ih n _ _ x h k

end
end Mine

/- text R2 -/
namespace Mine
section
open PySem PySem.W PyProof.Rows PySem.Calls
/- plain functions of the law -/
def opL : Nat → List Nat
  | 0 => [40]
  | 1 => [47]
  | 2 => [58]
  | _ => [34]
def clL : Nat → List Nat
  | 0 => [41]
  | 1 => [92]
  | 2 => [59]
  | _ => [34]
def lastI (l : List Int) : Int := l.getD (l.length - 1) 0
structure Tree where
  ds : List Int
  ls : List Int
  ks : List Nat
def deepF (t : Tree) (dr : Int) : Int := 1 + dr.fmod (lastI t.ds + 1)
def liftF (t : Tree) (dr : Int) : Int := if 1 < deepF t dr ∧ ((dr.fdiv 60).fmod 2 = 1 ∨ lastI t.ls * (deepF t dr - lastI t.ds) = 1) then 1 else 0
def stepT (t : Tree) (dr : Int) : Tree := ⟨t.ds ++ [deepF t dr], t.ls ++ [liftF t dr], t.ks ++ [((dr.fdiv 120).fmod 8).toNat]⟩
def t0 : Tree := ⟨[0], [0], [0]⟩
def drawsF (xs : List Int) : List Int := [480, 301 - 60 * ((xs.length : Int).fmod 2)] ++ xs.take 3
def treeF (xs : List Int) : Tree := (drawsF xs).foldl stepT t0
structure TInv (j : Nat) (t : Tree) : Prop where
  dl : t.ds.length = j + 1
  ll : t.ls.length = j + 1
  kl : t.ks.length = j + 1
  d0 : ∀ i, 0 ≤ t.ds.getD i 0
  dj : ∀ i, t.ds.getD i 0 ≤ j
  l01 : ∀ i, t.ls.getD i 0 = 0 ∨ t.ls.getD i 0 = 1
  k8 : ∀ i, t.ks.getD i 0 < 8
theorem getD_snoc {α : Type} (l : List α) (x d : α) (i : Nat) : (l ++ [x]).getD i d = if i < l.length then l.getD i d else if i = l.length then x else d := by
  simp only [List.getD_eq_getElem?_getD, List.getElem?_append]
  split
  · rfl
  · split
    · rename_i h; subst h; simp
    · rw [List.getElem?_eq_none (by simp; omega)]; rfl
theorem tinv0 : TInv 0 t0 := ⟨rfl, rfl, rfl, fun i => by cases i <;> simp [t0], fun i => by cases i <;> simp [t0], fun i => by cases i <;> simp [t0], fun i => by cases i <;> simp [t0]⟩
theorem deepF_bounds {j : Nat} {t : Tree} (h : TInv j t) (dr : Int) : 1 ≤ deepF t dr ∧ deepF t dr ≤ lastI t.ds + 1 := by
  have h0 := h.d0 (t.ds.length - 1)
  have h1 := Int.fmod_nonneg_of_pos dr (b := lastI t.ds + 1) (by unfold lastI; omega)
  have h2 := Int.fmod_lt_of_pos dr (b := lastI t.ds + 1) (by unfold lastI; omega)
  unfold deepF; omega
theorem tinv_step {j : Nat} {t : Tree} (h : TInv j t) (dr : Int) : TInv (j + 1) (stepT t dr) := by
  obtain ⟨b1, b2⟩ := deepF_bounds h dr
  have hl : lastI t.ds ≤ j := h.dj _
  refine ⟨by simp [stepT, h.dl], by simp [stepT, h.ll], by simp [stepT, h.kl], fun i => ?_, fun i => ?_, fun i => ?_, fun i => ?_⟩
  · simp only [stepT, getD_snoc]; split
    · exact h.d0 i
    · split <;> omega
  · simp only [stepT, getD_snoc]; split
    · have := h.dj i; omega
    · split <;> omega
  · simp only [stepT, getD_snoc]; split
    · exact h.l01 i
    · split
      · unfold liftF; split <;> simp
      · simp
  · simp only [stepT, getD_snoc]; split
    · exact h.k8 i
    · split
      · have := Int.fmod_lt_of_pos (dr.fdiv 120) (b := 8) (by decide)
        have := Int.fmod_nonneg_of_pos (dr.fdiv 120) (b := 8) (by decide)
        omega
      · decide
theorem tinv_fold : ∀ (l : List Int) (j : Nat) (t : Tree), TInv j t → TInv (j + l.length) (l.foldl stepT t)
  | [], j, t, h => h
  | x :: l, j, t, h => by
    have := tinv_fold l (j + 1) _ (tinv_step h x)
    rw [List.length_cons, List.foldl_cons, show j + (l.length + 1) = j + 1 + l.length by omega]
    exact this
theorem nms_last (l : List Int) (h : l.length ≠ 0) : (nms l)[(nms l).length - 1]? = some (.int (lastI l)) := by
  rw [nms_len]
  exact nms_get l _ (by omega)
theorem nms_snoc (l : List Int) (x : Int) : nms l ++ [.int x] = nms (l ++ [x]) := by simp [nms]
abbrev lettersL : List Nat := [97, 66, 51, 46, 101, 90, 97, 66, 51, 46, 101, 90]
def blanksF (n : Nat) : List Int := [((n : Int).fdiv 4).fmod 2, 2, 0, 0, 0, 0]
def wordAt (n i : Nat) : List Nat := [lettersL.getD (n % 6 + i) 0] ++ reps ((blanksF n).getD i 0) [32]
def wordsF (n m : Nat) : List (List Nat) := (List.range m).map (wordAt n)
def nameF (ws : List (List Nat)) : List Nat := joinL [45] (ws.map (rp [32] [95] 0))

abbrev lawSt (sc : List Int) (n : Nat) (look : Int) (kd : Nat) (t : Tree) (dr de be : Option PV) (rest : Sg) : Sg :=
  some (.list (nms sc)) :: some (.int n) :: some (.int look) :: some (.str (S (opL kd))) :: some (.str (S (clL kd))) :: some (.list (nms t.ds)) :: some (.list (nms t.ls)) :: some (.list (nms (t.ks.map Int.ofNat))) :: dr :: de :: be :: rest
def drawFor : Option Stmt := (fBody 12)[6]?

section
variable {w : World} {L : Addr} {base : Heap} {K : Fl → Sg → Prop}
set_option maxHeartbeats 1000000 in
theorem law_draws (xs : List Int) (look : Int) (kd : Nat) (rest' : Sg) {rest : List Stmt} (hx : xs.length ≤ 63)
    (hk : ∀ dr de be, Ex w 9 (wF L base) (lawSt xs xs.length look kd (treeF xs) dr de be rest') (execs rest (wF L base).env) K)
    {t i : Expr} {body : List Stmt} {pos : Pos} (ht : drawFor = some (.For t i body [] pos)) :
    Ex w 9 (wF L base) (lawSt xs xs.length look kd t0 none none none rest') (execs (.For t i body [] pos :: rest) (wF L base).env) K := by
  cases ht
  have hd : (drawsF xs).length ≤ 5 := by simp [drawsF]; omega
  have fm := fmod2 (xs.length : Int)
  refine ex_cons (ex_for 8 (nms (drawsF xs)).length (fun j => (nms (drawsF xs)).getD j .none) (fun j τ => ∃ dr de be, τ = lawSt xs xs.length look kd (((drawsF xs).take j).foldl stepT t0) dr de be rest') (fun gh => evit_listN ?_ ints_sc) ⟨none, none, none, rfl⟩ ?_ ?_ ?_)
  · have e : nms (drawsF xs) = [.int 480, .int (301 - 60 * ((xs.length : Int).fmod 2))] ++ (nms xs).take 3 := by simp [nms, drawsF]
    rw [e]
    refine ev_lcat (EvN.ev (ev_list (evl_cons ev_int (evl_cons ?_ evl_nil)) (by rw [sizeLine_eq]; simp))) (EvN.ev (ev_ltake (n := 3) (ev_var 0) ev_int ?_)) ?_
    · exact ev_sub ev_int (ev_mul ev_int (ev_mod (ev_var 1) ev_int (by decide)) (.of_left (by decide)))
    · rw [nms_len, sizeLine_eq]; omega
    · rw [sizeLine_eq]; simp; omega
  · rintro j τ hj ⟨dr, de, be, rfl⟩
    rw [nms_len] at hj
    have inv : TInv j (((drawsF xs).take j).foldl stepT t0) := by
      have := tinv_fold ((drawsF xs).take j) 0 t0 tinv0
      rw [List.length_take, Nat.min_eq_left (by omega), Nat.zero_add] at this
      exact this
    have et : ((drawsF xs).take (j + 1)).foldl stepT t0 = stepT (((drawsF xs).take j).foldl stepT t0) (drawsF xs)[j] := by
      rw [List.take_add_one, List.getElem?_eq_getElem hj, List.foldl_append]; rfl
    have ei : (nms (drawsF xs)).getD j .none = .int (drawsF xs)[j] := by
      rw [List.getD_eq_getElem?_getD, nms_get _ _ hj]
      simp [List.getD_eq_getElem?_getD, hj]
    rw [ei, et]
    generalize (drawsF xs)[j] = d at *
    generalize ((drawsF xs).take j).foldl stepT t0 = tr at *
    obtain ⟨b1, b2⟩ := deepF_bounds inv d
    have q0 : 0 ≤ lastI tr.ds := inv.d0 _
    have q1 : lastI tr.ds ≤ j := inv.dj _
    have q2 : lastI tr.ls = 0 ∨ lastI tr.ls = 1 := inv.l01 _
    have dl := inv.dl
    have ll := inv.ll
    have kl := inv.kl
    refine ex_cons (ex_assign (p := .int (deepF tr d)) 9 (fun gh => ev_add ev_int (ev_mod (ev_var 8) (ev_add (ev_last (ev_var 5) (by rw [nms_len]; omega) (nms_last _ (by omega))) ev_int) (by omega))) ?_)
    refine ex_cons (ex_assign (p := .int (lastI tr.ls * (deepF tr d - lastI tr.ds))) 10 (fun gh => ev_mul (ev_last (ev_var 6) (by rw [nms_len]; omega) (nms_last _ (by omega))) (ev_sub (ev_var 9) (ev_last (ev_var 5) (by rw [nms_len]; omega) (nms_last _ (by omega)))) (.of_left (intBits_le_64 (by omega) (by omega)))) ?_)
    refine ex_cons (ex_append (xs := nms tr.ls) (p := .int (liftF tr d)) 6 (.tail _ (.head _)) (fun gh => ?_) ?_ (by rw [nms_len, sizeLine_eq]; omega))
    · refine ev_ite (b := decide (1 < deepF tr d) && (((d.fdiv 60).fmod 2 == 1 || (lastI tr.ls * (deepF tr d - lastI tr.ds) == 1 || false)) && true))
        (te_boolop (tea_cons (te_cmp (ev_var 9) ev_int op_gt) fun _ => tea_cons (te_boolop (teo_cons (te_cmp (ev_mod (ev_fdiv (ev_var 8) ev_int (by decide) (by decide)) ev_int (by decide)) ev_int op_eq) fun _ => teo_cons (te_cmp (ev_var 10) ev_int op_eq) fun _ => teo_nil)) fun _ => tea_nil)) (fun h => ?_) (fun h => ?_)
      · have : liftF tr d = 1 := by
          unfold liftF; rw [if_pos]; simp at h; exact ⟨h.1, h.2⟩
        rw [this]; exact ev_int
      · have : liftF tr d = 0 := by
          unfold liftF; rw [if_neg]; simp at h; intro q; have := h q.1; omega
        rw [this]; exact ev_int
    · rw [nms_snoc]
      refine ex_cons (ex_append (xs := nms tr.ds) (p := .int (deepF tr d)) 5 (.head _) (fun gh => ev_var 9) ?_ (by rw [nms_len, sizeLine_eq]; omega))
      rw [nms_snoc]
      have k8 := Int.fmod_nonneg_of_pos (d.fdiv 120) (b := 8) (by decide)
      refine ex_cons (ex_append (xs := nms (tr.ks.map Int.ofNat)) (p := .int ((d.fdiv 120).fmod 8)) 7 (.tail _ (.tail _ (.head _))) (fun gh => ev_mod (ev_fdiv (ev_var 8) ev_int (by decide) (by decide)) ev_int (by decide)) ?_ (by rw [nms_len, sizeLine_eq]; simp; omega))
      refine ex_nil ⟨some (.int d), some (.int (deepF tr d)), some (.int (lastI tr.ls * (deepF tr d - lastI tr.ds))), ?_⟩
      have ek : nms (tr.ks.map Int.ofNat) ++ [PV.int ((d.fdiv 120).fmod 8)] = nms ((stepT tr d).ks.map Int.ofNat) := by
        simp only [stepT, List.map_append, nms, List.map_cons, List.map_nil]
        congr 3
        show (d.fdiv 120).fmod 8 = (((d.fdiv 120).fmod 8).toNat : Int)
        omega
      rw [ek]
      rfl
  · rintro τ ⟨dr, de, be, rfl⟩
    rw [nms_len, List.take_length]
    exact hk dr de be
  · intro j
    rw [List.getD_eq_getElem?_getD]
    cases h : (nms (drawsF xs))[j]? with
    | none => trivial
    | some p => exact ints_sc p (List.mem_of_getElem? h)
end
end
end Mine

/- text R3 -/
namespace Mine
section
open PySem PySem.W PyProof.Rows PySem.Calls
abbrev tail7 : Sg := [none, none, none, none, none, none, none, none, none, none, none, none, none, none, none]
theorem fmodN (n m : Nat) (h : m ≠ 0) : ((n : Int).fmod (m : Int)) = ((n % m : Nat) : Int) := by
  rw [Int.fmod_eq_emod_of_nonneg _ (by omega)]; omega
theorem fdivN (n m : Nat) : ((n : Int).fdiv (m : Int)) = ((n / m : Nat) : Int) := by
  rw [Int.fdiv_eq_ediv_of_nonneg _ (by omega)]; omega
theorem blanks_len (n : Nat) : (blanksF n).length = 6 := rfl
theorem blanks_bd (n i : Nat) : 0 ≤ (blanksF n).getD i 0 ∧ (blanksF n).getD i 0 ≤ 2 := by
  have := fmod2 ((n : Int).fdiv 4)
  match i with
  | 0 => show 0 ≤ ((n : Int).fdiv 4).fmod 2 ∧ ((n : Int).fdiv 4).fmod 2 ≤ 2; omega
  | 1 => show (0 : Int) ≤ 2 ∧ (2 : Int) ≤ 2; decide
  | 2 => show (0 : Int) ≤ 0 ∧ (0 : Int) ≤ 2; decide
  | 3 => show (0 : Int) ≤ 0 ∧ (0 : Int) ≤ 2; decide
  | 4 => show (0 : Int) ≤ 0 ∧ (0 : Int) ≤ 2; decide
  | 5 => show (0 : Int) ≤ 0 ∧ (0 : Int) ≤ 2; decide
  | i + 6 => show (0 : Int) ≤ 0 ∧ (0 : Int) ≤ 2; decide
theorem wordAt_len (n i : Nat) : (wordAt n i).length ≤ 3 := by
  have := blanks_bd n i
  simp only [wordAt, List.length_append, reps_len, List.length_cons, List.length_nil]; omega
def wordsStmt : Option Stmt := (fBody 12)[8]?
def nameStmt : Option Stmt := (fBody 12)[9]?

section
variable {w : World} {L : Addr} {base : Heap}
theorem words_ok {xs : List Int} {look : Int} {kd : Nat} {t : Tree} {dr de be : Option PV} {rest : Sg} {m : Nat} (hm : m ≤ 6) {y : Str} {py px pos spos : Pos} {x : Str} {elt iter : Expr} {scope : Scope}
    (hw : wordsStmt = some (.Assign [.Name y py] (.ListComp elt [⟨.Name x px, iter, [], 0⟩] scope pos) spos)) :
    CompOk w (wF L base) (lawSt xs xs.length look kd t dr de be (some (.list (nms (blanksF xs.length))) :: rest)) scope [("size", L + 1), ("blanks", L + 1 + 1 + 1 + 1)] x [] elt 0 m (fun _ => true) (fun i => .str (S (wordAt xs.length i))) := by
  cases hw
  refine ⟨fun A C J i hi HJ => ?_, fun A C J i hi _ HJ => ?_⟩
  · intro s Q E tk hJ hQ
    exact wpAny_pure (hQ _ _ .rfl' rfl)
  · have hb := blanks_bd xs.length i
    have e1 : ((xs.length : Int).fmod 6 + (0 + (i : Nat))) = ((xs.length % 6 + i : Nat) : Int) := by
      have := fmodN xs.length 6 (by decide)
      rw [show ((6 : Nat) : Int) = 6 from rfl] at this
      rw [this]; omega
    have h12 : xs.length % 6 + i < lettersL.length := by show _ < 12; omega
    unfold wordAt
    refine k_cat (x := [lettersL.getD (xs.length % 6 + i) 0]) ?_ ?_ ?_
    · refine k_sidx (l := lettersL) (n := xs.length % 6 + i) ?_ ?_ (by omega) ?_
      · have : lettersL = reps 2 [97, 66, 51, 46, 101, 90] := by decide
        rw [this]
        exact k_rep (k_strS (l := [97, 66, 51, 46, 101, 90])) k_int (by decide) (by decide) (by decide)
      · rw [← e1]
        refine k_add (k_mod ?_ k_int (by decide)) ?_
        · exact k_cell (c := L + 1) rfl rfl rfl (fun {g} j => HJ.cell j 1 _ "size" _ rfl rfl rfl rfl)
        · exact k_local rfl rfl (fun {g} j => HJ.own j)
      · rw [List.getD_eq_getElem?_getD, List.getElem?_eq_getElem h12]; rfl
    · refine k_rep (k_strS (l := [32])) ?_ (by decide) (by omega) (by omega)
      refine k_idx (xs := nms (blanksF xs.length)) (n := 0 + (i : Nat)) ?_ ?_ (by omega) (by omega) ?_
      · exact k_cell (c := L + 1 + 1 + 1 + 1) rfl rfl rfl (fun {g} j => HJ.cell j 11 _ "blanks" _ rfl rfl rfl rfl)
      · exact k_local rfl rfl (fun {g} j => HJ.own j)
      · rw [show (0 + (i : Int)).toNat = i by omega]
        exact nms_get _ _ (by rw [blanks_len]; omega)
    · simp only [reps_len, List.length_cons, List.length_nil]; omega
end
end
end Mine

/- text R4 -/
namespace Mine
section
open PySem PySem.W PyProof.Rows PySem.Calls
abbrev nones : Nat → Sg
  | 0 => []
  | n + 1 => none :: nones n
def blanksStmt : Option Stmt := (fBody 12)[7]?
theorem words_txs (n m : Nat) : compL m (fun _ => true) (fun i => PV.str (S (wordAt n i))) = txs (wordsF n m) := by
  unfold compL wordsF txs
  rw [List.filter_eq_self.mpr (fun _ _ => rfl), List.map_map]
  rfl
theorem wordsF_len (n m : Nat) : (wordsF n m).length = m := by simp [wordsF]
theorem mem_words {n m : Nat} {l : List Nat} (h : l ∈ wordsF n m) : l.length ≤ 3 := by
  obtain ⟨i, _, rfl⟩ := List.mem_map.mp h
  exact wordAt_len n i
section
variable {w : World} {L : Addr} {base : Heap} {K : Fl → Sg → Prop}
theorem law_blanks (xs : List Int) (look : Int) (kd : Nat) (t : Tree) (dr de be : Option PV) (x0 : Option PV) (rest' : Sg) {rest : List Stmt} 
    (hk : Ex w 9 (wF L base) (lawSt xs xs.length look kd t dr de be (some (.list (nms (blanksF xs.length))) :: rest')) (execs rest (wF L base).env) K)
    {st : Stmt} (ht : blanksStmt = some st) :
    Ex w 9 (wF L base) (lawSt xs xs.length look kd t dr de be (x0 :: rest')) (execs (st :: rest) (wF L base).env) K := by
  cases ht
  refine ex_cons (ex_assignN (xs := nms (blanksF xs.length)) 11 (fun gh => ?_) ?_ ints_sc)
  · refine ev_list (ps := nms (blanksF xs.length)) ?_ (by rw [sizeLine_eq]; simp [nms, blanksF])
    refine evl_cons ?_ ?_
    · exact ev_mod (ev_fdiv (ev_var 1) ev_int (by decide) (by decide)) ev_int (by decide)
    · refine evl_cons ev_int ?_
      refine evl_cons ev_int ?_
      refine evl_cons ev_int ?_
      refine evl_cons ev_int ?_
      exact evl_cons ev_int evl_nil
  · exact hk
theorem law_words (xs : List Int) (look : Int) (kd : Nat) (t : Tree) (dr de be : Option PV) (x0 : Option PV) (rest' : Sg) {rest : List Stmt} (hm : t.ds.length ≤ 6)
    (hk : Ex w 9 (wF L base) (lawSt xs xs.length look kd t dr de be (some (.list (nms (blanksF xs.length))) :: some (.list (txs (wordsF xs.length t.ds.length))) :: rest')) (execs rest (wF L base).env) K)
    {st : Stmt} (ht : wordsStmt = some st) :
    Ex w 9 (wF L base) (lawSt xs xs.length look kd t dr de be (some (.list (nms (blanksF xs.length))) :: x0 :: rest')) (execs (st :: rest) (wF L base).env) K := by
  cases ht
  refine ex_cons (ex_comp (n := t.ds.length) (a := 0) (pz := fun _ => true) (val := fun i => .str (S (wordAt xs.length i))) 12 (fun gh => rg_range1 (ev_bi wF_glo rfl rfl rfl rfl rfl (by decide) rfl) (ev_lenL (ev_bi wF_glo rfl rfl rfl rfl rfl (by decide) rfl) (ev_var 5) (nms_len _) (by rw [nms_len]; omega)) (by omega))
    (words_ok hm rfl) ?_ (fun _ => trivial) (by omega) rfl rfl rfl (by decide) rfl (by decide) rfl (by intro _; rfl) rfl)
  rw [words_txs]
  exact hk
theorem join_fold (x : Str) : ∀ (ts : List (List Nat)) (a : Nat), (∀ l ∈ ts, l.length ≤ 1000) → (ts.map S).foldl (fun a s => a + s.length + x.length) a ≤ a + ts.length * (1000 + x.length)
  | [], a, _ => by simp
  | l :: ts, a, h => by
    have h1 := h l (.head _)
    have h2 := join_fold x ts (a + (S l).length + x.length) fun y hy => h y (.tail _ hy)
    rw [S_len] at h2
    simp only [List.map_cons, List.foldl_cons, List.length_cons, Nat.add_mul, S_len]
    omega
theorem joinOk_small {x : List Nat} {ts : List (List Nat)} (hx : x.length ≤ 100) (hn : ts.length ≤ 1000) (hl : ∀ l ∈ ts, l.length ≤ 1000) : JoinOk (S x) (ts.map S) = true := by
  unfold JoinOk
  have h := join_fold (S x) ts 0 hl
  rw [S_len] at h
  have h2 : ts.length * (1000 + x.length) ≤ 1000 * 1100 := Nat.mul_le_mul hn (by omega)
  have e : (List.map S ts).toArray.foldl (· + ·.length + (S x).length) 0 = (ts.map S).foldl (fun a s => a + s.length + x.length) 0 := by
    rw [S_len]; simp
  rw [e]
  unfold Builtin.Str.tooLong
  rw [sizeLine_eq]
  have h' : (ts.map S).foldl (fun a s => a + s.length + x.length) 0 ≤ 1100000 := by omega
  simp only [Bool.not_eq_true', decide_eq_false_iff_not]
  omega
theorem ev_joinS {k : Nat} {env : Env} {I : HI} {o e : Expr} {apos pos : Pos} {x : List Nat} {ts : List (List Nat)} (h1 : Ev w k env I o (.str (S x))) (h2 : Ev w k env I e (.list (txs ts))) (hx : x.length ≤ 100) (hn : ts.length ≤ 1000) (hl : ∀ l ∈ ts, l.length ≤ 1000)
    (hbase : attributeBase o "join" env (eval o env) = eval o env := by rfl) (hs : starEach [e] env = [(false, eval e env)] := by rfl) (hline : (apos.endLine == pos.line) = true := by rfl) :
    Ev w k env I (.Call (.Attribute o "join" apos) [e] [] pos) (.str (S (joinL x ts))) := by
  rw [← glued_S]
  refine ev_join h1 ?_ (joinOk_small hx hn hl) hbase hs hline
  have : txs ts = (ts.map S).map .str := by simp [txs]
  rw [← this]
  exact h2
theorem rp_us_len (l : List Nat) : (rp [32] [95] 0 l).length = l.length := rp1_len _ _ _
theorem law_name (xs : List Int) (look : Int) (kd : Nat) (t : Tree) (dr de be b0 : Option PV) (x0 : Option PV) (rest' : Sg) {rest : List Stmt} (ws : List (List Nat)) (hn : ws.length ≤ 6) (hl : ∀ l ∈ ws, l.length ≤ 3)
    (hk : Ex w 9 (wF L base) (lawSt xs xs.length look kd t dr de be (b0 :: some (.list (txs ws)) :: some (.str (S (nameF ws))) :: rest')) (execs rest (wF L base).env) K)
    {st : Stmt} (ht : nameStmt = some st) :
    Ex w 9 (wF L base) (lawSt xs xs.length look kd t dr de be (b0 :: some (.list (txs ws)) :: x0 :: rest')) (execs (st :: rest) (wF L base).env) K := by
  cases ht
  refine ex_cons (ex_assign (p := .str (S (nameF ws))) 13 (fun gh => ?_) hk)
  refine ev_joinS (x := [45]) (ev_strS (l := [45])) (EvN.ev (ev_compS (f := rp [32] [95] 0) (ev_var 12) (fun A C J l hl' hJ => ?_) (by omega) rfl (by decide) rfl (by decide) rfl (by intro _; rfl))) (by decide) (by simp; omega) ?_
  · have := hl l hl'
    exact k_repl (k_local rfl rfl hJ) (by decide +kernel) (by decide +kernel) (by decide) (by decide) (by omega) (by decide)
  · intro l hl'
    obtain ⟨y, hy, rfl⟩ := List.mem_map.mp hl'
    have := hl y hy
    rw [rp_us_len]; omega
end
end
end Mine

/- text R5 -/
namespace Mine
section
open PySem PySem.W PyProof.Rows PySem.Calls
def chkStmt : Option Stmt := (fBody 12)[10]?
def emptyStmt : Option Stmt := (fBody 12)[11]?
def forStmt : Option Stmt := (fBody 12)[12]?
theorem op_len (kd : Nat) : (opL kd).length = 1 := by unfold opL; split <;> rfl
theorem cl_len (kd : Nat) : (clL kd).length = 1 := by unfold clL; split <;> rfl

section
variable {w : World} {L : Addr} {base : Heap} {K : Fl → Sg → Prop}
theorem te_neS {k : Nat} {env : Env} {I : HI} {l r : Expr} {pos : Pos} {x y : List Nat} {b : Bool} (h1 : Ev w k env I l (.str (S x))) (h2 : Ev w k env I r (.str (S y))) (hb : (x != y) = b) (hm : behindInMarks .NotEq r = false := by with_unfolding_all rfl) : Te w k env I (.Compare l [.NotEq] [r] pos) b := by
  have : (S x != S y) = b := by rw [← hb]; show (!(S x == S y)) = !(x == y); rw [S_eq]
  rw [← this]
  exact te_cmp h1 h2 op_nes hm
theorem law_chk (σ : Sg) (kd : Nat) {rest : List Stmt} (h3 : σ[3]? = some (some (.str (S (opL kd))))) (h4 : σ[4]? = some (some (.str (S (clL kd)))))
    (hp : platF [opL kd ++ unk, [32], clL kd] = [])
    (hk : Ex w 9 (wF L base) σ (execs rest (wF L base).env) K)
    {st : Stmt} (ht : chkStmt = some st) :
    Ex w 9 (wF L base) σ (execs (st :: rest) (wF L base).env) K := by
  cases ht
  refine ex_cons (ex_if (b := false) (fun gh => te_neS (x := platF [opL kd ++ unk, [32], clL kd]) (y := []) ?_ (ev_strS (l := [])) (by rw [hp]; rfl)) (fun h => by cases h) (fun _ => ex_nil hk))
  refine ev_fn (a := 21) (cd := 20) (i := 1) (args := txs [opL kd ++ unk, [32], clL kd]) wF_glo (by decide) (ev_glob wF_glo rfl rfl rfl rfl) ((fn_plat _ (by simp) ?_).lift (by decide)) ?_
  · intro l hl
    simp only [List.mem_cons, List.not_mem_nil, or_false] at hl
    have := op_len kd
    have := cl_len kd
    rcases hl with rfl | rfl | rfl <;> simp <;> omega
  · refine evl_cons ?_ ?_
    · exact ev_catS (ev_var 3 rfl h3) (ev_strS (l := unk)) (by rw [op_len]; decide)
    · refine evl_cons (ev_strS (l := [32])) ?_
      exact evl_cons (ev_var 4 rfl h4) evl_nil
theorem law_empty (σ : Sg) {rest : List Stmt} 
    (hk : Ex w 9 (wF L base) (σ.set 14 (some (.list []))) (execs rest (wF L base).env) K)
    {st : Stmt} (ht : emptyStmt = some st) :
    Ex w 9 (wF L base) σ (execs (st :: rest) (wF L base).env) K := by
  cases ht
  refine ex_cons (ex_assignN (xs := []) 14 (fun gh => ev_list evl_nil (by simp)) hk ?_)
  intro x hx; cases hx
end
end
end Mine

/- text R6 -/
namespace Mine
section
open PySem PySem.W PyProof.Rows PySem.Calls
def inStmt (j : Nat) : Option Stmt := match forStmt with
  | some (.For _ _ b _ _) => b[j]?
  | _ => none
def hungF (t : Tree) (hg : Int) : List Int := (List.range t.ds.length).map fun i => t.ds.getD i 0 - hg * t.ls.getD i 0
theorem hungF_len (t : Tree) (hg : Int) : (hungF t hg).length = t.ds.length := by simp [hungF]
theorem hung_nms (t : Tree) (hg : Int) : compL t.ds.length (fun _ => true) (fun i => PV.int (t.ds.getD i 0 - hg * t.ls.getD i 0)) = nms (hungF t hg) := by
  unfold compL hungF nms
  rw [List.filter_eq_self.mpr (fun _ _ => rfl), List.map_map]
  rfl
section
variable {w : World} {L : Addr} {base : Heap} {K : Fl → Sg → Prop}
theorem hung_ok {xs : List Int} {look : Int} {kd : Nat} {t : Tree} {j : Nat} (inv : TInv j t) (hj : j ≤ 5) {dr de be b0 w0 n0 t0 : Option PV} {hg : Int} (h01 : hg = 0 ∨ hg = 1) {rest : Sg} {y : Str} {py px pos spos : Pos} {x : Str} {elt iter : Expr} {scope : Scope}
    (hw : inStmt 0 = some (.Assign [.Name y py] (.ListComp elt [⟨.Name x px, iter, [], 0⟩] scope pos) spos)) :
    CompOk w (wF L base) (lawSt xs xs.length look kd t dr de be (b0 :: w0 :: n0 :: t0 :: some (.int hg) :: rest)) scope [("lifted", L + 1 + 1 + 1), ("higher", L + 1 + 1 + 1 + 1 + 1), ("depths", L + 1 + 1)] x [] elt 0 t.ds.length (fun _ => true) (fun i => .int (t.ds.getD i 0 - hg * t.ls.getD i 0)) := by
  cases hw
  have dl := inv.dl
  have ll := inv.ll
  refine ⟨fun A C J i hi HJ => ?_, fun A C J i hi _ HJ => ?_⟩
  · intro s Q E tk hJ hQ
    exact wpAny_pure (hQ _ _ .rfl' rfl)
  · have e0 : (0 + (i : Int)).toNat = i := by omega
    refine k_sub (k_idx (xs := nms t.ds) (n := 0 + (i : Nat)) ?_ ?_ (by omega) (by omega) ?_) (k_mul ?_ (k_idx (xs := nms t.ls) (n := 0 + (i : Nat)) ?_ ?_ (by omega) (by omega) ?_) ?_)
    · exact k_cell (c := L + 1 + 1) rfl rfl rfl (fun {g} q => HJ.cell q 5 _ "depths" _ rfl rfl rfl rfl)
    · exact k_local rfl rfl (fun {g} q => HJ.own q)
    · rw [e0]; exact nms_get _ _ hi
    · exact k_cell (c := L + 1 + 1 + 1 + 1 + 1) rfl rfl rfl (fun {g} q => HJ.cell q 15 _ "higher" _ rfl rfl rfl rfl)
    · exact k_cell (c := L + 1 + 1 + 1) rfl rfl rfl (fun {g} q => HJ.cell q 6 _ "lifted" _ rfl rfl rfl rfl)
    · exact k_local rfl rfl (fun {g} q => HJ.own q)
    · rw [e0]; exact nms_get _ _ (by omega)
    · exact .of_left (intBits_le_64 (by omega) (by omega))
theorem law_hung (xs : List Int) (look : Int) (kd : Nat) (t : Tree) {j : Nat} (inv : TInv j t) (hj : j ≤ 5) (dr de be b0 w0 n0 t0 : Option PV) (hg : Int) (h01 : hg = 0 ∨ hg = 1) (x0 : Option PV) (rest' : Sg) {rest : List Stmt}
    (hk : Ex w 9 (wF L base) (lawSt xs xs.length look kd t dr de be (b0 :: w0 :: n0 :: t0 :: some (.int hg) :: some (.list (nms (hungF t hg))) :: rest')) (execs rest (wF L base).env) K)
    {st : Stmt} (ht : inStmt 0 = some st) :
    Ex w 9 (wF L base) (lawSt xs xs.length look kd t dr de be (b0 :: w0 :: n0 :: t0 :: some (.int hg) :: x0 :: rest')) (execs (st :: rest) (wF L base).env) K := by
  cases ht
  have dl := inv.dl
  refine ex_cons (ex_comp (n := t.ds.length) (a := 0) (pz := fun _ => true) (val := fun i => .int (t.ds.getD i 0 - hg * t.ls.getD i 0)) 16 (fun gh => rg_range1 (ev_bi wF_glo rfl rfl rfl rfl rfl (by decide) rfl) (ev_lenL (ev_bi wF_glo rfl rfl rfl rfl rfl (by decide) rfl) (ev_var 5) (nms_len _) (by rw [nms_len]; omega)) (by omega))
    (hung_ok inv hj h01 rfl) ?_ (fun _ => trivial) (by omega) rfl rfl rfl (by decide) rfl (by decide) rfl (by intro _; rfl) rfl)
  rw [hung_nms]
  exact hk
end
end
end Mine

/- text R7 -/
namespace Mine
section
open PySem PySem.W PyProof.Rows PySem.Calls
/- more about the tree -/
structure TOk (j : Nat) (t : Tree) : Prop extends TInv j t where
  z0 : t.ds.getD 0 0 = 0
  zl : t.ls.getD 0 0 = 0
  zk : t.ks.getD 0 0 = 0
  up : ∀ i, i < j → 1 ≤ t.ds.getD (i + 1) 0 ∧ t.ds.getD (i + 1) 0 ≤ t.ds.getD i 0 + 1
  l2 : ∀ i, t.ls.getD i 0 = 1 → 2 ≤ t.ds.getD i 0
  run : ∀ i, i < j → t.ds.getD (i + 1) 0 = t.ds.getD i 0 + 1 → t.ls.getD i 0 = 1 → t.ls.getD (i + 1) 0 = 1
theorem tok0 : TOk 0 t0 := ⟨tinv0, rfl, rfl, rfl, fun i h => by omega, fun i h => by cases i <;> simp [t0] at h, fun i h => by omega⟩
theorem tok_step {j : Nat} {t : Tree} (h : TOk j t) (dr : Int) : TOk (j + 1) (stepT t dr) := by
  obtain ⟨b1, b2⟩ := deepF_bounds h.toTInv dr
  have dl := h.dl
  have ll := h.ll
  have kl := h.kl
  have ed : lastI t.ds = t.ds.getD j 0 := by unfold lastI; rw [dl]; rfl
  have el : lastI t.ls = t.ls.getD j 0 := by unfold lastI; rw [ll]; rfl
  have gd : ∀ i, (stepT t dr).ds.getD i 0 = if i < j + 1 then t.ds.getD i 0 else if i = j + 1 then deepF t dr else 0 := fun i => by simp only [stepT, getD_snoc, dl]
  have gl : ∀ i, (stepT t dr).ls.getD i 0 = if i < j + 1 then t.ls.getD i 0 else if i = j + 1 then liftF t dr else 0 := fun i => by simp only [stepT, getD_snoc, ll]
  have gk : (stepT t dr).ks.getD 0 0 = t.ks.getD 0 0 := by simp only [stepT, getD_snoc, kl]; rw [if_pos (by omega)]
  refine ⟨tinv_step h.toTInv dr, ?_, ?_, ?_, fun i hi => ?_, fun i hl => ?_, fun i hi hd hl => ?_⟩
  · rw [gd, if_pos (by omega)]; exact h.z0
  · rw [gl, if_pos (by omega)]; exact h.zl
  · rw [gk]; exact h.zk
  · rw [gd, gd]
    by_cases c : i < j
    · rw [if_pos (by omega), if_pos (by omega)]; exact h.up i c
    · have : i = j := by omega
      subst this
      rw [if_neg (by omega), if_pos rfl, if_pos (by omega), ← ed]
      exact ⟨b1, b2⟩
  · rw [gl] at hl
    rw [gd]
    by_cases c : i < j + 1
    · rw [if_pos c] at hl ⊢; exact h.l2 i hl
    · rw [if_neg c] at hl ⊢
      by_cases c2 : i = j + 1
      · rw [if_pos c2] at hl ⊢
        unfold liftF at hl
        split at hl
        · rename_i q; omega
        · cases hl
      · rw [if_neg c2] at hl; cases hl
  · rw [gd, gd] at hd
    rw [gl] at hl ⊢
    by_cases c : i < j
    · rw [if_pos (by omega), if_pos (by omega)] at hd
      rw [if_pos (by omega)] at hl ⊢
      exact h.run i c hd hl
    · have : i = j := by omega
      subst this
      rw [if_neg (by omega), if_pos rfl, if_pos (by omega)] at hd
      rw [if_pos (by omega)] at hl
      rw [if_neg (by omega), if_pos rfl]
      have h2 := h.l2 i hl
      unfold liftF
      rw [if_pos]
      rw [el, ed, hl, hd]
      omega
theorem tok_fold : ∀ (l : List Int) (j : Nat) (t : Tree), TOk j t → TOk (j + l.length) (l.foldl stepT t)
  | [], j, t, h => h
  | x :: l, j, t, h => by
    have := tok_fold l (j + 1) _ (tok_step h x)
    rw [List.length_cons, List.foldl_cons, show j + (l.length + 1) = j + 1 + l.length by omega]
    exact this
theorem tok_tree (xs : List Int) : TOk (drawsF xs).length (treeF xs) := by
  have := tok_fold (drawsF xs) 0 t0 tok0
  rw [Nat.zero_add] at this
  exact this
theorem draws_len (xs : List Int) : 2 ≤ (drawsF xs).length ∧ (drawsF xs).length ≤ 5 := by
  simp [drawsF]; omega
theorem hung_get (t : Tree) (hg : Int) (i : Nat) (hi : i < t.ds.length) : (hungF t hg).getD i 0 = t.ds.getD i 0 - hg * t.ls.getD i 0 := by
  simp only [hungF, List.getD_eq_getElem?_getD, List.getElem?_map, List.getElem?_range hi]
  rfl
theorem hung_bd {j : Nat} {t : Tree} (h : TOk j t) {hg : Int} (h01 : hg = 0 ∨ hg = 1) (i : Nat) : 0 ≤ (hungF t hg).getD i 0 ∧ (hungF t hg).getD i 0 ≤ j := by
  by_cases hi : i < t.ds.length
  · rw [hung_get t hg i hi]
    have a := h.d0 i
    have b := h.dj i
    have c := h.l01 i
    have d := h.l2 i
    generalize t.ds.getD i 0 = x at *
    generalize t.ls.getD i 0 = y at *
    rcases h01 with rfl | rfl <;> omega
  · have : (hungF t hg).getD i 0 = 0 := by
      rw [List.getD_eq_getElem?_getD, List.getElem?_eq_none (by rw [hungF_len]; omega)]; rfl
    rw [this]; omega
/- lengths of the parts -/
theorem flat_len (ws : List (List Nat)) (ds : List Int) (op cl : List Nat) (n : Nat) : ((List.range n).flatMap (pstep ws ds op cl)).length = 2 * n := by
  induction n with
  | zero => simp
  | succ j ih => rw [List.range_succ, List.flatMap_append, List.length_append, ih]; simp [pstep]; omega
theorem parts_len (ws : List (List Nat)) (ds : List Int) (op cl : List Nat) (h : ws.length ≠ 0) : (partsF ws ds op cl).length = 2 * ws.length := by
  simp only [partsF, List.length_append, List.length_cons, flat_len, List.length_nil]; omega
theorem parts_mem {ws : List (List Nat)} {ds : List Int} {op cl : List Nat} {B : Nat} (hw : ∀ i, (ws.getD i []).length ≤ 3) (hd : ∀ i, 0 ≤ ds.getD i 0 ∧ ds.getD i 0 ≤ 5) (ho : op.length = 1) (hc : cl.length = 1) : ∀ l ∈ partsF ws ds op cl, l.length ≤ 7 := by
  intro l hl
  simp only [partsF, List.mem_append, List.mem_cons, List.mem_flatMap, pstep, List.not_mem_nil, or_false] at hl
  rcases hl with (rfl | ⟨i, _, rfl | rfl⟩) | rfl
  · have := hw 0; omega
  · have := hd i; have := hd (i + 1)
    rw [List.length_append, reps_len, hc, ho]; omega
  · have := hw (i + 1); omega
  · have := hd (ds.length - 1)
    rw [reps_len, hc]; omega
theorem joinL_nil : ∀ (l : List (List Nat)), joinL [] l = l.flatten
  | [] => rfl
  | [x] => by simp [joinL]
  | x :: y :: r => by
    have := joinL_nil (y :: r)
    simp only [joinL, List.append_nil, List.flatten_cons] at this ⊢
    rw [this]
theorem flatten_le (l : List (List Nat)) (B : Nat) (h : ∀ x ∈ l, x.length ≤ B) : l.flatten.length ≤ l.length * B := by
  rw [List.length_flatten]
  exact sum_le l B h
end
end Mine

/- text R8 -/
namespace Mine
section
open PySem PySem.W PyProof.Rows PySem.Calls
def aheadF : Nat → List (List Nat)
  | 0 => []
  | 1 => [[]]
  | 2 => [[32, 32]]
  | _ => [unk]
def preF : Nat → List Nat
  | 1 => []
  | _ => [45]
def clF (f : Nat) (cl : List Nat) : List Nat := if f = 0 then cl else []
def cutArg (f : Nat) (cl : List Nat) (ps : List (List Nat)) : List (List Nat) := (clF f cl ++ ps.getD 0 []) :: ps.drop 1
theorem aheadF_len (f : Nat) : (aheadF f).length ≤ 1 := by unfold aheadF; split <;> simp
theorem aheadF_mem (f : Nat) : ∀ l ∈ aheadF f, l.length ≤ 7 := by
  intro l hl
  unfold aheadF at hl
  split at hl <;> simp at hl <;> subst hl <;> simp
theorem pre_get : ∀ f : Nat, f < 4 → [[45], [], [45], [45]][f]? = some (preF f)
  | 0, _ => rfl
  | 1, _ => rfl
  | 2, _ => rfl
  | 3, _ => rfl
  | n + 4, h => by omega
theorem cl_get (cl : List Nat) : ∀ f : Nat, f < 4 → [cl, [], [], []][f]? = some (clF f cl)
  | 0, _ => rfl
  | 1, _ => rfl
  | 2, _ => rfl
  | 3, _ => rfl
  | n + 4, h => by omega
theorem clF_len (f : Nat) (cl : List Nat) (h : cl.length = 1) : (clF f cl).length ≤ 1 := by unfold clF; split <;> simp [h]
def aheadLt : List Expr := match inStmt 5 with
  | some (.Assign _ (.Subscript (.List lt _) _ _) _) => lt
  | _ => []
def aheadMenu : List (List PV) := [[], [.str (S [])], [.str (S [32, 32])], [.str (S unk)]]
theorem aheadMenu_get : ∀ f : Nat, f < 4 → aheadMenu[((f : Nat) : Int).toNat]? = some (txs (aheadF f))
  | 0, _ => rfl
  | 1, _ => rfl
  | 2, _ => rfl
  | 3, _ => rfl
  | n + 4, h => by omega
section
variable {w : World} {k : Nat} {env : Env} {I : HI}
theorem ahead_menu {lt : List Expr} {mpos : Pos} (h : lt = aheadLt) : EvLN w k env I mpos lt aheadMenu := by
  subst h
  refine evln_cons ?_ ?_ ?_
  · exact ev_list (ps := []) evl_nil (by simp)
  · refine evln_cons ?_ ?_ ?_
    · exact ev_list (ps := [.str (S [])]) (evl_cons (ev_strS (l := [])) evl_nil) (by rw [sizeLine_eq]; simp)
    · refine evln_cons ?_ ?_ ?_
      · exact ev_list (ps := [.str (S [32, 32])]) (evl_cons (ev_strS (l := [32, 32])) evl_nil) (by rw [sizeLine_eq]; simp)
      · refine evln_cons ?_ ?_ ?_
        · exact ev_list (ps := [.str (S unk)]) (evl_cons (ev_strS (l := unk)) evl_nil) (by rw [sizeLine_eq]; simp)
        · exact evln_nil
        · rfl
      · rfl
    · rfl
  · rfl
theorem ahead_pick {lt : List Expr} {mpos pos : Pos} {i : Expr} (f : Nat) (hf : f < 4) (hi : Ev w k env I i (.int f)) (h : lt = aheadLt)
    (h5 : ∀ o j, subscripted i false o j = operate [o, j] (getItem o j)) : EvN w k env I (.Subscript (.List lt mpos) i pos) (txs (aheadF f)) := by
  have h1 := ahead_menu (w := w) (k := k) (env := env) (I := I) (mpos := mpos) h
  have h2 : aheadMenu.length ≤ sizeLine := by rw [sizeLine_eq]; simp [aheadMenu]
  have h3 : (0 : Int) ≤ (f : Int) := by omega
  have h4 : (f : Int) < 2 ^ 63 := by omega
  exact ev_menu h1 h2 hi h3 h4 (aheadMenu_get f hf) h5
/-- four texts, one picked -/
theorem ev_pick4 {e1 e2 e3 e4 i : Expr} {lp pos : Pos} {a b c d : List Nat} (f : Nat) {r : List Nat} (h1 : Ev w k env I e1 (.str (S a))) (h2 : Ev w k env I e2 (.str (S b))) (h3 : Ev w k env I e3 (.str (S c))) (h4 : Ev w k env I e4 (.str (S d)))
    (hi : Ev w k env I i (.int f)) (hr : [a, b, c, d][f]? = some r)
    (s1 : starEach [e1, e2, e3, e4] env = (false, eval e1 env) :: starEach [e2, e3, e4] env := by rfl) (s2 : starEach [e2, e3, e4] env = (false, eval e2 env) :: starEach [e3, e4] env := by rfl)
    (s3 : starEach [e3, e4] env = (false, eval e3 env) :: starEach [e4] env := by rfl) (s4 : starEach [e4] env = (false, eval e4 env) :: starEach [] env := by rfl)
    (hs : ∀ o j, subscripted i false o j = operate [o, j] (getItem o j) := by intro _ _; rfl) : Ev w k env I (.Subscript (.List [e1, e2, e3, e4] lp) i pos) (.str (S r)) := by
  have l4 : EvL w k env I lp [e4] [.str (S d)] := evl_cons h4 evl_nil s4
  have l3 : EvL w k env I lp [e3, e4] [.str (S c), .str (S d)] := evl_cons h3 l4 s3
  have l2 : EvL w k env I lp [e2, e3, e4] [.str (S b), .str (S c), .str (S d)] := evl_cons h2 l3 s2
  have l1 : EvL w k env I lp [e1, e2, e3, e4] [.str (S a), .str (S b), .str (S c), .str (S d)] := evl_cons h1 l2 s1
  have hf : f < 4 := (List.getElem?_eq_some_iff.mp hr).1
  refine ev_idx (EvN.ev (ev_list l1 (by rw [sizeLine_eq]; simp))) hi (by omega) (by omega) ?_ hs
  have e : ([.str (S a), .str (S b), .str (S c), .str (S d)] : List PV) = txs [a, b, c, d] := rfl
  rw [e, show ((f : Nat) : Int).toNat = f by omega]
  simp only [txs, List.getElem?_map, hr, Option.map_some]
end
section
variable {w : World} {L : Addr} {base : Heap} {K : Fl → Sg → Prop}
theorem law_parts (σ : Sg) (ws : List (List Nat)) (ds : List Int) (op cl : List Nat) {rest : List Stmt} (h3 : σ[3]? = some (some (.str (S op)))) (h4 : σ[4]? = some (some (.str (S cl))))
    (h12 : σ[12]? = some (some (.list (txs ws)))) (h16 : σ[16]? = some (some (.list (nms ds)))) (hw : ws.length ≤ 100) (h0 : ws.length ≠ 0) (hd : ds.length = ws.length) (hdb : ∀ i, 0 ≤ ds.getD i 0 ∧ ds.getD i 0 ≤ 100) (ho : op.length ≤ 10) (hc : cl.length ≤ 10)
    (hk : Ex w 9 (wF L base) (σ.set 17 (some (.list (txs (partsF ws ds op cl))))) (execs rest (wF L base).env) K)
    {st : Stmt} (ht : inStmt 1 = some st) : Ex w 9 (wF L base) σ (execs (st :: rest) (wF L base).env) K := by
  cases ht
  refine ex_cons (ex_assignN (xs := txs (partsF ws ds op cl)) 17 (fun gh => ?_) hk txs_sc)
  refine ev_fnN (a := 42) (cd := 41) (i := 9) (args := [.list (txs ws), .list (nms ds), .str (S op), .str (S cl)]) wF_glo (by decide) (ev_glob wF_glo rfl rfl rfl rfl) ((fn_parts ws ds op cl hw h0 hd hdb ho hc).lift (by decide)) ?_
  refine evl_cons (ev_var 12 rfl h12) ?_
  refine evl_cons (ev_var 16 rfl h16) ?_
  refine evl_cons (ev_var 3 rfl h3) ?_
  exact evl_cons (ev_var 4 rfl h4) evl_nil
theorem law_text (σ : Sg) (ps : List (List Nat)) {rest : List Stmt} (h17 : σ[17]? = some (some (.list (txs ps)))) (hn : ps.length ≤ 1000) (hl : ∀ l ∈ ps, l.length ≤ 1000)
    (hk : Ex w 9 (wF L base) (σ.set 18 (some (.str (S (joinL [] ps))))) (execs rest (wF L base).env) K)
    {st : Stmt} (ht : inStmt 2 = some st) : Ex w 9 (wF L base) σ (execs (st :: rest) (wF L base).env) K := by
  cases ht
  exact ex_cons (ex_assign (p := .str (S (joinL [] ps))) 18 (fun gh => ev_joinS (x := []) (ev_strS (l := [])) (ev_var 17 rfl h17) (by decide) hn hl) hk)
theorem law_if1 (σ : Sg) (tx nm : List Nat) {rest : List Stmt} (h18 : σ[18]? = some (some (.str (S tx)))) (h13 : σ[13]? = some (some (.str (S nm)))) (hl : tx.length ≤ 400) (hp : platF [tx] = nm)
    (hk : Ex w 9 (wF L base) σ (execs rest (wF L base).env) K)
    {st : Stmt} (ht : inStmt 3 = some st) : Ex w 9 (wF L base) σ (execs (st :: rest) (wF L base).env) K := by
  cases ht
  refine ex_cons (ex_if (b := false) (fun gh => te_neS (x := platF [tx]) (y := nm) ?_ (ev_var 13 rfl h13) (by rw [hp]; simp)) (fun h => by cases h) (fun _ => ex_nil hk))
  refine ev_fn (a := 21) (cd := 20) (i := 1) (args := txs [tx]) wF_glo (by decide) (ev_glob wF_glo rfl rfl rfl rfl) ((fn_plat [tx] (by simp) ?_).lift (by decide)) ?_
  · intro l hl'
    rw [List.mem_singleton.mp hl']; exact hl
  · exact evl_cons (ev_var 18 rfl h18) evl_nil
theorem law_first (σ : Sg) (n hg : Nat) {rest : List Stmt} (h1 : σ[1]? = some (some (.int n))) (h15 : σ[15]? = some (some (.int hg)))
    (hk : Ex w 9 (wF L base) (σ.set 19 (some (.int ((n + hg) % 4 : Nat)))) (execs rest (wF L base).env) K)
    {st : Stmt} (ht : inStmt 4 = some st) : Ex w 9 (wF L base) σ (execs (st :: rest) (wF L base).env) K := by
  cases ht
  refine ex_cons (ex_assign (p := .int ((n + hg) % 4 : Nat)) 19 (fun gh => ?_) hk)
  have e : (((n + hg) % 4 : Nat) : Int) = ((n : Int) + hg).fmod 4 := by
    have := fmodN (n + hg) 4 (by decide)
    rw [show ((4 : Nat) : Int) = 4 from rfl] at this
    rw [← this]; congr 1
  rw [e]
  exact ev_mod (ev_add (ev_var 1 rfl h1) (ev_var 15 rfl h15)) ev_int (by decide)
theorem law_ahead (σ : Sg) (f : Nat) (hf : f < 4) {rest : List Stmt} (h19 : σ[19]? = some (some (.int f)))
    (hk : Ex w 9 (wF L base) (σ.set 20 (some (.list (txs (aheadF f))))) (execs rest (wF L base).env) K)
    {st : Stmt} (ht : inStmt 5 = some st) : Ex w 9 (wF L base) σ (execs (st :: rest) (wF L base).env) K := by
  have key : ∀ (lt : List Expr) (p1 p2 p3 p4 p5 : Pos), lt = aheadLt → p1.line = p5.line → Ex w 9 (wF L base) σ (execs (.Assign [.Name "ahead" p1] (.Subscript (.List lt p2) (.Name "first" p3) p4) p5 :: rest) (wF L base).env) K := by
    intro lt p1 p2 p3 p4 p5 h _
    refine ex_cons (ex_assignN (xs := txs (aheadF f)) 20 (fun gh => ?_) hk txs_sc)
    refine ahead_pick f hf ?_ h ?_
    · exact ev_var 19 rfl h19
    · intro _ _; rfl
  cases ht
  refine key _ _ _ _ _ _ ?_ ?_ <;> rfl
theorem law_cutS (σ : Sg) (f : Nat) (hf : f < 4) (cl : List Nat) (ps : List (List Nat)) (ks : List Nat) (n : Nat) {rest : List Stmt} (h4 : σ[4]? = some (some (.str (S cl)))) (h7 : σ[7]? = some (some (.list (nms (ks.map Int.ofNat)))))
    (h17 : σ[17]? = some (some (.list (txs ps)))) (h19 : σ[19]? = some (some (.int f))) (hc : cl.length = 1)
    (hn : ps.length = 2 * n) (h0 : n ≠ 0) (h1 : n ≤ 50) (hp : ∀ l ∈ ps, l.length ≤ 40) (hk' : ks.length = n) (hk8 : ∀ i, ks.getD i 0 < 8)
    (hk : Ex w 9 (wF L base) (σ.set 21 (some (.list (txs (cutF (cutArg f cl ps) ks n))))) (execs rest (wF L base).env) K)
    {st : Stmt} (ht : inStmt 6 = some st) : Ex w 9 (wF L base) σ (execs (st :: rest) (wF L base).env) K := by
  cases ht
  have l1 := clF_len f cl hc
  have p0 : (ps.getD 0 []).length ≤ 40 := by
    cases ps with
    | nil => simp
    | cons x _ => exact hp x (.head _)
  refine ex_cons (ex_assignN (xs := txs (cutF (cutArg f cl ps) ks n)) 21 (fun gh => ?_) hk txs_sc)
  refine ev_fnN (a := 49) (cd := 48) (i := 10) (args := [.list (txs (cutArg f cl ps)), .list (nms (ks.map Int.ofNat))]) wF_glo (by decide) (ev_glob wF_glo rfl rfl rfl rfl) ((fn_cut (cutArg f cl ps) ks n ?_ h0 h1 ?_ hk' hk8).lift (by decide)) ?_
  · simp only [cutArg, List.length_cons, List.length_drop]; omega
  · intro i
    by_cases hi : i < (cutArg f cl ps).length
    · have : (cutArg f cl ps).getD i [] ∈ cutArg f cl ps := by
        rw [List.getD_eq_getElem?_getD, List.getElem?_eq_getElem hi]; exact List.getElem_mem hi
      rcases List.mem_cons.mp this with q | q
      · rw [q, List.length_append]; omega
      · have := hp _ (List.mem_of_mem_drop q); omega
    · rw [List.getD_eq_getElem?_getD, List.getElem?_eq_none (by omega)]; simp
  · refine evl_cons ?_ ?_
    · have e : txs (cutArg f cl ps) = txs [clF f cl ++ ps.getD 0 []] ++ (txs ps).drop 1 := by simp [cutArg, txs]
      rw [e]
      refine EvN.ev (ev_lcat (EvN.ev (ev_list (ps := [.str (S (clF f cl ++ ps.getD 0 []))]) (evl_cons (ev_catS (ev_pick4 (a := cl) (b := []) (c := []) (d := []) f (ev_var 4 rfl h4) (ev_strS (l := [])) (ev_strS (l := [])) (ev_strS (l := [])) (ev_var 19 rfl h19) ?_)
        (ev_idx (ev_var 17 rfl h17) ev_int (by decide) (by decide) (txs_get ps 0 (by omega))) (by omega)) evl_nil) (by rw [sizeLine_eq]; simp))) (EvN.ev (ev_ldrop (n := 1) (ev_var 17 rfl h17) ev_int (by rw [txs_len, sizeLine_eq]; omega))) ?_)
      · exact cl_get cl f hf
      · rw [sizeLine_eq, List.length_drop, txs_len, txs_len]; simp; omega
    · exact evl_cons (ev_var 7 rfl h7) evl_nil
theorem law_if2 (σ : Sg) (f : Nat) (hf : f < 4) (cut : List (List Nat)) (nm : List Nat) {rest : List Stmt} (h13 : σ[13]? = some (some (.str (S nm)))) (h19 : σ[19]? = some (some (.int f))) (h20 : σ[20]? = some (some (.list (txs (aheadF f)))))
    (h21 : σ[21]? = some (some (.list (txs cut)))) (hn : cut.length ≤ 19) (hl : ∀ l ∈ cut, l.length ≤ 400) (hnm : nm.length ≤ 1000) (hp : platF (aheadF f ++ cut) = preF f ++ nm)
    (hk : Ex w 9 (wF L base) σ (execs rest (wF L base).env) K)
    {st : Stmt} (ht : inStmt 7 = some st) : Ex w 9 (wF L base) σ (execs (st :: rest) (wF L base).env) K := by
  cases ht
  have al := aheadF_len f
  refine ex_cons (ex_if (b := false) (fun gh => te_neS (x := platF (aheadF f ++ cut)) (y := preF f ++ nm) ?_ ?_ (by rw [hp]; simp)) (fun h => by cases h) (fun _ => ex_nil hk))
  · refine ev_fnStar (a := 21) (cd := 20) (i := 1) (xs := txs (aheadF f ++ cut)) wF_glo (by decide) (ev_glob wF_glo rfl rfl rfl rfl) ((fn_plat (aheadF f ++ cut) (by simp; omega) ?_).lift (by decide)) ?_ (by rw [txs_len, List.length_append]; omega)
    · intro l hl'
      rcases List.mem_append.mp hl' with q | q
      · have := aheadF_mem f l q; omega
      · exact hl l q
    · rw [← txs_app]
      exact EvN.ev (ev_lcat (ev_var 20 rfl h20) (ev_var 21 rfl h21) (by rw [txs_len, txs_len, sizeLine_eq]; omega))
  · refine ev_catS (x := preF f) ?_ (ev_var 13 rfl h13) ?_
    · refine ev_pick4 (a := [45]) (b := []) (c := [45]) (d := [45]) f ?_ ?_ ?_ ?_ (ev_var 19 rfl h19) ?_
      · exact ev_strS (l := [45])
      · exact ev_strS (l := [])
      · exact ev_strS (l := [45])
      · exact ev_strS (l := [45])
      · exact pre_get f hf
    · have : (preF f).length ≤ 1 := by unfold preF; split <;> simp
      omega
theorem law_app (σ : Sg) (ts : List (List Nat)) (tx : List Nat) {rest : List Stmt} (h14 : σ[14]? = some (some (.list (txs ts)))) (h18 : σ[18]? = some (some (.str (S tx)))) (hn : ts.length ≤ 1000)
    (hk : Ex w 9 (wF L base) (σ.set 14 (some (.list (txs (ts ++ [tx]))))) (execs rest (wF L base).env) K)
    {st : Stmt} (ht : inStmt 8 = some st) : Ex w 9 (wF L base) σ (execs (st :: rest) (wF L base).env) K := by
  cases ht
  refine ex_cons (ex_append (xs := txs ts) (p := .str (S tx)) 14 (by show 14 ∈ [5, 6, 7, 14]; decide) (fun gh => ev_var 18 rfl h18) ?_ (by rw [txs_len, sizeLine_eq]; omega) trivial rfl h14)
  have e : txs ts ++ [.str (S tx)] = txs (ts ++ [tx]) := by rw [← txs_app]; rfl
  rw [e]
  exact hk
end
end
end Mine

/- text R9 -/
namespace Mine
section
open PySem PySem.W PyProof.Rows PySem.Calls
/- tighter lengths of the cut -/
theorem bnd50 {x y p w j : Nat} (h : x ≤ y + p + 8) (hy : y ≤ 8 + 50 * j) (hp : p ≤ 8) (hw : w ≤ 30) : x + w ≤ 8 + 50 * (j + 1) ∧ w + 1 ≤ 8 + 50 * (j + 1) ∧ x ≤ 8 + 50 * (j + 1) ∧ 9 ≤ 8 + 50 * (j + 1) := by omega
theorem extra_mem (k : Nat) : ∀ l ∈ extra k, l.length ≤ 9 := by
  intro l hl
  unfold extra at hl
  split at hl <;> simp at hl <;> subst hl <;> decide
theorem cutF_len2 (ps : List (List Nat)) (ks : List Nat) (n : Nat) (hn : n ≤ 6) (hp : ∀ i, (ps.getD i []).length ≤ 8) (hq : ∀ i, (ps.getD (2 * i + 2) []).length ≤ 3 ∨ n ≤ i + 1) : (cutF ps ks n).length ≤ 19 ∧ ∀ l ∈ cutF ps ks n, l.length ≤ 400 := by
  have key : ∀ j, j + 1 ≤ n ∨ j = 0 → (cutN ps ks j).2.length ≤ 8 + 50 * j ∧ (cutN ps ks j).1.length ≤ 2 * j ∧ ∀ l ∈ (cutN ps ks j).1, l.length ≤ 8 + 50 * j := by
    intro j
    induction j with
    | zero => intro _; exact ⟨hp 0, Nat.le_refl 0, fun l h => nomatch h⟩
    | succ j ih =>
      intro hj
      have hj : j + 1 + 1 ≤ n := hj.resolve_right (Nat.succ_ne_zero j)
      obtain ⟨h1, h2, h3⟩ := ih (.inl (Nat.le_of_succ_le hj))
      have a2 : (ps.getD (2 * j + 2) []).length ≤ 3 := (hq j).resolve_right (fun q => Nat.not_succ_le_self _ (Nat.le_trans hj q))
      have w1 : (wordF (ps.getD (2 * j + 2) [])).length ≤ 30 := Nat.le_trans (wordF_len _) (Nat.mul_le_mul_right 10 a2)
      obtain ⟨c1, c2, c3, c4⟩ := bnd50 (cutL_len (ps.getD (2 * j + 1) []) (ks.getD (j + 1) 0) (cutN ps ks j).2) h1 (hp (2 * j + 1)) w1
      have e1 := extra_len (ks.getD (j + 1) 0)
      have t1 := tabs_len (ks.getD (j + 1) 0)
      have up : 8 + 50 * j ≤ 8 + 50 * (j + 1) := Nat.add_le_add_left (Nat.mul_le_mul_left 50 (Nat.le_succ j)) 8
      rw [cutN, cutStep]
      split
      · exact ⟨by rw [List.length_append]; exact c1, Nat.le_trans h2 (Nat.mul_le_mul_left 2 (Nat.le_succ j)), fun l hl => Nat.le_trans (h3 l hl) up⟩
      · refine ⟨?_, ?_, fun l hl => ?_⟩
        · rw [List.length_append]
          exact Nat.le_trans (Nat.add_le_add_right t1 _) (by rw [Nat.add_comm]; exact c2)
        · rw [List.length_append, List.length_append]
          have := Nat.add_le_add (Nat.add_le_add h2 (Nat.le_refl 1)) e1
          rw [Nat.mul_succ]
          exact this
        · rcases List.mem_append.mp hl with hl | hl
          · rcases List.mem_append.mp hl with hl | hl
            · exact Nat.le_trans (h3 l hl) up
            · rw [List.mem_singleton.mp hl]; exact c3
          · exact Nat.le_trans (extra_mem _ l hl) c4
  obtain ⟨h1, h2, h3⟩ := key (n - 1) (by omega)
  have a1 := hp (ps.length - 1)
  have b1 : 8 + 50 * (n - 1) ≤ 258 := by omega
  unfold cutF
  refine ⟨?_, fun l hl => ?_⟩
  · rw [List.length_append]
    exact Nat.le_trans (Nat.add_le_add_right h2 1) (by omega)
  · rcases List.mem_append.mp hl with hl | hl
    · exact Nat.le_trans (Nat.le_trans (h3 l hl) b1) (by decide)
    · rw [List.mem_singleton.mp hl, List.length_append]
      exact Nat.le_trans (Nat.add_le_add (Nat.le_trans h1 b1) a1) (by decide)

/- the parts of the law -/
def partsP (n : Nat) (t : Tree) (kd : Nat) (hg : Int) : List (List Nat) := partsF (wordsF n t.ds.length) (hungF t hg) (opL kd) (clL kd)
def textP (n : Nat) (t : Tree) (kd : Nat) (hg : Int) : List Nat := joinL [] (partsP n t kd hg)
theorem words_get (n m i : Nat) : ((wordsF n m).getD i []).length ≤ 3 := by
  by_cases hi : i < (wordsF n m).length
  · have : (wordsF n m).getD i [] ∈ wordsF n m := by
      rw [List.getD_eq_getElem?_getD, List.getElem?_eq_getElem hi]; exact List.getElem_mem hi
    exact mem_words this
  · rw [List.getD_eq_getElem?_getD, List.getElem?_eq_none (by omega)]; simp
theorem partsP_mem {n j : Nat} {t : Tree} {kd : Nat} {hg : Int} (h : TOk j t) (hj : j ≤ 5) (h01 : hg = 0 ∨ hg = 1) : ∀ l ∈ partsP n t kd hg, l.length ≤ 7 :=
  parts_mem (B := 0) (words_get n _) (fun i => by have := hung_bd h h01 i; omega) (op_len kd) (cl_len kd)
theorem partsP_len {n j : Nat} {t : Tree} {kd : Nat} {hg : Int} (h : TOk j t) : (partsP n t kd hg).length = 2 * (j + 1) := by
  unfold partsP
  rw [parts_len _ _ _ _ (by rw [wordsF_len, h.dl]; omega), wordsF_len, h.dl]
theorem flat_get (ws : List (List Nat)) (ds : List Int) (op cl : List Nat) : ∀ (n i : Nat), i < n → ((List.range n).flatMap (pstep ws ds op cl))[2 * i]? = some (reps (ds.getD i 0 - ds.getD (i + 1) 0 + 1) cl ++ op) ∧ ((List.range n).flatMap (pstep ws ds op cl))[2 * i + 1]? = some (ws.getD (i + 1) [])
  | n + 1, i, hi => by
    have hl := flat_len ws ds op cl n
    rw [List.range_succ, List.flatMap_append]
    by_cases c : i < n
    · obtain ⟨h1, h2⟩ := flat_get ws ds op cl n i c
      rw [List.getElem?_append_left (by omega), List.getElem?_append_left (by omega)]
      exact ⟨h1, h2⟩
    · have : i = n := by omega
      subst this
      rw [List.getElem?_append_right (by omega), List.getElem?_append_right (by omega), hl]
      simp [pstep]
theorem parts_get (ws : List (List Nat)) (ds : List Int) (op cl : List Nat) (i : Nat) (hi : i + 1 < ws.length) : (partsF ws ds op cl).getD (2 * i + 1) [] = reps (ds.getD i 0 - ds.getD (i + 1) 0 + 1) cl ++ op ∧ (partsF ws ds op cl).getD (2 * i + 2) [] = ws.getD (i + 1) [] := by
  obtain ⟨h1, h2⟩ := flat_get ws ds op cl (ws.length - 1) i (by omega)
  have hl := flat_len ws ds op cl (ws.length - 1)
  have e : ∀ (A B : List (List Nat)) (k : Nat), k < A.length → (A ++ B).getD k [] = A.getD k [] := fun A B k hk => by
    rw [List.getD_eq_getElem?_getD, List.getElem?_append_left hk, List.getD_eq_getElem?_getD]
  have g : ∀ (A : List (List Nat)) (x : List Nat) (k : Nat), A[k]? = some x → A.getD k [] = x := fun A x k hk => by
    rw [List.getD_eq_getElem?_getD, hk]; rfl
  unfold partsF
  constructor
  · rw [e _ _ _ (by simp only [List.length_cons]; omega)]
    exact g _ _ _ (by rw [List.getElem?_cons_succ]; exact h1)
  · rw [e _ _ _ (by simp only [List.length_cons]; omega)]
    exact g _ _ _ (by rw [List.getElem?_cons_succ]; exact h2)
theorem parts_get0 (ws : List (List Nat)) (ds : List Int) (op cl : List Nat) : (partsF ws ds op cl).getD 0 [] = ws.getD 0 [] := rfl
theorem parts_last (ws : List (List Nat)) (ds : List Int) (op cl : List Nat) : (partsF ws ds op cl).getD ((partsF ws ds op cl).length - 1) [] = reps (ds.getD (ds.length - 1) 0) cl := by
  unfold partsF
  rw [List.getD_eq_getElem?_getD, List.length_append, List.length_singleton, Nat.add_sub_cancel, List.getElem?_append_right (Nat.le_refl _), Nat.sub_self]
  rfl
theorem cutArg_get {f : Nat} {cl : List Nat} {ps : List (List Nat)} (h : ps ≠ []) (i : Nat) : (cutArg f cl ps).getD (i + 1) [] = ps.getD (i + 1) [] := by
  cases ps with
  | nil => exact absurd rfl h
  | cons x r => simp [cutArg]
theorem cutArg_len {f : Nat} {cl : List Nat} {ps : List (List Nat)} (h : ps ≠ []) : (cutArg f cl ps).length = ps.length := by
  cases ps with
  | nil => exact absurd rfl h
  | cons x r => simp [cutArg]
section
variable {w : World} {L : Addr} {base : Heap} {K : Fl → Sg → Prop}
set_option maxHeartbeats 1000000 in
theorem law_loop (xs : List Int) (look : Int) (kd : Nat) (t : Tree) {j : Nat} (inv : TOk j t) (hj : j ≤ 5) (dr de be b0 : Option PV) {rest : List Stmt} {nm : List Nat} (hnm : nm.length ≤ 1000)
    (hp1 : ∀ hg : Nat, hg < 2 → platF [textP xs.length t kd hg] = nm)
    (hp2 : ∀ hg : Nat, hg < 2 → platF (aheadF ((xs.length + hg) % 4) ++ cutF (cutArg ((xs.length + hg) % 4) (clL kd) (partsP xs.length t kd hg)) t.ks (j + 1)) = preF ((xs.length + hg) % 4) ++ nm)
    (hk : ∀ hg' hu pa te fi ah cu, Ex w 9 (wF L base) (lawSt xs xs.length look kd t dr de be (b0 :: some (.list (txs (wordsF xs.length t.ds.length))) :: some (.str (S nm)) :: some (.list (txs [textP xs.length t kd 0, textP xs.length t kd 1])) :: hg' :: hu :: pa :: te :: fi :: ah :: cu :: nones 4)) (execs rest (wF L base).env) K)
    {st : Stmt} (ht : forStmt = some st) :
    Ex w 9 (wF L base) (lawSt xs xs.length look kd t dr de be (b0 :: some (.list (txs (wordsF xs.length t.ds.length))) :: some (.str (S nm)) :: some (.list (txs [])) :: nones 11)) (execs (st :: rest) (wF L base).env) K := by
  cases ht
  have dl := inv.dl
  have kl := inv.kl
  refine ex_cons (ex_for 15 ([.int 0, .int 1] : List PV).length (fun i => ([.int 0, .int 1] : List PV).getD i .none)
    (fun i τ => ∃ hg' hu pa te fi ah cu, τ = lawSt xs xs.length look kd t dr de be (b0 :: some (.list (txs (wordsF xs.length t.ds.length))) :: some (.str (S nm)) :: some (.list (txs ((List.range i).map fun hg : Nat => textP xs.length t kd hg))) :: hg' :: hu :: pa :: te :: fi :: ah :: cu :: nones 4))
    (fun gh => evit_tuple (evl_cons ev_int (evl_cons ev_int evl_nil)) (by rw [sizeLine_eq]; simp) (by intro x hx; simp at hx; rcases hx with rfl | rfl <;> trivial)) ⟨none, none, none, none, none, none, none, rfl⟩ ?_ ?_ ?_)
  · rintro hg τ hhg ⟨hg', hu, pa, te, fi, ah, cu, rfl⟩
    have h2 : hg < 2 := hhg
    have ei : ([.int 0, .int 1] : List PV).getD hg .none = .int hg := by
      match hg, h2 with
      | 0, _ => rfl
      | 1, _ => rfl
    rw [ei]
    have h01 : ((hg : Nat) : Int) = 0 ∨ ((hg : Nat) : Int) = 1 := by omega
    have p1 := hp1 hg h2
    have p2 := hp2 hg h2
    have ml := partsP_mem (n := xs.length) (kd := kd) inv hj h01
    have pl := partsP_len (n := xs.length) (kd := kd) (hg := hg) inv
    have pne : partsP xs.length t kd hg ≠ [] := by intro q; rw [q] at pl; simp at pl
    have oplen := op_len kd
    have cllen := cl_len kd
    have f4 : (xs.length + hg) % 4 < 4 := Nat.mod_lt _ (by decide)
    have tl : (textP xs.length t kd hg).length ≤ 400 := by
      unfold textP
      rw [joinL_nil]
      have := flatten_le _ 7 ml
      rw [pl] at this; omega
    have cl2 := cutF_len2 (cutArg ((xs.length + hg) % 4) (clL kd) (partsP xs.length t kd hg)) t.ks (j + 1) (by omega) (fun i => ?_) (fun i => ?_)
    · refine law_hung xs look kd t inv.toTInv hj dr de be b0 _ _ _ hg h01 hu _ ?_ rfl
      refine law_parts _ (wordsF xs.length t.ds.length) (hungF t hg) (opL kd) (clL kd) rfl rfl rfl rfl (by rw [wordsF_len]; omega) (by rw [wordsF_len]; omega) (by rw [hungF_len, wordsF_len]) (fun i => by have := hung_bd inv h01 i; omega) (by omega) (by omega) ?_ ?t
      case t => rfl
      refine law_text _ (partsP xs.length t kd hg) rfl (by omega) (fun l hl => by have := ml l hl; omega) ?_ ?t
      case t => rfl
      refine law_if1 _ (textP xs.length t kd hg) nm rfl rfl tl p1 ?_ ?t
      case t => rfl
      refine law_first _ xs.length hg rfl rfl ?_ ?t
      case t => rfl
      generalize (xs.length + hg) % 4 = f at *
      refine law_ahead _ f f4 rfl ?_ ?t
      case t => rfl
      refine law_cutS _ f f4 (clL kd) (partsP xs.length t kd hg) t.ks (j + 1) rfl rfl rfl rfl cllen pl (by omega) (by omega) (fun l hl => by have := ml l hl; omega) kl inv.k8 ?_ ?t
      case t => rfl
      refine law_if2 _ f f4 (cutF (cutArg f (clL kd) (partsP xs.length t kd hg)) t.ks (j + 1)) nm rfl rfl rfl rfl cl2.1 cl2.2 hnm p2 ?_ ?t
      case t => rfl
      refine law_app _ ((List.range hg).map fun hg : Nat => textP xs.length t kd hg) (textP xs.length t kd hg) rfl rfl (by simp; omega) ?_ ?t
      case t => rfl
      have er : ((List.range hg).map fun hg : Nat => textP xs.length t kd hg) ++ [textP xs.length t kd hg] = (List.range (hg + 1)).map fun hg : Nat => textP xs.length t kd hg := by rw [List.range_succ, List.map_append]; rfl
      rw [er]
      exact ex_nil ⟨_, _, _, _, _, _, _, rfl⟩
    · cases i with
      | zero =>
        have := clF_len ((xs.length + hg) % 4) (clL kd) cllen
        have h0 : ((partsP xs.length t kd hg).getD 0 []).length ≤ 3 := words_get _ _ 0
        show (clF _ _ ++ (partsP xs.length t kd hg).getD 0 []).length ≤ 8
        rw [List.length_append]; omega
      | succ i =>
        rw [cutArg_get pne]
        by_cases hi : i + 1 < (partsP xs.length t kd hg).length
        · have : (partsP xs.length t kd hg).getD (i + 1) [] ∈ partsP xs.length t kd hg := by
            rw [List.getD_eq_getElem?_getD, List.getElem?_eq_getElem hi]; exact List.getElem_mem hi
          have := ml _ this; omega
        · rw [List.getD_eq_getElem?_getD, List.getElem?_eq_none (by omega)]; simp
    · by_cases hi : i + 1 < t.ds.length
      · left
        rw [cutArg_get pne]
        have := (parts_get (wordsF xs.length t.ds.length) (hungF t hg) (opL kd) (clL kd) i (by rw [wordsF_len]; exact hi)).2
        show ((partsF (wordsF xs.length t.ds.length) (hungF t hg) (opL kd) (clL kd)).getD (2 * i + 1 + 1) []).length ≤ 3
        rw [this]
        exact words_get _ _ _
      · right; omega
  · rintro τ ⟨hg', hu, pa, te, fi, ah, cu, rfl⟩
    exact hk hg' hu pa te fi ah cu
  · intro i
    match i with
    | 0 => trivial
    | 1 => trivial
    | n + 2 => trivial
end
end
end Mine

/- text R10 -/
namespace Mine
section
open PySem PySem.W PyProof.Rows PySem.Calls
def lstmt (j : Nat) : Option Stmt := (fBody 12)[j]?
def lookF (xs : List Int) : Int := (xs ++ [0]).getD 0 0
def kindF (look : Int) : Nat := ((look.fdiv 960).fmod 4).toNat
def openLt : List Expr := match lstmt 2 with
  | some (.Assign _ (.Subscript (.List lt _) _ _) _) => lt
  | _ => []
def openPs : List PV := [.tup [.str (S (opL 0)), .str (S (clL 0))], .tup [.str (S (opL 1)), .str (S (clL 1))], .tup [.str (S (opL 2)), .str (S (clL 2))], .tup [.str (S (opL 3)), .str (S (clL 3))]]
theorem openPs_get : ∀ kd : Nat, kd < 4 → openPs[kd]? = some (.tup [.str (S (opL kd)), .str (S (clL kd))])
  | 0, _ => rfl
  | 1, _ => rfl
  | 2, _ => rfl
  | 3, _ => rfl
  | n + 4, h => by omega
section
variable {w : World} {k : Nat} {env : Env} {I : HI}
theorem ev_pairS {e1 e2 : Expr} {kk : Nat} {pos : Pos} {a b : List Nat} (h1 : Ev w k env I e1 (.str (S a))) (h2 : Ev w k env I e2 (.str (S b)))
    (s1 : starEach [e1, e2] env = (false, eval e1 env) :: starEach [e2] env) (s2 : starEach [e2] env = (false, eval e2 env) :: starEach [] env) : Ev w k env I (.Tuple [e1, e2] kk pos) (.tup [.str (S a), .str (S b)]) :=
  ev_tuple (evl_cons h1 (evl_cons h2 evl_nil s2) s1) (by rw [sizeLine_eq]; simp)
theorem open_menu {lt : List Expr} {mpos : Pos} (h : lt = openLt) : EvL w k env I mpos lt openPs := by
  subst h
  refine evl_cons ?_ ?_ ?_
  · exact ev_pairS (ev_strS (l := [40])) (ev_strS (l := [41])) rfl rfl
  · refine evl_cons ?_ ?_ ?_
    · exact ev_pairS (ev_strS (l := [47])) (ev_strS (l := [92])) rfl rfl
    · refine evl_cons ?_ ?_ ?_
      · exact ev_pairS (ev_strS (l := [58])) (ev_strS (l := [59])) rfl rfl
      · refine evl_cons ?_ ?_ ?_
        · exact ev_pairS (ev_strS (l := [34])) (ev_strS (l := [34])) rfl rfl
        · exact evl_nil
        · rfl
      · rfl
    · rfl
  · rfl
theorem open_pick {lt : List Expr} {mpos pos : Pos} {i : Expr} {n : Int} (h0 : 0 ≤ n) (h4 : n < 4) (hi : Ev w k env I i (.int n)) (h : lt = openLt)
    (h5 : ∀ o j, subscripted i false o j = operate [o, j] (getItem o j)) : Ev w k env I (.Subscript (.List lt mpos) i pos) (.tup [.str (S (opL n.toNat)), .str (S (clL n.toNat))]) := by
  have h1 := open_menu (w := w) (k := k) (env := env) (I := I) (mpos := mpos) h
  have h2 : openPs.length ≤ sizeLine := by rw [sizeLine_eq]; simp [openPs]
  have h3 : n < 2 ^ 63 := by omega
  exact ev_idx (EvN.ev (ev_list h1 h2)) hi h0 h3 (openPs_get _ (by omega)) h5
end
section
variable {w : World} {L : Addr} {base : Heap} {K : Fl → Sg → Prop}
theorem law_s1 (σ : Sg) (xs : List Int) (hx : xs.length ≤ 63) {rest : List Stmt} (h0 : σ[0]? = some (some (.list (nms xs))))
    (hk : Ex w 9 (wF L base) (σ.set 2 (some (.int (lookF xs)))) (execs rest (wF L base).env) K)
    {st : Stmt} (ht : lstmt 1 = some st) : Ex w 9 (wF L base) σ (execs (st :: rest) (wF L base).env) K := by
  cases ht
  refine ex_cons (ex_assign (p := .int (lookF xs)) 2 (fun gh => ?_) hk)
  refine ev_idx (xs := nms xs ++ [.int 0]) (EvN.ev (ev_lcat (ev_var 0 rfl h0) (EvN.ev (ev_list (ps := [.int 0]) (evl_cons ev_int evl_nil) (by rw [sizeLine_eq]; simp))) (by rw [nms_len, sizeLine_eq]; simp; omega))) ev_int (by decide) (by decide) ?_
  rw [nms_snoc]
  exact nms_get _ 0 (by simp)
theorem law_s2 (σ : Sg) (look : Int) {rest : List Stmt} (h2 : σ[2]? = some (some (.int look)))
    (hk : Ex w 9 (wF L base) ((σ.set 3 (some (.str (S (opL (kindF look)))))).set 4 (some (.str (S (clL (kindF look)))))) (execs rest (wF L base).env) K)
    {st : Stmt} (ht : lstmt 2 = some st) : Ex w 9 (wF L base) σ (execs (st :: rest) (wF L base).env) K := by
  have b0 := Int.fmod_nonneg_of_pos (look.fdiv 960) (b := 4) (by decide)
  have b4 := Int.fmod_lt_of_pos (look.fdiv 960) (b := 4) (by decide)
  have key : ∀ (lt : List Expr) (i : Expr) (p1 p2 p3 p4 p5 p6 : Pos) (k1 : Nat), lt = openLt → (∀ o j, subscripted i false o j = operate [o, j] (getItem o j)) → (∀ gh, Ev w 9 (wF L base).env (hi (wF L base) gh σ) i (.int ((look.fdiv 960).fmod 4))) →
      Ex w 9 (wF L base) σ (execs (.Assign [.Tuple [.Name "opening" p1, .Name "closing" p2] k1 p3] (.Subscript (.List lt p4) i p5) p6 :: rest) (wF L base).env) K := by
    intro lt i p1 p2 p3 p4 p5 p6 k1 h hs hi
    exact ex_cons (ex_unpack2 (p := .str (S (opL (kindF look)))) (q := .str (S (clL (kindF look)))) 3 4 (fun gh => open_pick b0 b4 (hi gh) h hs) hk)
  cases ht
  refine key _ _ _ _ _ _ _ _ _ ?_ ?_ ?_
  · rfl
  · intro _ _; rfl
  · intro gh
    exact ev_mod (ev_fdiv (ev_var 2 rfl h2) ev_int (by decide) (by decide)) ev_int (by decide)
theorem law_s3 (σ : Sg) {rest : List Stmt} (hk : Ex w 9 (wF L base) (σ.set 5 (some (.list (nms [0])))) (execs rest (wF L base).env) K)
    {st : Stmt} (ht : lstmt 3 = some st) : Ex w 9 (wF L base) σ (execs (st :: rest) (wF L base).env) K := by
  cases ht
  exact ex_cons (ex_assignN (xs := nms [0]) 5 (fun gh => ev_list (ps := [.int 0]) (evl_cons ev_int evl_nil) (by rw [sizeLine_eq]; simp)) hk ints_sc)
theorem law_s4 (σ : Sg) {rest : List Stmt} (hk : Ex w 9 (wF L base) (σ.set 6 (some (.list (nms [0])))) (execs rest (wF L base).env) K)
    {st : Stmt} (ht : lstmt 4 = some st) : Ex w 9 (wF L base) σ (execs (st :: rest) (wF L base).env) K := by
  cases ht
  exact ex_cons (ex_assignN (xs := nms [0]) 6 (fun gh => ev_list (ps := [.int 0]) (evl_cons ev_int evl_nil) (by rw [sizeLine_eq]; simp)) hk ints_sc)
theorem law_s5 (σ : Sg) {rest : List Stmt} (hk : Ex w 9 (wF L base) (σ.set 7 (some (.list (nms [0])))) (execs rest (wF L base).env) K)
    {st : Stmt} (ht : lstmt 5 = some st) : Ex w 9 (wF L base) σ (execs (st :: rest) (wF L base).env) K := by
  cases ht
  exact ex_cons (ex_assignN (xs := nms [0]) 7 (fun gh => ev_list (ps := [.int 0]) (evl_cons ev_int evl_nil) (by rw [sizeLine_eq]; simp)) hk ints_sc)
end
end
end Mine

/- text R11 -/
namespace Mine
section
open PySem PySem.W PyProof.Rows PySem.Calls
def risesAt (ls : List Int) (i : Nat) : Bool := decide (ls.getD i 0 < ls.getD (i + 1) 0)
def runsF (ls : List Int) : Nat := ((List.range (ls.length - 1)).filter (risesAt ls)).length
def farF (n m : Nat) : Int := 4 * ((m : Int) - 1) + 2 * (blanksF n).sum
def lstmt17 (j : Nat) : Option Stmt := match lstmt 17 with
  | some (.For _ _ b _ _) => b[j]?
  | _ => none
def limF (n m : Nat) (look : Int) (hg : Nat) : Int := [farF n m - ((n : Int).fdiv 2).fmod 2, (m : Int) - 2].getD (((look.fdiv 3840 + hg).fmod 2).toNat) 0
section
variable {w : World} {L : Addr} {base : Heap} {K : Fl → Sg → Prop}
theorem runs_ok {xs : List Int} {look : Int} {kd : Nat} {t : Tree} {j : Nat} (inv : TInv j t) (hj : j ≤ 5) {dr de be : Option PV} {rest : Sg} {lp rp pos : Pos} {x : Str} {px : Pos} {elt iter : Expr} {ifs : List Expr} {scope : Scope} {y f : Expr} {kw : List Keyword} 
    (hw : lstmt 13 = some (.Assign [y] (.Call f [.ListComp elt [⟨.Name x px, iter, ifs, 0⟩] scope pos] kw lp) rp)) :
    CompOk w (wF L base) (lawSt xs xs.length look kd t dr de be rest) scope [("lifted", L + 1 + 1 + 1)] x ifs elt 1 j (risesAt t.ls) (fun i => .int (1 + (i : Nat))) := by
  cases hw
  have ll := inv.ll
  refine ⟨fun A C J i hi HJ => ?_, fun A C J i hi _ HJ => ?_⟩
  · have e0 : (1 + (i : Int)).toNat = i + 1 := by omega
    have e1 : (1 + (i : Int) - 1).toNat = i := by omega
    intro s Q E tk hJ hQ
    unfold testsOf
    rw [List.forIn_cons]
    refine wpAny_bind ?_
    rw [if_pos rfl]
    refine wpAny_bind (TrK.use (k_gt (b := t.ls.getD i 0) (a := t.ls.getD (i + 1) 0) (k_idx (xs := nms t.ls) (n := 1 + (i : Nat)) ?_ ?_ (by omega) (by omega) ?_) (k_idx (xs := nms t.ls) (n := 1 + (i : Nat) - 1) ?_ ?_ (by omega) (by omega) ?_)) tk hJ fun v s' tk' i' m r => ?_)
    · exact k_cell (c := L + 1 + 1 + 1) rfl rfl rfl (fun {g} q => HJ.cell q 6 _ "lifted" _ rfl rfl rfl rfl)
    · exact k_local rfl rfl (fun {g} q => HJ.own q)
    · rw [e0]; exact nms_get _ _ (by omega)
    · exact k_cell (c := L + 1 + 1 + 1) rfl rfl rfl (fun {g} q => HJ.cell q 6 _ "lifted" _ rfl rfl rfl rfl)
    · exact k_sub (k_local rfl rfl (fun {g} q => HJ.own q)) k_int
    · rw [e1]; exact nms_get _ _ (by omega)
    · exact wpAny_pure (wpAny_pure (hQ _ _ m r))
  · exact k_local rfl rfl (fun {g} q => HJ.own q)
theorem law_runs (xs : List Int) (look : Int) (kd : Nat) (t : Tree) {j : Nat} (inv : TInv j t) (hj : j ≤ 5) (dr de be : Option PV) (rest' : Sg) {rest : List Stmt}
    (hk : Ex w 9 (wF L base) ((lawSt xs xs.length look kd t dr de be rest').set 22 (some (.int (runsF t.ls)))) (execs rest (wF L base).env) K)
    {st : Stmt} (ht : lstmt 13 = some st) :
    Ex w 9 (wF L base) (lawSt xs xs.length look kd t dr de be rest') (execs (st :: rest) (wF L base).env) K := by
  cases ht
  have ll := inv.ll
  refine ex_cons (ex_assign (p := .int (runsF t.ls)) 22 (fun gh => ?_) hk)
  refine ev_lenL (l := compL j (risesAt t.ls) (fun i => .int (1 + (i : Nat)))) (ev_bi wF_glo rfl rfl rfl rfl rfl (by decide) rfl) (EvN.ev (ev_comp (a := 1) (n := j) (pz := risesAt t.ls) (val := fun i => .int (1 + (i : Nat))) ?_ (runs_ok inv hj rfl) (fun _ => trivial) (by omega) rfl (by decide) rfl (by decide) rfl (by intro _; rfl))) ?_ ?_
  · exact rg_range2 (ev_bi wF_glo rfl rfl rfl rfl rfl (by decide) rfl) ev_int (ev_lenL (ev_bi wF_glo rfl rfl rfl rfl rfl (by decide) rfl) (ev_var 6) (nms_len _) (by rw [nms_len]; omega)) j (.inl (by omega)) (by decide) (by decide) (by omega) (by omega)
  · unfold compL runsF
    rw [List.length_map, ll, Nat.add_sub_cancel]
  · unfold compL
    rw [List.length_map]
    have := List.length_filter_le (risesAt t.ls) (List.range j)
    rw [List.length_range] at this
    omega
theorem law_s14 (σ : Sg) (n r : Nat) {rest : List Stmt} (h1 : σ[1]? = some (some (.int n))) (h22 : σ[22]? = some (some (.int r)))
    (hk : Ex w 9 (wF L base) (σ.set 23 (some (.int (4 * (r : Int) + ((n : Int) + 1).fmod 3 - 1)))) (execs rest (wF L base).env) K)
    {st : Stmt} (ht : lstmt 14 = some st) : Ex w 9 (wF L base) σ (execs (st :: rest) (wF L base).env) K := by
  cases ht
  exact ex_cons (ex_assign (p := .int (4 * (r : Int) + ((n : Int) + 1).fmod 3 - 1)) 23 (fun gh => ev_sub (ev_add (ev_mul ev_int (ev_var 22 rfl h22) (.of_left (by decide))) (ev_mod (ev_add (ev_var 1 rfl h1) ev_int) ev_int (by decide))) ev_int) hk)
theorem ev_par {n : Nat} {σ : Sg} {k : Nat} {gh : List (Addr × Obj)} {px p1 p2 : Pos} {kk : Nat} (h1 : σ[1]? = some (some (.int n))) : Ev w k (wF L base).env (hi (wF L base) gh σ) (.BinOp (.Name "size" px) .Mod (.Constant (.int 2) kk p1) p2) (.int ((n : Int).fmod 2)) :=
  ev_mod (ev_var 1 rfl h1) ev_int (by decide)
/-- a pair of texts, one picked by the parity of the size, and the other one -/
def pick2 (n : Nat) (a b : List Nat) : List Nat := if n % 2 = 0 then a else b
theorem pick_get (n : Nat) (a b : List Nat) : (txs [a, b])[((n : Int).fmod 2).toNat]? = some (.str (S (pick2 n a b))) ∧ (txs [a, b])[(1 - (n : Int).fmod 2).toNat]? = some (.str (S (pick2 n b a))) := by
  have := fmodN n 2 (by decide)
  rw [show ((2 : Nat) : Int) = 2 from rfl] at this
  rw [this]
  have h2 : n % 2 < 2 := Nat.mod_lt _ (by decide)
  unfold pick2
  generalize n % 2 = q at *
  match q, h2 with
  | 0, _ => exact ⟨rfl, rfl⟩
  | 1, _ => exact ⟨rfl, rfl⟩
theorem law_s15 (σ : Sg) (n r : Nat) (m : Int) (a b : List Nat) {rest : List Stmt} (h1 : σ[1]? = some (some (.int n))) (h14 : σ[14]? = some (some (.list (txs [a, b])))) (h22 : σ[22]? = some (some (.int r))) (h23 : σ[23]? = some (some (.int m)))
    (la : a.length ≤ 1000) (lb : b.length ≤ 1000) (oa : LowOk a) (ob : LowOk b) (hp : withinF (levL cst (pick2 n a b) (pick2 n b a) m) (4 * (r : Int)) m = true)
    (hk : Ex w 9 (wF L base) σ (execs rest (wF L base).env) K)
    {st : Stmt} (ht : lstmt 15 = some st) : Ex w 9 (wF L base) σ (execs (st :: rest) (wF L base).env) K := by
  cases ht
  have f2 := fmod2 (n : Int)
  obtain ⟨g1, g2⟩ := pick_get n a b
  have la' : (pick2 n a b).length ≤ 1000 := by unfold pick2; split <;> assumption
  have lb' : (pick2 n b a).length ≤ 1000 := by unfold pick2; split <;> assumption
  have oa' : LowOk (pick2 n a b) := by unfold pick2; split <;> assumption
  have ob' : LowOk (pick2 n b a) := by unfold pick2; split <;> assumption
  refine ex_cons (ex_if (b := false) (fun gh => ?_) (fun h => by cases h) (fun _ => ex_nil hk))
  refine te_not (b := true) (te_boolv ?_)
  rw [← hp]
  refine ev_fn (a := 56) (cd := 55) (i := 11) (args := [.int (levL cst (pick2 n a b) (pick2 n b a) m), .int (4 * (r : Int)), .int m]) wF_glo (by decide) (ev_glob wF_glo rfl rfl rfl rfl) ((fn_within _ _ _).lift (by decide)) ?_
  refine evl_cons ?_ ?_
  · refine ev_fn (a := 35) (cd := 34) (i := 7) (args := [.str (S (pick2 n a b)), .str (S (pick2 n b a)), .int m]) wF_glo (by decide) (ev_glob wF_glo rfl rfl rfl rfl) ((fn_lev _ _ m la' lb' oa' ob').lift (by decide)) ?_
    refine evl_cons ?_ ?_
    · exact ev_idx (ev_var 14 rfl h14) (ev_par h1) f2.1 (by omega) g1
    · refine evl_cons ?_ ?_
      · exact ev_idx (ev_var 14 rfl h14) (ev_sub ev_int (ev_par h1)) (by omega) (by omega) g2
      · exact evl_cons (ev_var 23 rfl h23) evl_nil
  · refine evl_cons ?_ ?_
    · exact ev_mul ev_int (ev_var 22 rfl h22) (.of_left (by decide))
    · exact evl_cons (ev_var 23 rfl h23) evl_nil
theorem law_s16 (σ : Sg) (n : Nat) (ws : List (List Nat)) (hw : ws.length ≤ 6) {rest : List Stmt} (h11 : σ[11]? = some (some (.list (nms (blanksF n))))) (h12 : σ[12]? = some (some (.list (txs ws))))
    (hk : Ex w 9 (wF L base) (σ.set 24 (some (.int (farF n ws.length)))) (execs rest (wF L base).env) K)
    {st : Stmt} (ht : lstmt 16 = some st) : Ex w 9 (wF L base) σ (execs (st :: rest) (wF L base).env) K := by
  cases ht
  refine ex_cons (ex_assign (p := .int (farF n ws.length)) 24 (fun gh => ?_) hk)
  refine ev_add (ev_mul ev_int (ev_sub (ev_lenL (ev_bi wF_glo rfl rfl rfl rfl rfl (by decide) rfl) (ev_var 12 rfl h12) (txs_len ws) (by rw [txs_len]; omega)) ev_int) (.of_left (by decide))) (ev_mul ev_int ?_ (.of_left (by decide)))
  refine ev_sum (ns := blanksF n) (ev_bi wF_glo rfl rfl rfl rfl rfl (by decide) rfl) (ev_var 11 rfl h11) (fun i hi => ?_)
  have f2 := fmod2 ((n : Int).fdiv 4)
  have b := blanks_bd n i
  have pre : ∀ k, 0 ≤ preSum (fun i => (blanksF n).getD i 0) k ∧ preSum (fun i => (blanksF n).getD i 0) k ≤ 2 * k := by
    intro k
    induction k with
    | zero => simp [preSum]
    | succ k ih =>
      have b := blanks_bd n k
      simp only [preSum]
      omega
  have p := pre (i + 1)
  rw [blanks_len] at hi
  unfold InLong
  constructor <;> constructor <;> omega
end
end
end Mine

/- text R12 -/
namespace Mine
section
open PySem PySem.W PyProof.Rows PySem.Calls
section
variable {w : World} {L : Addr} {base : Heap} {K : Fl → Sg → Prop}
theorem limF_get (n m : Nat) (look : Int) (hg : Nat) : (nms [farF n m - ((n : Int).fdiv 2).fmod 2, (m : Int) - 2])[((look.fdiv 3840 + hg).fmod 2).toNat]? = some (.int (limF n m look hg)) := by
  have f2 := fmod2 (look.fdiv 3840 + hg)
  have h := nms_get [farF n m - ((n : Int).fdiv 2).fmod 2, (m : Int) - 2] ((look.fdiv 3840 + hg).fmod 2).toNat (by simp; omega)
  exact h
theorem law_p0 (σ : Sg) (n : Nat) (look : Int) (hg : Nat) (ws : List (List Nat)) (hw : ws.length ≤ 6) {rest : List Stmt} (h1 : σ[1]? = some (some (.int n))) (h2 : σ[2]? = some (some (.int look))) (h12 : σ[12]? = some (some (.list (txs ws))))
    (h15 : σ[15]? = some (some (.int hg))) (h24 : σ[24]? = some (some (.int (farF n ws.length))))
    (hk : Ex w 9 (wF L base) (σ.set 23 (some (.int (limF n ws.length look hg)))) (execs rest (wF L base).env) K)
    {st : Stmt} (ht : lstmt17 0 = some st) : Ex w 9 (wF L base) σ (execs (st :: rest) (wF L base).env) K := by
  cases ht
  have f2 := fmod2 (look.fdiv 3840 + hg)
  refine ex_cons (ex_assign (p := .int (limF n ws.length look hg)) 23 (fun gh => ?_) hk)
  refine ev_idx (xs := nms [farF n ws.length - ((n : Int).fdiv 2).fmod 2, (ws.length : Int) - 2]) (EvN.ev (ev_list ?_ (by rw [nms_len, sizeLine_eq]; simp))) ?_ f2.1 (by omega) (limF_get _ _ _ _)
  · refine evl_cons ?_ ?_
    · exact ev_sub (ev_var 24 rfl h24) (ev_mod (ev_fdiv (ev_var 1 rfl h1) ev_int (by decide) (by decide)) ev_int (by decide))
    · refine evl_cons ?_ evl_nil
      exact ev_sub (ev_lenL (ev_bi wF_glo rfl rfl rfl rfl rfl (by decide) rfl) (ev_var 12 rfl h12) (txs_len ws) (by rw [txs_len]; omega)) ev_int
  · exact ev_mod (ev_add (ev_fdiv (ev_var 2 rfl h2) ev_int (by decide) (by decide)) (ev_var 15 rfl h15)) ev_int (by decide)
theorem law_p1 (σ : Sg) (hg : Nat) (ts : List (List Nat)) (tx nm : List Nat) {rest : List Stmt} (h14 : σ[14]? = some (some (.list (txs ts)))) (ht' : (txs ts)[hg]? = some (.str (S tx))) (hg9 : hg < 9) (h13 : σ[13]? = some (some (.str (S nm)))) (h15 : σ[15]? = some (some (.int hg)))
    (hk : Ex w 9 (wF L base) (σ.set 25 (some (.list (txs [tx, nm])))) (execs rest (wF L base).env) K)
    {st : Stmt} (ht : lstmt17 1 = some st) : Ex w 9 (wF L base) σ (execs (st :: rest) (wF L base).env) K := by
  cases ht
  refine ex_cons (ex_assignN (xs := txs [tx, nm]) 25 (fun gh => ev_list (ps := [.str (S tx), .str (S nm)]) ?_ (by rw [sizeLine_eq]; simp)) hk txs_sc)
  refine evl_cons ?_ ?_
  · exact ev_idx (ev_var 14 rfl h14) (ev_var 15 rfl h15) (by omega) (by omega) (by rw [show ((hg : Nat) : Int).toNat = hg by omega]; exact ht')
  · exact evl_cons (ev_var 13 rfl h13) evl_nil
theorem law_p2 (σ : Sg) (n : Nat) (d m : Int) (a b : List Nat) {rest : List Stmt} (h1 : σ[1]? = some (some (.int n))) (h25 : σ[25]? = some (some (.list (txs [a, b])))) (h24 : σ[24]? = some (some (.int d))) (h23 : σ[23]? = some (some (.int m)))
    (la : a.length ≤ 1000) (lb : b.length ≤ 1000) (oa : LowOk a) (ob : LowOk b) (hp : withinF (levL cst (pick2 n a b) (pick2 n b a) m) d m = true)
    (hk : Ex w 9 (wF L base) σ (execs rest (wF L base).env) K)
    {st : Stmt} (ht : lstmt17 2 = some st) : Ex w 9 (wF L base) σ (execs (st :: rest) (wF L base).env) K := by
  cases ht
  have f2 := fmod2 (n : Int)
  obtain ⟨g1, g2⟩ := pick_get n a b
  have la' : (pick2 n a b).length ≤ 1000 := by unfold pick2; split <;> assumption
  have lb' : (pick2 n b a).length ≤ 1000 := by unfold pick2; split <;> assumption
  have oa' : LowOk (pick2 n a b) := by unfold pick2; split <;> assumption
  have ob' : LowOk (pick2 n b a) := by unfold pick2; split <;> assumption
  refine ex_cons (ex_if (b := false) (fun gh => ?_) (fun h => by cases h) (fun _ => ex_nil hk))
  refine te_not (b := true) (te_boolv ?_)
  rw [← hp]
  refine ev_fn (a := 56) (cd := 55) (i := 11) (args := [.int (levL cst (pick2 n a b) (pick2 n b a) m), .int d, .int m]) wF_glo (by decide) (ev_glob wF_glo rfl rfl rfl rfl) ((fn_within _ _ _).lift (by decide)) ?_
  refine evl_cons ?_ ?_
  · refine ev_fn (a := 35) (cd := 34) (i := 7) (args := [.str (S (pick2 n a b)), .str (S (pick2 n b a)), .int m]) wF_glo (by decide) (ev_glob wF_glo rfl rfl rfl rfl) ((fn_lev _ _ m la' lb' oa' ob').lift (by decide)) ?_
    refine evl_cons ?_ ?_
    · exact ev_idx (ev_var 25 rfl h25) (ev_par h1) f2.1 (by omega) g1
    · refine evl_cons ?_ ?_
      · exact ev_idx (ev_var 25 rfl h25) (ev_sub ev_int (ev_par h1)) (by omega) (by omega) g2
      · exact evl_cons (ev_var 23 rfl h23) evl_nil
  · refine evl_cons ?_ ?_
    · exact ev_var 24 rfl h24
    · exact evl_cons (ev_var 23 rfl h23) evl_nil
set_option maxHeartbeats 1000000 in
theorem law_far (xs : List Int) (look : Int) (kd : Nat) (t : Tree) (dr de be b0 : Option PV) {rest : List Stmt} {ws : List (List Nat)} {nm : List Nat} (hw : ws.length ≤ 6) (tx : Nat → List Nat)
    (la : ∀ hg, hg < 2 → (tx hg).length ≤ 1000) (lb : nm.length ≤ 1000) (oa : ∀ hg, hg < 2 → LowOk (tx hg)) (ob : LowOk nm)
    (hp : ∀ hg, hg < 2 → ∀ m, withinF (levL cst (pick2 xs.length (tx hg) nm) (pick2 xs.length nm (tx hg)) m) (farF xs.length ws.length) m = true)
    (hg' hu pa te fi ah cu ru li pr : Option PV)
    (hk : ∀ hg' li pr, Ex w 9 (wF L base) (lawSt xs xs.length look kd t dr de be [b0, some (.list (txs ws)), some (.str (S nm)), some (.list (txs [tx 0, tx 1])), hg', hu, pa, te, fi, ah, cu, ru, li, some (.int (farF xs.length ws.length)), pr]) (execs rest (wF L base).env) K)
    {st : Stmt} (ht : lstmt 17 = some st) :
    Ex w 9 (wF L base) (lawSt xs xs.length look kd t dr de be [b0, some (.list (txs ws)), some (.str (S nm)), some (.list (txs [tx 0, tx 1])), hg', hu, pa, te, fi, ah, cu, ru, li, some (.int (farF xs.length ws.length)), pr]) (execs (st :: rest) (wF L base).env) K := by
  cases ht
  refine ex_cons (ex_for 15 ([.int 0, .int 1] : List PV).length (fun i => ([.int 0, .int 1] : List PV).getD i .none)
    (fun i τ => ∃ hg' li pr, τ = lawSt xs xs.length look kd t dr de be [b0, some (.list (txs ws)), some (.str (S nm)), some (.list (txs [tx 0, tx 1])), hg', hu, pa, te, fi, ah, cu, ru, li, some (.int (farF xs.length ws.length)), pr])
    (fun gh => evit_tuple (evl_cons ev_int (evl_cons ev_int evl_nil)) (by rw [sizeLine_eq]; simp) (by intro x hx; simp at hx; rcases hx with rfl | rfl <;> trivial)) ⟨hg', li, pr, rfl⟩ ?_ ?_ ?_)
  · rintro hg τ hhg ⟨hg', li, pr, rfl⟩
    have h2 : hg < 2 := hhg
    have ei : ([.int 0, .int 1] : List PV).getD hg .none = .int hg := by
      match hg, h2 with
      | 0, _ => rfl
      | 1, _ => rfl
    rw [ei]
    have et : (txs [tx 0, tx 1])[hg]? = some (.str (S (tx hg))) := by
      match hg, h2 with
      | 0, _ => rfl
      | 1, _ => rfl
    refine law_p0 _ xs.length look hg ws hw rfl rfl rfl rfl rfl ?_ ?t
    case t => rfl
    refine law_p1 _ hg [tx 0, tx 1] (tx hg) nm rfl et (by omega) rfl rfl ?_ ?t
    case t => rfl
    refine law_p2 _ xs.length (farF xs.length ws.length) (limF xs.length ws.length look hg) (tx hg) nm rfl rfl rfl rfl (la hg h2) lb (oa hg h2) ob (hp hg h2 _) ?_ ?t
    case t => rfl
    exact ex_nil ⟨_, _, _, rfl⟩
  · rintro τ ⟨hg', li, pr, rfl⟩
    exact hk hg' li pr
  · intro i
    match i with
    | 0 => trivial
    | 1 => trivial
    | n + 2 => trivial

set_option maxHeartbeats 1000000 in
theorem law_all (xs : List Int) (hx : xs.length ≤ 63) {j : Nat} (inv : TOk j (treeF xs)) (hj : j ≤ 5)
    (h0 : ∀ kd, platF [opL kd ++ unk, [32], clL kd] = [])
    (hnm : (nameF (wordsF xs.length (treeF xs).ds.length)).length ≤ 1000)
    (hp1 : ∀ hg : Nat, hg < 2 → platF [textP xs.length (treeF xs) (kindF (lookF xs)) hg] = nameF (wordsF xs.length (treeF xs).ds.length))
    (hp2 : ∀ hg : Nat, hg < 2 → platF (aheadF ((xs.length + hg) % 4) ++ cutF (cutArg ((xs.length + hg) % 4) (clL (kindF (lookF xs))) (partsP xs.length (treeF xs) (kindF (lookF xs)) hg)) (treeF xs).ks (j + 1)) = preF ((xs.length + hg) % 4) ++ nameF (wordsF xs.length (treeF xs).ds.length))
    (la : ∀ hg : Nat, hg < 2 → (textP xs.length (treeF xs) (kindF (lookF xs)) hg).length ≤ 1000) (oa : ∀ hg : Nat, hg < 2 → LowOk (textP xs.length (treeF xs) (kindF (lookF xs)) hg)) (ob : LowOk (nameF (wordsF xs.length (treeF xs).ds.length)))
    (hl1 : ∀ m, withinF (levL cst (pick2 xs.length (textP xs.length (treeF xs) (kindF (lookF xs)) 0) (textP xs.length (treeF xs) (kindF (lookF xs)) 1)) (pick2 xs.length (textP xs.length (treeF xs) (kindF (lookF xs)) 1) (textP xs.length (treeF xs) (kindF (lookF xs)) 0)) m) (4 * (runsF (treeF xs).ls : Int)) m = true)
    (hl2 : ∀ hg : Nat, hg < 2 → ∀ m, withinF (levL cst (pick2 xs.length (textP xs.length (treeF xs) (kindF (lookF xs)) hg) (nameF (wordsF xs.length (treeF xs).ds.length))) (pick2 xs.length (nameF (wordsF xs.length (treeF xs).ds.length)) (textP xs.length (treeF xs) (kindF (lookF xs)) hg)) m) (farF xs.length (treeF xs).ds.length) m = true) :
    Ex w 9 (wF L base) ((wst0 (nms xs)).set 1 (some (.int xs.length))) (execs ((fBody 12).drop 1) (wF L base).env) fun fl _ => fl = .ret (.bool true) := by
  have dl := inv.dl
  have wl : (wordsF xs.length (treeF xs).ds.length).length ≤ 6 := by rw [wordsF_len]; omega
  refine law_s1 _ xs hx rfl ?_ ?t
  case t => rfl
  refine law_s2 _ (lookF xs) rfl ?_ ?t
  case t => rfl
  refine law_s3 _ ?_ ?t
  case t => rfl
  refine law_s4 _ ?_ ?t
  case t => rfl
  refine law_s5 _ ?_ ?t
  case t => rfl
  refine law_draws xs (lookF xs) (kindF (lookF xs)) (nones 15) hx (fun dr de be => ?_) ?t
  case t => rfl
  generalize treeF xs = t at *
  generalize lookF xs = look at *
  generalize kindF look = kd at *
  refine law_blanks xs look kd t dr de be none (nones 14) ?_ ?t
  case t => rfl
  refine law_words xs look kd t dr de be none (nones 13) (by omega) ?_ ?t
  case t => rfl
  refine law_name xs look kd t dr de be _ none (nones 12) (wordsF xs.length t.ds.length) wl (fun l hl => mem_words hl) ?_ ?t
  case t => rfl
  refine law_chk _ kd rfl rfl (h0 kd) ?_ ?t
  case t => rfl
  refine law_empty _ ?_ ?t
  case t => rfl
  refine law_loop xs look kd t inv hj dr de be _ hnm hp1 hp2 (fun hg' hu pa te fi ah cu => ?_) ?t
  case t => rfl
  refine law_runs xs look kd t inv.toTInv hj dr de be _ ?_ ?t
  case t => rfl
  refine law_s14 _ xs.length (runsF t.ls) rfl rfl ?_ ?t
  case t => rfl
  refine law_s15 _ xs.length (runsF t.ls) _ (textP xs.length t kd 0) (textP xs.length t kd 1) rfl rfl rfl rfl (la 0 (by decide)) (la 1 (by decide)) (oa 0 (by decide)) (oa 1 (by decide)) (hl1 _) ?_ ?t
  case t => rfl
  refine law_s16 _ xs.length (wordsF xs.length t.ds.length) wl rfl rfl ?_ ?t
  case t => rfl
  refine law_far xs look kd t dr de be _ wl (fun hg => textP xs.length t kd hg) la hnm oa ob (fun hg h m => ?_) hg' hu pa te fi ah cu _ _ none (fun hg' li pr => ?_) ?t
  case t => rfl
  · rw [wordsF_len]; exact hl2 hg h m
  · exact ex_cons (ex_return (fun gh => ev_bool) rfl)
end
end
end Mine

/- text R13 -/
namespace Mine
section
open PySem PySem.W PyProof.Rows PySem.Calls
def s0Stmt : Stmt := match lstmt 0 with
  | some s => s
  | none => .Break ⟨0, 0, 0, 0⟩
theorem law_call {w : World} {xs : List Int} {p : PV} (hx : xs.length ≤ 63)
    (body : ∀ L base, Ex w 9 (wF L base) ((wst0 (nms xs)).set 1 (some (.int xs.length))) (execs ((fBody 12).drop 1) (wF L base).env) fun fl _ => fl = .ret p)
    {A : Around} {s : Shared} {v : Value} {Q : Value → Shared → Prop} (ao : AOk (9 + 1) A) (g : GloP s.heap) (hv : Val s.heap (.list (nms xs)) v) (hQ : ∀ v s', Mv s s' → Val s'.heap p v → Q v s') :
    wpAny (model pw w) A (call (.ref 61) [v]) Q Bot s := by
  have hft : ((61, 60, 12) : Addr × Addr × Nat) ∈ ftab := by decide
  obtain ⟨⟨o, pm, doc, e, d⟩, cr⟩ := g.fns _ hft
  obtain ⟨vt, t⟩ := g.tab
  refine wpAny_call (codeAny_call_function ao.d e d rfl rfl rfl cr ?_)
  show wpAny _ _ (pure [(("script" : Str), v)]) _ _ _
  refine wpAny_pure (wpAny_newFunctionEnv_cells rfl (fun x hx => .inl ?_) fun env he s₁ X => ?_)
  · rw [List.mem_singleton.mp hx]; exact wscript
  subst he
  obtain ⟨h₁, tk₁, rfl, hkeep⟩ := X.done
  refine ⟨g.nolimit.keeps hkeep, ?_⟩
  show codeAny _ _ (.func (fBody 12) (wF s.heap.objs.size s.heap).env) _ _
  refine codeAny_func ?_
  have F := X.toInCall
  have le : Le s.heap h₁ := .of_keep hkeep
  have hcs : (wF s.heap.objs.size s.heap).env.cells = cellsFrom (s.heap.objs.size + 1) (fScope 12).names [] := rfl
  have new : ∀ c, s.heap.objs.size < c → c ≠ 16 ∧ c ≠ s.heap.objs.size ∧ s.heap.get? c = none := fun c hc => ⟨Nat.ne_of_gt (Nat.lt_trans t.1.lt.2 hc), Nat.ne_of_gt hc, by
    cases q : s.heap.get? c with
    | none => rfl
    | some o => exact absurd (Nat.lt_trans hc (Heap.lt_size q)) (Nat.lt_irrefl _)⟩
  have S : St (wF s.heap.objs.size s.heap) [] (wst0 (nms xs)) h₁ := by
    refine ⟨_, fun _ => v, ⟨⟨g, rfl, wnodup, t.new, new_size, fun x hx => ?_, fun x c hc => new c (X.above x c (mem_of_lookup hc)), fun x y c hx hy => name_of_addr X.apart (mem_of_lookup hx) (mem_of_lookup hy)⟩, le, F.ns, fun x c hc => ⟨_, X.cell x c hc⟩, fun j q ej => ?_, fun j hj l us ws e1 e2 hjl => ?_, fun j hj us b e1 e2 => ?_, fun q hq => nomatch hq⟩⟩
    · rcases wkinds x hx with h | ⟨h, h2⟩
      · exact .inl h
      · refine .inr ⟨h, ?_⟩
        rw [cells_shift 0 _ [] [] x rfl (s.heap.objs.size + 1)] at h2
        exact Option.isSome_iff_exists.mp h2
    · match j, ej with
      | 0, ej =>
        cases ej
        exact ⟨ints_sc, hv.le le, "script", rfl, .inl ⟨wscript, rfl⟩⟩
      | n + 1, ej =>
        simp only [wst0, List.getElem?_cons_succ, List.getElem?_replicate] at ej
        split at ej <;> cases ej
    all_goals
      match j, hj, e1 with
      | 0, hj, _ => exact absurd hj (by show 0 ∉ [5, 6, 7, 14]; decide)
      | n + 1, _, e1 =>
        simp only [wst0, List.getElem?_cons_succ, List.getElem?_replicate] at e1
        split at e1 <;> cases e1
  refine wpAny_mono (Q := fun f s' => Q (match f with | .ret v => v | _ => .none) s') (E := Bot) ?_ (fun f s' q => q) (fun _ _ x => x.elim)
  have ao' := ao.deeper (wF s.heap.objs.size s.heap).env
  obtain ⟨mS, μS, SS⟩ := id S
  have gl : GloP h₁ := wF_glo S
  show wpAny _ _ (execs (s0Stmt :: (fBody 12).drop 1) (wF s.heap.objs.size s.heap).env) _ _ _
  refine wpAny_execs_cons (wpAny_Assign_Name (wpAny_Call_NameR ?_) rfl)
  obtain ⟨mg, n, e⟩ := gl.names
  obtain ⟨mb, n', e'⟩ := gl.bi
  refine Name_function_global rfl rfl (loadGlobal_builtin n (e "len" none rfl) n' ((e' "len" (by decide)).trans rfl) ?_) (by decide)
  refine PySem.callWith_builtin1 (load_var SS (i := 0) (p := .list (nms xs)) rfl rfl (by decide) ?_)
  obtain ⟨_, o2, _⟩ := SS.var 0 (.list (nms xs)) rfl
  generalize μS 0 = u at o2
  cases o2 with
  | list l hl pl vl =>
    rename_i us
    have hlen := vl.length
    rw [nms_len] at hlen
    have e1 : us.toArray.size = xs.length := by simp [hlen]
    refine call_len_list pl.isList (by rw [e1]; omega) ?_
    rw [e1]
    refine wtk (Nat.succ_pos _) (store_name (F := wF s.heap.objs.size s.heap) (s₀ := { s with heap := h₁, toks := tk₁ + 1 + 1 }) (i := 1) (p := .int xs.length) SS (.refl _) rfl trivial (.int _ _) (.sc trivial) fun h2 tk2 S2 tk3 => ?_)
    refine Ex.use (body s.heap.objs.size s.heap) (s := { s with heap := h2, toks := tk2 }) ao' tk3 S2 fun f s' fl σ' tk' hk S' m r => ?_
    subst hk
    obtain ⟨_, _, S'⟩ := S'
    cases f with
    | ret v => exact hQ v s' ⟨S'.le, m.os, m.gens⟩ r
    | next => exact r.elim
    | brk => exact r.elim
    | cont => exact r.elim
end
end Mine

/- text H1 -/
namespace Mine
section
open PySem PySem.W PyProof.Rows PySem.Calls
/- the head: the facts of the module, and the call -/
def FnIn (K : Frag) (a cd : Addr) (i : Nat) : Prop :=
  (∃ o pm doc, K.lookup a = some o ∧ o.data = .func (docDef (fName i) (fArgs i) (fBody i) (fScope i) pm (.ref cd) doc)) ∧ codeIn K (.ref cd) (fName i) = true
theorem FnIn.at {K : Frag} {h : Heap} (X : K.In h) {a cd : Addr} {i : Nat} (x : FnIn K a cd i) : FnAt h a cd i :=
  let ⟨⟨o, pm, doc, e, d⟩, c⟩ := x
  ⟨⟨o, pm, doc, X _ _ e, d⟩, codeRec_of X c⟩
theorem mem_of_look {x : Str} {v : Option Value} : ∀ {l : List (Str × Option Value)}, l.lookup x = some v → (x, v) ∈ l
  | (y, u) :: l, h => by
    rw [List.lookup_cons] at h
    by_cases e : x = y
    · subst e
      simp at h
      subst h
      exact .head _
    · rw [beq_eq_false_iff_ne.mpr e] at h
      exact .tail _ (mem_of_look h)
structure HeadIn (K : Frag) (V : Program) : Prop where
  names : gtab.map (fun q => nsIn K mainGlobals q.1) = gtab.map fun q => some q.2
  f1 : FnIn K 21 20 1
  f2 : FnIn K 28 27 6
  f3 : FnIn K 35 34 7
  f4 : FnIn K 42 41 9
  f5 : FnIn K 49 48 10
  f6 : FnIn K 56 55 11
  f7 : FnIn K 61 60 12
  code : ∃ o vs, K.lookup 20 = some o ∧ o.data = .fields vs ∧ vs[11]? = some (.ref 16)
  recd : ∃ d ∈ recsOf V, d.name = "_platform"
theorem glo_of {K : Frag} {V : Program} {loose : List Str} {mean : ExcName → Option Value} {mg mb : Str → Option Value} {h : Heap} (T : Top V loose mean mg mb h) (X : K.In h) (H : HeadIn K V) : GloP h := by
  have nm : ∀ x v, gtab.lookup x = some v → mg x = v := fun x v e => by
    have hm := mem_of_look e
    have := List.map_inj_left.mp H.names (x, v) hm
    cases v with
    | some u => exact mg_of X T.g this
    | none => exact mg_none_of X T.g this
  refine ⟨?_, T.nolimit, ⟨mg, T.g, nm⟩, ⟨mb, T.b, T.builtins⟩, ?_, ?_⟩
  · obtain ⟨d, hd, hn⟩ := H.recd
    obtain ⟨a, o, fd, c, P, h1, h2, h3, h4, h5, h6⟩ := T.tab d hd
    rw [hn, nm "_platform" (some (.ref 21)) rfl] at h1
    cases h1
    obtain ⟨⟨o', pm, doc, e1, e2⟩, _⟩ := H.f1
    have e3 := X _ _ e1
    rw [h2] at e3
    cases e3
    rw [h3] at e2
    have e4 := Data.func.inj e2
    rw [e4] at h4
    cases h4
    obtain ⟨o', vs, q1, q2, q3⟩ := H.code
    obtain ⟨⟨o'', vs', r1, r2, r3, r4⟩, _⟩ := id h6
    have q4 := X _ _ q1
    rw [r1] at q4
    cases q4
    rw [r3] at q2
    have q5 := Data.fields.inj q2
    rw [q5, q3] at r4
    cases r4
    exact ⟨#[], h5, h6⟩
  · obtain ⟨bm, ob, M⟩ := bmod_of_top T
    exact ⟨mg, bm, ob, M⟩
  · intro f hf
    simp only [ftab, List.mem_cons, List.not_mem_nil, or_false] at hf
    rcases hf with rfl | rfl | rfl | rfl | rfl | rfl | rfl
    · exact H.f1.at X
    · exact H.f2.at X
    · exact H.f3.at X
    · exact H.f4.at X
    · exact H.f5.at X
    · exact H.f6.at X
    · exact H.f7.at X
/-- the table may grow, all else stays -/
theorem Le.oldK {h h' : Heap} (g : GloP h) (l : Le h h') : OldK h h' := by
  obtain ⟨vs, t⟩ := g.tab
  obtain ⟨more, t'⟩ := l.tab vs t
  exact OldK.step_table (OldK.refl h) t.2 t.2 t'.2 l.keep (by decide)
end
end Mine

/- text H0 -/
namespace Mine
section
open PySem PySem.W PyProof.Rows PySem.Calls
/-- what the head is asked to see of the heap: the module's names, its defs, their code -/
def sv (x : Str) (t : Tok) : Value := .str x t
def ent (P : Params) (x : Str) (t : Tok) (v : Value) : DictEntry := { hash := PyData.keyHash P x, key := .str x t, val := v }
def fobj (i : Nat) (pm : Value) (cd : Addr) : Obj := { cls := .type "function", data := .func (docDef (fName i) (fArgs i) (fBody i) (fScope i) pm (.ref cd) .none) }
def cobj (x : Str) (t u v : Tok) (ln ac fl : Int) (a b : Addr) (c d : Value) (e : Addr) (tx : Int) (z : Tok) : Obj :=
  { cls := .type "code", data := .fields #[.str x t, .str x u, .str "/claim/cut.py" v, .int ln 0, .int ac 0, .int 0 0, .int 0 0, .int fl 0, .ref a, .bool true, .int 181 0, .ref b, .none, c, d, .ref e, .int tx 0, .int ln 0, .str "/claim/cut.py" z] }
def gdict (P : Params) : Obj :=
  { cls := .type "dict", data := .dict #[ent P "__name__" 165 (.str "law_pu0016_01" 234), ent P "__doc__" 166 .none, ent P "__package__" 167 .none, ent P "__loader__" 168 (.builtin "__main__.__loader__#opaque"), ent P "__spec__" 169 .none,
    ent P "__annotations__" 170 (.ref 6), ent P "__builtins__" 171 (.ref 4), ent P "__file__" 173 (.str "/claim/cut.py" 172), ent P "__cached__" 174 .none, ent P "_platform" 197 (.ref 21), ent P "_MAX_STRING_SIZE" 201 (.int 40 200),
    ent P "_MOVE_COST" 203 (.int 2 202), ent P "_CASE_COST" 205 (.int 1 204), ent P "_substitution_cost" 213 (.ref 28), ent P "_levenshtein_distance" 233 (.ref 35), ent P "_law_parts" 247 (.ref 42), ent P "_law_cut" 259 (.ref 49),
    ent P "_law_within" 268 (.ref 56), ent P "law" 274 (.ref 61)] 19 }
def frag (P : Params) : Frag :=
  [(3, gdict P),
   (20, cobj "_platform" 189 190 191 2 0 7 15 16 (.ref 17) (.ref 18) 19 195 196), (21, fobj 1 (.str "cpy313.platform" 187) 20),
   (27, cobj "_substitution_cost" 206 207 208 25 2 3 22 23 (.ref 24) (.ref 25) 26 211 212), (28, fobj 6 (.str "cpy313.traceback" 198) 27),
   (34, cobj "_levenshtein_distance" 214 215 216 31 3 3 29 30 (.ref 31) (.ref 32) 33 231 232), (35, fobj 7 (.str "cpy313.traceback" 198) 34),
   (41, cobj "_law_parts" 236 237 238 70 4 3 36 37 (.ref 38) (.ref 39) 40 245 246), (42, fobj 9 (.str "law_pu0016_01" 234) 41),
   (48, cobj "_law_cut" 248 249 250 77 2 3 43 44 (.ref 45) (.ref 46) 47 257 258), (49, fobj 10 (.str "law_pu0016_01" 234) 48),
   (55, cobj "_law_within" 260 261 262 93 3 3 50 51 (.ref 52) (.ref 53) 54 266 267), (56, fobj 11 (.str "law_pu0016_01" 234) 55),
   (60, cobj "law" 269 270 271 95 1 3 57 58 .none .none 59 272 273), (61, fobj 12 (.str "law_pu0016_01" 234) 60)]
theorem frag_as (P : Params) : [3, 20, 21, 27, 28, 34, 35, 41, 42, 48, 49, 55, 56, 60, 61] = (frag P).map (·.1) := rfl
end
end Mine

/- text N1 -/
namespace Mine
section
open PySem PySem.W PyProof.Rows PySem.Calls
/- platform as a map of signs, unknown taken out, hyphens drawn together -/
def s1 (a b c : Nat) : Nat := if c = a then b else c
def sm (c : Nat) : Nat := s1 41 45 (s1 40 45 (s1 34 45 (s1 59 45 (s1 58 45 (s1 92 45 (s1 47 45 (s1 32 95 c)))))))
theorem rp1_map (a b : Nat) : ∀ l, rp [a] [b] 0 l = l.map (s1 a b)
  | [] => rfl
  | c :: l => by
    have ih := rp1_map a b l
    simp only [rp, List.isPrefixOf, Bool.and_true, List.map_cons, s1, List.length_singleton, Nat.sub_self]
    by_cases h : c = a
    · subst h; simp [ih, s1]
    · rw [if_neg (by simpa using Ne.symm h), if_neg h, ih]
theorem chain_map (x : List Nat) : chain x = rp unk [] 0 (x.map sm) := by
  unfold chain
  simp only [rp1_map, List.map_map]
  rfl
theorem chain_cons {c : Nat} {l : List Nat} (h : sm c ≠ 117) : chain (c :: l) = sm c :: chain l := by
  rw [chain_map, chain_map, List.map_cons, rp, if_neg]
  simp only [List.isPrefixOf, Bool.and_eq_true, beq_iff_eq]
  exact fun q => h q.1.symm
theorem chain_unk (l : List Nat) : chain (unk ++ l) = chain l := by
  rw [chain_map, chain_map, List.map_append]
  have e : unk.map sm = unk := by decide
  rw [e]
  simp only [unk, List.cons_append, List.nil_append, rp, List.isPrefixOf, beq_self_eq_true, Bool.true_and, if_true, List.length_cons, List.length_nil]
theorem chain_nil : chain [] = [] := rfl
def Im (l m : List Nat) : Prop := ∀ r, chain (l ++ r) = m ++ chain r
theorem Im.nil : Im [] [] := fun r => rfl
theorem Im.unk : Im unk [] := fun r => chain_unk r
theorem Im.cons {c : Nat} {l m : List Nat} (h : sm c ≠ 117) (x : Im l m) : Im (c :: l) (sm c :: m) := fun r => by
  rw [List.cons_append, chain_cons h, x]; rfl
theorem Im.app {l m l' m' : List Nat} (x : Im l m) (y : Im l' m') : Im (l ++ l') (m ++ m') := fun r => by
  rw [List.append_assoc, x, y, List.append_assoc]
theorem Im.end {l m : List Nat} (x : Im l m) : chain l = m := by
  have := x []
  rw [List.append_nil, chain_nil, List.append_nil] at this
  exact this
abbrev hy (n : Nat) : List Nat := List.replicate n 45
theorem hy_add (a b : Nat) : hy a ++ hy b = hy (a + b) := by simp [hy]
def NoHy (W : List Nat) : Prop := W ≠ [] ∧ ∀ c ∈ W, c ≠ 45
def Nf (s out : List Nat) : Prop := ∀ r, col (s ++ r) = out ++ col r
theorem col_word {W : List Nat} (h : ∀ c ∈ W, c ≠ 45) (r : List Nat) : col (W ++ r) = W ++ col r := by
  induction W with
  | nil => rfl
  | cons c W ih =>
    rw [List.cons_append, col, if_neg (fun q => h c (.head _) q.1), ih fun d hd => h d (.tail _ hd)]; rfl
theorem col_hy (k : Nat) {r : List Nat} (h : (col r).head? ≠ some 45) : col (hy (k + 1) ++ r) = 45 :: col r := by
  induction k with
  | zero =>
    show col (45 :: r) = _
    rw [col, if_neg (fun q => h q.2)]
  | succ k ih =>
    show col (45 :: (hy (k + 1) ++ r)) = _
    rw [col, ih, if_pos ⟨rfl, rfl⟩]
theorem word_head {W : List Nat} (h : NoHy W) (r : List Nat) : (col (W ++ r)).head? ≠ some 45 := by
  rw [col_word h.2]
  obtain ⟨hn, h⟩ := h
  cases W with
  | nil => exact absurd rfl hn
  | cons c W =>
    simp
    exact h c (.head _)
theorem Nf.word {W : List Nat} (h : NoHy W) : Nf W W := fun r => col_word h.2 r
theorem Nf.pre {W : List Nat} (k : Nat) (h : NoHy W) : Nf (hy (k + 1) ++ W) ([45] ++ W) := fun r => by
  rw [List.append_assoc, col_hy k (word_head h r), col_word h.2]; rfl
theorem Nf.step {s out W : List Nat} (x : Nf s out) (k : Nat) (h : NoHy W) : Nf (s ++ (hy (k + 1) ++ W)) (out ++ [45] ++ W) := fun r => by
  rw [List.append_assoc, x, List.append_assoc, col_hy k (word_head h r), col_word h.2]
  simp
theorem rs_hy (p : List Nat) (e : Nat) : rs (p ++ hy e) = rs p := by
  unfold rs
  rw [List.reverse_append, List.reverse_replicate]
  congr 1
  induction e with
  | zero => rfl
  | succ e ih => rw [List.replicate_succ, List.cons_append, List.dropWhile_cons_of_pos (by rfl)]; exact ih
theorem rs_id {p W : List Nat} (h : NoHy W) : rs (p ++ W) = p ++ W := by
  obtain ⟨hn, h⟩ := h
  unfold rs
  rcases List.eq_nil_or_concat W with rfl | ⟨V, c, rfl⟩
  · exact absurd rfl hn
  · rw [List.concat_eq_append] at *
    have hc : c ≠ 45 := h c (by simp)
    rw [← List.append_assoc, List.reverse_append, List.reverse_singleton, List.singleton_append, List.dropWhile_cons_of_neg (by simpa using hc)]
    simp
structure PF (x out : List Nat) : Prop where
  im : ∃ s, Im x s ∧ Nf s out
  last : ∃ p W, out = p ++ W ∧ NoHy W
theorem PF.word {w W : List Nat} (x : Im w W) (h : NoHy W) : PF w W := ⟨⟨W, x, .word h⟩, [], W, rfl, h⟩
theorem PF.pre {a w W : List Nat} {k : Nat} (y : Im a (hy (k + 1))) (x : Im w W) (h : NoHy W) : PF (a ++ w) ([45] ++ W) := ⟨⟨_, y.app x, .pre k h⟩, [45], W, rfl, h⟩
theorem PF.step {x out a w W : List Nat} (p : PF x out) {k : Nat} (y : Im a (hy (k + 1))) (z : Im w W) (h : NoHy W) : PF (x ++ (a ++ w)) (out ++ [45] ++ W) := by
  obtain ⟨⟨s, h1, h2⟩, _⟩ := p
  exact ⟨⟨_, h1.app (y.app z), h2.step k h⟩, out ++ [45], W, rfl, h⟩
theorem PF.fin {x out a : List Nat} (p : PF x out) {e : Nat} (y : Im a (hy e)) : rs (col (chain (x ++ a))) = out := by
  obtain ⟨⟨s, h1, h2⟩, q, W, rfl, h3⟩ := p
  rw [h1, h2, y.end]
  have e1 : col (hy e) = hy (if e = 0 then 0 else 1) := by
    cases e with
    | zero => rfl
    | succ e =>
      have := col_hy e (r := []) (by simp [col])
      rw [List.append_nil] at this
      rw [this]; rfl
  rw [e1, rs_hy, rs_id h3]
theorem h0_all (kd : Nat) : platF [opL kd ++ unk, [32], clL kd] = [] := by
  match kd with
  | 0 => decide +kernel
  | 1 => decide +kernel
  | 2 => decide +kernel
  | n + 3 => show platF [[34] ++ unk, [32], [34]] = []; decide +kernel
end
end Mine

/- text N2 -/
namespace Mine
section
open PySem PySem.W PyProof.Rows PySem.Calls
/- strip -/
abbrev sp (c : Nat) : Bool := Unicode.isSpace c
def ls (l : List Nat) : List Nat := l.dropWhile sp
def Ends (t : List Nat) : Prop := ∃ u c, t = u ++ [c] ∧ sp c = false
theorem Ends.app {t : List Nat} (h : Ends t) (s : List Nat) : Ends (s ++ t) := let ⟨u, c, e, q⟩ := h; ⟨s ++ u, c, by rw [e, List.append_assoc], q⟩
theorem Ends.one {c : Nat} (h : sp c = false) : Ends [c] := ⟨[], c, rfl, h⟩
theorem rstrip_id {t : List Nat} (h : Ends t) : (t.reverse.dropWhile sp).reverse = t := by
  obtain ⟨u, c, rfl, q⟩ := h
  rw [List.reverse_append, List.reverse_singleton, List.singleton_append, List.dropWhile_cons_of_neg (by simp [q])]
  simp
theorem rstrip_blank {t : List Nat} (h : Ends t) : ((t ++ [32]).reverse.dropWhile sp).reverse = t := by
  have e : sp 32 = true := by decide +kernel
  rw [List.reverse_append, List.reverse_singleton, List.singleton_append, List.dropWhile_cons_of_pos e]
  exact rstrip_id h
theorem ls_app {c t : List Nat} (h : ls c ≠ []) : ls (c ++ t) = ls c ++ t := by
  unfold ls at *
  rw [List.dropWhile_append]
  rw [if_neg]
  simpa using h
theorem strip_app {c t : List Nat} (h : ls c ≠ []) (e : Ends t) : stripL (c ++ t) = ls c ++ t := by
  show ((ls (c ++ t)).reverse.dropWhile sp).reverse = _
  rw [ls_app h]
  exact rstrip_id (e.app _)
theorem strip_app32 {c t : List Nat} (h : ls c ≠ []) (e : Ends t) : stripL ((c ++ t) ++ [32]) = ls c ++ t := by
  show ((ls ((c ++ t) ++ [32])).reverse.dropWhile sp).reverse = _
  rw [List.append_assoc, ls_app h, ← List.append_assoc]
  exact rstrip_blank (e.app _)
/- join of what is not empty -/
def jnp (A : List (List Nat)) : List Nat := ((A.filter nel).map fun t => stripL t ++ [45]).flatten
def jn (A : List (List Nat)) : List Nat := joinL [45] ((A.filter nel).map stripL)
theorem joinL_snoc (sep : List Nat) : ∀ (l : List (List Nat)) (x : List Nat), joinL sep (l ++ [x]) = (l.map (· ++ sep)).flatten ++ x
  | [], x => rfl
  | [y], x => by simp [joinL]
  | y :: z :: r, x => by
    have := joinL_snoc sep (z :: r) x
    simp only [List.cons_append, joinL, List.map_cons, List.flatten_cons, List.append_assoc] at this ⊢
    rw [this]
theorem jn_snoc (A : List (List Nat)) (x : List Nat) (h : x ≠ []) : jn (A ++ [x]) = jnp A ++ stripL x := by
  unfold jn jnp
  have hx : nel x = true := by unfold nel; simpa using h
  rw [List.filter_append, List.filter_cons_of_pos hx, List.filter_nil, List.map_append, List.map_cons, List.map_nil, joinL_snoc, List.map_map]
  rfl
theorem jnp_app (A B : List (List Nat)) : jnp (A ++ B) = jnp A ++ jnp B := by
  unfold jnp
  rw [List.filter_append, List.map_append, List.flatten_append]
theorem jnp_one (x : List Nat) (h : x ≠ []) : jnp [x] = stripL x ++ [45] := by
  unfold jnp
  have hx : nel x = true := by unfold nel; simpa using h
  rw [List.filter_cons_of_pos hx]; simp
theorem jnp_nil : jnp [] = [] := rfl
theorem joinL_last (sep : List Nat) (l : List (List Nat)) (x : List Nat) (h : l ≠ []) : joinL sep (l ++ [x]) = joinL sep l ++ sep ++ x := by
  rcases List.eq_nil_or_concat l with rfl | ⟨m, y, rfl⟩
  · exact absurd rfl h
  · rw [List.concat_eq_append, joinL_snoc, joinL_snoc]
    simp
/- letters and words -/
def letterAt (n i : Nat) : Nat := lettersL.getD (n % 6 + i) 0
structure Nice (c : Nat) : Prop where
  s : sm c = c
  u : c ≠ 117
  h : c ≠ 45
  b : c ≠ 32
  n : c ≠ 95
  p : sp c = false
theorem nice_all : ∀ c ∈ 0 :: lettersL, sm c = c ∧ c ≠ 117 ∧ c ≠ 45 ∧ c ≠ 32 ∧ c ≠ 95 ∧ sp c = false := by decide +kernel
theorem letter_mem (n i : Nat) : letterAt n i ∈ 0 :: lettersL := by
  unfold letterAt
  by_cases h : n % 6 + i < lettersL.length
  · rw [List.getD_eq_getElem?_getD, List.getElem?_eq_getElem h]
    exact .tail _ (List.getElem_mem h)
  · rw [List.getD_eq_getElem?_getD, List.getElem?_eq_none (by omega)]
    exact .head _
theorem letter_nice (n i : Nat) : Nice (letterAt n i) := let ⟨a, b, c, d, e, f⟩ := nice_all _ (letter_mem n i); ⟨a, b, c, d, e, f⟩
def blankAt (n i : Nat) : Nat := ((blanksF n).getD i 0).toNat
theorem blank0 (n : Nat) : blankAt n 0 ≤ 1 := by
  have := fmod2 ((n : Int).fdiv 4)
  show (((n : Int).fdiv 4).fmod 2).toNat ≤ 1
  omega
theorem blank_s (n i : Nat) : blankAt n (i + 1) = 0 ∨ blankAt n (i + 1) = 2 := by
  match i with
  | 0 => exact .inr rfl
  | 1 => exact .inl rfl
  | 2 => exact .inl rfl
  | 3 => exact .inl rfl
  | 4 => exact .inl rfl
  | i + 5 => exact .inl rfl
theorem wordAt_eq (n i : Nat) : wordAt n i = letterAt n i :: List.replicate (blankAt n i) 32 := by
  unfold wordAt reps
  show [letterAt n i] ++ _ = _
  have : ∀ k : Nat, (List.replicate k [32]).flatten = List.replicate k (32 : Nat) := by
    intro k
    induction k with
    | zero => rfl
    | succ k ih => rw [List.replicate_succ, List.flatten_cons, ih]; rfl
  rw [this]
  rfl
def wW (n i : Nat) : List Nat := letterAt n i :: List.replicate (blankAt n i) 95
theorem im_blanks (k : Nat) : Im (List.replicate k 32) (List.replicate k 95) := by
  induction k with
  | zero => exact .nil
  | succ k ih => exact Im.cons (c := 32) (by decide) ih
theorem im_letter (n i : Nat) {l m : List Nat} (x : Im l m) : Im (letterAt n i :: l) (letterAt n i :: m) := by
  have h := letter_nice n i
  have := Im.cons (c := letterAt n i) (by rw [h.s]; exact h.u) x
  rw [h.s] at this
  exact this
theorem im_word (n i : Nat) : Im (wordAt n i) (wW n i) := by
  rw [wordAt_eq]
  exact im_letter n i (im_blanks _)
theorem wordF_eq (n i : Nat) : wordF (wordAt n (i + 1)) = wordAt n (i + 1) ∨ wordF (wordAt n (i + 1)) = letterAt n (i + 1) :: (unk ++ [32, 32]) ∧ blankAt n (i + 1) = 2 := by
  rw [wordAt_eq]
  have hb := (letter_nice n (i + 1)).b
  rcases blank_s n i with h | h <;> rw [h]
  · left
    simp only [wordF, List.replicate_zero, rp, List.isPrefixOf, Bool.and_false, Bool.false_eq_true, if_false]
  · right
    refine ⟨?_, rfl⟩
    have e : ((32 : Nat) == letterAt n (i + 1)) = false := by simpa using Ne.symm hb
    simp only [wordF, List.replicate_succ, List.replicate_zero, rp, List.isPrefixOf, e, Bool.false_and, Bool.false_eq_true, if_false, beq_self_eq_true, Bool.and_self, if_true]
    rfl
theorem im_wordF (n i : Nat) : Im (wordF (wordAt n (i + 1))) (wW n (i + 1)) := by
  rcases wordF_eq n i with h | ⟨h, hb⟩
  · rw [h]; exact im_word n (i + 1)
  · rw [h]
    unfold wW
    rw [hb]
    exact im_letter n (i + 1) (Im.app (m := []) .unk (im_blanks 2))
theorem ls_letter (n i : Nat) (l : List Nat) : ls (letterAt n i :: l) = letterAt n i :: l := by
  unfold ls
  rw [List.dropWhile_cons_of_neg (by rw [(letter_nice n i).p]; decide)]
theorem ls_word (n i : Nat) : ls (wordAt n i) = wordAt n i := by rw [wordAt_eq]; exact ls_letter ..
theorem ls_wordF (n i : Nat) : ls (wordF (wordAt n (i + 1))) = wordF (wordAt n (i + 1)) ∧ wordF (wordAt n (i + 1)) ≠ [] := by
  rcases wordF_eq n i with h | ⟨h, hb⟩
  · rw [h]; exact ⟨ls_word .., by rw [wordAt_eq]; simp⟩
  · rw [h]; exact ⟨ls_letter .., by simp⟩
theorem nohy_W (n i : Nat) : NoHy (wW n i) := by
  refine ⟨by simp [wW], fun c hc => ?_⟩
  rcases List.mem_cons.mp hc with rfl | hc
  · exact (letter_nice n i).h
  · rw [List.eq_of_mem_replicate hc]; decide
theorem rp_word (n i : Nat) : rp [32] [95] 0 (wordAt n i) = wW n i := by
  rw [rp1_map, wordAt_eq, List.map_cons, List.map_replicate]
  unfold wW
  congr 1
  unfold s1
  rw [if_neg (letter_nice n i).b]
theorem name_eq (n m : Nat) : nameF (wordsF n m) = joinL [45] ((List.range m).map (wW n)) := by
  unfold nameF wordsF
  rw [List.map_map]
  congr 1
  apply List.map_congr_left
  intro i _
  exact rp_word n i
theorem words_at (n m i : Nat) (h : i < m) : (wordsF n m).getD i [] = wordAt n i := by
  unfold wordsF
  rw [List.getD_eq_getElem?_getD, List.getElem?_map, List.getElem?_range h]; rfl
/- signs -/
def IsSign (c : Nat) : Prop := sm c = 45 ∧ sp c = false
theorem op_sign (kd : Nat) : ∃ c, opL kd = [c] ∧ IsSign c := by
  unfold opL
  split <;> exact ⟨_, rfl, by decide +kernel, by decide +kernel⟩
theorem cl_sign (kd : Nat) : ∃ c, clL kd = [c] ∧ IsSign c := by
  unfold clL
  split <;> exact ⟨_, rfl, by decide +kernel, by decide +kernel⟩
theorem im_sign {c : Nat} (h : IsSign c) : Im [c] (hy 1) := by
  have := Im.cons (c := c) (by rw [h.1]; decide) .nil
  rw [h.1] at this
  exact this
theorem im_reps {c : Nat} (h : IsSign c) (k : Int) : Im (reps k [c]) (hy k.toNat) := by
  unfold reps
  generalize k.toNat = m
  induction m with
  | zero => exact .nil
  | succ m ih =>
    rw [List.replicate_succ, List.flatten_cons]
    have := (im_sign h).app ih
    rw [hy_add, Nat.add_comm] at this
    exact this
theorem im_sep {c d : Nat} (h : IsSign c) (h' : IsSign d) (k : Int) : Im (reps k [c] ++ [d]) (hy (k.toNat + 1)) := by
  have := (im_reps h k).app (im_sign h')
  rw [hy_add] at this
  exact this
theorem ends_reps {c : Nat} (h : IsSign c) {k : Int} (hk : 1 ≤ k) : Ends (reps k [c]) := by
  unfold reps
  obtain ⟨m, hm⟩ : ∃ m, k.toNat = m + 1 := ⟨k.toNat - 1, by omega⟩
  rw [hm, List.replicate_succ', List.flatten_append]
  exact Ends.app (by simpa using Ends.one h.2) _
end
end Mine

/- text N3 -/
namespace Mine
section
open PySem PySem.W PyProof.Rows PySem.Calls
theorem platF_eq (ts : List (List Nat)) : platF ts = rs (col (chain (jn ts))) := rfl
theorem platF_one (x : List Nat) (h : x ≠ []) : platF [x] = rs (col (chain (stripL x))) := by
  have := jn_snoc [] x h
  rw [List.nil_append, jnp_nil, List.nil_append] at this
  rw [platF_eq, this]
theorem range_last (j : Nat) (f : Nat → List Nat) : joinL [45] ((List.range (j + 1 + 1)).map f) = joinL [45] ((List.range (j + 1)).map f) ++ [45] ++ f (j + 1) := by
  rw [List.range_succ, List.map_append, List.map_singleton, joinL_last]
  simp
section
variable {n j kd : Nat} {t : Tree} {hg : Int}
def sepAt (t : Tree) (kd : Nat) (hg : Int) (i : Nat) : List Nat := reps ((hungF t hg).getD i 0 - (hungF t hg).getD (i + 1) 0 + 1) (clL kd) ++ opL kd
def endAt (t : Tree) (kd : Nat) (hg : Int) : List Nat := reps ((hungF t hg).getD (t.ds.length - 1) 0) (clL kd)
theorem im_sepAt (i : Nat) : ∃ k, Im (sepAt t kd hg i) (hy (k + 1)) := by
  obtain ⟨c, e1, h1⟩ := op_sign kd
  obtain ⟨d, e2, h2⟩ := cl_sign kd
  unfold sepAt
  rw [e1, e2]
  exact ⟨_, im_sep h2 h1 _⟩
theorem ends_sepAt (i : Nat) : Ends (sepAt t kd hg i) := by
  obtain ⟨c, e1, h1⟩ := op_sign kd
  unfold sepAt
  rw [e1]
  exact Ends.app (.one h1.2) _
theorem im_endAt : ∃ k, Im (endAt t kd hg) (hy k) := by
  obtain ⟨d, e2, h2⟩ := cl_sign kd
  unfold endAt
  rw [e2]
  exact ⟨_, im_reps h2 _⟩
theorem ends_endAt (inv : TOk j t) (hj : 1 ≤ j) (h01 : hg = 0 ∨ hg = 1) : Ends (endAt t kd hg) := by
  obtain ⟨d, e2, h2⟩ := cl_sign kd
  unfold endAt
  rw [e2]
  refine ends_reps h2 ?_
  have dl := inv.dl
  rw [dl, Nat.add_sub_cancel, hung_get t hg j (by omega)]
  obtain ⟨i, rfl⟩ : ∃ i, j = i + 1 := ⟨j - 1, by omega⟩
  have a := (inv.up i (by omega)).1
  have b := inv.l01 (i + 1)
  have c := inv.l2 (i + 1)
  generalize t.ds.getD (i + 1) 0 = x at *
  generalize t.ls.getD (i + 1) 0 = y at *
  rcases h01 with rfl | rfl <;> omega
/-- the text up to a label -/
def upTo (n : Nat) (t : Tree) (kd : Nat) (hg : Int) : Nat → List Nat
  | 0 => wordAt n 0
  | i + 1 => upTo n t kd hg i ++ (sepAt t kd hg i ++ wordAt n (i + 1))
theorem upTo_head (i : Nat) : ∃ r, upTo n t kd hg i = letterAt n 0 :: r := by
  induction i with
  | zero => exact ⟨_, wordAt_eq n 0⟩
  | succ i ih =>
    obtain ⟨r, e⟩ := ih
    exact ⟨r ++ (sepAt t kd hg i ++ wordAt n (i + 1)), by rw [upTo, e]; rfl⟩
theorem text_upTo (inv : TOk j t) : textP n t kd hg = upTo n t kd hg j ++ endAt t kd hg := by
  have dl := inv.dl
  unfold textP partsP
  rw [joinL_nil]
  unfold partsF
  have key : ∀ i, i ≤ j → ((wordsF n t.ds.length).getD 0 [] :: (List.range i).flatMap (pstep (wordsF n t.ds.length) (hungF t hg) (opL kd) (clL kd))).flatten = upTo n t kd hg i := by
    intro i
    induction i with
    | zero =>
      intro _
      rw [words_at n _ 0 (by omega)]
      simp [upTo]
    | succ i ih =>
      intro hi
      have := ih (by omega)
      rw [List.range_succ, List.flatMap_append, ← List.cons_append, List.flatten_append, this]
      simp only [List.flatMap_cons, List.flatMap_nil, List.append_nil, pstep, upTo, sepAt, List.flatten_cons, List.flatten_nil]
      rw [words_at n _ (i + 1) (by omega)]
  rw [wordsF_len, dl, List.flatten_append]
  rw [dl] at key
  rw [show j + 1 - 1 = j by omega, key j (Nat.le_refl _)]
  unfold endAt
  rw [hungF_len]
  simp
theorem pf_upTo (i : Nat) : PF (upTo n t kd hg i) (joinL [45] ((List.range (i + 1)).map (wW n))) := by
  induction i with
  | zero => exact PF.word (im_word n 0) (nohy_W n 0)
  | succ i ih =>
    obtain ⟨k, hk⟩ := im_sepAt (t := t) (kd := kd) (hg := hg) i
    rw [range_last]
    exact ih.step hk (im_word n (i + 1)) (nohy_W n (i + 1))
theorem plat1 (inv : TOk j t) (hj : 1 ≤ j) (h01 : hg = 0 ∨ hg = 1) : platF [textP n t kd hg] = nameF (wordsF n t.ds.length) := by
  have dl := inv.dl
  obtain ⟨k, hk⟩ := im_endAt (t := t) (kd := kd) (hg := hg)
  obtain ⟨r, hr⟩ := upTo_head (n := n) (t := t) (kd := kd) (hg := hg) j
  rw [platF_one _ (by rw [text_upTo inv, hr]; simp), text_upTo inv]
  have hl : ls (upTo n t kd hg j) = upTo n t kd hg j := by rw [hr]; exact ls_letter ..
  rw [strip_app (by rw [hl, hr]; simp) (ends_endAt inv hj h01), hl, (pf_upTo j).fin hk, name_eq, dl]

/- the cut text -/
def midX : Nat → List Nat
  | 0 => []
  | 5 => unk
  | kd => 45 :: jnp (extra kd)
theorem im_hy45 {l m : List Nat} (x : Im l m) : Im (45 :: l) (45 :: m) := Im.cons (c := 45) (by decide) x
theorem unk_strip : stripL unk = unk := by decide +kernel
theorem im_jnp (kd : Nat) : ∃ k, Im (jnp (extra kd)) (hy k) := by
  unfold extra
  split
  · exact ⟨0, by show Im [] []; exact .nil⟩
  · refine ⟨1, ?_⟩
    rw [jnp_one _ (by decide), unk_strip]
    exact Im.app (m := []) .unk (im_hy45 .nil)
  · refine ⟨1, ?_⟩
    have e : stripL [32, 32] = [] := by decide +kernel
    rw [jnp_one _ (by decide), e]
    exact im_hy45 .nil
  · refine ⟨10, ?_⟩
    have e : stripL sgn = sgn := by decide +kernel
    rw [jnp_one _ (by decide), e]
    show Im [45, 47, 92, 58, 59, 34, 40, 41, 45, 45] [45, 45, 45, 45, 45, 45, 45, 45, 45, 45]
    exact im_hy45 (Im.cons (c := 47) (by decide) (Im.cons (c := 92) (by decide) (Im.cons (c := 58) (by decide) (Im.cons (c := 59) (by decide) (Im.cons (c := 34) (by decide) (Im.cons (c := 40) (by decide) (Im.cons (c := 41) (by decide) (im_hy45 (im_hy45 .nil)))))))))
  · exact ⟨0, by show Im [] []; exact .nil⟩
theorem im_mid (kd : Nat) : ∃ k, Im (midX kd) (hy k) := by
  unfold midX
  split
  · exact ⟨0, .nil⟩
  · exact ⟨0, .unk⟩
  · obtain ⟨k, hk⟩ := im_jnp kd
    exact ⟨k + 1, im_hy45 hk⟩
theorem mid_else {k : Nat} (h : ¬ (k = 0 ∨ k = 5)) : midX k = 45 :: jnp (extra k) := by
  unfold midX
  split
  · exact absurd (.inl rfl) h
  · exact absurd (.inr rfl) h
  · rfl
theorem ls_tabs (k : Nat) {l : List Nat} (h : ls l = l) : ls (tabs k ++ l) = l := by
  have e : sp 9 = true := by decide +kernel
  unfold tabs
  split
  · unfold ls at *
    rw [List.singleton_append, List.dropWhile_cons_of_pos e, h]
  · simpa using h
theorem cut_step (pre p q : List Nat) (kd : Nat) (T : List (List Nat) × List Nat) (hT : ls T.2 ≠ []) (hp : Ends p) (hq : ls (wordF q) = wordF q) (hq0 : wordF q ≠ []) :
    jnp (cutStep p q kd T).1 ++ ls (cutStep p q kd T).2 = (jnp T.1 ++ ls T.2) ++ ((p ++ midX kd) ++ wordF q) ∧ ls (cutStep p q kd T).2 ≠ [] := by
  unfold cutStep
  split
  · rename_i h
    have e : cutL p kd T.2 ++ wordF q = T.2 ++ ((p ++ midX kd) ++ wordF q) := by
      unfold cutL
      rcases h with rfl | rfl
      · simp [midX]
      · simp [midX]
    show jnp T.1 ++ ls (cutL p kd T.2 ++ wordF q) = _ ∧ ls (cutL p kd T.2 ++ wordF q) ≠ []
    rw [e, ls_app hT]
    refine ⟨(List.append_assoc _ _ _).symm, ?_⟩
    intro q'
    exact hT (List.append_eq_nil_iff.mp q').1
  · rename_i h
    have hn : T.2 ++ p ≠ [] := by
      intro q'
      have := (List.append_eq_nil_iff.mp q').1
      rw [this] at hT
      exact hT rfl
    have hc : cutL p kd T.2 ≠ [] := by
      unfold cutL
      intro q'
      exact hn (List.append_eq_nil_iff.mp (List.append_eq_nil_iff.mp q').1).1
    have hs : stripL (cutL p kd T.2) = ls T.2 ++ p := by
      unfold cutL
      rw [if_neg (fun q => h (.inr q)), List.append_nil]
      split
      · exact strip_app32 hT hp
      · rw [List.append_nil]; exact strip_app hT hp
    show jnp ((T.1 ++ [cutL p kd T.2]) ++ extra kd) ++ ls (tabs kd ++ wordF q) = _ ∧ ls (tabs kd ++ wordF q) ≠ []
    rw [jnp_app, jnp_app, jnp_one _ hc, hs, ls_tabs kd hq, mid_else h]
    exact ⟨by simp, hq0⟩
theorem pf_cut (inv : TOk j t) (pre A0 : List Nat) (ps : List (List Nat)) (ks : List Nat) (h0 : ls (ps.getD 0 []) = A0) (hA0 : A0 ≠ []) (P : List Nat) (hP : PF (pre ++ A0) P) (hp : ∀ i, i < j → ps.getD (2 * i + 1) [] = sepAt t kd hg i) (hw : ∀ i, i < j → ps.getD (2 * i + 2) [] = wordAt n (i + 1)) :
    ∀ i, i ≤ j → PF (pre ++ (jnp (cutN ps ks i).1 ++ ls (cutN ps ks i).2)) (P ++ ((List.range i).map fun a => 45 :: wW n (a + 1)).flatten) ∧ ls (cutN ps ks i).2 ≠ [] := by
  intro i
  induction i with
  | zero =>
    intro _
    simp only [cutN, jnp_nil, List.nil_append, h0]
    simpa using ⟨hP, hA0⟩
  | succ i ih =>
    intro hi
    obtain ⟨h1, h2⟩ := ih (by omega)
    obtain ⟨w1, w2⟩ := ls_wordF n i
    rw [cutN, hp i (by omega), hw i (by omega)]
    obtain ⟨e1, e2⟩ := cut_step pre (sepAt t kd hg i) (wordAt n (i + 1)) (ks.getD (i + 1) 0) (cutN ps ks i) h2 (ends_sepAt i) w1 w2
    obtain ⟨k1, hk1⟩ := im_sepAt (t := t) (kd := kd) (hg := hg) i
    obtain ⟨k2, hk2⟩ := im_mid (ks.getD (i + 1) 0)
    have hk := hk1.app hk2
    rw [hy_add, show k1 + 1 + k2 = (k1 + k2) + 1 by omega] at hk
    have := h1.step hk (im_wordF n i) (nohy_W n (i + 1))
    refine ⟨?_, e2⟩
    rw [e1, List.range_succ, List.map_append, List.flatten_append, ← List.append_assoc]
    have e3 : P ++ (((List.range i).map fun a => 45 :: wW n (a + 1)).flatten ++ (List.map (fun a => 45 :: wW n (a + 1)) [i]).flatten) = P ++ ((List.range i).map fun a => 45 :: wW n (a + 1)).flatten ++ [45] ++ wW n (i + 1) := by simp
    rw [e3]
    exact this
theorem name_flat (i : Nat) : joinL [45] ((List.range (i + 1)).map (wW n)) = wW n 0 ++ ((List.range i).map fun a => 45 :: wW n (a + 1)).flatten := by
  induction i with
  | zero => simp [joinL]
  | succ i ih =>
    rw [range_last, ih, List.range_succ (n := i), List.map_append, List.flatten_append]
    simp
theorem plat2 (inv : TOk j t) (hj : 1 ≤ j) (h01 : hg = 0 ∨ hg = 1) (f : Nat) (hf : f < 4) :
    platF (aheadF f ++ cutF (cutArg f (clL kd) (partsP n t kd hg)) t.ks (j + 1)) = preF f ++ nameF (wordsF n t.ds.length) := by
  have dl := inv.dl
  have pl := partsP_len (n := n) (kd := kd) (hg := hg) inv
  have pne : partsP n t kd hg ≠ [] := by intro q; rw [q] at pl; simp at pl
  have al : (cutArg f (clL kd) (partsP n t kd hg)).length = 2 * (j + 1) := by rw [cutArg_len pne, pl]
  obtain ⟨c, ec, hc⟩ := cl_sign kd
  -- the first part
  have g0 : (cutArg f (clL kd) (partsP n t kd hg)).getD 0 [] = clF f (clL kd) ++ wordAt n 0 := by
    show clF f (clL kd) ++ (partsP n t kd hg).getD 0 [] = _
    congr 1
    exact words_at n _ 0 (by omega)
  have start : ls (clF f (clL kd) ++ wordAt n 0) = clF f (clL kd) ++ wordAt n 0 ∧ PF (jnp (aheadF f) ++ (clF f (clL kd) ++ wordAt n 0)) (preF f ++ wW n 0) := by
    unfold clF
    match f, hf with
    | 0, _ =>
      rw [if_pos rfl, ec]
      refine ⟨?_, ?_⟩
      · unfold ls
        rw [List.singleton_append, List.dropWhile_cons_of_neg (by rw [hc.2]; decide)]
      · show PF ([] ++ ([c] ++ wordAt n 0)) ([45] ++ wW n 0)
        rw [List.nil_append]
        exact PF.pre (k := 0) (im_sign hc) (im_word n 0) (nohy_W n 0)
    | 1, _ =>
      rw [if_neg (by decide), List.nil_append]
      exact ⟨ls_word n 0, PF.word (im_word n 0) (nohy_W n 0)⟩
    | 2, _ =>
      rw [if_neg (by decide), List.nil_append]
      refine ⟨ls_word n 0, ?_⟩
      have e : stripL [32, 32] = [] := by decide +kernel
      show PF (jnp [[32, 32]] ++ wordAt n 0) ([45] ++ wW n 0)
      rw [jnp_one _ (by decide), e]
      exact PF.pre (k := 0) (im_hy45 .nil) (im_word n 0) (nohy_W n 0)
    | 3, _ =>
      rw [if_neg (by decide), List.nil_append]
      refine ⟨ls_word n 0, ?_⟩
      show PF (jnp [unk] ++ wordAt n 0) ([45] ++ wW n 0)
      rw [jnp_one _ (by decide), unk_strip]
      exact PF.pre (k := 0) (Im.app (m := []) .unk (im_hy45 .nil)) (im_word n 0) (nohy_W n 0)
  obtain ⟨s1, s2⟩ := start
  have hne : clF f (clL kd) ++ wordAt n 0 ≠ [] := by rw [wordAt_eq]; simp
  have hsep : ∀ i, i < j → (cutArg f (clL kd) (partsP n t kd hg)).getD (2 * i + 1) [] = sepAt t kd hg i := fun i hi => by
    rw [cutArg_get pne]
    exact (parts_get (wordsF n t.ds.length) (hungF t hg) (opL kd) (clL kd) i (by rw [wordsF_len]; omega)).1
  have hwd : ∀ i, i < j → (cutArg f (clL kd) (partsP n t kd hg)).getD (2 * i + 2) [] = wordAt n (i + 1) := fun i hi => by
    rw [cutArg_get pne, ← words_at n t.ds.length (i + 1) (by omega)]
    exact (parts_get (wordsF n t.ds.length) (hungF t hg) (opL kd) (clL kd) i (by rw [wordsF_len]; omega)).2
  obtain ⟨P, hls⟩ := pf_cut (n := n) (kd := kd) (hg := hg) inv (jnp (aheadF f)) _ (cutArg f (clL kd) (partsP n t kd hg)) t.ks (by rw [g0]; exact s1) hne _ s2 hsep hwd j (Nat.le_refl _)
  -- the last part
  have hlast : (cutArg f (clL kd) (partsP n t kd hg)).getD ((cutArg f (clL kd) (partsP n t kd hg)).length - 1) [] = endAt t kd hg := by
    rw [al, show 2 * (j + 1) - 1 = (2 * j) + 1 by omega, cutArg_get pne]
    have := parts_last (wordsF n t.ds.length) (hungF t hg) (opL kd) (clL kd)
    rw [hungF_len] at this
    unfold endAt
    rw [← this]
    congr 1
    show _ = (partsP n t kd hg).length - 1
    rw [pl]; omega
  obtain ⟨k, hk⟩ := im_endAt (t := t) (kd := kd) (hg := hg)
  rw [platF_eq]
  unfold cutF
  rw [Nat.add_sub_cancel, hlast, ← List.append_assoc, jn_snoc]
  · rw [jnp_app, strip_app hls (ends_endAt inv hj h01), ← List.append_assoc, List.append_assoc (jnp (aheadF f)), P.fin hk, name_eq, dl, name_flat]
    rw [List.append_assoc]
  · intro q
    have := (List.append_eq_nil_iff.mp q).1
    rw [this] at hls
    exact hls rfl
end
end
end Mine

/- text E1 -/
namespace Mine
section
open PySem PySem.W PyProof.Rows PySem.Calls
/-- alignments, with the number of edits -/
inductive Al : List Nat → List Nat → Nat → Prop
  | nil : Al [] [] 0
  | del (c : Nat) {a b : List Nat} {k : Nat} : Al a b k → Al (c :: a) b (k + 1)
  | ins (c : Nat) {a b : List Nat} {k : Nat} : Al a b k → Al a (c :: b) (k + 1)
  | sub {c d : Nat} {a b : List Nat} {k : Nat} : c ≠ d → Al a b k → Al (c :: a) (d :: b) (k + 1)
  | keep (c : Nat) {a b : List Nat} {k : Nat} : Al a b k → Al (c :: a) (c :: b) k
/-- the least number of edits -/
def ed : List Nat → List Nat → Nat
  | [], b => b.length
  | _ :: a, [] => a.length + 1
  | x :: a, y :: b => min (min (ed a (y :: b)) (ed (x :: a) b) + 1) (ed a b + if x = y then 0 else 1)
termination_by a b => a.length + b.length
theorem ed_nil (b : List Nat) : ed [] b = b.length := by rw [ed]
theorem ed_nil' : ∀ a : List Nat, ed a [] = a.length
  | [] => by rw [ed]
  | x :: a => by rw [ed]; rfl
theorem al_insAll : ∀ b : List Nat, Al [] b b.length
  | [] => .nil
  | c :: b => .ins c (al_insAll b)
theorem al_delAll : ∀ a : List Nat, Al a [] a.length
  | [] => .nil
  | c :: a => .del c (al_delAll a)
theorem ed_al : ∀ a b : List Nat, Al a b (ed a b)
  | [], b => by rw [ed_nil]; exact al_insAll b
  | x :: a, [] => by rw [ed_nil']; exact al_delAll (x :: a)
  | x :: a, y :: b => by
    have h1 := (ed_al a (y :: b)).del x
    have h2 := (ed_al (x :: a) b).ins y
    have h3 := ed_al a b
    rw [ed]
    by_cases c1 : ed a b + (if x = y then 0 else 1) ≤ min (ed a (y :: b)) (ed (x :: a) b) + 1
    · rw [Nat.min_eq_right c1]
      split
      · rename_i e; subst e; exact h3.keep x
      · rename_i e; exact h3.sub e
    · rw [Nat.min_eq_left (by omega)]
      by_cases c2 : ed a (y :: b) ≤ ed (x :: a) b
      · rw [Nat.min_eq_left c2]; exact h1
      · rw [Nat.min_eq_right (by omega)]; exact h2
termination_by a b => a.length + b.length
theorem ed_del (x : Nat) (a b : List Nat) : ed (x :: a) b ≤ ed a b + 1 := by
  cases b with
  | nil => rw [ed_nil', ed_nil']; simp
  | cons y b => rw [ed]; omega
theorem ed_ins (y : Nat) (a b : List Nat) : ed a (y :: b) ≤ ed a b + 1 := by
  cases a with
  | nil => rw [ed_nil, ed_nil]; simp
  | cons x a => rw [ed]; omega
theorem al_ed {a b : List Nat} {k : Nat} (h : Al a b k) : ed a b ≤ k := by
  induction h with
  | nil => rw [ed_nil]; simp
  | @del c a b k _ ih => have := ed_del c a b; omega
  | @ins c a b k _ ih => have := ed_ins c a b; omega
  | @sub c d a b k hne _ ih => rw [ed, if_neg hne]; omega
  | @keep c a b k _ ih => rw [ed, if_pos rfl]; omega
theorem Al.app {a b : List Nat} {k : Nat} (h : Al a b k) {a' b' : List Nat} {k' : Nat} (h' : Al a' b' k') : Al (a ++ a') (b ++ b') (k + k') := by
  induction h with
  | nil => simpa using h'
  | del c _ ih => rw [Nat.add_right_comm]; exact ih.del c
  | ins c _ ih => rw [Nat.add_right_comm]; exact ih.ins c
  | sub hne _ ih => rw [Nat.add_right_comm]; exact ih.sub hne
  | keep c _ ih => exact ih.keep c
theorem Al.rev {a b : List Nat} {k : Nat} (h : Al a b k) : Al a.reverse b.reverse k := by
  induction h with
  | nil => exact .nil
  | del c _ ih =>
    have := ih.app (Al.nil.del c)
    rw [List.append_nil] at this
    rw [List.reverse_cons]; exact this
  | ins c _ ih =>
    have := ih.app (Al.nil.ins c)
    rw [List.append_nil] at this
    rw [List.reverse_cons]; exact this
  | sub hne _ ih => rw [List.reverse_cons, List.reverse_cons]; exact ih.app (Al.nil.sub hne)
  | keep c _ ih => rw [List.reverse_cons, List.reverse_cons]; exact ih.app (Al.nil.keep c)
theorem Al.symm {a b : List Nat} {k : Nat} (h : Al a b k) : Al b a k := by
  induction h with
  | nil => exact .nil
  | del c _ ih => exact ih.ins c
  | ins c _ ih => exact ih.del c
  | sub hne _ ih => exact ih.sub (Ne.symm hne)
  | keep c _ ih => exact ih.keep c
theorem Al.refl : ∀ a : List Nat, Al a a 0
  | [] => .nil
  | c :: a => (Al.refl a).keep c
theorem ed_rev (a b : List Nat) : ed a.reverse b.reverse = ed a b := by
  have h1 := al_ed (ed_al a b).rev
  have h2 := al_ed (ed_al a.reverse b.reverse).rev
  rw [List.reverse_reverse, List.reverse_reverse] at h2
  omega
theorem ed_symm (a b : List Nat) : ed a b = ed b a := by
  have h1 := al_ed (ed_al a b).symm
  have h2 := al_ed (ed_al b a).symm
  omega
theorem ed_refl (a : List Nat) : ed a a = 0 := by have := al_ed (Al.refl a); omega
theorem al_lip {a' b : List Nat} {k : Nat} (h : Al a' b k) : ∀ c a, a' = c :: a → ed a b ≤ k + 1 := by
  induction h with
  | nil => intro c a e; cases e
  | @del d a b k h ih => intro c a' e; cases e; have := al_ed h; omega
  | @ins d a b k h ih =>
    intro c a' e
    have h1 := ih c a' e
    have h2 := ed_ins d a' b
    omega
  | @sub d e' a b k hne h ih =>
    intro c a' e; cases e
    have h1 := al_ed h
    have h2 := ed_ins e' a b
    omega
  | @keep d a b k h ih =>
    intro c a' e; cases e
    have h1 := al_ed h
    have h2 := ed_ins d a b
    omega
theorem ed_lip (c : Nat) (a b : List Nat) : ed a b ≤ ed (c :: a) b + 1 := al_lip (ed_al (c :: a) b) c a rfl
theorem ed_lip' (c : Nat) (a b : List Nat) : ed a b ≤ ed a (c :: b) + 1 := by
  rw [ed_symm a b, ed_symm a (c :: b)]; exact ed_lip c b a
theorem ed_strip (c : Nat) (a b : List Nat) : ed (c :: a) (c :: b) = ed a b := by
  have h1 := ed_lip c a b
  have h2 := ed_lip' c a b
  rw [ed, if_pos rfl]
  omega
theorem ed_len {a b : List Nat} {k : Nat} (h : Al a b k) : a.length ≤ b.length + k ∧ b.length ≤ a.length + k := by
  induction h <;> simp <;> omega
theorem ed_lenD (a b : List Nat) : a.length ≤ b.length + ed a b ∧ b.length ≤ a.length + ed a b := ed_len (ed_al a b)
theorem ed_pfx : ∀ a b : List Nat, ed (a.drop (pfx a b)) (b.drop (pfx a b)) = ed a b
  | [], b => by simp [pfx]
  | x :: a, [] => by simp [pfx]
  | x :: a, y :: b => by
    unfold pfx
    split
    · rename_i e
      subst e
      rw [List.drop_succ_cons, List.drop_succ_cons, ed_pfx a b, ed_strip]
    · rfl
theorem ed_sfx (a b : List Nat) : ed (a.take (a.length - pfx a.reverse b.reverse)) (b.take (b.length - pfx a.reverse b.reverse)) = ed a b := by
  have h := ed_pfx a.reverse b.reverse
  rw [ed_rev] at h
  rw [← h, ← ed_rev, List.reverse_take, List.reverse_take]
  obtain ⟨p1, p2⟩ := pfx_le a.reverse b.reverse
  rw [List.length_reverse] at p1 p2
  rw [show a.length - (a.length - pfx a.reverse b.reverse) = pfx a.reverse b.reverse by omega, show b.length - (b.length - pfx a.reverse b.reverse) = pfx a.reverse b.reverse by omega]

/- the rows -/
def rowOf : List Nat → List Nat → List Nat → List Int
  | _, [], _ => []
  | p, x :: as, y => 2 * (ed (x :: p) y : Int) :: rowOf (x :: p) as y
def CostOk (b a : List Nat) : Prop := ∀ c ∈ b, ∀ x ∈ a, cst c x = if x = c then 0 else 2
theorem mn2_cast (a b : Nat) : mn2 (2 * (a : Int)) (2 * (b : Int)) = 2 * ((min a b : Nat) : Int) := by
  unfold mn2
  split
  · rw [Nat.min_eq_right (by omega)]
  · rw [Nat.min_eq_left (by omega)]
theorem mn2_step (a b d : Nat) (P : Prop) [Decidable P] : mn2 (mn2 (2 * (a : Int)) (2 * (b : Int)) + 2) (2 * (d : Int) + if P then 0 else 2) = 2 * ((min (min a b + 1) (d + if P then 0 else 1) : Nat) : Int) := by
  have e1 : 2 * ((min a b : Nat) : Int) + 2 = 2 * ((min a b + 1 : Nat) : Int) := by generalize min a b = m; omega
  have e2 : 2 * (d : Int) + (if P then 0 else 2) = 2 * ((d + if P then 0 else 1 : Nat) : Int) := by split <;> omega
  rw [mn2_cast, e1, e2, mn2_cast]
theorem min_first (l e : Nat) (P : Prop) [Decidable P] : min (min l e + 1) (l + if P then 0 else 1) = min (min (l + 1) e + 1) (l + if P then 0 else 1) := by
  have hd : (if P then 0 else 1) ≤ 1 := by split <;> decide
  generalize (if P then 0 else 1) = d at hd ⊢
  rcases Nat.le_total l e with h | h
  · rw [Nat.min_eq_left h, Nat.min_eq_right (Nat.add_le_add_left hd l), Nat.min_eq_right (Nat.add_le_add (Nat.le_min.mpr ⟨Nat.le_succ l, h⟩) hd)]
  · rw [Nat.min_eq_right h, Nat.min_eq_right (Nat.le_succ_of_le h)]
theorem inner_spec (c : Nat) (y : List Nat) : ∀ (as p : List Nat) (res mn : Int), (∀ x ∈ as, cst c x = if x = c then 0 else 2) → (res = 2 * (ed p (c :: y) : Int) ∨ (p = [] ∧ res = 2 * (y.length : Int))) →
    (inner cst c as (rowOf p as y) (2 * (ed p y : Int)) res mn).1 = rowOf p as (c :: y) ∧ (inner cst c as (rowOf p as y) (2 * (ed p y : Int)) res mn).2.1 = (if as = [] then res else 2 * (ed (as.reverse ++ p) (c :: y) : Int)) ∧
      ∀ m : Int, m < (inner cst c as (rowOf p as y) (2 * (ed p y : Int)) res mn).2.2 → m < mn ∧ ∀ e ∈ rowOf p as (c :: y), m < e
  | [], p, res, mn, _, _ => ⟨rfl, rfl, fun m h => ⟨h, fun e he => nomatch he⟩⟩
  | x :: as, p, res, mn, hc, hr => by
    have hx := hc x (.head _)
    have key : mn2 (mn2 res (2 * (ed (x :: p) y : Int)) + 2) (2 * (ed p y : Int) + cst c x) = 2 * (ed (x :: p) (c :: y) : Int) := by
      rw [hx, ed]
      rcases hr with rfl | ⟨rfl, rfl⟩
      · exact mn2_step _ _ _ _
      · rw [ed_nil, ed_nil, List.length_cons, mn2_step]
        congr 1
        exact_mod_cast min_first _ _ _
    obtain ⟨i1, i2, i3⟩ := inner_spec c y as (x :: p) (2 * (ed (x :: p) (c :: y) : Int)) (if 2 * (ed (x :: p) (c :: y) : Int) < mn then 2 * (ed (x :: p) (c :: y) : Int) else mn) (fun z hz => hc z (.tail _ hz)) (.inl rfl)
    simp only [rowOf, inner, key]
    refine ⟨by rw [i1], ?_, fun m hm => ?_⟩
    · rw [i2, if_neg (show ¬(x :: as = []) from List.cons_ne_nil _ _)]
      split
      · rename_i e; subst e; rfl
      · rw [List.reverse_cons, List.append_assoc]; rfl
    · obtain ⟨j1, j2⟩ := i3 m hm
      split at j1
      · refine ⟨by omega, fun e he => ?_⟩
        rcases List.mem_cons.mp he with rfl | he
        · exact j1
        · exact j2 e he
      · refine ⟨j1, fun e he => ?_⟩
        rcases List.mem_cons.mp he with rfl | he
        · omega
        · exact j2 e he
theorem row_up (m : Int) (z : Nat) (y : List Nat) : ∀ (as p : List Nat), m < 2 * (ed p y : Int) → m < 2 * (ed p (z :: y) : Int) → (∀ e ∈ rowOf p as y, m < e) → ∀ e ∈ rowOf p as (z :: y), m < e
  | [], _, _, _, _ => fun e he => nomatch he
  | x :: as, p, h1, h2, h3 => by
    have h4 := h3 _ (.head _)
    have h5 : m < 2 * (ed (x :: p) (z :: y) : Int) := by
      rw [ed]; split <;> omega
    intro e he
    rcases List.mem_cons.mp he with rfl | he
    · exact h5
    · exact row_up m z y as (x :: p) h4 h5 (fun e he => h3 e (.tail _ he)) e he
theorem row_ups (m : Int) (as : List Nat) : ∀ (bs y : List Nat), m < 2 * (y.length : Int) → (∀ e ∈ rowOf [] as y, m < e) → ∀ e ∈ rowOf [] as (bs.reverse ++ y), m < e
  | [], y, _, h => h
  | z :: bs, y, h1, h2 => by
    have e1 : (z :: bs).reverse ++ y = bs.reverse ++ (z :: y) := by simp
    rw [e1]
    refine row_ups m as bs (z :: y) (by simp; omega) (row_up m z y as [] (by rw [ed_nil]; exact h1) (by rw [ed_nil]; simp; omega) h2)
theorem row_last (y : List Nat) : ∀ (as p : List Nat), as ≠ [] → 2 * (ed (as.reverse ++ p) y : Int) ∈ rowOf p as y
  | [x], p, _ => by simp [rowOf]
  | x :: z :: as, p, _ => by
    have := row_last y (z :: as) (x :: p) (by simp)
    rw [rowOf, List.reverse_cons, List.append_assoc]
    exact .tail _ this
theorem outer_spec (a : List Nat) (ha : a ≠ []) (m : Int) : ∀ (bs y : List Nat) (res : Int), CostOk bs a → (bs = [] → res = 2 * (ed a.reverse y : Int)) →
    outer cst a m bs y.length (rowOf [] a y) res = 2 * (ed a.reverse (bs.reverse ++ y) : Int) ∨ (outer cst a m bs y.length (rowOf [] a y) res = m + 1 ∧ m < 2 * (ed a.reverse (bs.reverse ++ y) : Int))
  | [], y, res, _, h => .inl (by rw [outer, h rfl]; rfl)
  | c :: bs, y, res, hc, _ => by
    obtain ⟨i1, i2, i3⟩ := inner_spec c y a [] ((y.length : Int) * 2) 9223372036854775807 (hc c (.head _)) (.inr ⟨rfl, by omega⟩)
    have e0 : 2 * (ed [] y : Int) = (y.length : Int) * 2 := by rw [ed_nil]; omega
    rw [e0] at i1 i2 i3
    have er : (c :: bs).reverse ++ y = bs.reverse ++ (c :: y) := by simp
    rw [er]
    rw [outer]
    split
    · rename_i hm
      right
      refine ⟨rfl, ?_⟩
      obtain ⟨_, j⟩ := i3 m hm
      have hfirst : m < 2 * (((c :: y).length : Nat) : Int) := by
        cases a with
        | nil => exact absurd rfl ha
        | cons x a =>
          have h1 := j _ (.head _)
          have h2 : ed [x] (c :: y) ≤ y.length + 1 := by
            rw [ed, ed_nil, ed_nil]
            split <;> omega
          simp only [List.length_cons]
          omega
      have := row_ups m a bs (c :: y) hfirst j _ (row_last _ a [] ha)
      rw [List.append_nil] at this
      exact this
    · rw [i1, i2, if_neg ha, List.append_nil]
      have := outer_spec a ha m bs (c :: y) (2 * (ed a.reverse (c :: y) : Int)) (fun z hz => hc z (.tail _ hz)) (fun e => by subst e; rfl)
      exact this
theorem row0_eq (y : List Nat) (hy : y = []) : ∀ (as p : List Nat), rowOf p as y = (List.range as.length).map fun (j : Nat) => 2 * (p.length : Int) + 2 + (j : Int) * 2
  | [], p => rfl
  | x :: as, p => by
    subst hy
    rw [rowOf, row0_eq [] rfl as (x :: p), ed_nil', List.length_cons, List.length_cons, List.range_succ_eq_map, List.map_cons, List.map_map]
    refine List.cons_eq_cons.mpr ⟨by simp <;> omega, ?_⟩
    apply List.map_congr_left
    intro j _
    simp
    omega
theorem levE_spec (a b : List Nat) (m : Int) (ha : a ≠ []) (hb : b ≠ []) (hc : CostOk b a) : levE cst a b m = 2 * (ed a b : Int) ∨ (levE cst a b m = m + 1 ∧ m < 2 * (ed a b : Int)) := by
  unfold levE
  split
  · rename_i h
    right
    refine ⟨rfl, ?_⟩
    have := (ed_lenD a b).2
    omega
  · have e : row0 a.length = rowOf [] a [] := by
      rw [row0_eq [] rfl]
      unfold row0
      simp
    rw [e]
    have := outer_spec a ha m b [] 0 hc (fun q => absurd q hb)
    rw [List.append_nil, ed_rev] at this
    exact this
theorem levD_spec (a b : List Nat) (m : Int) (la : a.length ≤ 40) (lb : b.length ≤ 40) (h1 : CostOk b a) (h2 : CostOk a b) : levD cst a b m = 2 * (ed a b : Int) ∨ (levD cst a b m = m + 1 ∧ m < 2 * (ed a b : Int)) := by
  unfold levD
  split
  · rename_i h
    left
    rcases h with h | h
    · have := List.length_eq_zero_iff.mp h
      subst this
      rw [ed_nil]; simp
    · have := List.length_eq_zero_iff.mp h
      subst this
      rw [ed_nil']; simp
  · rename_i h
    have ha : a ≠ [] := fun q => h (.inl (by rw [q]; rfl))
    have hb : b ≠ [] := fun q => h (.inr (by rw [q]; rfl))
    rw [if_neg (by omega)]
    split
    · rw [ed_symm a b]
      exact levE_spec b a m hb ha h2
    · exact levE_spec a b m ha hb h1
theorem CostOk.sub {a b a' b' : List Nat} (h : CostOk b a) (ha : ∀ x ∈ a', x ∈ a) (hb : ∀ x ∈ b', x ∈ b) : CostOk b' a' := fun c hc x hx => h c (hb c hc) x (ha x hx)
theorem levL_spec (a b : List Nat) (m : Int) (la : a.length ≤ 40) (lb : b.length ≤ 40) (h1 : CostOk b a) (h2 : CostOk a b) : levL cst a b m = 2 * (ed a b : Int) ∨ (levL cst a b m = m + 1 ∧ m < 2 * (ed a b : Int)) := by
  unfold levL
  split
  · rename_i e
    subst e
    left
    rw [ed_refl]; rfl
  · unfold levS
    rw [← ed_pfx a b, ← ed_sfx (a.drop (pfx a b)) (b.drop (pfx a b))]
    refine levD_spec _ _ m ?_ ?_ ?_ ?_
    · simp; omega
    · simp; omega
    · exact h1.sub (fun x hx => List.mem_of_mem_drop (List.mem_of_mem_take hx)) (fun x hx => List.mem_of_mem_drop (List.mem_of_mem_take hx))
    · exact h2.sub (fun x hx => List.mem_of_mem_drop (List.mem_of_mem_take hx)) (fun x hx => List.mem_of_mem_drop (List.mem_of_mem_take hx))
theorem lev_within (a b : List Nat) (m : Int) {v : Nat} (hv : ed a b = v) (la : a.length ≤ 40) (lb : b.length ≤ 40) (h1 : CostOk b a) (h2 : CostOk a b) : ∀ t, t = levL cst a b m → (2 * (v : Int) ≤ m → t = 2 * (v : Int)) ∧ (m < 2 * (v : Int) → m < t) := by
  rintro t rfl
  have := levL_spec a b m la lb h1 h2
  rw [hv] at this
  rcases this with h | ⟨h, h'⟩ <;> omega
end
end Mine

/- text E2 -/
namespace Mine
section
open PySem PySem.W PyProof.Rows PySem.Calls
/-- alignments that keep no letter -/
inductive AlN (L : Nat → Bool) : List Nat → List Nat → Nat → Prop
  | nil : AlN L [] [] 0
  | del (c : Nat) {a b : List Nat} {k : Nat} : AlN L a b k → AlN L (c :: a) b (k + 1)
  | ins (c : Nat) {a b : List Nat} {k : Nat} : AlN L a b k → AlN L a (c :: b) (k + 1)
  | sub {c d : Nat} {a b : List Nat} {k : Nat} : c ≠ d → AlN L a b k → AlN L (c :: a) (d :: b) (k + 1)
  | keep (c : Nat) {a b : List Nat} {k : Nat} : L c = false → AlN L a b k → AlN L (c :: a) (c :: b) k
variable {L : Nat → Bool}
theorem AlN.al {a b : List Nat} {k : Nat} (h : AlN L a b k) : Al a b k := by
  induction h with
  | nil => exact .nil
  | del c _ ih => exact ih.del c
  | ins c _ ih => exact ih.ins c
  | sub hne _ ih => exact ih.sub hne
  | keep c _ _ ih => exact ih.keep c
/-- up to the first letter that is kept -/
theorem Al.split {a b : List Nat} {k : Nat} (h : Al a b k) : AlN L a b k ∨ ∃ a1 c a2 b1 b2 k1 k2, a = a1 ++ c :: a2 ∧ b = b1 ++ c :: b2 ∧ L c = true ∧ AlN L a1 b1 k1 ∧ Al a2 b2 k2 ∧ k = k1 + k2 := by
  induction h with
  | nil => exact .inl .nil
  | del c _ ih =>
    rcases ih with ih | ⟨a1, x, a2, b1, b2, k1, k2, rfl, rfl, h1, h2, h3, rfl⟩
    · exact .inl (ih.del c)
    · exact .inr ⟨c :: a1, x, a2, b1, b2, k1 + 1, k2, rfl, rfl, h1, h2.del c, h3, by omega⟩
  | ins c _ ih =>
    rcases ih with ih | ⟨a1, x, a2, b1, b2, k1, k2, rfl, rfl, h1, h2, h3, rfl⟩
    · exact .inl (ih.ins c)
    · exact .inr ⟨a1, x, a2, c :: b1, b2, k1 + 1, k2, rfl, rfl, h1, h2.ins c, h3, by omega⟩
  | @sub c d _ _ _ hne _ ih =>
    rcases ih with ih | ⟨a1, x, a2, b1, b2, k1, k2, rfl, rfl, h1, h2, h3, rfl⟩
    · exact .inl (ih.sub hne)
    · exact .inr ⟨c :: a1, x, a2, d :: b1, b2, k1 + 1, k2, rfl, rfl, h1, h2.sub hne, h3, by omega⟩
  | @keep c a b k h0 ih =>
    cases hL : L c with
    | true => exact .inr ⟨[], c, a, [], b, 0, k, rfl, rfl, hL, .nil, h0, by omega⟩
    | false =>
      rcases ih with ih | ⟨a1, x, a2, b1, b2, k1, k2, rfl, rfl, h1, h2, h3, rfl⟩
      · exact .inl (ih.keep c hL)
      · exact .inr ⟨c :: a1, x, a2, c :: b1, b2, k1, k2, rfl, rfl, h1, h2.keep c hL, h3, by omega⟩
/-- no letter kept: each letter costs, and one more where the letters are the same -/
theorem AlN.letters {a b : List Nat} {k : Nat} (h : AlN L a b k) : (a.filter L).length ≤ k ∧ (b.filter L).length ≤ k ∧ ((a.filter L).length = k → (b.filter L).length = k → a.filter L = b.filter L → a.filter L = []) := by
  induction h with
  | nil => simp
  | @del c a b k _ ih =>
    obtain ⟨h1, h2, _⟩ := ih
    refine ⟨?_, by omega, fun _ q _ => by omega⟩
    rw [List.filter_cons]; split <;> (try simp only [List.length_cons]) <;> omega
  | @ins c a b k _ ih =>
    obtain ⟨h1, h2, _⟩ := ih
    refine ⟨by omega, ?_, fun q _ _ => by omega⟩
    rw [List.filter_cons]; split <;> (try simp only [List.length_cons]) <;> omega
  | @sub c d a b k hne _ ih =>
    obtain ⟨h1, h2, h3⟩ := ih
    rw [List.filter_cons, List.filter_cons]
    split <;> split
    · refine ⟨by simp; omega, by simp; omega, fun _ _ q => ?_⟩
      exact absurd (List.cons.inj q).1 hne
    · exact ⟨by simp; omega, by omega, fun _ q _ => by omega⟩
    · exact ⟨by omega, by simp; omega, fun q _ _ => by omega⟩
    · exact ⟨by omega, by omega, fun q _ _ => by omega⟩
  | @keep c a b k hL _ ih =>
    rw [List.filter_cons_of_neg (by simp [hL]), List.filter_cons_of_neg (by simp [hL])]
    exact ih
/- labels with their gaps -/
abbrev Lab := Nat × List Nat × List Nat
def flA (l : List Lab) : List Nat := l.flatMap fun t => t.1 :: t.2.1
def flB (l : List Lab) : List Nat := l.flatMap fun t => t.1 :: t.2.2
def ad (a b : Nat) : Nat := (a - b) + (b - a)
theorem ad_self (a : Nat) : ad a a = 0 := by unfold ad; rw [Nat.sub_self]
theorem ad_zero (a : Nat) : ad a 0 = a := by unfold ad; rw [Nat.zero_sub]; rfl
theorem ad_up (a : Nat) : ad a (a + 1) = 1 := by unfold ad; rw [Nat.sub_eq_zero_of_le (Nat.le_succ a), Nat.add_sub_cancel_left]
theorem ad_dn (a : Nat) : ad (a + 1) a = 1 := by unfold ad; rw [Nat.sub_eq_zero_of_le (Nat.le_succ a), Nat.add_sub_cancel_left]
theorem ad_succ (a b : Nat) : ad (a + 1) (b + 1) = ad a b := by unfold ad; rw [Nat.add_sub_add_right, Nat.add_sub_add_right]
theorem ad_shift (b e x y : Nat) : ad (b + (x + e)) (b + (y + e)) = ad x y := by unfold ad; rw [Nat.add_sub_add_left, Nat.add_sub_add_left, Nat.add_sub_add_right, Nat.add_sub_add_right]
theorem ad_01 : ∀ a b : Nat, a ≤ 1 → b ≤ 1 → ad a b ≤ 1
  | 0, 0, _, _ => by decide
  | 0, 1, _, _ => by decide
  | 1, 0, _, _ => by decide
  | 1, 1, _, _ => by decide
  | n + 2, _, h, _ => absurd h (by simp)
  | 0, n + 2, _, h => absurd h (by simp)
  | 1, n + 2, _, h => absurd h (by simp)
def cost0 (l : List Lab) : Nat := (l.map fun t => ad t.2.1.length t.2.2.length).sum
structure LabOk (L : Nat → Bool) (t : Lab) : Prop where
  l : L t.1 = true
  a : ∀ x ∈ t.2.1, L x = false
  b : ∀ x ∈ t.2.2, L x = false
  d : ad t.2.1.length t.2.2.length ≤ 1
def fl1 (l : List (Nat × List Nat)) : List Nat := l.flatMap fun t => t.1 :: t.2
theorem fl_dec : ∀ (l : List (Nat × List Nat)) (g a1 a2 : List Nat) (c : Nat), g ++ fl1 l = a1 ++ c :: a2 → L c = true → (∀ x ∈ g, L x = false) → (∀ p ∈ l, ∀ x ∈ p.2, L x = false) →
    ∃ i h, l[i]? = some (c, h) ∧ a1 = g ++ fl1 (l.take i) ∧ a2 = h ++ fl1 (l.drop (i + 1))
  | [], g, a1, a2, c, e, hc, hg, _ => by
    have : c ∈ g := by
      have : c ∈ g ++ fl1 [] := by rw [e]; simp
      simpa [fl1] using this
    rw [hg c this] at hc; cases hc
  | (d, h) :: r, g, a1, a2, c, e, hc, hg, hr => by
    have e' : g ++ (d :: (h ++ fl1 r)) = a1 ++ c :: a2 := by simpa [fl1] using e
    rcases List.append_eq_append_iff.mp e' with ⟨t, h1, h2⟩ | ⟨t, h1, h2⟩
    · -- a1 = g ++ t
      cases t with
      | nil =>
        simp at h2
        obtain ⟨rfl, rfl⟩ := h2
        exact ⟨0, h, rfl, by simpa [fl1] using h1, by simp⟩
      | cons d' t =>
        simp at h2
        obtain ⟨rfl, h2⟩ := h2
        obtain ⟨i, h', q1, q2, q3⟩ := fl_dec r h t a2 c h2 hc (hr (d, h) (.head _)) (fun p hp => hr p (.tail _ hp))
        refine ⟨i + 1, h', by simpa using q1, ?_, by simpa using q3⟩
        rw [h1, q2]
        simp [fl1]
    · cases t with
      | nil =>
        simp at h2
        obtain ⟨rfl, rfl⟩ := h2
        exact ⟨0, h, rfl, by simpa [fl1] using h1.symm, by simp⟩
      | cons d' t =>
        simp at h2
        obtain ⟨rfl, h2⟩ := h2
        have : c ∈ g := by rw [h1]; simp
        rw [hg c this] at hc; cases hc
theorem flA_fl1 (l : List Lab) : flA l = fl1 (l.map fun t => (t.1, t.2.1)) := by
  unfold flA fl1; rw [List.flatMap_map]
theorem flB_fl1 (l : List Lab) : flB l = fl1 (l.map fun t => (t.1, t.2.2)) := by
  unfold flB fl1; rw [List.flatMap_map]
theorem filter_none {g : List Nat} (h : ∀ x ∈ g, L x = false) : g.filter L = [] := List.filter_eq_nil_iff.mpr fun x hx => by rw [h x hx]; decide
theorem filter_flA : ∀ (l : List Lab), (∀ t ∈ l, LabOk L t) → (flA l).filter L = l.map (·.1)
  | [], _ => rfl
  | t :: l, h => by
    have ht := h t (.head _)
    have ih := filter_flA l fun u hu => h u (.tail _ hu)
    have e : flA (t :: l) = t.1 :: (t.2.1 ++ flA l) := by simp [flA]
    rw [e, List.filter_cons_of_pos ht.l, List.filter_append, filter_none ht.a, ih]; rfl
theorem filter_flB : ∀ (l : List Lab), (∀ t ∈ l, LabOk L t) → (flB l).filter L = l.map (·.1)
  | [], _ => rfl
  | t :: l, h => by
    have ht := h t (.head _)
    have ih := filter_flB l fun u hu => h u (.tail _ hu)
    have e : flB (t :: l) = t.1 :: (t.2.2 ++ flB l) := by simp [flB]
    rw [e, List.filter_cons_of_pos ht.l, List.filter_append, filter_none ht.b, ih]; rfl
theorem cost0_le : ∀ (l : List Lab), (∀ t ∈ l, LabOk L t) → cost0 l ≤ l.length
  | [], _ => by simp [cost0]
  | t :: l, h => by
    have ht := (h t (.head _)).d
    have ih := cost0_le l fun u hu => h u (.tail _ hu)
    simp only [cost0, List.map_cons, List.sum_cons, List.length_cons] at ih ⊢
    omega
/-- a stretch in which no letter is kept -/
theorem stretch {g g' : List Nat} (hg : ∀ x ∈ g, L x = false) (hg' : ∀ x ∈ g', L x = false) (hd : ad g.length g'.length ≤ 1) (l : List Lab) (hl : ∀ t ∈ l, LabOk L t) {k : Nat} (h : AlN L (g ++ flA l) (g' ++ flB l) k) : ad g.length g'.length + cost0 l ≤ k := by
  cases l with
  | nil =>
    have := ed_len h.al
    simp only [flA, flB, List.flatMap_nil, List.append_nil] at this
    simp only [cost0, List.map_nil, List.sum_nil]
    unfold ad
    omega
  | cons t l =>
    obtain ⟨h1, h2, h3⟩ := h.letters
    rw [List.filter_append, filter_none hg, List.nil_append, filter_flA _ hl] at h1 h3
    rw [List.filter_append, filter_none hg', List.nil_append, filter_flB _ hl] at h2 h3
    have hne : ((t :: l).map (·.1)).length ≠ k := fun q => by
      have := h3 q q rfl
      simp at this
    have := cost0_le _ hl
    rw [List.length_map] at h1 hne
    omega
theorem cost0_app (a b : List Lab) : cost0 (a ++ b) = cost0 a + cost0 b := by simp [cost0]
theorem lower : ∀ (n : Nat) (l : List Lab), l.length ≤ n → ∀ (g g' : List Nat), (∀ x ∈ g, L x = false) → (∀ x ∈ g', L x = false) → ad g.length g'.length ≤ 1 → (∀ t ∈ l, LabOk L t) → (l.map (·.1)).Nodup →
    ∀ k, Al (g ++ flA l) (g' ++ flB l) k → ad g.length g'.length + cost0 l ≤ k := by
  intro n
  induction n with
  | zero =>
    intro l hn g g' hg hg' hd hl hnd k h
    have : l = [] := List.length_eq_zero_iff.mp (by omega)
    subst this
    rcases h.split (L := L) with h | ⟨a1, c, a2, b1, b2, k1, k2, e1, e2, hc, _⟩
    · exact stretch hg hg' hd [] hl h
    · have : c ∈ g := by
        have : c ∈ g ++ flA [] := by rw [e1]; simp
        simpa [flA] using this
      rw [hg c this] at hc; cases hc
  | succ n ih =>
    intro l hn g g' hg hg' hd hl hnd k h
    rcases h.split (L := L) with h | ⟨a1, c, a2, b1, b2, k1, k2, e1, e2, hc, s1, s2, rfl⟩
    · exact stretch hg hg' hd l hl h
    · rw [flA_fl1] at e1
      rw [flB_fl1] at e2
      obtain ⟨i, h1, q1, q2, q3⟩ := fl_dec _ g a1 a2 c e1 hc hg (by
        intro p hp x hx
        obtain ⟨t, ht, rfl⟩ := List.mem_map.mp hp
        exact (hl t ht).a x hx)
      obtain ⟨i', h2, r1, r2, r3⟩ := fl_dec _ g' b1 b2 c e2 hc hg' (by
        intro p hp x hx
        obtain ⟨t, ht, rfl⟩ := List.mem_map.mp hp
        exact (hl t ht).b x hx)
      rw [List.getElem?_map] at q1 r1
      obtain ⟨t, ht, et⟩ := Option.map_eq_some_iff.mp q1
      obtain ⟨u, hu, eu⟩ := Option.map_eq_some_iff.mp r1
      have hi : i < l.length := (List.getElem?_eq_some_iff.mp ht).1
      have hi' : i' < l.length := (List.getElem?_eq_some_iff.mp hu).1
      have ii : i = i' := by
        have w1 : (l.map (·.1))[i]? = some c := by rw [List.getElem?_map, ht]; simp at et ⊢; exact et.1
        have w2 : (l.map (·.1))[i']? = some c := by rw [List.getElem?_map, hu]; simp at eu ⊢; exact eu.1
        exact (List.getElem?_inj (by rw [List.length_map]; exact hi) hnd).mp (w1.trans w2.symm)
      subst ii
      rw [ht] at hu
      cases hu
      have el : l = l.take i ++ t :: l.drop (i + 1) := by
        have := (List.getElem?_eq_some_iff.mp ht).2
        rw [← this, ← List.drop_eq_getElem_cons hi, List.take_append_drop]
      have htl : LabOk L t := hl t (List.mem_of_getElem? ht)
      rw [← List.map_take, ← flA_fl1] at q2
      rw [← List.map_take, ← flB_fl1] at r2
      rw [← List.map_drop, ← flA_fl1] at q3
      rw [← List.map_drop, ← flB_fl1] at r3
      simp at et eu
      obtain ⟨_, rfl⟩ := et
      obtain ⟨_, rfl⟩ := eu
      rw [q2, r2] at s1
      rw [q3, r3] at s2
      have p1 := stretch hg hg' hd (l.take i) (fun t ht => hl t (List.mem_of_mem_take ht)) s1
      have p2 := ih (l.drop (i + 1)) (by simp; omega) t.2.1 t.2.2 htl.a htl.b htl.d (fun t ht => hl t (List.mem_of_mem_drop ht)) (by
        rw [List.map_drop]
        exact hnd.sublist (List.drop_sublist _ _)) k2 s2
      have e : cost0 l = cost0 (l.take i) + (ad t.2.1.length t.2.2.length + cost0 (l.drop (i + 1))) := by
        conv => lhs; rw [el]
        rw [cost0_app]
        simp [cost0]
      omega
theorem upper : ∀ (l : List Lab) (f : Lab → Nat), (∀ t ∈ l, Al t.2.1 t.2.2 (f t)) → Al (flA l) (flB l) (l.map f).sum
  | [], f, _ => .nil
  | t :: l, f, h => by
    have := ((h t (.head _)).keep t.1).app (upper l f fun u hu => h u (.tail _ hu))
    have e1 : flA (t :: l) = (t.1 :: t.2.1) ++ flA l := by simp [flA]
    have e2 : flB (t :: l) = (t.1 :: t.2.2) ++ flB l := by simp [flB]
    rw [e1, e2, List.map_cons, List.sum_cons]
    exact this
/-- signs of the left that are not on the right -/
theorem lower2 {G : Nat → Bool} {a b : List Nat} {k : Nat} (h : Al a b k) : (∀ c ∈ a, G c = true) → a.length ≤ k + (b.filter G).length := by
  induction h with
  | nil => intro _; simp
  | @del c a b k _ ih =>
    intro hg
    have := ih fun x hx => hg x (.tail _ hx)
    simp; omega
  | @ins c a b k _ ih =>
    intro hg
    have := ih hg
    rw [List.filter_cons]; split <;> simp <;> omega
  | @sub c d a b k _ _ ih =>
    intro hg
    have := ih fun x hx => hg x (.tail _ hx)
    rw [List.filter_cons]; split <;> simp <;> omega
  | @keep c a b k _ ih =>
    intro hg
    have := ih fun x hx => hg x (.tail _ hx)
    rw [List.filter_cons_of_pos (hg c (.head _))]
    simp; omega
theorem al_reps (c : Nat) : ∀ a b : Nat, Al (List.replicate a c) (List.replicate b c) (ad a b)
  | 0, b => by
    have := al_insAll (List.replicate b c)
    rw [List.length_replicate] at this
    unfold ad; simpa using this
  | a + 1, 0 => by
    have := al_delAll (List.replicate (a + 1) c)
    rw [List.length_replicate] at this
    unfold ad; simpa using this
  | a + 1, b + 1 => by
    have := (al_reps c a b).keep c
    rw [ad_succ, List.replicate_succ, List.replicate_succ]
    exact this
theorem al_subs {c d : Nat} (h : c ≠ d) : ∀ k : Nat, Al (List.replicate k c) (List.replicate k d) k
  | 0 => .nil
  | k + 1 => by rw [List.replicate_succ, List.replicate_succ]; exact (al_subs h k).sub h
end
end Mine

/- text E3 -/
namespace Mine
section
open PySem PySem.W PyProof.Rows PySem.Calls
/- sums -/
def sumN (f : Nat → Nat) : Nat → Nat
  | 0 => 0
  | n + 1 => sumN f n + f n
theorem sum_range (f : Nat → Nat) : ∀ n, ((List.range n).map f).sum = sumN f n
  | 0 => rfl
  | n + 1 => by rw [List.range_succ, List.map_append, List.sum_append, sum_range f n]; simp [sumN]
theorem sumN_congr {f g : Nat → Nat} : ∀ n, (∀ i, i < n → f i = g i) → sumN f n = sumN g n
  | 0, _ => rfl
  | n + 1, h => by simp only [sumN]; rw [sumN_congr n fun i hi => h i (by omega), h n (by omega)]
theorem sumN_add (f g : Nat → Nat) : ∀ n, sumN (fun i => f i + g i) n = sumN f n + sumN g n
  | 0 => rfl
  | n + 1 => by simp only [sumN]; rw [sumN_add f g n]; omega
/- signs -/
abbrev brs : List Nat := [40, 41, 47, 92, 58, 59, 34]
abbrev alph : List Nat := (0 :: lettersL) ++ ([32, 95, 45] ++ brs)
def isL (c : Nat) : Bool := lettersL.contains c
def notN (c : Nat) : Bool := c != 95 && c != 45
theorem br_all : ∀ c ∈ brs, isL c = false ∧ notN c = true ∧ c ≠ 45 ∧ c ≠ 95 := by decide +kernel
theorem le_all : ∀ c ∈ lettersL, isL c = true ∧ notN c = true := by decide +kernel
theorem op_br (kd : Nat) : ∃ c, opL kd = [c] ∧ c ∈ brs := by
  unfold opL
  split <;> exact ⟨_, rfl, by decide⟩
theorem cl_br (kd : Nat) : ∃ c, clL kd = [c] ∧ c ∈ brs := by
  unfold clL
  split <;> exact ⟨_, rfl, by decide⟩
theorem letter_in (n i : Nat) (h : i ≤ 5) : letterAt n i ∈ lettersL := by
  unfold letterAt
  have : n % 6 < 6 := Nat.mod_lt _ (by decide)
  have h12 : n % 6 + i < lettersL.length := by show _ < 12; omega
  rw [List.getD_eq_getElem?_getD, List.getElem?_eq_getElem h12]
  exact List.getElem_mem h12
theorem letters_nodup6 : ∀ q, q < 6 → ((List.range 6).map fun i => lettersL.getD (q + i) 0).Nodup := by decide +kernel
theorem letters_nodup (n m : Nat) (h : m ≤ 6) : ((List.range m).map (letterAt n)).Nodup := by
  have := letters_nodup6 (n % 6) (Nat.mod_lt _ (by decide))
  refine List.Nodup.sublist ?_ this
  have e : List.range m = (List.range 6).take m := by
    rw [List.take_range, Nat.min_eq_left h]
  rw [e, List.map_take]
  exact List.take_sublist _ _
/- gaps -/
def closeAt (t : Tree) (hg : Int) (j i : Nat) : Nat := if i < j then ((hungF t hg).getD i 0 - (hungF t hg).getD (i + 1) 0 + 1).toNat else ((hungF t hg).getD j 0).toNat
def gap (n : Nat) (t : Tree) (hg : Int) (j c o i : Nat) : List Nat := List.replicate (blankAt n i) 32 ++ (List.replicate (closeAt t hg j i) c ++ if i < j then [o] else [])
theorem reps_one (k : Int) (c : Nat) : reps k [c] = List.replicate k.toNat c := by
  unfold reps
  generalize k.toNat = m
  induction m with
  | zero => rfl
  | succ m ih => rw [List.replicate_succ, List.flatten_cons, ih, List.replicate_succ]; rfl
section
variable {n j kd c o : Nat} {t : Tree} {hg : Int}
theorem text_gaps (inv : TOk j t) (hc : clL kd = [c]) (ho : opL kd = [o]) : textP n t kd hg = (List.range (j + 1)).flatMap fun i => letterAt n i :: gap n t hg j c o i := by
  have dl := inv.dl
  rw [text_upTo inv]
  have key : ∀ i, i ≤ j → (List.range i).flatMap (fun i => letterAt n i :: gap n t hg j c o i) ++ wordAt n i = upTo n t kd hg i := by
    intro i
    induction i with
    | zero => intro _; rfl
    | succ i ih =>
      intro hi
      have := ih (by omega)
      rw [List.range_succ, List.flatMap_append, upTo, ← this]
      simp only [List.flatMap_cons, List.flatMap_nil, List.append_nil, List.append_assoc]
      congr 1
      rw [wordAt_eq n i]
      unfold gap sepAt closeAt
      rw [if_pos (by omega), if_pos (by omega), hc, ho, reps_one]
      simp
  rw [List.range_succ, List.flatMap_append, ← key j (Nat.le_refl _)]
  simp only [List.flatMap_cons, List.flatMap_nil, List.append_nil, List.append_assoc]
  congr 1
  rw [wordAt_eq n j]
  unfold gap endAt closeAt
  rw [if_neg (by omega), if_neg (by omega), hc, reps_one, dl]
  simp
theorem name_gaps : nameF (wordsF n (j + 1)) = (List.range (j + 1)).flatMap fun i => letterAt n i :: (List.replicate (blankAt n i) 95 ++ if i < j then [45] else []) := by
  rw [name_eq, name_flat]
  have key : ∀ i, i ≤ j → (List.range i).flatMap (fun i => letterAt n i :: (List.replicate (blankAt n i) 95 ++ if i < j then [45] else [])) ++ wW n i = wW n 0 ++ ((List.range i).map fun a => 45 :: wW n (a + 1)).flatten := by
    intro i
    induction i with
    | zero => intro _; simp
    | succ i ih =>
      intro hi
      have := ih (by omega)
      rw [List.range_succ, List.flatMap_append, List.map_append, List.flatten_append, ← List.append_assoc (wW n 0), ← this]
      simp only [List.flatMap_cons, List.flatMap_nil, List.append_nil, List.append_assoc, List.map_cons, List.map_nil, List.flatten_cons, List.flatten_nil]
      congr 1
      unfold wW
      rw [if_pos (by omega)]
      simp
  rw [← key j (Nat.le_refl _), List.range_succ, List.flatMap_append]
  congr 1
  unfold wW
  simp
theorem gap_len (i : Nat) : (gap n t hg j c o i).length = blankAt n i + (closeAt t hg j i + if i < j then 1 else 0) := by
  unfold gap
  simp only [List.length_append, List.length_replicate]
  split <;> rfl
theorem gap_mem {i x : Nat} (h : x ∈ gap n t hg j c o i) : x = 32 ∨ x = c ∨ x = o := by
  unfold gap at h
  rcases List.mem_append.mp h with h | h
  · exact .inl (List.eq_of_mem_replicate h)
  · rcases List.mem_append.mp h with h | h
    · exact .inr (.inl (List.eq_of_mem_replicate h))
    · split at h
      · exact .inr (.inr (List.mem_singleton.mp h))
      · cases h
theorem hang_aux {hg p q v z : Int} (h01 : hg = 0 ∨ hg = 1) (h : q ≤ p + 1) (hv : v = 0 ∨ v = 1) (hz : z = 0 ∨ z = 1) (hr : q = p + 1 → v = 1 → z = 1) : 0 ≤ (p - hg * v) - (q - hg * z) + 1 := by
  rcases h01 with rfl | rfl
  · rw [Int.zero_mul, Int.zero_mul]; clear hv hz hr; omega
  · rw [Int.one_mul, Int.one_mul]
    by_cases e : q = p + 1
    · have hr := hr e
      rcases hv with rfl | rfl
      · clear hr; omega
      · have := hr rfl; clear hr hz h; omega
    · clear hr; omega
/-- the closing signs, all told -/
theorem close_sum (inv : TOk j t) (h01 : hg = 0 ∨ hg = 1) : sumN (closeAt t hg j) (j + 1) = j := by
  have dl := inv.dl
  have key : ∀ i, i ≤ j → ((sumN (closeAt t hg j) i : Nat) : Int) + (hungF t hg).getD i 0 = i := by
    intro i
    induction i with
    | zero =>
      intro _
      rw [hung_get t hg 0 (by omega), inv.z0, inv.zl]
      simp [sumN]
    | succ i ih =>
      intro hi
      have h1 := ih (by omega)
      have h2 := hung_get t hg i (by omega)
      have h3 := hung_get t hg (i + 1) (by omega)
      have u := inv.up i (by omega)
      have r := inv.run i (by omega)
      have a := inv.l01 i
      have b := inv.l01 (i + 1)
      simp only [sumN]
      have ec : closeAt t hg j i = ((hungF t hg).getD i 0 - (hungF t hg).getD (i + 1) 0 + 1).toNat := by unfold closeAt; rw [if_pos (by omega)]
      rw [ec]
      have hn : 0 ≤ (hungF t hg).getD i 0 - (hungF t hg).getD (i + 1) 0 + 1 := by
        rw [h2, h3]
        exact hang_aux h01 u.2 a b r
      clear h2 h3 u r a b ec
      omega
  have h := key j (Nat.le_refl _)
  have ec : closeAt t hg j j = ((hungF t hg).getD j 0).toNat := by unfold closeAt; rw [if_neg (by omega)]
  have hb := hung_bd inv h01 j
  simp only [sumN]
  rw [ec]
  omega
theorem blank_sum : ∀ j, 1 ≤ j → (sumN (blankAt n) (j + 1) : Int) = (blanksF n).sum
  | 0, h => by omega
  | 1, _ => by
    have := fmod2 ((n : Int).fdiv 4)
    show ((0 + (((n : Int).fdiv 4).fmod 2).toNat + 2 : Nat) : Int) = ((n : Int).fdiv 4).fmod 2 + (2 + (0 + (0 + (0 + (0 + 0)))))
    omega
  | j + 2, _ => by
    have ih := blank_sum (j + 1) (by omega)
    have e : blankAt n (j + 2) = 0 := by
      match j with
      | 0 => rfl
      | 1 => rfl
      | 2 => rfl
      | 3 => rfl
      | j + 4 => rfl
    rw [sumN, e, Nat.add_zero]
    exact ih
theorem one_sum : ∀ m, sumN (fun i => if i < j then 1 else 0) m = min m j
  | 0 => by simp [sumN]
  | m + 1 => by
    simp only [sumN]
    rw [one_sum m]
    split <;> omega
theorem const_sum : ∀ m, sumN (fun _ => 1) m = m
  | 0 => rfl
  | m + 1 => by simp only [sumN]; rw [const_sum m]
theorem text_len (inv : TOk j t) (h01 : hg = 0 ∨ hg = 1) : (textP n t kd hg).length = (j + 1) + (sumN (blankAt n) (j + 1) + (j + j)) := by
  obtain ⟨c, hc, _⟩ := cl_br kd
  obtain ⟨o, ho, _⟩ := op_br kd
  rw [text_gaps inv hc ho, List.length_flatMap, sum_range]
  have e : sumN (fun i => (letterAt n i :: gap n t hg j c o i).length) (j + 1) = sumN (fun i => 1 + (blankAt n i + (closeAt t hg j i + if i < j then 1 else 0))) (j + 1) :=
    sumN_congr _ fun i _ => by rw [List.length_cons, gap_len]; omega
  rw [e, sumN_add, sumN_add, sumN_add, const_sum, close_sum inv h01, one_sum]
  omega
theorem name_len : (nameF (wordsF n (j + 1))).length = (j + 1) + (sumN (blankAt n) (j + 1) + j) := by
  rw [name_gaps, List.length_flatMap, sum_range]
  have e : sumN (fun i => (letterAt n i :: (List.replicate (blankAt n i) 95 ++ if i < j then [45] else [])).length) (j + 1) = sumN (fun i => 1 + (blankAt n i + if i < j then 1 else 0)) (j + 1) :=
    sumN_congr _ fun i _ => by
      rw [List.length_cons, List.length_append, List.length_replicate]
      split <;> simp <;> omega
  rw [e, sumN_add, sumN_add, const_sum, one_sum]
  omega
theorem blank_sum_le : ∀ j, 1 ≤ j → sumN (blankAt n) (j + 1) ≤ 3
  | j, h => by
    have := blank_sum (n := n) j h
    have f2 := fmod2 ((n : Int).fdiv 4)
    have e : (blanksF n).sum = ((n : Int).fdiv 4).fmod 2 + (2 + (0 + (0 + (0 + (0 + 0))))) := rfl
    omega
theorem text_alph (inv : TOk j t) : ∀ x ∈ textP n t kd hg, x ∈ alph := by
  obtain ⟨c, hc, bc⟩ := cl_br kd
  obtain ⟨o, ho, bo⟩ := op_br kd
  intro x hx
  rw [text_gaps inv hc ho] at hx
  obtain ⟨i, _, hx⟩ := List.mem_flatMap.mp hx
  rcases List.mem_cons.mp hx with rfl | hx
  · exact List.mem_append_left _ (letter_mem n i)
  · refine List.mem_append_right _ ?_
    rcases gap_mem hx with rfl | rfl | rfl
    · decide
    · exact List.mem_append_right _ bc
    · exact List.mem_append_right _ bo
theorem name_alph : ∀ x ∈ nameF (wordsF n (j + 1)), x ∈ alph := by
  intro x hx
  rw [name_gaps] at hx
  obtain ⟨i, _, hx⟩ := List.mem_flatMap.mp hx
  rcases List.mem_cons.mp hx with rfl | hx
  · exact List.mem_append_left _ (letter_mem n i)
  · rcases List.mem_append.mp hx with hx | hx
    · rw [List.eq_of_mem_replicate hx]; decide
    · split at hx
      · rw [List.mem_singleton.mp hx]; decide
      · cases hx
/-- the text and the name -/
theorem ed_name (inv : TOk j t) (h01 : hg = 0 ∨ hg = 1) : ed (textP n t kd hg) (nameF (wordsF n (j + 1))) = sumN (blankAt n) (j + 1) + (j + j) := by
  obtain ⟨c, hc, bc⟩ := cl_br kd
  obtain ⟨o, ho, bo⟩ := op_br kd
  have lo := lower2 (G := notN) (ed_al (textP n t kd hg) (nameF (wordsF n (j + 1)))) (fun x hx => by
    rw [text_gaps inv hc ho] at hx
    obtain ⟨i, _, hx⟩ := List.mem_flatMap.mp hx
    rcases List.mem_cons.mp hx with rfl | hx
    · have h := letter_nice n i
      unfold notN
      simp [h.h, h.n]
    · rcases gap_mem hx with rfl | rfl | rfl
      · decide
      · exact (br_all _ bc).2.1
      · exact (br_all _ bo).2.1)
  have fl : ((nameF (wordsF n (j + 1))).filter notN).length = j + 1 := by
    rw [name_gaps, List.filter_flatMap, List.length_flatMap, sum_range]
    have : sumN (fun i => (List.filter notN (letterAt n i :: (List.replicate (blankAt n i) 95 ++ if i < j then [45] else []))).length) (j + 1) = sumN (fun _ => 1) (j + 1) := sumN_congr _ fun i _ => by
      have h := letter_nice n i
      have hl : notN (letterAt n i) = true := by unfold notN; simp [h.h, h.n]
      have hr : List.filter notN (List.replicate (blankAt n i) 95 ++ if i < j then [45] else []) = [] := by
        refine List.filter_eq_nil_iff.mpr fun x hx => ?_
        rcases List.mem_append.mp hx with hx | hx
        · rw [List.eq_of_mem_replicate hx]; decide
        · split at hx
          · rw [List.mem_singleton.mp hx]; decide
          · cases hx
      rw [List.filter_cons_of_pos hl, hr]; rfl
    rw [this, const_sum]
  rw [fl, text_len inv h01] at lo
  have up := upper ((List.range (j + 1)).map fun i => ((letterAt n i, gap n t hg j c o i, List.replicate (blankAt n i) 95 ++ if i < j then [45] else []) : Lab)) (fun t => t.2.1.length) (fun u hu => by
    obtain ⟨i, _, rfl⟩ := List.mem_map.mp hu
    show Al (gap n t hg j c o i) (List.replicate (blankAt n i) 95 ++ if i < j then [45] else []) (gap n t hg j c o i).length
    rw [gap_len]
    unfold gap
    refine (al_subs (by decide) _).app ?_
    rw [← List.nil_append (if i < j then [45] else [])]
    have h1 := al_delAll (List.replicate (closeAt t hg j i) c)
    rw [List.length_replicate] at h1
    refine h1.app ?_
    split
    · exact Al.nil.sub (br_all _ bo).2.2.1
    · exact .nil)
  have eA : flA ((List.range (j + 1)).map fun i => ((letterAt n i, gap n t hg j c o i, List.replicate (blankAt n i) 95 ++ if i < j then [45] else []) : Lab)) = textP n t kd hg := by
    rw [text_gaps inv hc ho]; unfold flA; rw [List.flatMap_map]
  have eB : flB ((List.range (j + 1)).map fun i => ((letterAt n i, gap n t hg j c o i, List.replicate (blankAt n i) 95 ++ if i < j then [45] else []) : Lab)) = nameF (wordsF n (j + 1)) := by
    rw [name_gaps]; unfold flB; rw [List.flatMap_map]
  rw [eA, eB, List.map_map, sum_range] at up
  have e : sumN ((fun t : Lab => t.2.1.length) ∘ fun i => ((letterAt n i, gap n t hg j c o i, List.replicate (blankAt n i) 95 ++ if i < j then [45] else []) : Lab)) (j + 1) = sumN (fun i => blankAt n i + (closeAt t hg j i + if i < j then 1 else 0)) (j + 1) :=
    sumN_congr _ fun i _ => gap_len i
  rw [e, sumN_add, sumN_add, close_sum inv h01, one_sum] at up
  have hi := al_ed up
  omega
/-- the two texts -/
def lift01 (t : Tree) (i : Nat) : Nat := (t.ls.getD i 0).toNat
theorem ad_close {X v z : Int} {x : Nat} (hX : X = x) (hv : v = 0 ∨ v = 1) (hz : z = 0 ∨ z = 1) (hr : x = 0 → v = 1 → z = 1) : ad X.toNat (X - v + z).toNat = ad v.toNat z.toNat := by
  subst hX
  rcases hv with rfl | rfl <;> rcases hz with rfl | rfl
  · rw [Int.sub_zero, Int.add_zero, ad_self]; rfl
  · rw [Int.sub_zero]; exact ad_up x
  · cases x with
    | zero => exact absurd (hr rfl rfl) (by decide)
    | succ y =>
      have e : ((y + 1 : Nat) : Int) - 1 + 0 = y := by rw [Int.add_zero, Int.natCast_add]; exact Int.add_sub_cancel _ _
      rw [e]; exact ad_dn y
  · rw [Int.sub_add_cancel, ad_self]; rfl
theorem lift_le (inv : TOk j t) (i : Nat) : lift01 t i ≤ 1 := by
  unfold lift01
  rcases inv.l01 i with h | h <;> rw [h] <;> decide
theorem pos_aux {p q : Int} (h : q ≤ p + 1) : ∃ x : Nat, p - q + 1 = x := ⟨(p - q + 1).toNat, by omega⟩
theorem swap_aux (p q v z : Int) : (p - v) - (q - z) + 1 = (p - q + 1) - v + z := by omega
theorem close_ad (inv : TOk j t) (i : Nat) (hi : i ≤ j) : ad (closeAt t 0 j i) (closeAt t 1 j i) = if i < j then ad (lift01 t i) (lift01 t (i + 1)) else lift01 t i := by
  have dl := inv.dl
  unfold closeAt lift01
  by_cases h : i < j
  · have h1 : i < t.ds.length := by omega
    have h2 : i + 1 < t.ds.length := by omega
    obtain ⟨x, hx⟩ := pos_aux (inv.up i h).2
    rw [if_pos h, if_pos h, if_pos h, hung_get t 0 i h1, hung_get t 0 (i + 1) h2, hung_get t 1 i h1, hung_get t 1 (i + 1) h2]
    rw [Int.zero_mul, Int.zero_mul, Int.one_mul, Int.one_mul, Int.sub_zero, Int.sub_zero, swap_aux]
    refine ad_close hx (inv.l01 i) (inv.l01 (i + 1)) (fun e => inv.run i h ?_)
    subst e
    clear dl h1 h2
    omega
  · have : i = j := by omega
    subst this
    have h1 : i < t.ds.length := by omega
    rw [if_neg h, if_neg h, if_neg h, hung_get t 0 i h1, hung_get t 1 i h1, Int.zero_mul, Int.one_mul, Int.sub_zero]
    have d0 := inv.d0 i
    have l2 := inv.l2 i
    have := ad_close (z := 0) (Int.toNat_of_nonneg d0).symm (inv.l01 i) (.inl rfl) (fun e e2 => by have := l2 e2; rw [Int.toNat_eq_zero] at e; omega)
    rw [Int.add_zero] at this
    rw [this]
    exact ad_zero _
theorem rises_sum (inv : TOk j t) : ∀ i, i ≤ j → sumN (fun i => ad (lift01 t i) (lift01 t (i + 1))) i + lift01 t i = 2 * ((List.range i).filter (risesAt t.ls)).length
  | 0, _ => by
    have e : lift01 t 0 = 0 := by unfold lift01; rw [inv.zl]; rfl
    rw [e]; rfl
  | i + 1, hi => by
    have ih := rises_sum inv i (by omega)
    have a := inv.l01 i
    have b := inv.l01 (i + 1)
    rw [List.range_succ, List.filter_append, List.length_append]
    simp only [sumN, List.filter_cons, List.filter_nil]
    unfold lift01 risesAt at *
    generalize t.ls.getD i 0 = v at *
    generalize t.ls.getD (i + 1) 0 = z at *
    unfold ad at *
    rcases a with rfl | rfl <;> rcases b with rfl | rfl <;> simp at ih ⊢ <;> omega
theorem ed_texts (inv : TOk j t) (hj : j ≤ 5) : ed (textP n t kd 0) (textP n t kd 1) = 2 * runsF t.ls := by
  obtain ⟨c, hc, bc⟩ := cl_br kd
  obtain ⟨o, ho, bo⟩ := op_br kd
  have ll := inv.ll
  have eA : flA ((List.range (j + 1)).map fun i => ((letterAt n i, gap n t 0 j c o i, gap n t 1 j c o i) : Lab)) = textP n t kd 0 := by
    rw [text_gaps inv hc ho]; unfold flA; rw [List.flatMap_map]
  have eB : flB ((List.range (j + 1)).map fun i => ((letterAt n i, gap n t 0 j c o i, gap n t 1 j c o i) : Lab)) = textP n t kd 1 := by
    rw [text_gaps inv hc ho]; unfold flB; rw [List.flatMap_map]
  have adl : ∀ i, ad (gap n t 0 j c o i).length (gap n t 1 j c o i).length = ad (closeAt t 0 j i) (closeAt t 1 j i) := fun i => by
    rw [gap_len, gap_len]; exact ad_shift _ _ _ _
  have tot : sumN (fun i => ad (closeAt t 0 j i) (closeAt t 1 j i)) (j + 1) = 2 * runsF t.ls := by
    have e : sumN (fun i => ad (closeAt t 0 j i) (closeAt t 1 j i)) j = sumN (fun i => ad (lift01 t i) (lift01 t (i + 1))) j := sumN_congr _ fun i hi => by
      rw [close_ad inv i (by omega), if_pos hi]
    have := rises_sum inv j (Nat.le_refl _)
    rw [sumN, e, close_ad inv j (Nat.le_refl _), if_neg (by omega), this]
    unfold runsF
    rw [ll, Nat.add_sub_cancel]
  have up := upper ((List.range (j + 1)).map fun i => ((letterAt n i, gap n t 0 j c o i, gap n t 1 j c o i) : Lab)) (fun t => ad t.2.1.length t.2.2.length) (fun u hu => by
    obtain ⟨i, _, rfl⟩ := List.mem_map.mp hu
    show Al (gap n t 0 j c o i) (gap n t 1 j c o i) (ad (gap n t 0 j c o i).length (gap n t 1 j c o i).length)
    rw [adl]
    have := (Al.refl (List.replicate (blankAt n i) 32)).app ((al_reps c (closeAt t 0 j i) (closeAt t 1 j i)).app (Al.refl (if i < j then [o] else [])))
    simpa [gap] using this)
  have lo := lower (L := isL) (j + 1) ((List.range (j + 1)).map fun i => ((letterAt n i, gap n t 0 j c o i, gap n t 1 j c o i) : Lab)) (by simp) [] [] (fun _ h => nomatch h) (fun _ h => nomatch h) (by decide) (fun u hu => by
    obtain ⟨i, hi, rfl⟩ := List.mem_map.mp hu
    have hi := List.mem_range.mp hi
    have hgap : ∀ hg, ∀ x ∈ gap n t hg j c o i, isL x = false := fun hg x hx => by
      rcases gap_mem hx with rfl | rfl | rfl
      · decide
      · exact (br_all _ bc).1
      · exact (br_all _ bo).1
    refine ⟨(le_all _ (letter_in n i (by omega))).1, hgap 0, hgap 1, ?_⟩
    show ad (gap n t 0 j c o i).length (gap n t 1 j c o i).length ≤ 1
    rw [adl, close_ad inv i (by omega)]
    split
    · exact ad_01 _ _ (lift_le inv _) (lift_le inv _)
    · exact lift_le inv _) (by
      rw [List.map_map]
      exact letters_nodup n (j + 1) (by omega)) (ed (textP n t kd 0) (textP n t kd 1)) (by
      rw [List.nil_append, List.nil_append, eA, eB]; exact ed_al _ _)
  have e0 : cost0 ((List.range (j + 1)).map fun i => ((letterAt n i, gap n t 0 j c o i, gap n t 1 j c o i) : Lab)) = 2 * runsF t.ls := by
    unfold cost0
    rw [List.map_map, sum_range, ← tot]
    exact sumN_congr _ fun i _ => adl i
  unfold cost0 at e0
  rw [eA, eB, e0] at up
  have hi := al_ed up
  unfold cost0 at lo
  rw [e0] at lo
  rw [List.length_nil, ad_self, Nat.zero_add] at lo
  exact Nat.le_antisymm hi lo
end
end
end Mine

/- text E4 -/
namespace Mine
section
open PySem PySem.W PyProof.Rows PySem.Calls
theorem alph_cost : ∀ c ∈ alph, ∀ x ∈ alph, cst c x = if x = c then 0 else 2 := by decide +kernel
theorem alph_low : ∀ c ∈ alph, (Txt.lower (S [c])).length ≤ 100 := by decide +kernel
theorem low_ok {l : List Nat} (h : ∀ x ∈ l, x ∈ alph) : LowOk l := fun c hc => by
  have := alph_low c (h c hc)
  rw [sizeLine_eq]; omega
theorem cost_ok {a b : List Nat} (ha : ∀ x ∈ a, x ∈ alph) (hb : ∀ x ∈ b, x ∈ alph) : CostOk b a := fun c hc x hx => alph_cost c (hb c hc) x (ha x hx)
theorem within_of {a b : List Nat} {v : Nat} (hv : ed a b = v) (la : a.length ≤ 40) (lb : b.length ≤ 40) (ha : ∀ x ∈ a, x ∈ alph) (hb : ∀ x ∈ b, x ∈ alph) (m : Int) : withinF (levL cst a b m) (2 * (v : Int)) m = true := by
  obtain ⟨h1, h2⟩ := lev_within a b m hv la lb (cost_ok ha hb) (cost_ok hb ha) _ rfl
  unfold withinF
  split
  · rename_i h
    rw [h1 h]; simp
  · rename_i h
    have := h2 (by omega)
    simpa using this
theorem within_pick {a b : List Nat} {v : Nat} (n : Nat) (hv : ed a b = v) (la : a.length ≤ 40) (lb : b.length ≤ 40) (ha : ∀ x ∈ a, x ∈ alph) (hb : ∀ x ∈ b, x ∈ alph) (m : Int) : withinF (levL cst (pick2 n a b) (pick2 n b a) m) (2 * (v : Int)) m = true := by
  unfold pick2
  split
  · exact within_of hv la lb ha hb m
  · rw [ed_symm] at hv
    exact within_of hv lb la hb ha m
theorem law_ex (xs : List Int) (hx : xs.length ≤ 63) (w : World) (L : Addr) (base : Heap) :
    Ex w 9 (wF L base) ((wst0 (nms xs)).set 1 (some (.int xs.length))) (execs ((fBody 12).drop 1) (wF L base).env) fun fl _ => fl = .ret (.bool true) := by
  have inv := tok_tree xs
  obtain ⟨j2, j5⟩ := draws_len xs
  generalize (drawsF xs).length = j at *
  have dl := inv.dl
  have c01 : ∀ hg : Nat, hg < 2 → ((hg : Nat) : Int) = 0 ∨ ((hg : Nat) : Int) = 1 := fun hg h => by omega
  have bs := blank_sum_le (n := xs.length) j (by omega)
  have bs' := blank_sum (n := xs.length) j (by omega)
  have tl : ∀ hg : Int, hg = 0 ∨ hg = 1 → (textP xs.length (treeF xs) (kindF (lookF xs)) hg).length ≤ 40 := fun hg h => by rw [text_len inv h]; omega
  have nl : (nameF (wordsF xs.length (treeF xs).ds.length)).length ≤ 40 := by rw [dl, name_len]; omega
  have ta : ∀ hg : Int, ∀ x ∈ textP xs.length (treeF xs) (kindF (lookF xs)) hg, x ∈ alph := fun hg => text_alph inv
  have na : ∀ x ∈ nameF (wordsF xs.length (treeF xs).ds.length), x ∈ alph := by rw [dl]; exact name_alph
  refine law_all xs hx inv j5 h0_all (by omega) (fun hg h => plat1 inv (by omega) (c01 hg h)) (fun hg h => plat2 inv (by omega) (c01 hg h) _ (Nat.mod_lt _ (by decide))) (fun hg h => ?_) (fun hg h => low_ok (ta hg)) (low_ok na) (fun m => ?_) (fun hg h m => ?_)
  · have := tl hg (c01 hg h); omega
  · have h := within_pick xs.length (ed_texts (n := xs.length) (kd := kindF (lookF xs)) inv j5) (tl 0 (.inl rfl)) (tl 1 (.inr rfl)) (ta 0) (ta 1) m
    have e : (2 : Int) * ((2 * runsF (treeF xs).ls : Nat) : Int) = 4 * (runsF (treeF xs).ls : Int) := by omega
    rw [e] at h
    exact h
  · have hv : ed (textP xs.length (treeF xs) (kindF (lookF xs)) hg) (nameF (wordsF xs.length (treeF xs).ds.length)) = sumN (blankAt xs.length) (j + 1) + (j + j) := by
      rw [dl]; exact ed_name inv (c01 hg h)
    have h := within_pick xs.length hv (tl hg (c01 hg h)) nl (ta hg) na m
    have e : (2 : Int) * ((sumN (blankAt xs.length) (j + 1) + (j + j) : Nat) : Int) = farF xs.length (treeF xs).ds.length := by
      unfold farF
      rw [← bs', dl]
      omega
    rw [e] at h
    exact h
end
end Mine

/- the claim -/
namespace Mine
section
open PySem PySem.W PyProof.Rows PySem.Calls
theorem ints_val {h : Heap} : ∀ {vs : List Value} {ns : List Int}, IntsAre vs ns → ValL h (nms ns) vs
  | _, _, .nil => .nil
  | _, _, .cons i t r => .cons (.int i t) (ints_val r)
theorem well_list {P : Params} {h : Heap} {a : Addr} {xs : List PyData} {vs : List Value} (x : Well P h (.ref a) (ofPy (.list xs))) (hl : h.IsList a vs.toArray) : PlainL h a vs.toArray := by
  unfold ofPy at x
  cases x with
  | list e _ =>
    obtain ⟨o, e1, e2, n, e3⟩ := hl
    rw [e] at e1
    cases e1
    cases e3
    exact ⟨_, 0, e, rfl, rfl, rfl⟩
theorem frag_law (P : Params) : nsIn (frag P) mainGlobals "law" = some (some (.ref 61)) := rfl
theorem head_in (P : Params) {V : Program} (h : ∃ d ∈ recsOf V, d.name = "_platform") : HeadIn (frag P) V := by
  refine ⟨?_, ?_, ?_, ?_, ?_, ?_, ?_, ?_, ?_, h⟩
  · rfl
  · exact ⟨⟨_, _, _, rfl, rfl⟩, rfl⟩
  · exact ⟨⟨_, _, _, rfl, rfl⟩, rfl⟩
  · exact ⟨⟨_, _, _, rfl, rfl⟩, rfl⟩
  · exact ⟨⟨_, _, _, rfl, rfl⟩, rfl⟩
  · exact ⟨⟨_, _, _, rfl, rfl⟩, rfl⟩
  · exact ⟨⟨_, _, _, rfl, rfl⟩, rfl⟩
  · exact ⟨⟨_, _, _, rfl, rfl⟩, rfl⟩
  · exact ⟨_, _, rfl, rfl, rfl⟩
theorem callerOk : AOk (9 + 1) callerA := ⟨rfl, by decide, by decide⟩
end
end Mine
open PySem PySem.W PyProof.Rows PySem.Calls Mine
set_option maxRecDepth 100000 in
set_option maxHeartbeats 8000000 in
theorem PySem.Challenge.cw_pu0016_01_holds : PySem.Challenge.rw_pu0016_01.Holds := by
  w_on
  o_law
  o_head (kHook frag [3, 20, 21, 27, 28, 34, 35, 41, 42, 48, 49, 55, 56, 60, 61] frag_as)
  case hw => w_witness2
  w_strict (
    intro w s₀ s₁ mg mb G Y fa o pm cd doc dV kV ho hdt hcd hD hmg hg args vals as hpre hlay hrd hwl hlo
    have KX : (frag w.params).In s₁.heap := kIn_of Y
    have T := G.T
    have hmg' : mg "law" = some (.ref fa) := hmg
    clear hdt hcd hD hmg
    clear G Y
    wrow_args hpre hlay hrd hwl hlo
    have g : GloP s₁.heap := glo_of T KX (head_in w.params ⟨_, .head _, rfl⟩)
    have hfa : mg "law" = some (.ref 61) := mg_of KX T.g (frag_law w.params)
    rename_i ns _ _ _ _ _ _ _ a vs _ hIL _ hW _ hIA _ hLen _
    rw [hmg'] at hfa
    cases hfa
    have pl := well_list hW hIL
    have a16 : a ≠ 16 := by
      rintro rfl
      obtain ⟨vt, t⟩ := g.tab
      obtain ⟨o', _, e1, e2, _⟩ := pl
      rw [t.2.2] at e1
      cases e1
      cases e2
    refine wpAny_mono (law_call (by omega) (law_ex ns (by omega) w) callerOk g (.list a a16 pl (ints_val hIA)) fun v s' m hv => ?_) (fun _ _ q => q) (fun _ _ q => q.elim)
    cases hv
    refine ⟨.inl ⟨_, .bool true, [], rfl, fun _ => rfl, .bool true, ?_, ?_⟩, Le.oldK g m.le, m.os, m.gens ?_⟩
    · wrow_post
    · exact fun _ => ⟨.nil, fun _ q => nomatch q⟩
    · exact .of_eq hg)
