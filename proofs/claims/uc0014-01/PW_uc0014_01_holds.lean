import PyProof.Rows.All
import Wide.All
import OpenK.AllK
import Wide.FinOn
import PySem.Challenge.RW_uc0014_01
set_option Elab.async false
set_option maxRecDepth 100000
set_option maxHeartbeats 8000000
set_option linter.unusedVariables false
set_option linter.unusedSimpArgs false
set_option linter.unnecessarySimpa false
namespace Mine
open PySem PySem.Calls
local macro_rules | `(tactic| walk_at "xa") => `(tactic| (intros; first | rfl | with_unfolding_all rfl | decide))

theorem kRefl (s : Shared) : Keeps s s := ⟨s.heap, s.toks, rfl, fun _ _ e => e⟩
theorem kTrans {s s' s'' : Shared} (a : Keeps s s') (b : Keeps s' s'') : Keeps s s'' := by
  obtain ⟨h, t, rfl, k⟩ := a
  obtain ⟨h', t', rfl, k'⟩ := b
  exact ⟨h', t', rfl, fun b o e => k' b o (k b o e)⟩
theorem kTok (s : Shared) (t : Nat) : Keeps s { s with toks := t } := ⟨s.heap, t, rfl, fun _ _ e => e⟩
theorem kHeap {s : Shared} {h : Heap} (k : ∀ b o, s.heap.get? b = some o → h.get? b = some o) : Keeps s { s with heap := h } := ⟨h, s.toks, rfl, k⟩
theorem kBoth {s : Shared} {h : Heap} {t : Nat} (k : ∀ b o, s.heap.get? b = some o → h.get? b = some o) : Keeps s { s with heap := h, toks := t } := ⟨h, t, rfl, k⟩
theorem kPush (s : Shared) (o : Obj) : Keeps s { s with heap := s.heap.push o } := kHeap fun _ _ e => Heap.get?_push_of_some _ e
theorem kOld {s s' : Shared} (k : Keeps s s') : ∀ b o, s.heap.get? b = some o → s'.heap.get? b = some o := by
  obtain ⟨h, t, rfl, k⟩ := k; exact k

structure AOk (n : Nat) (A : Around) : Prop where
  handled : A.handled = none
  depth : A.depth + n < recursionLimit
  units : A.units + 8 * n < cLine
theorem AOk.down {n m : Nat} {A : Around} (h : AOk n A) (hm : m ≤ n) : AOk m A := ⟨h.handled, by have := h.depth; lia, by have := h.units; lia⟩
theorem AOk.deeper {n : Nat} {A : Around} (h : AOk (n + 1) A) (env : Env) : AOk n (A.deeper env) :=
  ⟨h.handled, by have := h.depth; show A.depth + 1 + n < _; lia, by have := h.units; show A.units + 3 + 8 * n < _; lia⟩

noncomputable abbrev VP := Value → Shared → Prop

section
variable (prog : Program) (w : World) (A : Around)
noncomputable def Op (t : Sem Value) (s : Shared) (P : VP) : Prop := ∀ (Q E : Value → Shared → Prop), (∀ v s', Keeps s s' → P v s' → Q v s') → wpAny (model prog w) A t Q E s
noncomputable def Ev (t : Sem Value) (s : Shared) (P : VP) : Prop := ∀ s', Keeps s s' → Op prog w A t s' P
noncomputable def EvB (t : Sem Bool) (s : Shared) (b : Bool) : Prop := ∀ s', Keeps s s' → ∀ (Q : Bool → Shared → Prop) (E : Value → Shared → Prop), (∀ s'', Keeps s' s'' → Q b s'') → wpAny (model prog w) A t Q E s'
noncomputable def Mono (P : VP) : Prop := ∀ v s s', Keeps s s' → P v s → P v s'
end

noncomputable abbrev IsI (i : Int) : VP := fun v _ => ∃ t, v = .int i t
noncomputable abbrev IsS (x : Str) : VP := fun v _ => ∃ t, v = .str x t
noncomputable abbrev IsB (b : Bool) : VP := fun v _ => v = .bool b
noncomputable abbrev IsV (u : Value) : VP := fun v _ => v = u
theorem monoI (i) : Mono (IsI i) := fun _ _ _ _ h => h
theorem monoS (x) : Mono (IsS x) := fun _ _ _ _ h => h
theorem monoB (b) : Mono (IsB b) := fun _ _ _ _ h => h
theorem monoV (u) : Mono (IsV u) := fun _ _ _ _ h => h

section
variable {prog : Program} {w : World} {A : Around} {s : Shared} {env : Env} {P P' : VP} {t : Sem Value}

theorem Ev.op (h : Ev prog w A t s P) : Op prog w A t s P := h s (kRefl s)
theorem Ev.later {s' : Shared} (h : Ev prog w A t s P) (k : Keeps s s') : Ev prog w A t s' P := fun s'' k' => h s'' (kTrans k k')
theorem Op.mono (h : Op prog w A t s P) (hp : ∀ v s', Keeps s s' → P v s' → P' v s') : Op prog w A t s P' := fun Q E hQ => h Q E fun v s' k p => hQ v s' k (hp v s' k p)
theorem Ev.mono (h : Ev prog w A t s P) (hp : ∀ v s', Keeps s s' → P v s' → P' v s') : Ev prog w A t s P' := fun s' k => (h s' k).mono fun v s'' k' p => hp v s'' (kTrans k k') p
theorem Ev.use {Q E : Value → Shared → Prop} (h : Ev prog w A t s P) (hQ : ∀ v s', Keeps s s' → P v s' → Q v s') : wpAny (model prog w) A t Q E s := h.op Q E hQ

theorem ev_int {i k pos} : Ev prog w A (eval (.Constant (.int i) k pos) env) s (IsI i) := fun s' _ Q E hQ => wpAny_Constant_int (hQ _ _ (kTok _ _) ⟨_, rfl⟩)
theorem ev_str {x k pos} : Ev prog w A (eval (.Constant (.str x) k pos) env) s (IsS x) := fun s' _ Q E hQ => wpAny_Constant_str (hQ _ _ (kTok _ _) ⟨_, rfl⟩)
theorem ev_none {k pos} : Ev prog w A (eval (.Constant .none k pos) env) s (IsV .none) := fun s' _ Q E hQ => wpAny_Constant_none (hQ _ _ (kRefl _) rfl)
theorem ev_bool {b k pos} : Ev prog w A (eval (.Constant (.bool b) k pos) env) s (IsB b) := fun s' _ Q E hQ => wpAny_Constant_bool (hQ _ _ (kRefl _) rfl)

end
noncomputable def Var (prog : Program) (w : World) (A : Around) (env : Env) (s : Shared) (x : Str) (v : Value) : Prop :=
  ∀ s', Keeps s s' → ∀ (Q E : Value → Shared → Prop), Q v s' → wpAny (model prog w) A (loadName env x) Q E s'
section
variable {prog : Program} {w : World} {A : Around} {s : Shared} {env : Env} {P P' Pa Pb : VP} {t : Sem Value}
theorem ev_name {x pos v} (h : Var prog w A env s x v) (hd : (x == ("__debug__" : Str)) = false := by walk_at "xa") : Ev prog w A (eval (.Name x pos) env) s (IsV v) :=
  fun s' k Q E hQ => wpAny_Name (h s' k _ _ (hQ _ _ (kRefl _) rfl)) hd
theorem ev_nameI {x pos i u} (h : Var prog w A env s x (.int i u)) (hd : (x == ("__debug__" : Str)) = false := by walk_at "xa") : Ev prog w A (eval (.Name x pos) env) s (IsI i) :=
  (ev_name h hd).mono fun _ _ _ e => ⟨u, e⟩
theorem ev_nameS {x pos i u} (h : Var prog w A env s x (.str i u)) (hd : (x == ("__debug__" : Str)) = false := by walk_at "xa") : Ev prog w A (eval (.Name x pos) env) s (IsS i) :=
  (ev_name h hd).mono fun _ _ _ e => ⟨u, e⟩

theorem ev_bin {l op r pos} (hl : Ev prog w A (eval l env) s Pa) (ma : Mono Pa) (hr : Ev prog w A (eval r env) s Pb)
    (h : ∀ a b s', Keeps s s' → Pa a s' → Pb b s' → Op prog w A (binaryOp op a b) s' P) : Ev prog w A (eval (.BinOp l op r pos) env) s P := fun s' k Q E hQ =>
  wpAny_BinOp (hl s' k _ _ fun a s1 k1 pa => hr s1 (kTrans k k1) _ _ fun b s2 k2 pb =>
    h a b s2 (kTrans k (kTrans k1 k2)) (ma _ _ _ k2 pa) pb _ _ fun v s3 k3 p => hQ v s3 (kTrans k1 (kTrans k2 k3)) p)
theorem ev_cmp {l op r pos} (hl : Ev prog w A (eval l env) s Pa) (ma : Mono Pa) (hr : Ev prog w A (eval r env) s Pb)
    (h : ∀ a b s', Keeps s s' → Pa a s' → Pb b s' → Op prog w A (compareOp op a b) s' P) (hm : behindInMarks op r = false := by walk_at "xa") :
    Ev prog w A (eval (.Compare l [op] [r] pos) env) s P := fun s' k Q E hQ =>
  wpAny_Compare1 (hl s' k _ _ fun a s1 k1 pa => hr s1 (kTrans k k1) _ _ fun b s2 k2 pb =>
    h a b s2 (kTrans k (kTrans k1 k2)) (ma _ _ _ k2 pa) pb _ _ fun v s3 k3 p => hQ v s3 (kTrans k1 (kTrans k2 k3)) p) hm
theorem ev_un {op x pos} (hx : Ev prog w A (eval x env) s Pa) (h : ∀ a s', Keeps s s' → Pa a s' → Op prog w A (unaryOp op a) s' P) : Ev prog w A (eval (.UnaryOp op x pos) env) s P := fun s' k Q E hQ =>
  wpAny_UnaryOp (hx s' k _ _ fun a s1 k1 pa => h a s1 (kTrans k k1) pa _ _ fun v s2 k2 p => hQ v s2 (kTrans k1 k2) p)
theorem ev_ifT {test body orelse pos} (ht : EvB prog w A (isTrue test env (eval test env)) s true) (h : Ev prog w A (eval body env) s P) : Ev prog w A (eval (.IfExp test body orelse pos) env) s P := fun s' k Q E hQ =>
  wpAny_IfExp (ht s' k _ _ fun s1 k1 => by rw [if_pos rfl]; exact h s1 (kTrans k k1) _ _ fun v s2 k2 p => hQ v s2 (kTrans k1 k2) p)
theorem ev_ifF {test body orelse pos} (ht : EvB prog w A (isTrue test env (eval test env)) s false) (h : Ev prog w A (eval orelse env) s P) : Ev prog w A (eval (.IfExp test body orelse pos) env) s P := fun s' k Q E hQ =>
  wpAny_IfExp (ht s' k _ _ fun s1 k1 => by rw [if_neg Bool.false_ne_true]; exact h s1 (kTrans k k1) _ _ fun v s2 k2 p => hQ v s2 (kTrans k1 k2) p)

theorem evB_cmp {l op r pos whole} {b : Bool} (hl : Ev prog w A (eval l env) s Pa) (ma : Mono Pa) (hr : Ev prog w A (eval r env) s Pb)
    (h : ∀ a c s', Keeps s s' → Pa a s' → Pb c s' → Op prog w A (compareOp op a c) s' (IsB b)) (hm : behindInMarks op r = false := by walk_at "xa") :
    EvB prog w A (isTrue (.Compare l [op] [r] pos) env whole) s b := fun s' k Q E hQ =>
  wpAny_isTrue_Compare1 (hl s' k _ _ fun a s1 k1 pa => hr s1 (kTrans k k1) _ _ fun c s2 k2 pb =>
    h a c s2 (kTrans k (kTrans k1 k2)) (ma _ _ _ k2 pa) pb _ _ fun v s3 k3 p => by
      have p' : v = .bool b := p
      subst p'
      exact wpAny_truthy_bool (hQ s3 (kTrans k1 (kTrans k2 k3)))) hm

theorem op_add {a b t u} : Op prog w A (binaryOp .Add (.int a t) (.int b u)) s (IsI (a + b)) := fun _ _ hQ => wpAny_add_int (hQ _ _ (kTok _ _) ⟨_, rfl⟩)
theorem op_sub {a b t u} : Op prog w A (binaryOp .Sub (.int a t) (.int b u)) s (IsI (a - b)) := fun _ _ hQ => PySem.P.sub_int (hQ _ _ (kTok _ _) ⟨_, rfl⟩)
theorem op_iadd {a b t u} : Op prog w A (inplaceOp .Add (.int a t) (.int b u)) s (IsI (a + b)) := fun _ _ hQ => wpAny_iadd_int (hQ _ _ (kTok _ _) ⟨_, rfl⟩)
theorem op_neg {a t} : Op prog w A (unaryOp .USub (.int a t)) s (IsI (-a)) := fun _ _ hQ => PySem.P.neg_int (hQ _ _ (kTok _ _) ⟨_, rfl⟩)
theorem op_mod {a b t u} (hb : b ≠ 0) : Op prog w A (binaryOp .Mod (.int a t) (.int b u)) s (IsI (a.fmod b)) := fun _ _ hQ => PyProof.Rows.mod_int' hb (hQ _ _ (kTok _ _) ⟨_, rfl⟩)
theorem op_fdiv {a b t u} (hb : b ≠ 0) (hs : b.natAbs < 1073741824) : Op prog w A (binaryOp .FloorDiv (.int a t) (.int b u)) s (IsI (a.fdiv b)) := fun _ _ hQ =>
  PyProof.Rows.floordiv_int hb (hQ _ _ (kTok _ _) ⟨_, rfl⟩) (Or.inl (PyProof.noPylong_small hs))
theorem op_ifdiv {a b t u} (hb : b ≠ 0) (hs : b.natAbs < 1073741824) : Op prog w A (inplaceOp .FloorDiv (.int a t) (.int b u)) s (IsI (a.fdiv b)) := fun _ _ hQ =>
  PyProof.Rows.ifloordiv_int hb (hQ _ _ (kTok _ _) ⟨_, rfl⟩) (Or.inl (PyProof.noPylong_small hs))
theorem op_pow {a n t u} (hn : 0 ≤ n) (hsz : (Builtin.Int.intBits a : Int) * n ≤ 2 ^ 27) : Op prog w A (binaryOp .Pow (.int a t) (.int n u)) s (IsI (a ^ n.toNat)) := fun _ _ hQ =>
  PyProof.Rows.pow_int hn hsz (hQ _ _ (kTok _ _) ⟨_, rfl⟩)
theorem op_mul {a b t u} (hm : IntMulOk a b) : Op prog w A (binaryOp .Mult (.int a t) (.int b u)) s (IsI (a * b)) := fun _ _ hQ => PySem.P.mul_int (hQ _ _ (kTok _ _) ⟨_, rfl⟩) hm
theorem op_lt {a b t u} : Op prog w A (compareOp .Lt (.int a t) (.int b u)) s (IsB (decide (a < b))) := fun _ _ hQ => PySem.P.lt_int (hQ _ _ (kRefl _) rfl)
theorem op_le {a b t u} : Op prog w A (compareOp .LtE (.int a t) (.int b u)) s (IsB (decide (a ≤ b))) := fun _ _ hQ => PySem.P.le_int (hQ _ _ (kRefl _) rfl)
theorem op_gt {a b t u} : Op prog w A (compareOp .Gt (.int a t) (.int b u)) s (IsB (decide (a > b))) := fun _ _ hQ => PySem.P.gt_int (hQ _ _ (kRefl _) rfl)
theorem op_ge {a b t u} : Op prog w A (compareOp .GtE (.int a t) (.int b u)) s (IsB (decide (a ≥ b))) := fun _ _ hQ => PySem.P.ge_int (hQ _ _ (kRefl _) rfl)
theorem op_eq {a b t u} : Op prog w A (compareOp .Eq (.int a t) (.int b u)) s (IsB (a == b)) := fun _ _ hQ => PySem.P.eq_int (hQ _ _ (kRefl _) rfl)
theorem op_ne {a b t u} : Op prog w A (compareOp .NotEq (.int a t) (.int b u)) s (IsB (a != b)) := fun _ _ hQ => PySem.P.ne_int (hQ _ _ (kRefl _) rfl)

theorem op_addS {x y t u} (hsz : x.length + y.length ≤ sizeLine) : Op prog w A (binaryOp .Add (.str x t) (.str y u)) s (IsS (x ++ y)) := fun _ _ hQ =>
  PyProof.Rows.add_str (fun _ _ => hQ _ _ (kTok _ _) ⟨_, rfl⟩) hsz
theorem op_iaddS {x y t u} (hsz : x.length + y.length ≤ sizeLine) : Op prog w A (inplaceOp .Add (.str x t) (.str y u)) s (IsS (x ++ y)) := fun _ _ hQ =>
  PyProof.Rows.iadd_str (fun _ _ => hQ _ _ (kTok _ _) ⟨_, rfl⟩) hsz
theorem op_eqS {x y t u} : Op prog w A (compareOp .Eq (.str x t) (.str y u)) s (IsB (x == y)) := fun _ _ hQ => PyProof.Rows.eq_str (hQ _ _ (kRefl _) rfl)
theorem op_neS {x y t u} : Op prog w A (compareOp .NotEq (.str x t) (.str y u)) s (IsB (x != y)) := fun _ _ hQ => PyProof.Rows.ne_str (hQ _ _ (kRefl _) rfl)
theorem op_ltS {x y t u} : Op prog w A (compareOp .Lt (.str x t) (.str y u)) s (IsB (decide (x.cps.toList < y.cps.toList))) := fun _ _ hQ => PyProof.Rows.lt_str (hQ _ _ (kRefl _) rfl)
theorem op_gtS {x y t u} : Op prog w A (compareOp .Gt (.str x t) (.str y u)) s (IsB (decide (y.cps.toList < x.cps.toList))) := fun _ _ hQ => PySem.P.gt_str (hQ _ _ (kRefl _) rfl)
theorem op_subB {p q : Bool} : Op prog w A (binaryOp .Sub (.bool p) (.bool q)) s (IsI (PyProof.Rows.b2i p - PyProof.Rows.b2i q)) := fun _ _ hQ => PyProof.Rows.sub_bool (hQ _ _ (kTok _ _) ⟨_, rfl⟩)

theorem ev_binI {op l r pos} {a b c : Int} (hl : Ev prog w A (eval l env) s (IsI a)) (hr : Ev prog w A (eval r env) s (IsI b))
    (h : ∀ t u s', Op prog w A (binaryOp op (.int a t) (.int b u)) s' (IsI c)) : Ev prog w A (eval (.BinOp l op r pos) env) s (IsI c) :=
  ev_bin hl (monoI a) hr fun x y s' _ hx hy => by obtain ⟨t, rfl⟩ := hx; obtain ⟨u, rfl⟩ := hy; exact h t u s'
theorem ev_add {l r pos} {a b : Int} (hl : Ev prog w A (eval l env) s (IsI a)) (hr : Ev prog w A (eval r env) s (IsI b)) : Ev prog w A (eval (.BinOp l .Add r pos) env) s (IsI (a + b)) := ev_binI hl hr fun _ _ _ => op_add
theorem ev_subI {l r pos} {a b : Int} (hl : Ev prog w A (eval l env) s (IsI a)) (hr : Ev prog w A (eval r env) s (IsI b)) : Ev prog w A (eval (.BinOp l .Sub r pos) env) s (IsI (a - b)) := ev_binI hl hr fun _ _ _ => op_sub
theorem ev_mod {l r pos} {a b : Int} (hl : Ev prog w A (eval l env) s (IsI a)) (hr : Ev prog w A (eval r env) s (IsI b)) (hb : b ≠ 0) : Ev prog w A (eval (.BinOp l .Mod r pos) env) s (IsI (a.fmod b)) := ev_binI hl hr fun _ _ _ => op_mod hb
theorem ev_fdiv {l r pos} {a b : Int} (hl : Ev prog w A (eval l env) s (IsI a)) (hr : Ev prog w A (eval r env) s (IsI b)) (hb : b ≠ 0) (hs : b.natAbs < 1073741824) : Ev prog w A (eval (.BinOp l .FloorDiv r pos) env) s (IsI (a.fdiv b)) :=
  ev_binI hl hr fun _ _ _ => op_fdiv hb hs
theorem ev_pow {l r pos} {a n : Int} (hl : Ev prog w A (eval l env) s (IsI a)) (hr : Ev prog w A (eval r env) s (IsI n)) (hn : 0 ≤ n) (hsz : (Builtin.Int.intBits a : Int) * n ≤ 2 ^ 27) : Ev prog w A (eval (.BinOp l .Pow r pos) env) s (IsI (a ^ n.toNat)) :=
  ev_binI hl hr fun _ _ _ => op_pow hn hsz
theorem ev_mul {l r pos} {a b : Int} (hl : Ev prog w A (eval l env) s (IsI a)) (hr : Ev prog w A (eval r env) s (IsI b)) (hm : IntMulOk a b) : Ev prog w A (eval (.BinOp l .Mult r pos) env) s (IsI (a * b)) := ev_binI hl hr fun _ _ _ => op_mul hm
theorem ev_neg {x pos} {a : Int} (hx : Ev prog w A (eval x env) s (IsI a)) : Ev prog w A (eval (.UnaryOp .USub x pos) env) s (IsI (-a)) := ev_un hx fun _ _ _ h => by obtain ⟨t, rfl⟩ := h; exact op_neg
theorem ev_addS {l r pos} {x y : Str} (hl : Ev prog w A (eval l env) s (IsS x)) (hr : Ev prog w A (eval r env) s (IsS y)) (hsz : x.length + y.length ≤ sizeLine) : Ev prog w A (eval (.BinOp l .Add r pos) env) s (IsS (x ++ y)) :=
  ev_bin hl (monoS x) hr fun _ _ _ _ hx hy => by obtain ⟨t, rfl⟩ := hx; obtain ⟨u, rfl⟩ := hy; exact op_addS hsz
theorem ev_cmpS {op l r pos} {x y : Str} {c : Bool} (hl : Ev prog w A (eval l env) s (IsS x)) (hr : Ev prog w A (eval r env) s (IsS y))
    (h : ∀ t u s', Op prog w A (compareOp op (.str x t) (.str y u)) s' (IsB c)) (hm : behindInMarks op r = false := by walk_at "xa") : Ev prog w A (eval (.Compare l [op] [r] pos) env) s (IsB c) :=
  ev_cmp hl (monoS x) hr (fun x y s' _ hx hy => by obtain ⟨t, rfl⟩ := hx; obtain ⟨u, rfl⟩ := hy; exact h t u s') hm
theorem evB_cmpI {op l r pos whole} {a b : Int} {c : Bool} (hl : Ev prog w A (eval l env) s (IsI a)) (hr : Ev prog w A (eval r env) s (IsI b))
    (h : ∀ t u s', Op prog w A (compareOp op (.int a t) (.int b u)) s' (IsB c)) (hm : behindInMarks op r = false := by walk_at "xa") : EvB prog w A (isTrue (.Compare l [op] [r] pos) env whole) s c :=
  evB_cmp hl (monoI a) hr (fun x y s' _ hx hy => by obtain ⟨t, rfl⟩ := hx; obtain ⟨u, rfl⟩ := hy; exact h t u s') hm
theorem evB_cmpS {op l r pos whole} {x y : Str} {c : Bool} (hl : Ev prog w A (eval l env) s (IsS x)) (hr : Ev prog w A (eval r env) s (IsS y))
    (h : ∀ t u s', Op prog w A (compareOp op (.str x t) (.str y u)) s' (IsB c)) (hm : behindInMarks op r = false := by walk_at "xa") : EvB prog w A (isTrue (.Compare l [op] [r] pos) env whole) s c :=
  evB_cmp hl (monoS x) hr (fun x y s' _ hx hy => by obtain ⟨t, rfl⟩ := hx; obtain ⟨u, rfl⟩ := hy; exact h t u s') hm
theorem evB_value {e : Expr} {b : Bool} (h : Ev prog w A (eval e env) s (IsB b)) (he : isTrue e env (eval e env) = (do let v ← eval e env; standAt e.pos; holding [v] (truthy v)) := by walk_at "xa") : EvB prog w A (isTrue e env (eval e env)) s b := fun s' k Q E hQ =>
  wpAny_isTrue_value (h s' k _ _ fun v s1 k1 p => by
    have p' : v = .bool b := p
    subst p'
    exact wpAny_truthy_bool (hQ s1 k1)) he
theorem evB_of_eq {t : Sem Bool} {b c : Bool} (h : EvB prog w A t s b) (e : b = c) : EvB prog w A t s c := e ▸ h
theorem ev_of_eqI {t : Sem Value} {a b : Int} (h : Ev prog w A t s (IsI a)) (e : a = b) : Ev prog w A t s (IsI b) := e ▸ h
theorem ev_of_eqS {t : Sem Value} {a b : Str} (h : Ev prog w A t s (IsS a)) (e : a = b) : Ev prog w A t s (IsS b) := e ▸ h

theorem evB_or {values pos whole} {b : Bool} (h : EvB prog w A (allTrue .Or values env) s b) : EvB prog w A (isTrue (.BoolOp .Or values pos) env whole) s b := fun s' k Q E hQ => wpAny_isTrue_BoolOp (h s' k Q E hQ)
theorem evB_and {values pos whole} {b : Bool} (h : EvB prog w A (allTrue .And values env) s b) : EvB prog w A (isTrue (.BoolOp .And values pos) env whole) s b := fun s' k Q E hQ => wpAny_isTrue_BoolOp (h s' k Q E hQ)
theorem evB_orNil : EvB prog w A (allTrue .Or [] env) s false := fun s' k Q E hQ => wpAny_allTrue_Or_nil (hQ s' (kRefl _))
end

noncomputable abbrev IsL (xs : List Value) : VP := fun v s => ∃ a, v = .ref a ∧ s.heap.IsList a xs.toArray
theorem isList_keeps {h h' : Heap} {a : Addr} {xs : Array Value} (x : h.IsList a xs) (k : ∀ b o, h.get? b = some o → h'.get? b = some o) : h'.IsList a xs := let ⟨o, ho, r⟩ := x; ⟨o, k a o ho, r⟩
theorem monoL (xs) : Mono (IsL xs) := fun _ _ _ k ⟨a, e, h⟩ => ⟨a, e, isList_keeps h (kOld k)⟩

theorem mapKeeps {prog : Program} {w : World} {h h' : Heap} {a : Addr} {f : Str → Option Value} (hm : h.MapOf (strKind prog w) a f) (k : ∀ b o, h.get? b = some o → h'.get? b = some o) : h'.MapOf (strKind prog w) a f :=
  let ⟨o, es, ep, ho, r⟩ := hm; ⟨o, es, ep, k a o ho, r⟩
section
variable {prog : Program} {w : World} {A : Around} {s : Shared} {env : Env} {P P' Pa Pb : VP} {t : Sem Value}

theorem op_tail {value slice : Expr} {o i : Value} {ops : List Value} {T id : String} (hT : s.TypeIs o T) (hl : typeLookup (.type T) "__getitem__" = pure (some (.builtin id)))
    (hg : Op prog w A (getItem o i) s P) (hs : subscripted slice false o i = operate ops (getItem o i)) : Op prog w A (PyProof.Rows.subscriptTail value slice o i) s P := fun Q E hQ =>
  PyProof.Rows.tail_any hT hl (hg Q E hQ) hs
theorem ev_subs {value slice pos} (hv : Ev prog w A (eval value env) s Pa) (ma : Mono Pa) (hi : Ev prog w A (eval slice env) s Pb)
    (h : ∀ o i s', Keeps s s' → Pa o s' → Pb i s' → Op prog w A (PyProof.Rows.subscriptTail value slice o i) s' P) : Ev prog w A (eval (.Subscript value slice pos) env) s P := fun s' k Q E hQ =>
  PyProof.Rows.Subscript_ (hv s' k _ _ fun a s1 k1 pa => hi s1 (kTrans k k1) _ _ fun b s2 k2 pb =>
    h a b s2 (kTrans k (kTrans k1 k2)) (ma _ _ _ k2 pa) pb _ _ fun v s3 k3 p => hQ v s3 (kTrans k1 (kTrans k2 k3)) p)
theorem ev_item {value slice pos} {xs : List Value} {k : Int} {x : Value} (hv : Ev prog w A (eval value env) s (IsL xs)) (hi : Ev prog w A (eval slice env) s (IsI k)) (h0 : 0 ≤ k) (hfit : k < 2 ^ 63) (hx : xs[k.toNat]? = some x)
    (hs : ∀ o i, subscripted slice false o i = operate [o, i] (getItem o i) := by walk_at "xa") : Ev prog w A (eval (.Subscript value slice pos) env) s (IsV x) :=
  ev_subs hv (monoL xs) hi fun o i s' _ ho hi' => by
    obtain ⟨a, rfl, hl⟩ := ho
    obtain ⟨t, rfl⟩ := hi'
    exact op_tail hl.typeIs list_getitem_lookup (fun Q E hQ => wpAny_getItem_list hl h0 hfit (by simpa using hx) (hQ _ _ (kRefl _) rfl)) (hs _ _)
theorem ev_itemNeg {value slice pos} {xs : List Value} {k : Int} {x : Value} (hv : Ev prog w A (eval value env) s (IsL xs)) (hi : Ev prog w A (eval slice env) s (IsI k)) (h0 : k < 0) (h1 : -(xs.length : Int) ≤ k) (hfit : -(2 ^ 63) ≤ k) (hx : xs[(k + xs.length).toNat]? = some x)
    (hs : ∀ o i, subscripted slice false o i = operate [o, i] (getItem o i) := by walk_at "xa") : Ev prog w A (eval (.Subscript value slice pos) env) s (IsV x) :=
  ev_subs hv (monoL xs) hi fun o i s' _ ho hi' => by
    obtain ⟨a, rfl, hl⟩ := ho
    obtain ⟨t, rfl⟩ := hi'
    exact op_tail hl.typeIs list_getitem_lookup (fun Q E hQ => wpAny_getItem_list_neg hl h0 (by simpa using h1) hfit (by simpa using hx) (hQ _ _ (kRefl _) rfl)) (hs _ _)
theorem ev_itemS {value slice pos} {x : Str} {k : Int} {c : Nat} (hv : Ev prog w A (eval value env) s (IsS x)) (hi : Ev prog w A (eval slice env) s (IsI k)) (hr : (decide (k < -(2 ^ 63 : Int)) || decide (k ≥ 2 ^ 63)) = false)
    (hc : (seqIndex? k x.length).bind (x.cps[·]?) = some c)
    (hs : ∀ o i, subscripted slice false o i = operate [o, i] (getItem o i) := by walk_at "xa") : Ev prog w A (eval (.Subscript value slice pos) env) s (IsS ⟨#[c]⟩) :=
  ev_subs hv (monoS x) hi fun o i s' _ ho hi' => by
    obtain ⟨u, rfl⟩ := ho
    obtain ⟨t, rfl⟩ := hi'
    exact op_tail (PySem.typeIs_str _ x u) PyProof.Rows.slot_str_getitem.lookup (fun Q E hQ => PyProof.Rows.getItem_str hr hc (hQ _ _ (kTok _ _) ⟨_, rfl⟩)) (hs _ _)
theorem ev_itemD {value slice pos} {x : Str} {d : Addr} {f : Str → Option Value} {v : Value} (hv : Ev prog w A (eval value env) s (IsV (.ref d))) (hi : Ev prog w A (eval slice env) s (IsS x)) (hm : s.heap.MapOf (strKind prog w) d f) (hf : f x = some v)
    (hs : ∀ o i, subscripted slice false o i = operate [o, i] (getItem o i) := by walk_at "xa") : Ev prog w A (eval (.Subscript value slice pos) env) s (IsV v) :=
  ev_subs hv (monoV _) hi fun o i s' k ho hi' => by
    obtain rfl : o = .ref d := ho
    obtain ⟨t, rfl⟩ := hi'
    have hm' := mapKeeps hm (kOld k)
    exact op_tail hm'.typeIs slot_dict_getitem.lookup (fun Q E hQ => wpAny_getItem_of (strKind_is prog w x t) hm' hf (hQ _ _ (kTok _ _) rfl)) (hs _ _)
theorem evB_inD {l r pos whole} {x : Str} {d : Addr} {f : Str → Option Value} (hl : Ev prog w A (eval l env) s (IsS x)) (hr : Ev prog w A (eval r env) s (IsV (.ref d))) (hm : s.heap.MapOf (strKind prog w) d f) (hd : (d == sysModules) = false)
    (hmk : behindInMarks .In r = false := by walk_at "xa") : EvB prog w A (isTrue (.Compare l [.In] [r] pos) env whole) s (f x).isSome :=
  evB_cmp hl (monoS x) hr (fun a b s' k ha hb => by
    obtain ⟨t, rfl⟩ := ha
    obtain rfl : b = .ref d := hb
    exact fun Q E hQ => wpAny_in_of (strKind_is prog w x t) hd (mapKeeps hm (kOld k)) (hQ _ _ (kTok _ _) rfl)) hmk

noncomputable def EvP (prog : Program) (w : World) (A : Around) (x : Option Expr) (env : Env) (s : Shared) (i : Option Int) : Prop := Ev prog w A (evalPart x env) s (fun v _ => IsPart v i)
theorem evP_none : EvP prog w A none env s none := fun s' k Q E hQ => wpAny_pure (hQ _ _ (kRefl _) .none)
theorem evP_int {e : Expr} {i : Int} (h : Ev prog w A (eval e env) s (IsI i)) : EvP prog w A (some e) env s (some i) := fun s' k Q E hQ => (h s' k).mono (fun v s'' _ ⟨t, e⟩ => e ▸ IsPart.int i t) Q E hQ
theorem ev_slice {l u : Option Expr} {p pos : Pos} {value : Expr} {lo hi : Option Int} (hv : Ev prog w A (eval value env) s Pa) (ma : Mono Pa) (hl : EvP prog w A l env s lo) (hu : EvP prog w A u env s hi)
    (h : ∀ o vl vu sl s', Keeps s s' → Pa o s' → IsPart vl lo → IsPart vu hi → s'.heap.IsSliceOf sl vl vu .none → ∃ T id, s'.TypeIs o T ∧ typeLookup (.type T) "__getitem__" = pure (some (.builtin id)) ∧ Op prog w A (getItem o (.ref sl)) s' P) :
    Ev prog w A (eval (.Subscript value (.Slice l u none p) pos) env) s P := fun s' k Q E hQ =>
  PyProof.Rows.Subscript_ (hv s' k _ _ fun o s1 k1 pa => wpAny_Slice (hl s1 (kTrans k k1) _ _ fun vl s2 k2 pl => hu s2 (kTrans k (kTrans k1 k2)) _ _ fun vu s3 k3 pu => by
    rw [evalPart_none]
    refine wpAny_pure ?_
    have k4 : Keeps s3 { s3 with heap := s3.heap.push { cls := .type "slice", data := .fields #[vl, vu, .none] } } := kPush _ _
    obtain ⟨T, id, hT, hlk, hop⟩ := h o vl vu s3.heap.objs.size _ (kTrans k (kTrans k1 (kTrans k2 (kTrans k3 k4)))) (ma _ _ _ (kTrans k2 (kTrans k3 k4)) pa) pl pu (Heap.IsSliceOf.new ..)
    exact op_tail hT hlk hop rfl _ _ fun v s5 k5 p5 => hQ v s5 (kTrans k1 (kTrans k2 (kTrans k3 (kTrans k4 k5)))) p5))
noncomputable abbrev NewL (s₀ : Shared) (xs : List Value) : VP := fun v s => ∃ a, v = .ref a ∧ s.heap.PlainList a xs.toArray ∧ s₀.heap.get? a = none
theorem monoN (s₀ xs) : Mono (NewL s₀ xs) := fun _ _ _ k ⟨a, e, h, n⟩ => ⟨a, e, h.at fun o e => kOld k _ o e, n⟩
theorem NewL.isL {s₀ s : Shared} {xs v} (h : NewL s₀ xs v s) : IsL xs v s := let ⟨a, e, l, _⟩ := h; ⟨a, e, l.isList⟩
theorem kNone {s s' : Shared} (k : Keeps s s') {a : Addr} (h : s'.heap.get? a = none) : s.heap.get? a = none := by
  cases e : s.heap.get? a with
  | none => rfl
  | some o => rw [kOld k a o e] at h; cases h
theorem NewL.from {s₀ s₁ s : Shared} {xs v} (k : Keeps s₀ s₁) (h : NewL s₁ xs v s) : NewL s₀ xs v s := let ⟨a, e, l, n⟩ := h; ⟨a, e, l, kNone k n⟩
theorem get_none_of_push (h : Heap) : h.get? h.objs.size = none := by
  cases e : h.get? h.objs.size with
  | none => rfl
  | some o => exact absurd (Heap.lt_size e) (Nat.lt_irrefl _)
theorem ev_sliceL {l u : Option Expr} {p pos : Pos} {value : Expr} {lo hi : Option Int} {xs : List Value} (hv : Ev prog w A (eval value env) s (IsL xs)) (hl : EvP prog w A l env s lo) (hu : EvP prog w A u env s hi) (hsz : xs.length ≤ sizeLine) :
    Ev prog w A (eval (.Subscript value (.Slice l u none p) pos) env) s (NewL s (slicePick xs.toArray lo hi none).toList) :=
  ev_slice hv (monoL xs) hl hu fun o vl vu sl s' k ho pl pu hs => by
    obtain ⟨a, rfl, hL⟩ := ho
    refine ⟨"list", _, hL.typeIs, list_getitem_lookup, fun Q E hQ => wpAny_getItem_list_slice hL hs pl pu .none (by simp) (hQ _ _ (kPush _ _) ⟨_, rfl, ⟨_, by simpa using Heap.get?_push_size _ rfl⟩, kNone k (get_none_of_push _)⟩) (by simpa using hsz)⟩
theorem isPart_pair {v : Value} {i : Option Int} (h : IsPart v i) : ∃ l : Option (Int × Tok), v = partValue l ∧ l.map (·.1) = i := by
  cases h with
  | none => exact ⟨none, rfl, rfl⟩
  | int i t => exact ⟨some (i, t), rfl, rfl⟩
theorem ev_sliceS {l u : Option Expr} {p pos : Pos} {value : Expr} {lo hi : Option Int} {x : Str} (hv : Ev prog w A (eval value env) s (IsS x)) (hl : EvP prog w A l env s lo) (hu : EvP prog w A u env s hi) (hsz : x.length ≤ sizeLine) :
    Ev prog w A (eval (.Subscript value (.Slice l u none p) pos) env) s (IsS (Txt.slice x lo hi)) :=
  ev_slice hv (monoS x) hl hu fun o vl vu sl s' k ho pl pu hs => by
    obtain ⟨t, rfl⟩ := ho
    refine ⟨"str", _, PySem.typeIs_str _ x t, F.slot_str_getitem.lookup, fun Q E hQ => ?_⟩
    obtain ⟨l', rfl, el⟩ := isPart_pair pl
    obtain ⟨u', rfl, eu⟩ := isPart_pair pu
    refine wpAny_getItem_str_slice (l := l') (u := u') (st := none) hs rfl ?_
    have hz := Txt.slice_le x lo hi
    unfold Txt.slice at hQ hz
    unfold sliceMade slicePicked
    simp only [el, eu, Option.map_none, Option.getD_none] at *
    split
    · rename_i hc
      rw [if_pos hc] at hQ
      exact hQ _ _ (kRefl _) ⟨_, rfl⟩
    · rename_i hc
      rw [if_neg hc] at hQ hz
      exact ⟨Nat.le_trans hz hsz, hQ _ _ (kTok _ _) ⟨_, rfl⟩⟩
end

noncomputable def AllP : List VP → List Value → Shared → Prop
  | [], [], _ => True
  | P :: Ps, v :: vs, s => P v s ∧ AllP Ps vs s
  | _, _, _ => False

section
variable (prog : Program) (w : World) (A : Around) (env : Env) (s : Shared)
inductive EvArgs : List Expr → List VP → Prop
  | nil : EvArgs [] []
  | cons {e es P Ps} : (∀ es, starEach (e :: es) env = (false, eval e env) :: starEach es env) → Ev prog w A (eval e env) s P → Mono P → EvArgs es Ps → EvArgs (e :: es) (P :: Ps)
inductive EvKws : List Keyword → List Str → List VP → Prop
  | nil : EvKws [] [] []
  | cons {n e pos ks ns P Ps} : Ev prog w A (eval e env) s P → Mono P → EvKws ks ns Ps → EvKws (⟨some n, e, pos⟩ :: ks) (n :: ns) (P :: Ps)
end
section
variable {prog : Program} {w : World} {A : Around} {s : Shared} {env : Env} {P P' Pa Pb : VP} {t : Sem Value}

theorem evArgs_mono {es Ps} (h : EvArgs prog w A env s es Ps) : ∀ P ∈ Ps, Mono P := by
  induction h with
  | nil => intro P hP; cases hP
  | cons _ _ m _ ih => intro P hP; cases hP with
    | head => exact m
    | tail _ h => exact ih P h
theorem allP_mono : ∀ {Ps : List VP} {vs : List Value} {s s' : Shared}, (∀ P ∈ Ps, Mono P) → Keeps s s' → AllP Ps vs s → AllP Ps vs s'
  | [], [], _, _, _, _, _ => trivial
  | P :: Ps, v :: vs, s, s', m, k, h => ⟨m P (.head _) v s s' k h.1, allP_mono (fun P hP => m P (.tail _ hP)) k h.2⟩
  | [], _ :: _, _, _, _, _, h => h
  | _ :: _, [], _, _, _, _, h => h
theorem evArgs_star {es Ps} (h : EvArgs prog w A env s es Ps) (pos : Pos) : (backTo pos (starEach es env)).any (·.1) = false := by
  induction h with
  | nil => rfl
  | cons hs _ _ _ ih => rw [hs]; unfold backTo at ih ⊢; simp only [List.map_cons, List.any_cons, Bool.false_or]; exact ih
theorem evArgs_spliced {es Ps} (h : EvArgs prog w A env s es Ps) (pos : Pos) : ∀ s', Keeps s s' → ∀ (Q : List Value → Shared → Prop) (E : Value → Shared → Prop), (∀ vs s'', Keeps s' s'' → AllP Ps vs s'' → Q vs s'') →
    wpAny (model prog w) A (spliced (backTo pos (starEach es env))) Q E s' := by
  induction h with
  | nil => intro s' k Q E hQ; exact spliced_nil (hQ _ _ (kRefl _) trivial)
  | @cons e es P Ps hs he m hr ih =>
    intro s' k Q E hQ
    rw [hs]
    have e1 : backTo pos ((false, eval e env) :: starEach es env) = (false, eval e env) :: backTo pos (starEach es env) := by unfold backTo; simp
    rw [e1]
    exact spliced_cons (he s' k _ _ fun v s1 k1 p => ih s1 (kTrans k k1) _ _ fun vs s2 k2 ps => hQ _ _ (kTrans k1 k2) ⟨m _ _ _ k2 p, ps⟩)
theorem evKws_eval {ks ns Ps} (h : EvKws prog w A env s ks ns Ps) (pos : Pos) : (backToKw pos (keywordEach ks env)).all (·.1.isSome) = true ∧ (backToKw pos (keywordEach ks env)).filterMap (·.1) = ns ∧
    ∀ s', Keeps s s' → ∀ (Q : List Value → Shared → Prop) (E : Value → Shared → Prop), (∀ vs s'', Keeps s' s'' → AllP Ps vs s'' → Q vs s'') → wpAny (model prog w) A (evalAll ((backToKw pos (keywordEach ks env)).map (·.2))) Q E s' := by
  induction h with
  | nil => exact ⟨rfl, rfl, fun s' k Q E hQ => wpAny_evalAll_nil (hQ _ _ (kRefl _) trivial)⟩
  | @cons n e p ks ns P Ps he m hr ih =>
    obtain ⟨i1, i2, i3⟩ := ih
    have e1 : backToKw pos (keywordEach (⟨some n, e, p⟩ :: ks) env) = (some n, (do let v ← eval e env; standAt pos; pure v)) :: backToKw pos (keywordEach ks env) := rfl
    refine ⟨by rw [e1]; simp only [List.all_cons, Option.isSome_some, Bool.true_and]; exact i1, by rw [e1]; simp only [List.filterMap_cons]; rw [i2], fun s' k Q E hQ => ?_⟩
    rw [e1]
    simp only [List.map_cons]
    exact wpAny_evalAll_cons (wpAny_bind (he s' k _ _ fun v s1 k1 p => wpAny_bind (wpAny_standAt (wpAny_pure (i3 s1 (kTrans k k1) _ _ fun vs s2 k2 ps => hQ _ _ (kTrans k1 k2) ⟨m _ _ _ k2 p, ps⟩)))))

theorem allP0 {vs : List Value} (h : AllP [] vs s) : vs = [] := by cases vs with | nil => rfl | cons => exact h.elim
theorem allP1 {P1 : VP} {vs : List Value} (h : AllP [P1] vs s) : ∃ a, vs = [a] ∧ P1 a s := by
  cases vs with
  | nil => exact h.elim
  | cons a r => have := allP0 h.2; subst this; exact ⟨a, rfl, h.1⟩
theorem allP2 {P1 P2 : VP} {vs : List Value} (h : AllP [P1, P2] vs s) : ∃ a b, vs = [a, b] ∧ P1 a s ∧ P2 b s := by
  cases vs with
  | nil => exact h.elim
  | cons a r => obtain ⟨b, rfl, hb⟩ := allP1 h.2; exact ⟨a, b, rfl, h.1, hb⟩
theorem allP3 {P1 P2 P3 : VP} {vs : List Value} (h : AllP [P1, P2, P3] vs s) : ∃ a b c, vs = [a, b, c] ∧ P1 a s ∧ P2 b s ∧ P3 c s := by
  cases vs with
  | nil => exact h.elim
  | cons a r => obtain ⟨b, c, rfl, hb⟩ := allP2 h.2; exact ⟨a, b, c, rfl, h.1, hb⟩
theorem allP4 {P1 P2 P3 P4 : VP} {vs : List Value} (h : AllP [P1, P2, P3, P4] vs s) : ∃ a b c d, vs = [a, b, c, d] ∧ P1 a s ∧ P2 b s ∧ P3 c s ∧ P4 d s := by
  cases vs with
  | nil => exact h.elim
  | cons a r => obtain ⟨b, c, d, rfl, hb⟩ := allP3 h.2; exact ⟨a, b, c, d, rfl, h.1, hb⟩
theorem ev_list {es Ps pos} (h : EvArgs prog w A env s es Ps) (hsz : Ps.length ≤ sizeLine) : Ev prog w A (eval (.List es pos) env) s (fun v s' => ∃ a vs, v = .ref a ∧ s'.heap.PlainList a (vs : List Value).toArray ∧ s.heap.get? a = none ∧ AllP Ps vs s') := fun s' k Q E hQ =>
  PyProof.Rows.List_ (evArgs_spliced h pos s' k _ _ fun vs s1 k1 ps => by
    have hl : vs.length ≤ sizeLine := by
      have : ∀ {Ps : List VP} {vs : List Value} {s}, AllP Ps vs s → vs.length = Ps.length := by
        intro Ps; induction Ps with
        | nil => intro vs s h; cases vs with
          | nil => rfl
          | cons => exact h.elim
        | cons P Ps ih => intro vs s h; cases vs with
          | nil => exact h.elim
          | cons v vs => simp [ih h.2]
      rw [this ps]; exact hsz
    exact wpAny_newList (hQ _ _ (kTrans k1 (kPush _ _)) ⟨_, vs, rfl, ⟨_, Heap.get?_push_size _ rfl⟩, kNone (kTrans k k1) (get_none_of_push _), allP_mono (evArgs_mono h) (kPush _ _) ps⟩) hl)
theorem ev_tuple {es Ps k0 pos} (h : EvArgs prog w A env s es Ps) (hsz : Ps.length ≤ sizeLine) : Ev prog w A (eval (.Tuple es k0 pos) env) s (fun v s' => ∃ a vs, v = .ref a ∧ PyProof.Rows.IsTup s'.heap a (vs : List Value).toArray ∧ s.heap.get? a = none ∧ AllP Ps vs s') := fun s' k Q E hQ =>
  PyProof.Rows.Tuple_ (evArgs_spliced h pos s' k _ _ fun vs s1 k1 ps => by
    have hl : vs.length ≤ sizeLine := by
      have : ∀ {Ps : List VP} {vs : List Value} {s}, AllP Ps vs s → vs.length = Ps.length := by
        intro Ps; induction Ps with
        | nil => intro vs s h; cases vs with
          | nil => rfl
          | cons => exact h.elim
        | cons P Ps ih => intro vs s h; cases vs with
          | nil => exact h.elim
          | cons v vs => simp [ih h.2]
      rw [this ps]; exact hsz
    exact wpAny_newTuple (hQ _ _ (kTrans k1 (kPush _ _)) ⟨_, vs, rfl, ⟨_, Heap.get?_push_size _ rfl, rfl, _, rfl⟩, kNone (kTrans k k1) (get_none_of_push _), allP_mono (evArgs_mono h) (kPush _ _) ps⟩) hl)

theorem evArgs_eval {f : Value} {es Ps ks ns Ks} (h : EvArgs prog w A env s es Ps) (hk : EvKws prog w A env s ks ns Ks) (pos : Pos) (s' : Shared) (k : Keeps s s') {Q : Args → Shared → Prop} {E : Value → Shared → Prop}
    (hQ : ∀ vs kv s'', Keeps s' s'' → AllP Ps vs s'' → AllP Ks kv s'' → Q ⟨vs, ns.zip kv⟩ s'') : wpAny (model prog w) A (evalArgs f true (backTo pos (starEach es env)) (backToKw pos (keywordEach ks env))) Q E s' := by
  obtain ⟨k1, k2, k3⟩ := evKws_eval hk pos
  have hsp := evArgs_spliced h pos
  cases h with
  | nil =>
    show wpAny _ _ (evalArgs f true [] _) _ _ _
    refine evalArgs_kw_nil k1 (k3 s' k _ _ fun kv s1 k4 ps => ?_)
    rw [k2]
    exact hQ [] kv s1 k4 trivial ps
  | @cons e es P Ps hs he m hr =>
    rw [hs] at hsp ⊢
    have e1 : backTo pos ((false, eval e env) :: starEach es env) = (false, eval e env) :: backTo pos (starEach es env) := by unfold backTo; simp
    rw [e1] at hsp ⊢
    refine evalArgs_kw k1 (hsp s' k _ _ fun vs s1 k4 ps => k3 s1 (kTrans k k4) _ _ fun kv s2 k5 qs => ?_)
    rw [k2]
    exact hQ vs kv s2 (kTrans k4 k5) (allP_mono (fun P hP => by
      cases hP with
      | head => exact m
      | tail _ hP => exact evArgs_mono hr P hP) k5 ps) qs
theorem ev_call {id p pos es Ps ks ns Ks} {a : Addr} {o : Obj} {fd : FuncData} (hf : Var prog w A env s id (.ref a)) (ho : s.heap.get? a = some o) (hd : o.data = .func fd) (h : EvArgs prog w A env s es Ps) (hk : EvKws prog w A env s ks ns Ks)
    (hc : ∀ vs kv s', Keeps s s' → AllP Ps vs s' → AllP Ks kv s' → Op prog w A (call (.ref a) vs (ns.zip kv)) s' P) (hdb : (id == ("__debug__" : Str)) = false := by walk_at "xa") : Ev prog w A (eval (.Call (.Name id p) es ks pos) env) s P := fun s' k Q E hQ =>
  wpAny_Call_Name_kw (wpAny_Name (hf s' k _ _ (callWith_function_kw (o := o) (fd := fd) (evArgs_eval h hk pos s' k fun vs kv s1 k1 ps qs =>
    ⟨⟨kOld (kTrans k k1) _ _ ho, hd⟩, hc vs kv s1 (kTrans k k1) ps qs _ _ fun v s2 k2 p => hQ v s2 (kTrans k1 k2) p⟩))) hdb)
theorem ev_callB {id p pos es Ps} {b : String} (hf : Var prog w A env s id (.builtin b)) (h : EvArgs prog w A env s es Ps)
    (hc : ∀ vs s', Keeps s s' → AllP Ps vs s' → Op prog w A (call (.builtin b) vs) s' P) (hdb : (id == ("__debug__" : Str)) = false := by walk_at "xa") : Ev prog w A (eval (.Call (.Name id p) es [] pos) env) s P := fun s' k Q E hQ =>
  wpAny_Call_Name_kw (wpAny_Name (hf s' k _ _ (callWith_builtin (evArgs_star h pos) (evArgs_eval h .nil pos s' k fun vs kv s1 k1 ps qs =>
    hc vs s1 (kTrans k k1) ps _ _ fun v s2 k2 p => hQ v s2 (kTrans k1 k2) p))) hdb)
end

inductive Ent where
  | lst (xs : List Value)
  | tup (xs : List Value)
  | lit (l : Addr) (i : Nat)
  | tit (l : Addr) (i : Nat)
  | rit (x left : Int)
noncomputable def Ent.At (h : Heap) (a : Addr) : Ent → Prop
  | .lst xs => h.PlainList a xs.toArray
  | .tup xs => PyProof.Rows.IsTup h a xs.toArray
  | .lit l i => h.IsListIter a l i
  | .tit t i => h.IsTupleIter a t i
  | .rit x left => IsRangeIter h a x left 1
theorem Ent.at_ext {h h' : Heap} {a : Addr} {e : Ent} (k : ∀ o, h.get? a = some o → h'.get? a = some o) (x : e.At h a) : e.At h' a := by
  cases e with
  | lst xs => exact Heap.PlainList.at x k
  | tup xs => exact let ⟨o, ho, r⟩ := x; ⟨o, k o ho, r⟩
  | lit l i => exact let ⟨o, ho, r⟩ := x; ⟨o, k o ho, r⟩
  | tit l i => exact let ⟨o, ho, r⟩ := x; ⟨o, k o ho, r⟩
  | rit x l => exact k _ x
theorem Ent.live {h : Heap} {a : Addr} {e : Ent} (x : e.At h a) : ∃ o, h.get? a = some o ∧ (∀ es n, o.data ≠ .dict es n) ∧ ∀ c, o.data ≠ .cell c := by
  cases e with
  | lst xs => obtain ⟨n, e⟩ := x; exact ⟨_, e, (fun _ _ h => by cases h), (fun _ h => by cases h)⟩
  | tup xs => obtain ⟨o, e, _, n, hd⟩ := x; exact ⟨_, e, (fun _ _ h => by rw [hd] at h; cases h), (fun _ h => by rw [hd] at h; cases h)⟩
  | lit l i => obtain ⟨o, e, _, hd⟩ := x; exact ⟨_, e, (fun _ _ h => by rw [hd] at h; cases h), (fun _ h => by rw [hd] at h; cases h)⟩
  | tit l i => obtain ⟨o, e, _, hd⟩ := x; exact ⟨_, e, (fun _ _ h => by rw [hd] at h; cases h), (fun _ h => by rw [hd] at h; cases h)⟩
  | rit y l => exact ⟨_, x, (fun _ _ h => by cases h), (fun _ h => by cases h)⟩
theorem Ent.ne_ns {h : Heap} {a L : Addr} {e : Ent} {m} (x : e.At h a) (n : h.Ns L m) : a ≠ L := by
  rintro rfl
  obtain ⟨o, ho, hd, _⟩ := Ent.live x
  obtain ⟨o', es, ep, ho', hd', _⟩ := n
  rw [ho] at ho'; cases ho'; exact hd _ _ hd'
theorem Ent.ne_cell {h : Heap} {a c : Addr} {e : Ent} {v} (x : e.At h a) (n : h.IsCell c v) : a ≠ c := by
  rintro rfl
  obtain ⟨o, ho, _, hd⟩ := Ent.live x
  obtain ⟨o', ho', hd'⟩ := n
  rw [ho] at ho'; cases ho'; exact hd _ hd'
theorem ns_ne_cell {h : Heap} {L c : Addr} {m v} (x : h.Ns L m) (n : h.IsCell c v) : L ≠ c := by
  rintro rfl
  obtain ⟨o, es, ep, ho, hd, _⟩ := x
  obtain ⟨o', ho', hd'⟩ := n
  rw [ho] at ho'; cases ho'; rw [hd] at hd'; cases hd'

noncomputable def upd (v : Str → Option Value) (x : Str) (u : Value) : Str → Option Value := fun y => if y = x then some u else v y
theorem upd_same {v x u} : upd v x u x = some u := if_pos rfl
theorem upd_ne {v : Str → Option Value} {x y : Str} {u} (h : y ≠ x) : upd v x u y = v y := if_neg h
theorem upd_to {v : Str → Option Value} {x y : Str} {u r} (h : y ≠ x) (k : v y = r) : upd v x u y = r := (if_neg h).trans k

structure St (s₀ : Shared) (env : Env) (v : Str → Option Value) (ls : List (Addr × Ent)) (s : Shared) : Prop where
  fn : env.scope.kind = .function
  base : Keeps s₀ s
  ns : ∃ m, s.heap.Ns env.locals m ∧ ∀ x, env.kindOf x = some .local → m x = v x
  cl : ∀ n c, env.cells.lookup n = some c → env.kindOf n = some .cell → s.heap.IsCell c (v n)
  cx : ∀ n, env.kindOf n = some .cell → (env.cells.lookup n).isSome = true
  fl : s₀.heap.get? env.locals = none
  fc : ∀ n c, (n, c) ∈ env.cells → s₀.heap.get? c = none
  ca : env.cells.Pairwise fun x y => x.2 ≠ y.2
  le : ∀ p ∈ ls, p.2.At s.heap p.1 ∧ s₀.heap.get? p.1 = none
  nd : (ls.map (·.1)).Nodup

section
variable {prog : Program} {w : World} {A : Around} {E : Value → Shared → Prop} {s₀ s s' : Shared} {env : Env} {v : Str → Option Value} {ls : List (Addr × Ent)} {P P' Pa Pb : VP} {t : Sem Value}

theorem St.keeps (h : St s₀ env v ls s) (k : Keeps s s') : St s₀ env v ls s' where
  fn := h.fn
  base := kTrans h.base k
  ns := let ⟨m, a, b⟩ := h.ns; ⟨m, a.keeps (kOld k), b⟩
  cl := fun n c a b => (h.cl n c a b).keeps (kOld k)
  cx := h.cx
  fl := h.fl
  fc := h.fc
  ca := h.ca
  le := fun p hp => ⟨Ent.at_ext (fun o e => kOld k _ o e) (h.le p hp).1, (h.le p hp).2⟩
  nd := h.nd
theorem St.get {a : Addr} {e : Ent} (h : St s₀ env v ls s) (hm : (a, e) ∈ ls) : e.At s.heap a := (h.le _ hm).1
theorem St.list {a : Addr} {xs} (h : St s₀ env v ls s) (hm : (a, Ent.lst xs) ∈ ls) : s.heap.IsList a xs.toArray := Heap.PlainList.isList (h.get hm)
theorem St.tup {a : Addr} {xs} (h : St s₀ env v ls s) (hm : (a, Ent.tup xs) ∈ ls) : PyProof.Rows.IsTup s.heap a xs.toArray := h.get hm
theorem St.fresh {a : Addr} (h : St s₀ env v ls s) (hn : s.heap.get? a = none) : a ∉ ls.map (·.1) := fun hm => by
  obtain ⟨p, hp, rfl⟩ := List.mem_map.mp hm
  obtain ⟨o, ho, _⟩ := Ent.live (h.le p hp).1
  rw [ho] at hn; cases hn
theorem St.add {a : Addr} {e : Ent} (h : St s₀ env v ls s) (k : Keeps s s') (hn : s.heap.get? a = none) (he : e.At s'.heap a) : St s₀ env v ((a, e) :: ls) s' :=
  let h' := h.keeps k
  { h' with
    le := fun p hp => by
      rcases List.mem_cons.mp hp with rfl | hp
      · exact ⟨he, kNone h.base hn⟩
      · exact h'.le p hp
    nd := by simp only [List.map_cons, List.nodup_cons]; exact ⟨h.fresh hn, h.nd⟩ }
theorem St.sub {ls' : List (Addr × Ent)} (h : St s₀ env v ls s) (hs : ls'.Sublist ls) : St s₀ env v ls' s :=
  { h with le := fun p hp => h.le p (hs.subset hp), nd := (hs.map _).nodup h.nd }

theorem St.local (h : St s₀ env v ls s) {x : Str} {u : Value} (hk : env.kindOf x = some .local) (hv : v x = some u) : Var prog w A env s x u := fun s' k Q E hQ => by
  obtain ⟨m, hn, hm⟩ := (h.keeps k).ns
  exact wpAny_loadName_local h.fn hk hn ((hm x hk).trans hv) hQ
theorem St.cell (h : St s₀ env v ls s) {x : Str} {u : Value} (hk : env.kindOf x = some .cell) (hv : v x = some u) : Var prog w A env s x u := fun s' k Q E hQ => by
  obtain ⟨c, hc⟩ := Option.isSome_iff_exists.mp (h.cx x hk)
  have := (h.keeps k).cl x c hc hk
  rw [hv] at this
  exact wpAny_loadName_cell h.fn hk hc this hQ
theorem varGlobal {x : Str} {u : Value} {mg} (hf : env.scope.kind = .function) (hk : env.kindOf x = some .globalImplicit) (hg : env.globals = mainGlobals) (n : s.heap.Ns mainGlobals mg) (hv : mg x = some u) : Var prog w A env s x u := fun s' k Q E hQ => by
  unfold loadName
  simp only [Env.blockKind, hf, hk, ScopeKind.isAnnotationScope, Bool.false_and, Bool.false_eq_true, if_false]
  exact loadGlobal_global (by rw [hg]; exact n.keeps (kOld k)) hv hQ
theorem varBuiltin {x : Str} {u : Value} {mg mb} (hf : env.scope.kind = .function) (hk : env.kindOf x = some .globalImplicit) (hg : env.globals = mainGlobals) (hb : env.builtins = builtinsNs) (n : s.heap.Ns mainGlobals mg) (hm : mg x = none) (nb : s.heap.Ns builtinsNs mb) (hv : mb x = some u) : Var prog w A env s x u := fun s' k Q E hQ => by
  unfold loadName
  simp only [Env.blockKind, hf, hk, ScopeKind.isAnnotationScope, Bool.false_and, Bool.false_eq_true, if_false]
  exact loadGlobal_builtin (by rw [hg]; exact n.keeps (kOld k)) hm (by rw [hb]; exact nb.keeps (kOld k)) hv hQ

theorem kBut {a : Addr} {s : Shared} {h : Heap} {t : Nat} {s₀ : Shared} (b : Keeps s₀ s) (hs : Heap.SameBut a s.heap h) (hn : s₀.heap.get? a = none) : Keeps s₀ { s with heap := h, toks := t } := by
  obtain ⟨h1, t1, rfl, k⟩ := b
  exact ⟨h, t, rfl, fun b o e => hs.extBut b o (by rintro rfl; rw [hn] at e; cases e) (k b o e)⟩
theorem St.storeL (h : St s₀ env v ls s) {x : Str} {u : Value} (hk : env.kindOf x = some .local) {Q : Unit → Shared → Prop} (hQ : ∀ s', St s₀ env (upd v x u) ls s' → Q () s') : wpAny (model prog w) A (storeName env x u) Q E s := by
  obtain ⟨m, hn, hm⟩ := h.ns
  refine wpAny_storeName_local hk hn (fun h' hn' hs => hQ _ ?_) (by rw [h.fn]; rfl)
  exact
    { fn := h.fn
      base := kBut h.base hs h.fl
      ns := ⟨_, hn', fun y hy => by
        unfold upd
        by_cases e : y = x
        · simp [e]
        · simp only [if_neg e]; exact hm y hy⟩
      cl := fun n c a b => by
        have hne : n ≠ x := fun e => by rw [e, hk] at b; cases b
        rw [upd_ne hne]
        exact (h.cl n c a b).sameBut hs (Ne.symm (ns_ne_cell hn (h.cl n c a b)))
      cx := h.cx
      fl := h.fl
      fc := h.fc
      ca := h.ca
      le := fun p hp => ⟨Ent.at_ext (fun o e => hs.extBut _ o (Ent.ne_ns (h.le p hp).1 hn) e) (h.le p hp).1, (h.le p hp).2⟩
      nd := h.nd }
theorem St.storeC (h : St s₀ env v ls s) {x : Str} {u : Value} (hk : env.kindOf x = some .cell) {Q : Unit → Shared → Prop} (hQ : ∀ s', St s₀ env (upd v x u) ls s' → Q () s') : wpAny (model prog w) A (storeName env x u) Q E s := by
  obtain ⟨c, hc⟩ := Option.isSome_iff_exists.mp (h.cx x hk)
  have hcell := h.cl x c hc hk
  obtain ⟨m, hn, hm⟩ := h.ns
  refine wpAny_storeName_cell h.fn hk hc hcell fun h' hc' hs => hQ _ ?_
  exact
    { fn := h.fn
      base := kBut h.base hs (h.fc x c (mem_of_lookup hc))
      ns := ⟨m, hn.sameBut hs (ns_ne_cell hn hcell), fun y hy => by
        have hne : y ≠ x := fun e => by rw [e, hk] at hy; cases hy
        rw [upd_ne hne]; exact hm y hy⟩
      cl := fun n c' a b => by
        by_cases e : n = x
        · subst e
          rw [hc] at a; cases a
          rw [upd_same]; exact hc'
        · rw [upd_ne e]
          exact (h.cl n c' a b).sameBut hs fun e' => e (name_of_addr h.ca (mem_of_lookup a) (e' ▸ mem_of_lookup hc))
      cx := h.cx
      fl := h.fl
      fc := h.fc
      ca := h.ca
      le := fun p hp => ⟨Ent.at_ext (fun o e => hs.extBut _ o (Ent.ne_cell (h.le p hp).1 hcell) e) (h.le p hp).1, (h.le p hp).2⟩
      nd := h.nd }
theorem St.store (h : St s₀ env v ls s) {x : Str} {u : Value} (hk : env.kindOf x = some .local ∨ env.kindOf x = some .cell) {Q : Unit → Shared → Prop} (hQ : ∀ s', St s₀ env (upd v x u) ls s' → Q () s') : wpAny (model prog w) A (storeName env x u) Q E s :=
  hk.elim (fun k => h.storeL k hQ) fun k => h.storeC k hQ
theorem St.change {a : Addr} {e e' : Ent} {pre post : List (Addr × Ent)} {h' : Heap} {t : Nat} (h : St s₀ env v (pre ++ (a, e) :: post) s) (hs : Heap.SameBut a s.heap h') (he : e'.At h' a) :
    St s₀ env v (pre ++ (a, e') :: post) { s with heap := h', toks := t } := by
  have hm : (a, e) ∈ pre ++ (a, e) :: post := List.mem_append_right _ (.head _)
  have ha := h.get hm
  obtain ⟨m, hn, hmm⟩ := h.ns
  have nd := h.nd
  have hne : ∀ p ∈ pre ++ post, p.1 ≠ a := fun p hp e1 => by
    rw [List.map_append, List.map_cons] at nd
    have nd' := (List.perm_middle.nodup_iff).mp nd
    exact (List.nodup_cons.mp nd').1 (by rw [← List.map_append]; exact List.mem_map.mpr ⟨p, hp, e1⟩)
  exact
    { fn := h.fn
      base := kBut h.base hs (h.le _ hm).2
      ns := ⟨m, hn.sameBut hs (Ne.symm (Ent.ne_ns ha hn)), hmm⟩
      cl := fun n c x y => (h.cl n c x y).sameBut hs (Ne.symm (Ent.ne_cell ha (h.cl n c x y)))
      cx := h.cx
      fl := h.fl
      fc := h.fc
      ca := h.ca
      le := fun p hp => by
        rcases List.mem_append.mp hp with hp | hp
        · exact ⟨Ent.at_ext (fun o e1 => hs.extBut _ o (hne p (List.mem_append_left _ hp)) e1) (h.le p (List.mem_append_left _ hp)).1, (h.le p (List.mem_append_left _ hp)).2⟩
        · rcases List.mem_cons.mp hp with rfl | hp
          · exact ⟨he, (h.le _ hm).2⟩
          · exact ⟨Ent.at_ext (fun o e1 => hs.extBut _ o (hne p (List.mem_append_right _ hp)) e1) (h.le p (List.mem_append_right _ (.tail _ hp))).1, (h.le p (List.mem_append_right _ (.tail _ hp))).2⟩
      nd := by simpa using nd }
end

section
variable {prog : Program} {w : World} {A : Around} {E : Value → Shared → Prop} {s₀ s s' : Shared} {env : Env} {v : Str → Option Value} {ls : List (Addr × Ent)} {P P' Pa Pb : VP} {t : Sem Value} {Q : Flow → Shared → Prop} {rest : List Stmt} {J : Nat → (Str → Option Value) → List (Addr × Ent) → Prop}

theorem x_nil (h : Q .next s) : wpAny (model prog w) A (execs [] env) Q E s := wpAny_execs_nil h

theorem x_cut {st : Stmt} (Φ : Shared → Prop) (h : ∀ E, wpAny (model prog w) A (execs [st] env) (fun f s' => f = .next ∧ Φ s') E s) (k : ∀ s', Φ s' → wpAny (model prog w) A (execs rest env) Q E s') : wpAny (model prog w) A (execs (st :: rest) env) Q E s := by
  refine wpAny_execs_cons ?_
  intro Γ p hΓ
  have h1 := h E Γ p hΓ
  rw [execs_cons, Sem.wp_bind'] at h1
  refine Sem.wp_mono _ Γ _ (fun f p' s' h' => ?_) (fun _ _ _ h' => h') _ _ h1
  cases f with
  | next => exact k s' (h' : _ ∧ _).2
  | brk => exact absurd (h' : _ ∧ _).1 (by intro e; cases e)
  | cont => exact absurd (h' : _ ∧ _).1 (by intro e; cases e)
  | ret v => exact absurd (h' : _ ∧ _).1 (by intro e; cases e)
theorem x_assign {x px e pos} (h : St s₀ env v ls s) (he : Ev prog w A (eval e env) s P) (hk : env.kindOf x = some .local ∨ env.kindOf x = some .cell)
    (k : ∀ u s', Keeps s s' → P u s' → ∃ ls', St s₀ env v ls' s' ∧ ∀ s'', St s₀ env (upd v x u) ls' s'' → wpAny (model prog w) A (execs rest env) Q E s'')
    (hsw : swapsWith e (some (.Name x px)) pos.line env = pure false := by walk_at "xa") :
    wpAny (model prog w) A (execs (.Assign [.Name x px] e pos :: rest) env) Q E s :=
  wpAny_execs_cons (wpAny_Assign_Name (he.use fun u s1 k1 p => by
    obtain ⟨ls', h', k'⟩ := k u s1 k1 p
    exact h'.store hk k') hsw)
theorem x_assignI {x px e pos} {i : Int} (h : St s₀ env v ls s) (he : Ev prog w A (eval e env) s (IsI i)) (hk : env.kindOf x = some .local ∨ env.kindOf x = some .cell)
    (k : ∀ t s'', St s₀ env (upd v x (.int i t)) ls s'' → wpAny (model prog w) A (execs rest env) Q E s'') (hsw : swapsWith e (some (.Name x px)) pos.line env = pure false := by walk_at "xa") :
    wpAny (model prog w) A (execs (.Assign [.Name x px] e pos :: rest) env) Q E s :=
  x_assign h he hk (fun u s1 k1 p => by obtain ⟨t, rfl⟩ := p; exact ⟨ls, h.keeps k1, k t⟩) hsw
theorem x_assignS {x px e pos} {i : Str} (h : St s₀ env v ls s) (he : Ev prog w A (eval e env) s (IsS i)) (hk : env.kindOf x = some .local ∨ env.kindOf x = some .cell)
    (k : ∀ t s'', St s₀ env (upd v x (.str i t)) ls s'' → wpAny (model prog w) A (execs rest env) Q E s'') (hsw : swapsWith e (some (.Name x px)) pos.line env = pure false := by walk_at "xa") :
    wpAny (model prog w) A (execs (.Assign [.Name x px] e pos :: rest) env) Q E s :=
  x_assign h he hk (fun u s1 k1 p => by obtain ⟨t, rfl⟩ := p; exact ⟨ls, h.keeps k1, k t⟩) hsw
theorem x_assignN {x px e pos} {xs : List Value} (h : St s₀ env v ls s) (he : Ev prog w A (eval e env) s (NewL s xs)) (hk : env.kindOf x = some .local ∨ env.kindOf x = some .cell)
    (k : ∀ a s'', St s₀ env (upd v x (.ref a)) ((a, .lst xs) :: ls) s'' → wpAny (model prog w) A (execs rest env) Q E s'') (hsw : swapsWith e (some (.Name x px)) pos.line env = pure false := by walk_at "xa") :
    wpAny (model prog w) A (execs (.Assign [.Name x px] e pos :: rest) env) Q E s :=
  x_assign h he hk (fun u s1 k1 p => by obtain ⟨a, rfl, hl, hn⟩ := p; exact ⟨_, h.add (e := .lst xs) k1 hn hl, k a⟩) hsw
theorem x_aug {x px op e pos} {old : Value} (h : St s₀ env v ls s) (hx : Var prog w A env s x old) (he : Ev prog w A (eval e env) s Pa)
    (hop : ∀ u s', Keeps s s' → Pa u s' → Op prog w A (inplaceOp op old u) s' P) (hk : env.kindOf x = some .local ∨ env.kindOf x = some .cell)
    (k : ∀ u s', Keeps s s' → P u s' → ∃ ls', St s₀ env v ls' s' ∧ ∀ s'', St s₀ env (upd v x u) ls' s'' → wpAny (model prog w) A (execs rest env) Q E s'') :
    wpAny (model prog w) A (execs (.AugAssign (.Name x px) op e pos :: rest) env) Q E s :=
  wpAny_execs_cons (wpAny_AugAssign_Name (hx s (kRefl s) _ _ (he.use fun u s1 k1 p => hop u s1 k1 p _ _ fun r s2 k2 p2 => by
    obtain ⟨ls', h', k'⟩ := k r s2 (kTrans k1 k2) p2
    exact h'.store hk k')))

theorem x_return {e pos} (he : Ev prog w A (eval e env) s P) (k : ∀ u s', Keeps s s' → P u s' → Q (.ret u) s') : wpAny (model prog w) A (execs (.Return (some e) pos :: rest) env) Q E s :=
  wpAny_execs_cons (wpAny_Return_some (he.use k))
theorem x_expr {e pos} (he : wpAny (model prog w) A (eval e env) (fun _ s' => wpAny (model prog w) A (execs rest env) Q E s') E s) (hi : interactive env = false) (hs : swapsWith e none pos.line env = pure false := by walk_at "xa") :
    wpAny (model prog w) A (execs (.Expr e pos :: rest) env) Q E s := wpAny_execs_cons (wpAny_Expr_any he hi hs)

theorem x_if {test body orelse pos} {b : Bool} (h : St s₀ env v ls s) (ht : EvB prog w A (isTrue test env (eval test env)) s b)
    (kT : b = true → ∀ s', St s₀ env v ls s' → wpAny (model prog w) A (execs body env) (fun f s'' => match f with | .next => wpAny (model prog w) A (execs rest env) Q E s'' | f => Q f s'') E s')
    (kF : b = false → ∀ s', St s₀ env v ls s' → wpAny (model prog w) A (execs orelse env) (fun f s'' => match f with | .next => wpAny (model prog w) A (execs rest env) Q E s'' | f => Q f s'') E s') :
    wpAny (model prog w) A (execs (.If test body orelse pos :: rest) env) Q E s :=
  wpAny_execs_cons (wpAny_If (ht s (kRefl s) _ _ fun s1 k1 => by
    cases b with
    | true => rw [if_pos rfl]; exact kT rfl s1 (h.keeps k1)
    | false => rw [if_neg Bool.false_ne_true]; exact kF rfl s1 (h.keeps k1)))
theorem x_skip {test body pos} (h : St s₀ env v ls s) (ht : EvB prog w A (isTrue test env (eval test env)) s false)
    (k : ∀ s', St s₀ env v ls s' → wpAny (model prog w) A (execs rest env) Q E s') : wpAny (model prog w) A (execs (.If test body [] pos :: rest) env) Q E s :=
  x_if h ht (fun e => by cases e) fun _ s1 h1 => wpAny_execs_nil (k s1 h1)

theorem x_while {test body pos} (I : Nat → Shared → Prop) (n : Nat) (h : I n s)
    (turn : ∀ n s, I n s → ∃ b, EvB prog w A (isTrue test env (eval test env)) s b ∧
      (b = true → ∀ s', Keeps s s' → ∀ E, wpAny (model prog w) A (execs body env) (fun f s'' => f = .next ∧ ∃ m, m < n ∧ I m s'') E s') ∧
      (b = false → ∀ s', Keeps s s' → wpAny (model prog w) A (execs rest env) Q E s')) :
    wpAny (model prog w) A (execs (.While test body [] pos :: rest) env) Q E s := by
  refine wpAny_execs_cons (wpAny_While (codeAny_whileLoop I (fun n s hI => ?_) n h))
  obtain ⟨b, hb, hT, hF⟩ := turn n s hI
  refine hb s (kRefl s) _ _ fun s1 k1 => ?_
  cases b with
  | true =>
    rw [if_pos rfl]
    exact wpAny_mono (hT rfl s1 k1 _) (fun f s2 ⟨e, h2⟩ => by subst e; exact h2) fun _ _ e => e
  | false =>
    rw [if_neg Bool.false_ne_true]
    exact wpAny_execs_nil (hF rfl s1 k1)

theorem St.perm {ls' : List (Addr × Ent)} (h : St s₀ env v ls s) (p : ls.Perm ls') : St s₀ env v ls' s :=
  { h with le := fun q hq => h.le q (p.symm.subset hq), nd := (p.map _).nodup_iff.mp h.nd }
theorem St.dropped {it : Addr} {e : Ent} {h' : Heap} {t : Nat} (h : St s₀ env v ((it, e) :: ls) s) (hx : Heap.ExtBut it s.heap h') : St s₀ env v ls { s with heap := h', toks := t } := by
  have ha := h.get (.head _)
  obtain ⟨m, hn, hm⟩ := h.ns
  have hnd := List.nodup_cons.mp h.nd
  exact
    { fn := h.fn
      base := by
        obtain ⟨h1, t1, rfl, k⟩ := h.base
        exact ⟨h', t, rfl, fun b o e1 => hx b o (by rintro rfl; rw [(h.le _ (.head _)).2] at e1; cases e1) (k b o e1)⟩
      ns := ⟨m, hn.extBut hx (Ne.symm (Ent.ne_ns ha hn)), hm⟩
      cl := fun n c x y => let ⟨o, ho, hd⟩ := h.cl n c x y; ⟨o, hx c o (Ne.symm (Ent.ne_cell ha (h.cl n c x y))) ho, hd⟩
      cx := h.cx
      fl := h.fl
      fc := h.fc
      ca := h.ca
      le := fun p hp => ⟨Ent.at_ext (fun o e1 => hx _ o (fun e2 => hnd.1 (List.mem_map.mpr ⟨p, hp, e2⟩)) e1) (h.le p (.tail _ hp)).1, (h.le p (.tail _ hp)).2⟩
      nd := hnd.2 }
theorem St.head {a : Addr} {e e' : Ent} {h' : Heap} {t : Nat} (h : St s₀ env v ((a, e) :: ls) s) (hs : Heap.SameBut a s.heap h') (he : e'.At h' a) : St s₀ env v ((a, e') :: ls) { s with heap := h', toks := t } :=
  h.change (pre := []) hs he

noncomputable abbrev IsRng (a : Int) (n : Nat) : VP := fun v s => ∃ r b t u w, v = .ref r ∧ IsRange s.heap r a b 1 t u w ∧ Builtin.Range.small a b 1 = true ∧ Builtin.Range.rangeSize a b 1 = (n : Int)

theorem x_forR {x px iter body pos} {a : Int} {n : Nat} (hA : A.handled = none) (h : St s₀ env v ls s) (hit : Ev prog w A (eval iter env) s (IsRng a n)) (hk : env.kindOf x = some .local ∨ env.kindOf x = some .cell)
    (J : Nat → (Str → Option Value) → List (Addr × Ent) → Prop) (h0 : J 0 v ls)
    (step : ∀ i v' ls' it t s', i < n → J i v' ls' → St s₀ env (upd v' x (.int (a + i) t)) ((it, .rit (a + i + 1) ((n : Int) - i - 1)) :: ls') s' → ∀ E,
      wpAny (model prog w) A (execs body env) (fun f s'' => f = .next ∧ ∃ v'' ls'', St s₀ env v'' ((it, .rit (a + i + 1) ((n : Int) - i - 1)) :: ls'') s'' ∧ J (i + 1) v'' ls'') E s')
    (k : ∀ v' ls' s', J n v' ls' → St s₀ env v' ls' s' → wpAny (model prog w) A (execs rest env) Q E s')
    (hs : ∀ x, foldedSetIterable iter env x = pure x := by walk_at "xa") :
    wpAny (model prog w) A (execs (.For (.Name x px) iter body [] pos :: rest) env) Q E s := by
  refine wpAny_execs_cons (wpAny_For (hit.use fun u s1 k1 p => ?_) hs)
  obtain ⟨r, b, t, u, z, rfl, hr, hsm, hsz⟩ := p
  refine wpAny_pyIter_range hr hsm ?_
  have hnew : St s₀ env v ((s1.heap.objs.size, .rit a n) :: ls) { s1 with heap := s1.heap.push { cls := .type "range_iterator", data := .fields #[rawInt a, rawInt (Builtin.Range.rangeSize a b 1), rawInt 1] } } :=
    (h.keeps k1).add (kPush _ _) (get_none_of_push _) (by rw [hsz]; exact Heap.get?_push_size _ rfl)
  refine codeAny_forLoop (fun k s' => ∃ i v' ls', i ≤ n ∧ k = n - i ∧ J i v' ls' ∧ St s₀ env v' ((s1.heap.objs.size, .rit (a + i) ((n : Int) - i)) :: ls') s') ?_ n ⟨0, v, ls, Nat.zero_le _, rfl, h0, by simpa using hnew⟩
  rintro k2 s2 ⟨i, v', ls', hi, rfl, hJ, hS⟩
  by_cases hlt : i < n
  · refine wpAny_pyNext_range_item (hS.get (.head _)) (by lia) fun h' hit' hs' => ?_
    have hS2 : St s₀ env v' ((s1.heap.objs.size, .rit (a + i + 1) ((n : Int) - i - 1)) :: ls') { s2 with heap := h', toks := s2.toks + 1 } := hS.head hs' hit'
    refine wpAny_assign_Name (hS2.store hk fun s3 h3 => ?_)
    refine wpAny_mono (step i v' ls' _ _ s3 hlt hJ h3 _) (fun f s4 h4 => ?_) fun _ _ e => e
    obtain ⟨rfl, v'', ls'', h5, hJ'⟩ := h4
    exact ⟨n - (i + 1), by lia, i + 1, v'', ls'', hlt, rfl, hJ', by
      have e1 : a + ((i + 1 : Nat) : Int) = a + i + 1 := by lia
      have e2 : (n : Int) - ((i + 1 : Nat) : Int) = (n : Int) - i - 1 := by lia
      rw [e1, e2]; exact h5⟩
  · have hin : i = n := by lia
    subst hin
    refine wpAny_pyNext_range_end hA (hS.get (.head _)) (by lia) fun h' hx => wpAny_execs_nil ?_
    exact k v' ls' _ hJ (hS.dropped (t := s2.toks) hx)
theorem x_forL {x px iter body pos} {xs : List Value} {l : Addr} (hA : A.handled = none) (h : St s₀ env v ls s)
    (hit : Ev prog w A (eval iter env) s P) (hP : ∀ u s', Keeps s s' → P u s' → ∃ ls', u = .ref l ∧ St s₀ env v ls' s' ∧ J 0 v ls') (hk : env.kindOf x = some .local ∨ env.kindOf x = some .cell)
    (hl : ∀ i v' ls', J i v' ls' → (l, Ent.lst xs) ∈ ls')
    (step : ∀ i y v' ls' it s', xs[i]? = some y → J i v' ls' → St s₀ env (upd v' x y) ((it, .lit l (i + 1)) :: ls') s' → ∀ E,
      wpAny (model prog w) A (execs body env) (fun f s'' => f = .next ∧ ∃ v'' ls'', St s₀ env v'' ((it, .lit l (i + 1)) :: ls'') s'' ∧ J (i + 1) v'' ls'') E s')
    (k : ∀ v' ls' s', J xs.length v' ls' → St s₀ env v' ls' s' → wpAny (model prog w) A (execs rest env) Q E s')
    (hs : ∀ x, foldedSetIterable iter env x = pure x := by walk_at "xa") :
    wpAny (model prog w) A (execs (.For (.Name x px) iter body [] pos :: rest) env) Q E s := by
  refine wpAny_execs_cons (wpAny_For (hit.use fun u s1 k1 p => ?_) hs)
  obtain ⟨ls1, rfl, hS1, h0⟩ := hP u s1 k1 p
  refine wpAny_pyIter_list (hS1.list (hl _ _ _ h0)) ?_
  have hnew : St s₀ env v ((s1.heap.objs.size, .lit l 0) :: ls1) { s1 with heap := s1.heap.push { cls := .type "list_iterator", data := .fields #[.ref l, .int 0 0] } } :=
    hS1.add (e := .lit l 0) (kPush _ _) (get_none_of_push _) ⟨_, Heap.get?_push_size _ rfl, rfl, rfl⟩
  refine codeAny_forLoop (fun k s' => ∃ i v' ls', i ≤ xs.length ∧ k = xs.length - i ∧ J i v' ls' ∧ St s₀ env v' ((s1.heap.objs.size, .lit l i) :: ls') s') ?_ xs.length ⟨0, v, ls1, Nat.zero_le _, rfl, h0, hnew⟩
  rintro k2 s2 ⟨i, v', ls', hi, rfl, hJ, hS⟩
  have hli := hS.list (List.mem_cons_of_mem _ (hl _ _ _ hJ))
  by_cases hlt : i < xs.length
  · refine wpAny_pyNext_list_item (x := xs[i]) (hS.get (.head _)) hli (by simp [hlt]) fun h' hit' hs' => ?_
    have hS2 : St s₀ env v' ((s1.heap.objs.size, .lit l (i + 1)) :: ls') { s2 with heap := h', toks := s2.toks } := hS.head hs' hit'
    refine wpAny_assign_Name (St.store (s := { s2 with heap := h' }) hS2 hk fun s3 h3 => ?_)
    refine wpAny_mono (step i _ v' ls' _ s3 (by simp [hlt]) hJ h3 _) (fun f s4 h4 => ?_) fun _ _ e => e
    obtain ⟨rfl, v'', ls'', h5, hJ'⟩ := h4
    exact ⟨xs.length - (i + 1), by lia, i + 1, v'', ls'', hlt, rfl, hJ', h5⟩
  · have hin : i = xs.length := by lia
    subst hin
    refine wpAny_pyNext_list_end hA (hS.get (.head _)) hli (by simp) fun h' hx => wpAny_execs_nil ?_
    exact k v' ls' _ hJ (hS.dropped (t := s2.toks) hx)
end

noncomputable def fn (i : Nat) : Stmt := (PySem.Challenge.pw_uc0014_01.main.body[i]?).getD (.Pass default)
noncomputable def fp (i : Nat) : Arguments := match fn i with | .FunctionDef _ args _ _ _ _ _ _ _ _ => args | _ => { posonlyargs := [], args := [], vararg := none, kwonlyargs := [], kw_defaults := [], kwarg := none, defaults := [] }
noncomputable def fb (i : Nat) : List Stmt := match fn i with | .FunctionDef _ _ body _ _ _ _ _ _ _ => body | _ => []
noncomputable def fs (i : Nat) : Scope := match fn i with | .FunctionDef _ _ _ _ _ _ scope _ _ _ => scope | _ => { kind := .module, names := [], isGenerator := false, isCoroutine := false }
noncomputable def mkFd (i : Nat) (nm qn : Str) (cd pm doc ct dV kV : Value) (an : Option Addr) : FuncData :=
  { name := nm, qualname := qn, params := fp i, body := .stmts (fb i), scope := fs i, globals := mainGlobals, closure := [], closureTuple := ct, code := cd, builtins := builtinsNs, defaults := dV, kwdefaults := kV, annotations := an, pyModule := pm, doc := doc }
noncomputable def FnAt (h : Heap) (a : Addr) (i : Nat) (dV kV : Value) : Prop := ∃ nm qn cd pm doc ct an o, h.get? a = some o ∧ o.data = .func (mkFd i nm qn cd pm doc ct dV kV an) ∧ h.CodeRec cd qn

theorem FnAt.keeps {h h' : Heap} {a i dV kV} (x : FnAt h a i dV kV) (k : ∀ b o, h.get? b = some o → h'.get? b = some o) : FnAt h' a i dV kV := by
  obtain ⟨nm, qn, cd, pm, doc, ct, an, o, ho, hd, hc⟩ := x
  exact ⟨nm, qn, cd, pm, doc, ct, an, o, k _ _ ho, hd, hc.keeps k⟩

theorem bindL_foldl {kindOf : Str → Option NameKind} : ∀ (binds : List (Str × Value)) (m v : Str → Option Value), (∀ x, kindOf x = some .local → m x = v x) → ∀ x, kindOf x = some .local → bindL kindOf binds m x = (binds.foldl (fun v p => upd v p.1 p.2) v) x
  | [], m, v, h, x, hx => h x hx
  | (n, u) :: r, m, v, h, x, hx => by
    unfold bindL
    refine bindL_foldl r _ _ (fun y hy => ?_) x hx
    by_cases hn : kindOf n = some .local
    · rw [if_pos hn]; unfold upd; by_cases e : y = n
      · simp [e]
      · simp only [if_neg e]; exact h y hy
    · rw [if_neg hn]
      have : y ≠ n := fun e => hn (e ▸ hy)
      show m y = upd v n u y; rw [upd_ne this]; exact h y hy
theorem bindC_foldl {kindOf : Str → Option NameKind} : ∀ (binds : List (Str × Value)) (m v : Str → Option Value), (∀ x, kindOf x = some .cell → m x = v x) → ∀ x, kindOf x = some .cell → bindC kindOf binds m x = (binds.foldl (fun v p => upd v p.1 p.2) v) x
  | [], m, v, h, x, hx => h x hx
  | (n, u) :: r, m, v, h, x, hx => by
    unfold bindC
    refine bindC_foldl r _ _ (fun y hy => ?_) x hx
    by_cases hn : kindOf n = some .local
    · rw [if_pos hn]
      have : y ≠ n := fun e => by rw [e, hn] at hy; cases hy
      show m y = upd v n u y; rw [upd_ne this]; exact h y hy
    · rw [if_neg hn]; unfold upd; by_cases e : y = n
      · simp [e]
      · simp only [if_neg e]; exact h y hy

structure EnvIs (i : Nat) (env : Env) : Prop where
  scope : env.scope = fs i
  globals : env.globals = mainGlobals
  builtins : env.builtins = builtinsNs
theorem EnvIs.kind {i : Nat} {env : Env} (h : EnvIs i env) {x : Str} {k : NameKind} (e : (fs i).names.lookup x = some k) : env.kindOf x = some k := by
  unfold Env.kindOf; rw [h.scope]; exact e

noncomputable def retV (f : Flow) : Value := match f with | .ret v => v | _ => .none
noncomputable def binds0 (binds : List (Str × Value)) : Str → Option Value := binds.foldl (fun v p => upd v p.1 p.2) fun _ => none

theorem enter {prog : Program} {w : World} {A : Around} {s : Shared} {a : Addr} {i : Nat} {dV kV : Value} {args : Args} {binds : List (Str × Value)} {R : Result → Shared → Prop}
    (hroom : A.depth < recursionLimit) (hf : FnAt s.heap a i dV kV) (hlim : s.heap.NoLimit)
    (hbind : ∀ nm qn cd pm doc ct an, BindsTo s (mkFd i nm qn cd pm doc ct dV kV an) args binds)
    (hk : (fs i).kind = .function) (hco : (fs i).isCoroutine = false) (hgen : (fs i).isGenerator = false)
    (hkind0 : ((binds.map (·.1)).all fun n => (fs i).names.lookup n == some .local || (fs i).names.lookup n == some .cell) = true)
    (h : ∀ env s₁, EnvIs i env → St s env (binds0 binds) [] s₁ → ∀ E, wpAny (model prog w) (A.deeper env) (execs (fb i) env) (fun f s' => R (.ok (.ret (retV f))) s') E s₁) :
    codeAny (model prog w) A (.call (.ref a) args) R s := by
  have hkind : ∀ x ∈ binds, (fs i).names.lookup x.1 = some .local ∨ (fs i).names.lookup x.1 = some .cell := fun x hx => by
    have := List.all_eq_true.mp hkind0 x.1 (List.mem_map.mpr ⟨x, hx, rfl⟩)
    rcases Bool.or_eq_true_iff.mp this with q | q
    · exact .inl (by simpa using q)
    · exact .inr (by simpa using q)
  obtain ⟨nm, qn, cd, pm, doc, ct, an, o, ho, hd, hc⟩ := hf
  refine codeAny_call_function hroom ho hd hco hgen rfl hc (hbind nm qn cd pm doc ct an _ _ _ _ ?_)
  have hkind' : ∀ x ∈ binds, (fs i).names.lookup x.1 = some .local ∨ ((fs i).names.lookup x.1 = some .cell ∧ ((cellsFrom (s.heap.objs.size + 1) (fs i).names []).lookup x.1).isSome = true) := fun x hx =>
    (hkind x hx).imp id fun e => ⟨e, PySem.W.cellsFrom_some _ _ _ (.inl e)⟩
  refine wpAny_newFunctionEnv_cells hk hkind' fun env he s' x => ?_
  have hlim' : s'.heap.NoLimit := hlim.keeps x.toInCall.keep
  refine ⟨hlim', codeAny_func ?_⟩
  have hsc : env.scope = fs i := by rw [he]; rfl
  have hE : EnvIs i env := ⟨hsc, by rw [he]; rfl, by rw [he]; rfl⟩
  have hL : env.locals = s.heap.objs.size := by rw [he]; rfl
  have hcells : env.cells = cellsFrom (s.heap.objs.size + 1) (fs i).names [] := by rw [he]; rfl
  refine wpAny_mono (h env s' hE ?_ _) (fun f s2 h2 => ?_) fun _ _ e => e
  · exact
      { fn := by rw [hsc]; exact hk
        base := by obtain ⟨h1, t1, e1⟩ := x.toInCall.same; subst e1; exact ⟨h1, t1, rfl, x.toInCall.keep⟩
        ns := ⟨_, x.toInCall.ns, bindL_foldl binds _ _ fun _ _ => rfl⟩
        cl := fun n c a b => by
          have := x.cell n c a
          rw [bindC_foldl binds _ _ (fun _ _ => rfl) n b] at this
          exact this
        cx := fun n hn => by
          rw [hcells]
          exact PySem.W.cellsFrom_some _ _ _ (.inl (by unfold Env.kindOf at hn; rw [hsc] at hn; exact hn))
        fl := by rw [hL]; exact get_none_of_push _
        fc := fun n c hm => by
          have := x.above n c hm
          rw [hL] at this
          cases e : s.heap.get? c with
          | none => rfl
          | some o' => exact absurd (Heap.lt_size e) (Nat.lt_asymm this)
        ca := x.apart
        le := fun p hp => nomatch hp
        nd := List.nodup_nil }
  · cases f <;> exact h2

structure Wd (prog : Program) (w : World) (mg mb : Str → Option Value) (tokf : Str → Option Value) (h : Heap) : Prop where
  g : h.Ns mainGlobals mg
  b : h.Ns builtinsNs mb
  lim : h.NoLimit
  f1 : FnAt h 23 1 (.ref 15) (.ref 16)
  f2 : FnAt h 32 2 (.ref 24) (.ref 25)
  f3 : FnAt h 41 3 (.ref 33) (.ref 34)
  f5 : FnAt h 48 5 .none .none
  f6 : FnAt h 55 6 .none .none
  f57 : FnAt h 65 57 .none .none
  f58 : FnAt h 72 58 .none .none
  f59 : FnAt h 79 59 .none .none
  f60 : FnAt h 84 60 .none .none
  f61 : FnAt h 89 61 .none .none
  f62 : FnAt h 94 62 .none .none
  f63 : FnAt h 101 63 .none .none
  d15 : ∃ t, h.get? 15 = some { cls := .type "tuple", data := .seq #[.int 0 t, .none] }
  d24 : ∃ t, h.get? 24 = some { cls := .type "tuple", data := .seq #[.int 0 t, .none] }
  d33 : ∃ t, h.get? 33 = some { cls := .type "tuple", data := .seq #[.int 0 t, .none] }
  k25 : ∃ hs t n, h.get? 25 = some { cls := .type "dict", data := .dict #[⟨hs, .str "key" t, .none⟩] n }
  k34 : ∃ hs t n, h.get? 34 = some { cls := .type "dict", data := .dict #[⟨hs, .str "key" t, .none⟩] n }
  tok : h.MapOf (strKind prog w) 56 tokf
theorem Wd.keeps {prog w mg mb tokf} {h h' : Heap} (W : Wd prog w mg mb tokf h) (k : ∀ b o, h.get? b = some o → h'.get? b = some o) : Wd prog w mg mb tokf h' where
  g := W.g.keeps k
  b := W.b.keeps k
  lim := W.lim.keeps k
  f1 := W.f1.keeps k
  f2 := W.f2.keeps k
  f3 := W.f3.keeps k
  f5 := W.f5.keeps k
  f6 := W.f6.keeps k
  f57 := W.f57.keeps k
  f58 := W.f58.keeps k
  f59 := W.f59.keeps k
  f60 := W.f60.keeps k
  f61 := W.f61.keeps k
  f62 := W.f62.keeps k
  f63 := W.f63.keeps k
  d15 := let ⟨t, e⟩ := W.d15; ⟨t, k _ _ e⟩
  d24 := let ⟨t, e⟩ := W.d24; ⟨t, k _ _ e⟩
  d33 := let ⟨t, e⟩ := W.d33; ⟨t, k _ _ e⟩
  k25 := let ⟨hs, t, n, e⟩ := W.k25; ⟨hs, t, n, k _ _ e⟩
  k34 := let ⟨hs, t, n, e⟩ := W.k34; ⟨hs, t, n, k _ _ e⟩
  tok := mapKeeps W.tok k

structure Nm (mg mb : Str → Option Value) : Prop where
  insort_right : mg "insort_right" = some (.ref 23)
  bisect_right : mg "bisect_right" = some (.ref 32)
  bisect_left : mg "bisect_left" = some (.ref 41)
  strcoll : mg "_strcoll" = some (.ref 48)
  strxfrm : mg "_strxfrm" = some (.ref 55)
  tokens : mg "EXACT_TOKEN_TYPES" = some (.ref 56)
  figure : mg "_law_figure" = some (.ref 65)
  key : mg "_law_key" = some (.ref 72)
  worth : mg "_law_worth" = some (.ref 79)
  row : mg "_law_row" = some (.ref 84)
  read : mg "_law_read" = some (.ref 89)
  between : mg "_law_between" = some (.ref 94)
  ends : mg "_law_ends" = some (.ref 101)
  len : mg "len" = none ∧ mb "len" = some (.builtin "len")
  max : mg "max" = none ∧ mb "max" = some (.builtin "max")
  min : mg "min" = none ∧ mb "min" = some (.builtin "min")
  isinstance : mg "isinstance" = none ∧ mb "isinstance" = some (.builtin "isinstance")
  range : mg "range" = none ∧ mb "range" = some (.type "range")
  bool : mg "bool" = none ∧ mb "bool" = some (.type "bool")

section
variable {prog : Program} {w : World} {A : Around} {s₀ s : Shared} {env : Env} {mg mb tokf : Str → Option Value} {i : Nat}
theorem Wd.var {x : Str} {u : Value} (W : Wd prog w mg mb tokf s.heap) (hE : EnvIs i env) (hf : (fs i).kind = .function) (hk : (fs i).names.lookup x = some .globalImplicit) (hm : mg x = some u) : Var prog w A env s x u :=
  varGlobal (by rw [hE.scope]; exact hf) (hE.kind hk) hE.globals W.g hm
theorem Wd.varB {x : Str} {u : Value} (W : Wd prog w mg mb tokf s.heap) (hE : EnvIs i env) (hf : (fs i).kind = .function) (hk : (fs i).names.lookup x = some .globalImplicit) (hm : mg x = none ∧ mb x = some u) : Var prog w A env s x u :=
  varBuiltin (by rw [hE.scope]; exact hf) (hE.kind hk) hE.globals hE.builtins W.g hm.1 W.b hm.2
theorem Wd.st {v ls} (W : Wd prog w mg mb tokf s₀.heap) (h : St s₀ env v ls s) : Wd prog w mg mb tokf s.heap := W.keeps (kOld h.base)

noncomputable def Ct (prog : Program) (w : World) (n : Nat) (f : Addr) (args : Args) (s : Shared) (P : VP) : Prop :=
  ∀ A, AOk n A → ∀ R : Result → Shared → Prop, (∀ v s', Keeps s s' → P v s' → R (.ok (.ret v)) s') → codeAny (model prog w) A (.call (.ref f) args) R s
theorem Ct.op {n f vs kw P} (hA : AOk n A) (h : Ct prog w n f ⟨vs, kw⟩ s P) : Op prog w A (call (.ref f) vs kw) s P := fun Q E hQ => wpAny_call (h A hA _ fun v s' k p => hQ v s' k p)
theorem FnAt.some {h : Heap} {a i dV kV} (x : FnAt h a i dV kV) : ∃ o fd, h.get? a = some o ∧ o.data = .func fd := let ⟨_, _, _, _, _, _, _, o, ho, hd, _⟩ := x; ⟨o, _, ho, hd⟩

theorem ct_xfrm {x : Str} {t : Tok} (W : Wd prog w mg mb tokf s.heap) : Ct prog w 1 55 ⟨[.str x t], []⟩ s (IsS x) := fun A hA R hR => by
  refine enter (by have := hA.depth; lia) W.f6 W.lim (binds := [("s", .str x t)]) (fun nm qn cd pm doc ct an => BindsTo.of_eq rfl) rfl rfl rfl rfl fun env s₁ hE hS E => ?_
  refine x_return (ev_nameS (u := t) (hS.local (hE.kind (by decide +kernel)) rfl)) fun u s' k p => hR _ _ (kTrans hS.base k) p

theorem ct_key {x : Str} {t : Tok} (W : Wd prog w mg mb tokf s.heap) (N : Nm mg mb) (hx : x.length ≤ 1000000) : Ct prog w 3 72 ⟨[.str x t], []⟩ s (IsS (x ++ ",")) := fun A hA R hR => by
  refine enter (by have := hA.depth; lia) W.f58 W.lim (binds := [("number", .str x t)]) (fun nm qn cd pm doc ct an => BindsTo.of_eq rfl) rfl rfl rfl rfl fun env s₁ hE hS E => ?_
  have W1 := W.st hS
  obtain ⟨o, fd, ho, hd⟩ := W1.f6.some
  refine x_return (ev_call (P := IsS (x ++ ",")) (W1.var hE rfl (by decide +kernel) N.strxfrm) ho hd
    (.cons (fun _ => rfl) (ev_addS (ev_nameS (u := t) (hS.local (hE.kind (by decide +kernel)) rfl)) ev_str (by rw [sizeLine_eq]; have : (Str.ofString ",").length = 1 := by decide +kernel
                                                                                                               lia)) (monoS _) .nil) .nil fun vs kv s' k ps qs => ?_) fun u s' k p => hR _ _ (kTrans hS.base k) p
  obtain ⟨u, rfl, t', rfl⟩ := allP1 ps
  exact Ct.op ((hA.down (by lia : 2 ≤ 3)).deeper env) (ct_xfrm (W1.keeps (kOld k)))
end

inductive Al {α : Type} (R : α → Value → Prop) : List α → List Value → Prop
  | nil : Al R [] []
  | cons {x v xs vs} : R x v → Al R xs vs → Al R (x :: xs) (v :: vs)
noncomputable abbrev SV (x : Str) (v : Value) : Prop := ∃ t, v = .str x t
noncomputable abbrev IV (x : Int) (v : Value) : Prop := ∃ t, v = .int x t
section
variable {α β : Type} {R : α → Value → Prop}
theorem Al.len {xs : List α} {vs} (h : Al R xs vs) : vs.length = xs.length := by induction h with | nil => rfl | cons _ _ ih => simp [ih]
theorem Al.get {xs : List α} {vs} (h : Al R xs vs) : ∀ {i : Nat} {x : α}, xs[i]? = some x → ∃ v, vs[i]? = some v ∧ R x v := by
  induction h with
  | nil => intro i x e; simp at e
  | cons r _ ih =>
    intro i x e
    cases i with
    | zero => simp at e; subst e; exact ⟨_, rfl, r⟩
    | succ i => simp at e; simpa using ih e
theorem Al.get' {xs : List α} {vs} (h : Al R xs vs) : ∀ {i : Nat} {v : Value}, vs[i]? = some v → ∃ x, xs[i]? = some x ∧ R x v := by
  induction h with
  | nil => intro i x e; simp at e
  | cons r _ ih =>
    intro i x e
    cases i with
    | zero => simp at e; subst e; exact ⟨_, rfl, r⟩
    | succ i => simp at e; simpa using ih e
theorem Al.append {xs ys : List α} {vs ws} (h : Al R xs vs) (h' : Al R ys ws) : Al R (xs ++ ys) (vs ++ ws) := by induction h with | nil => exact h' | cons r _ ih => exact .cons r ih
theorem Al.take {xs : List α} {vs} (h : Al R xs vs) : ∀ n, Al R (xs.take n) (vs.take n) := by
  induction h with
  | nil => intro n; simpa using Al.nil
  | cons r _ ih => intro n; cases n with
    | zero => exact .nil
    | succ n => exact .cons r (ih n)
theorem Al.drop {xs : List α} {vs} (h : Al R xs vs) : ∀ n, Al R (xs.drop n) (vs.drop n) := by
  induction h with
  | nil => intro n; simpa using Al.nil
  | cons r h ih => intro n; cases n with
    | zero => exact .cons r h
    | succ n => exact ih n
theorem Al.one {x : α} {v} (h : R x v) : Al R [x] [v] := .cons h .nil
theorem Al.snoc {xs : List α} {vs x v} (h : Al R xs vs) (r : R x v) : Al R (xs ++ [x]) (vs ++ [v]) := h.append (.one r)
end

structure Cut (p : Nat → Bool) (lo r hi : Nat) : Prop where
  ge : lo ≤ r
  le : r ≤ hi
  no : ∀ j, lo ≤ j → j < r → p j = false
  yes : ∀ j, r ≤ j → j < hi → p j = true

section
variable {prog : Program} {w : World} {A : Around} {s₀ s : Shared} {env : Env} {mg mb tokf : Str → Option Value} {i : Nat} {v : Str → Option Value} {ls : List (Addr × Ent)}
theorem loc {x : Str} {u : Value} (hE : EnvIs i env) (hS : St s₀ env v ls s) (hk : (fs i).names.lookup x = some .local) (hv : v x = some u) : Var prog w A env s x u := hS.local (hE.kind hk) hv
theorem cel {x : Str} {u : Value} (hE : EnvIs i env) (hS : St s₀ env v ls s) (hk : (fs i).names.lookup x = some .cell) (hv : v x = some u) : Var prog w A env s x u := hS.cell (hE.kind hk) hv
theorem isL {x : Str} (hE : EnvIs i env) (hk : (fs i).names.lookup x = some .local) : env.kindOf x = some .local ∨ env.kindOf x = some .cell := .inl (hE.kind hk)
theorem isC {x : Str} (hE : EnvIs i env) (hk : (fs i).names.lookup x = some .cell) : env.kindOf x = some .local ∨ env.kindOf x = some .cell := .inr (hE.kind hk)
theorem op_is {a b : Value} (hp : plainIs a b = true) : Op prog w A (compareOp .Is a b) s (IsB (a == b)) := fun _ _ hQ => wpAny_is_plain hp (hQ _ _ (kRefl _) rfl)
theorem evB_is {l r pos whole} {a b : Value} (hl : Ev prog w A (eval l env) s (IsV a)) (hr : Ev prog w A (eval r env) s (IsV b)) (hp : plainIs a b = true) (hm : behindInMarks .Is r = false := by walk_at "xa") : EvB prog w A (isTrue (.Compare l [.Is] [r] pos) env whole) s (a == b) :=
  evB_cmp hl (monoV a) hr (fun x y s' _ hx hy => by subst hx; subst hy; exact op_is hp) hm
theorem ev_nameL {x pos} {a : Addr} {xs : List Value} (h : Var prog w A env s x (.ref a)) (hl : s.heap.IsList a xs.toArray) (hd : (x == ("__debug__" : Str)) = false := by walk_at "xa") : Ev prog w A (eval (.Name x pos) env) s (IsL xs) :=
  (ev_name h hd).mono fun _ _ k e => ⟨a, e, isList_keeps hl (kOld k)⟩
theorem ev_lenL {p pos e} {xs : List Value} (hf : Var prog w A env s "len" (.builtin "len")) (he : Ev prog w A (eval e env) s (IsL xs)) (hx : xs.length < 2 ^ 62) (hs : ∀ es, starEach (e :: es) env = (false, eval e env) :: starEach es env := by walk_at "xa") :
    Ev prog w A (eval (.Call (.Name "len" p) [e] [] pos) env) s (IsI xs.length) :=
  ev_callB hf (.cons hs he (monoL xs) .nil) fun vs s' k ps => by
    obtain ⟨u, rfl, a, rfl, hl⟩ := allP1 ps
    exact fun Q E hQ => PyProof.Rows.len_list hl (by simp; lia) (by simpa using hQ _ _ (kTok _ _) ⟨_, rfl⟩)
theorem ev_lenS {p pos e} {x : Str} (hf : Var prog w A env s "len" (.builtin "len")) (he : Ev prog w A (eval e env) s (IsS x)) (hx : x.length < 2 ^ 62) (hs : ∀ es, starEach (e :: es) env = (false, eval e env) :: starEach es env := by walk_at "xa") :
    Ev prog w A (eval (.Call (.Name "len" p) [e] [] pos) env) s (IsI x.length) :=
  ev_callB hf (.cons hs he (monoS x) .nil) fun vs s' k ps => by
    obtain ⟨u, rfl, t, rfl⟩ := allP1 ps
    exact fun Q E hQ => PyProof.Rows.len_str (by lia) (hQ _ _ (kTok _ _) ⟨_, rfl⟩)
end
local macro_rules | `(tactic| walk_at "lk") => `(tactic| first | with_reducible exact upd_same | with_reducible assumption | (refine upd_to (by decide +kernel) ?_; walk_at "lk") | rfl)

section
variable {prog : Program} {w : World} {A : Around} {s₀ s : Shared} {env : Env} {mg mb tokf : Str → Option Value} {i : Nat} {v : Str → Option Value} {ls : List (Addr × Ent)}

noncomputable def keyS (x : Str) : Str := x ++ ","
noncomputable def ltS (x y : Str) : Bool := decide (x.cps.toList < y.cps.toList)

inductive HiIs (n : Nat) : Value → Nat → Prop
  | none : HiIs n .none n
  | int {hi t} : hi ≤ n → HiIs n (.int hi t) hi

theorem call_key {x : Str} {t : Tok} (hA : AOk 3 A) (W : Wd prog w mg mb tokf s.heap) (N : Nm mg mb) (hx : x.length ≤ 1000000) : Op prog w A (call (.ref 72) [.str x t] []) s (IsS (keyS x)) := Ct.op hA (ct_key W N hx)

theorem ev_itemI {value slice pos} {xs : List Value} {k : Int} {x : Int} {u : Tok} (hv : Ev prog w A (eval value env) s (IsL xs)) (hi : Ev prog w A (eval slice env) s (IsI k)) (h0 : 0 ≤ k) (hfit : k < 2 ^ 63) (hx : xs[k.toNat]? = some (.int x u))
    (hs : ∀ o i, subscripted slice false o i = operate [o, i] (getItem o i) := by walk_at "xa") : Ev prog w A (eval (.Subscript value slice pos) env) s (IsI x) :=
  (ev_item hv hi h0 hfit hx hs).mono fun _ _ _ e => ⟨u, e⟩
theorem ev_itemSt {value slice pos} {xs : List Value} {k : Int} {x : Str} {u : Tok} (hv : Ev prog w A (eval value env) s (IsL xs)) (hi : Ev prog w A (eval slice env) s (IsI k)) (h0 : 0 ≤ k) (hfit : k < 2 ^ 63) (hx : xs[k.toNat]? = some (.str x u))
    (hs : ∀ o i, subscripted slice false o i = operate [o, i] (getItem o i) := by walk_at "xa") : Ev prog w A (eval (.Subscript value slice pos) env) s (IsS x) :=
  (ev_item hv hi h0 hfit hx hs).mono fun _ _ _ e => ⟨u, e⟩
noncomputable def Sn (s₀ : Shared) (env : Env) (a : Addr) (X K : Value) (lo hi : Nat) (s : Shared) (v : Str → Option Value) : Prop :=
  St s₀ env v [] s ∧ v "a" = some (.ref a) ∧ v "x" = some X ∧ (∃ t, v "lo" = some (.int (lo : Nat) t)) ∧ (∃ t, v "hi" = some (.int (hi : Nat) t)) ∧ v "key" = some K

theorem s_head {a : Addr} {X K H : Value} {vs : List Value} {n lo0 hi : Nat} {tl : Tok} {p1 p2 p3 p4 p5 p6 p7 p8 p9 p10 p11 p12 p13 : Pos} {k1 k2 : Nat} {r1 rest : List Stmt} {Q : Flow → Shared → Prop} {E : Value → Shared → Prop}
    (W : Wd prog w mg mb tokf s₀.heap) (N : Nm mg mb) (hE : EnvIs 2 env)
    (hS : St s₀ env (binds0 [("a", .ref a), ("x", X), ("lo", .int lo0 tl), ("hi", H), ("key", K)]) [] s) (hl : s₀.heap.IsList a vs.toArray) (hlv : vs.length = n) (hn : n < 2 ^ 60) (hH : HiIs n H hi)
    (k : ∀ v s', Sn s₀ env a X K lo0 hi s' v → wpAny (model prog w) A (execs rest env) Q E s') :
    wpAny (model prog w) A (execs (.If (.Compare (.Name "lo" p1) [.Lt] [.Constant (.int 0) k1 p2] p3) r1 [] p4 :: .If (.Compare (.Name "hi" p5) [.Is] [.Constant .none k2 p6] p7) [.Assign [.Name "hi" p8] (.Call (.Name "len" p9) [.Name "a" p10] [] p11) p12] [] p13 :: rest) env) Q E s := by
  refine x_skip hS (evB_of_eq (evB_cmpI (ev_nameI (i := (lo0 : Int)) (loc hE hS (by decide +kernel) rfl)) ev_int fun _ _ _ => op_lt) (by simp <;> lia)) fun s2 h2 => ?_
  cases hH with
  | none =>
    refine x_if h2 (b := true) (evB_of_eq (evB_is (a := .none) (ev_name (loc hE h2 (by decide +kernel) rfl)) ev_none rfl) rfl) (fun _ s3 h3 => ?_) (fun e => by cases e)
    exact x_assignI h3 (ev_lenL ((W.st h3).varB hE rfl (by decide +kernel) N.len) (ev_nameL (loc hE h3 (by decide +kernel) rfl) (isList_keeps hl (kOld h3.base))) (by lia)) (isL hE (by decide +kernel)) fun t s4 h4 => x_nil (k _ _ ⟨h4, by walk_at "lk", by walk_at "lk", ⟨_, by walk_at "lk"⟩, ⟨_, by rw [upd_same, hlv]⟩, by walk_at "lk"⟩)
  | @int hi th hle => exact x_skip h2 (evB_of_eq (evB_is (a := .int hi th) (ev_name (loc hE h2 (by decide +kernel) rfl)) ev_none rfl) rfl) fun s3 h3 => k _ _ ⟨h3, rfl, rfl, ⟨_, rfl⟩, ⟨_, rfl⟩, rfl⟩

theorem s_loop {a : Addr} {X K : Value} {p : Nat → Bool} {n r lo0 hi0 : Nat} {p1 p2 p3 p4 p5 p6 p7 p8 p9 p10 p12 q1 q2 q3 q4 q5 q6 q7 q8 : Pos} {k1 k2 : Nat} {I : Stmt} {rest : List Stmt} {Q : Flow → Shared → Prop} {E : Value → Shared → Prop}
    (hE : EnvIs 2 env) (cut : Cut p lo0 r hi0) (hhi : hi0 ≤ n) (h : Sn s₀ env a X K lo0 hi0 s v)
    (hif : ∀ v t s' m Q E, m < n → St s₀ env v [] s' → v "a" = some (.ref a) → v "x" = some X → v "key" = some K → v "mid" = some (.int (m : Nat) t) →
      (p m = true → ∀ s'', St s₀ env v [] s'' → wpAny (model prog w) A (execs [.Assign [.Name "hi" q1] (.Name "mid" q2) q3] env) (fun f s'' => match f with | .next => wpAny (model prog w) A (execs [] env) Q E s'' | f => Q f s'') E s'') →
      (p m = false → ∀ s'', St s₀ env v [] s'' → wpAny (model prog w) A (execs [.Assign [.Name "lo" q4] (.BinOp (.Name "mid" q5) .Add (.Constant (.int 1) k2 q6) q7) q8] env) (fun f s'' => match f with | .next => wpAny (model prog w) A (execs [] env) Q E s'' | f => Q f s'') E s'') →
      wpAny (model prog w) A (execs [I] env) Q E s')
    (k : ∀ v t s', St s₀ env v [] s' → v "lo" = some (.int (r : Nat) t) → wpAny (model prog w) A (execs rest env) Q E s') :
    wpAny (model prog w) A (execs (.While (.Compare (.Name "lo" p1) [.Lt] [.Name "hi" p2] p3) [.Assign [.Name "mid" p4] (.BinOp (.BinOp (.Name "lo" p5) .Add (.Name "hi" p6) p7) .FloorDiv (.Constant (.int 2) k1 p8) p9) p10, I] [] p12 :: rest) env) Q E s := by
  refine x_while (fun j s => ∃ lo hi v, j = hi - lo ∧ hi ≤ n ∧ Cut p lo r hi ∧ Sn s₀ env a X K lo hi s v) (hi0 - lo0) ⟨lo0, hi0, v, rfl, hhi, cut, h⟩ ?_
  rintro j s5 ⟨lo, hi, v, rfl, hh, c, h5, va, vx, ⟨tl, vlo⟩, ⟨th, vhi⟩, vk⟩
  have hlr := c.ge
  have hrh := c.le
  refine ⟨_, evB_cmpI (ev_nameI (loc hE h5 (by decide +kernel) vlo)) (ev_nameI (loc hE h5 (by decide +kernel) vhi)) fun _ _ _ => op_lt, fun hlt s6 k6 E => ?_, fun hge s6 k6 => ?_⟩
  · have hlt' : lo < hi := Int.ofNat_lt.mp (of_decide_eq_true hlt)
    have h6 := h5.keeps k6
    refine x_assignI (i := ((((lo + hi) / 2 : Nat) : Nat) : Int)) h6 (ev_of_eqI (ev_fdiv (ev_add (ev_nameI (loc hE h6 (by decide +kernel) vlo)) (ev_nameI (loc hE h6 (by decide +kernel) vhi))) ev_int (by decide) (by decide)) (by
      rw [Int.fdiv_eq_ediv_of_nonneg _ (by decide)]; lia)) (isL hE (by decide +kernel)) fun t s7 h7 => ?_
    obtain ⟨m, hm⟩ : ∃ m, m = (lo + hi) / 2 := ⟨_, rfl⟩
    have hm1 : lo ≤ m := by lia
    have hm2 : m < hi := by lia
    rw [← hm] at h7
    clear hm
    refine hif _ t s7 m _ E (Nat.lt_of_lt_of_le hm2 hh) h7 (by walk_at "lk") (by walk_at "lk") (by walk_at "lk") (by walk_at "lk") (fun hb s8 h8 => ?_) (fun hb s8 h8 => ?_)
    · refine x_assignI h8 (ev_nameI (loc hE h8 (by decide +kernel) (by walk_at "lk"))) (isL hE (by decide +kernel)) fun t' s9 h9 => x_nil (x_nil ⟨rfl, m - lo, by lia, lo, m, _, rfl, by lia, ⟨hlr, ?_, c.no, fun j h1 h2 => c.yes j h1 (by lia)⟩, h9, by walk_at "lk", by walk_at "lk", ⟨_, by walk_at "lk"⟩, ⟨_, by walk_at "lk"⟩, by walk_at "lk"⟩)
      refine Nat.le_of_not_lt fun hc => ?_
      rw [c.no _ hm1 hc] at hb
      cases hb
    · refine x_assignI (i := ((m + 1 : Nat) : Int)) h8 (ev_of_eqI (ev_add (ev_nameI (loc hE h8 (by decide +kernel) (by walk_at "lk"))) ev_int) rfl) (isL hE (by decide +kernel)) fun t' s9 h9 => x_nil (x_nil ⟨rfl, hi - (m + 1), by lia, m + 1, hi, _, rfl, hh, ⟨?_, hrh, fun j h1 h2 => c.no j (by lia) h2, c.yes⟩, h9, by walk_at "lk", by walk_at "lk", ⟨_, by walk_at "lk"⟩, ⟨_, by walk_at "lk"⟩, by walk_at "lk"⟩)
      refine Nat.le_of_not_lt fun hc => ?_
      rw [c.yes m (by lia) hm2] at hb
      cases hb
  · have hge' : ¬ lo < hi := fun q => of_decide_eq_false hge (Int.ofNat_lt.mpr q)
    obtain rfl : lo = r := by lia
    exact k v tl s6 (h5.keeps k6) vlo

theorem hi_le {n hi : Nat} {H : Value} (h : HiIs n H hi) : hi ≤ n := by
  cases h with
  | none => exact Nat.le_refl _
  | int h => exact h
theorem env32 (h : EnvIs 3 env) : EnvIs 2 env := ⟨h.scope.trans (by kernel_rfl), h.globals, h.builtins⟩
theorem getS {n : Nat} {ss : List Str} {vs : List Value} (hv : Al SV ss vs) (h : n < ss.length) : ∃ t, vs[n]? = some (.str (ss.getD n "") t) := by
  have hget : ss[n]? = some (ss.getD n "") := by simp [List.getD, h]
  obtain ⟨u, hu, t, rfl⟩ := hv.get hget
  exact ⟨t, hu⟩
theorem getI {n : Nat} {ss : List Int} {vs : List Value} (hv : Al IV ss vs) (h : n < ss.length) : ∃ t, vs[n]? = some (.int (ss.getD n 0) t) := by
  have hget : ss[n]? = some (ss.getD n 0) := by simp [List.getD, h]
  obtain ⟨u, hu, t, rfl⟩ := hv.get hget
  exact ⟨t, hu⟩
theorem lenS {n : Nat} {ss : List Str} (hlen : ∀ y ∈ ss, y.length ≤ 1000000) (h : n < ss.length) : (ss.getD n "").length ≤ 1000000 := hlen _ (by simp [List.getD, h])

theorem ev_keyAt {ss : List Str} {vs : List Value} {a : Addr} {m : Nat} {t : Tok} {p1 p2 p3 p4 p5 : Pos} (hA : AOk 4 A) (W : Wd prog w mg mb tokf s₀.heap) (N : Nm mg mb) (hE : EnvIs 2 env) (hl : s₀.heap.IsList a vs.toArray) (hv : Al SV ss vs) (hlen : ∀ y ∈ ss, y.length ≤ 1000000) (hn : ss.length < 2 ^ 60)
    (h7 : St s₀ env v [] s) (hm : m < ss.length) (va : v "a" = some (.ref a)) (vk : v "key" = some (.ref 72)) (vm : v "mid" = some (.int (m : Nat) t)) :
    Ev prog w A (eval (.Call (.Name "key" p1) [.Subscript (.Name "a" p2) (.Name "mid" p3) p4] [] p5) env) s (IsS (keyS (ss.getD m ""))) := by
  have W7 := W.st h7
  obtain ⟨o, fd, ho, hd⟩ := W7.f58.some
  obtain ⟨tu, hu⟩ := getS hv hm
  exact ev_call (loc hE h7 (by decide +kernel) vk) ho hd
    (.cons (fun _ => rfl) (ev_item (ev_nameL (loc hE h7 (by decide +kernel) va) (isList_keeps hl (kOld h7.base))) (ev_nameI (loc hE h7 (by decide +kernel) vm)) (by lia) (by lia) (by rw [Int.toNat_natCast]; exact hu)) (monoV _) .nil) .nil
    fun vs kv s' k ps qs => by
      obtain ⟨u, rfl, e⟩ := allP1 ps
      subst e
      exact call_key (hA.down (by lia)) (W7.keeps (kOld k)) N (lenS hlen hm)
theorem ev_intAt {ss : List Int} {vs : List Value} {a : Addr} {m : Nat} {t : Tok} {p2 p3 p4 : Pos} (hE : EnvIs 2 env) (hl : s₀.heap.IsList a vs.toArray) (hv : Al IV ss vs) (hn : ss.length < 2 ^ 60)
    (h7 : St s₀ env v [] s) (hm : m < ss.length) (va : v "a" = some (.ref a)) (vm : v "mid" = some (.int (m : Nat) t)) :
    Ev prog w A (eval (.Subscript (.Name "a" p2) (.Name "mid" p3) p4) env) s (IsI (ss.getD m 0)) := by
  obtain ⟨tu, hu⟩ := getI hv hm
  exact ev_itemI (ev_nameL (loc hE h7 (by decide +kernel) va) (isList_keeps hl (kOld h7.base))) (ev_nameI (loc hE h7 (by decide +kernel) vm)) (by lia) (by lia) (by rw [Int.toNat_natCast]; exact hu)
theorem s_ret {r : Nat} {p1 p2 : Pos} {rest : List Stmt} {Q : Flow → Shared → Prop} {E : Value → Shared → Prop} {t : Tok} (hE : EnvIs 2 env) (hQ : ∀ t s', Keeps s₀ s' → Q (.ret (.int r t)) s') (h4 : St s₀ env v [] s) (vlo : v "lo" = some (.int (r : Nat) t)) :
    wpAny (model prog w) A (execs (.Return (some (.Name "lo" p1)) p2 :: rest) env) Q E s :=
  x_return (ev_name (loc hE h4 (by decide +kernel) vlo)) fun u s' k e => (show u = .int r t from e) ▸ hQ t s' (kTrans h4.base k)

theorem bodyR {ss : List Str} {vs : List Value} {a : Addr} {x : Str} {r hi lo0 : Nat} {H : Value} {tx tl : Tok} {Q : Flow → Shared → Prop} {E : Value → Shared → Prop} (hA : AOk 4 A) (W : Wd prog w mg mb tokf s₀.heap) (N : Nm mg mb) (hE : EnvIs 2 env)
    (hS : St s₀ env (binds0 [("a", .ref a), ("x", .str x tx), ("lo", .int lo0 tl), ("hi", H), ("key", .ref 72)]) [] s) (hl : s₀.heap.IsList a vs.toArray) (hv : Al SV ss vs) (hlen : ∀ y ∈ ss, y.length ≤ 1000000) (hn : ss.length < 2 ^ 60)
    (hH : HiIs ss.length H hi) (cut : Cut (fun j => ltS x (keyS (ss.getD j ""))) lo0 r hi)
    (hQ : ∀ t s', Keeps s₀ s' → Q (.ret (.int r t)) s') : wpAny (model prog w) A (execs (fb 2) env) Q E s := by
  refine s_head W N hE hS hl hv.len hn hH fun v s3 h3 => ?_
  refine x_if h3.1 (b := false) (evB_is (ev_name (loc hE h3.1 (by decide +kernel) h3.2.2.2.2.2)) ev_none rfl) (fun e => by cases e) fun _ s4 h4 => ?_
  exact s_loop hE cut (hi_le hH) ⟨h4, h3.2⟩ (fun v t s' m Q E hm h va vx vk vm kH kL => x_if h (evB_cmpS (ev_nameS (loc hE h (by decide +kernel) vx)) (ev_keyAt hA W N hE hl hv hlen hn h hm va vk vm) fun _ _ _ => op_ltS) kH kL) fun v t s' h vlo => x_nil (s_ret hE hQ h vlo)
theorem bodyL {ss : List Str} {vs : List Value} {a : Addr} {x : Str} {r hi lo0 : Nat} {H : Value} {tx tl : Tok} {Q : Flow → Shared → Prop} {E : Value → Shared → Prop} (hA : AOk 4 A) (W : Wd prog w mg mb tokf s₀.heap) (N : Nm mg mb) (hE : EnvIs 3 env)
    (hS : St s₀ env (binds0 [("a", .ref a), ("x", .str x tx), ("lo", .int lo0 tl), ("hi", H), ("key", .ref 72)]) [] s) (hl : s₀.heap.IsList a vs.toArray) (hv : Al SV ss vs) (hlen : ∀ y ∈ ss, y.length ≤ 1000000) (hn : ss.length < 2 ^ 60)
    (hH : HiIs ss.length H hi) (cut : Cut (fun j => !ltS (keyS (ss.getD j "")) x) lo0 r hi)
    (hQ : ∀ t s', Keeps s₀ s' → Q (.ret (.int r t)) s') : wpAny (model prog w) A (execs (fb 3) env) Q E s := by
  replace hE := env32 hE
  refine s_head W N hE hS hl hv.len hn hH fun v s3 h3 => ?_
  refine x_if h3.1 (b := false) (evB_is (ev_name (loc hE h3.1 (by decide +kernel) h3.2.2.2.2.2)) ev_none rfl) (fun e => by cases e) fun _ s4 h4 => ?_
  exact s_loop hE cut (hi_le hH) ⟨h4, h3.2⟩ (fun v t s' m Q E hm h va vx vk vm kH kL => x_if h (evB_cmpS (ev_keyAt hA W N hE hl hv hlen hn h hm va vk vm) (ev_nameS (loc hE h (by decide +kernel) vx)) fun _ _ _ => op_ltS) (fun q => kL (congrArg not q)) fun q => kH (congrArg not q)) fun v t s' h vlo => x_nil (s_ret hE hQ h vlo)
theorem bodyRI {ss : List Int} {vs : List Value} {a : Addr} {x : Int} {r hi lo0 : Nat} {H : Value} {tx tl : Tok} {Q : Flow → Shared → Prop} {E : Value → Shared → Prop} (hA : AOk 4 A) (W : Wd prog w mg mb tokf s₀.heap) (N : Nm mg mb) (hE : EnvIs 2 env)
    (hS : St s₀ env (binds0 [("a", .ref a), ("x", .int x tx), ("lo", .int lo0 tl), ("hi", H), ("key", .none)]) [] s) (hl : s₀.heap.IsList a vs.toArray) (hv : Al IV ss vs) (hn : ss.length < 2 ^ 60)
    (hH : HiIs ss.length H hi) (cut : Cut (fun j => decide (x < ss.getD j 0)) lo0 r hi)
    (hQ : ∀ t s', Keeps s₀ s' → Q (.ret (.int r t)) s') : wpAny (model prog w) A (execs (fb 2) env) Q E s := by
  refine s_head W N hE hS hl hv.len hn hH fun v s3 h3 => ?_
  refine x_if h3.1 (b := true) (evB_is (ev_name (loc hE h3.1 (by decide +kernel) h3.2.2.2.2.2)) ev_none rfl) (fun _ s4 h4 => ?_) (fun e => by cases e)
  exact s_loop hE cut (hi_le hH) ⟨h4, h3.2⟩ (fun v t s' m Q E hm h va vx vk vm kH kL => x_if h (evB_cmpI (ev_nameI (loc hE h (by decide +kernel) vx)) (ev_intAt hE hl hv hn h hm va vm) fun _ _ _ => op_lt) kH kL) fun v t s' h vlo => x_nil (s_ret hE hQ h vlo)
theorem bodyLI {ss : List Int} {vs : List Value} {a : Addr} {x : Int} {r hi lo0 : Nat} {H : Value} {tx tl : Tok} {Q : Flow → Shared → Prop} {E : Value → Shared → Prop} (hA : AOk 4 A) (W : Wd prog w mg mb tokf s₀.heap) (N : Nm mg mb) (hE : EnvIs 3 env)
    (hS : St s₀ env (binds0 [("a", .ref a), ("x", .int x tx), ("lo", .int lo0 tl), ("hi", H), ("key", .none)]) [] s) (hl : s₀.heap.IsList a vs.toArray) (hv : Al IV ss vs) (hn : ss.length < 2 ^ 60)
    (hH : HiIs ss.length H hi) (cut : Cut (fun j => !decide (ss.getD j 0 < x)) lo0 r hi)
    (hQ : ∀ t s', Keeps s₀ s' → Q (.ret (.int r t)) s') : wpAny (model prog w) A (execs (fb 3) env) Q E s := by
  replace hE := env32 hE
  refine s_head W N hE hS hl hv.len hn hH fun v s3 h3 => ?_
  refine x_if h3.1 (b := true) (evB_is (ev_name (loc hE h3.1 (by decide +kernel) h3.2.2.2.2.2)) ev_none rfl) (fun _ s4 h4 => ?_) (fun e => by cases e)
  exact s_loop hE cut (hi_le hH) ⟨h4, h3.2⟩ (fun v t s' m Q E hm h va vx vk vm kH kL => x_if h (evB_cmpI (ev_intAt hE hl hv hn h hm va vm) (ev_nameI (loc hE h (by decide +kernel) vx)) fun _ _ _ => op_lt) (fun q => kL (congrArg not q)) fun q => kH (congrArg not q)) fun v t s' h vlo => x_nil (s_ret hE hQ h vlo)
end

theorem binds_both {s : Shared} {fd : FuncData} {args : Args} {binds : List (Str × Value)} {T D : Addr} {o d : Obj} {items : Array Value} {n : Nat} {part : Option Value}
    {k : Option (Array Value) → Sem (List (Str × Value))} {k3 : Obj → Sem (List (Str × Value))} (hd : fd.defaults = .ref T) (ho : s.heap.get? T = some o) (hs : o.data = .seq items n) (hn : s.heap.get? D = some d)
    (h₁ : bindArgs fd args = seqItems? fd.defaults >>= k) (h₂ : k (some items) = .load D part k3) (h₃ : k3 d = pure binds) : BindsTo s fd args binds := fun M A E Q hq => by
  rw [h₁, hd]
  refine wpAny_bind (wpAny_seqItems ho hs ?_)
  rw [h₂]
  show wpAny M A (loadPart D part >>= k3) Q E s
  refine wpAny_bind (wpAny_loadPart hn ?_)
  rw [h₃]
  exact wpAny_pure hq

section
variable {prog : Program} {w : World} {A : Around} {s₀ s : Shared} {env : Env} {mg mb tokf : Str → Option Value} {v : Str → Option Value} {ls : List (Addr × Ent)}
theorem bindR_2 {a x k : Value} (W : Wd prog w mg mb tokf s.heap) : ∃ t, ∀ nm qn cd pm doc ct an, BindsTo s (mkFd 2 nm qn cd pm doc ct (.ref 24) (.ref 25) an) ⟨[a, x], [("key", k)]⟩ [("a", a), ("x", x), ("lo", .int 0 t), ("hi", .none), ("key", k)] := by
  obtain ⟨t, e⟩ := W.d24
  exact ⟨t, fun nm qn cd pm doc ct an => BindsTo.of_defaults rfl e rfl rfl rfl⟩
theorem bindR_4 {a x lo hi k : Value} (W : Wd prog w mg mb tokf s.heap) : ∀ nm qn cd pm doc ct an, BindsTo s (mkFd 2 nm qn cd pm doc ct (.ref 24) (.ref 25) an) ⟨[a, x, lo, hi], [("key", k)]⟩ [("a", a), ("x", x), ("lo", lo), ("hi", hi), ("key", k)] := by
  obtain ⟨t, e⟩ := W.d24
  exact fun nm qn cd pm doc ct an => BindsTo.of_defaults rfl e rfl rfl rfl
theorem bindR_n {a x lo hi : Value} (W : Wd prog w mg mb tokf s.heap) : ∀ nm qn cd pm doc ct an, BindsTo s (mkFd 2 nm qn cd pm doc ct (.ref 24) (.ref 25) an) ⟨[a, x, lo, hi], []⟩ [("a", a), ("x", x), ("lo", lo), ("hi", hi), ("key", .none)] := by
  obtain ⟨t, e⟩ := W.d24
  obtain ⟨hs, t', n, hm⟩ := W.k25
  exact fun nm qn cd pm doc ct an => binds_both rfl e rfl hm rfl rfl rfl
theorem bindL_2 {a x k : Value} (W : Wd prog w mg mb tokf s.heap) : ∃ t, ∀ nm qn cd pm doc ct an, BindsTo s (mkFd 3 nm qn cd pm doc ct (.ref 33) (.ref 34) an) ⟨[a, x], [("key", k)]⟩ [("a", a), ("x", x), ("lo", .int 0 t), ("hi", .none), ("key", k)] := by
  obtain ⟨t, e⟩ := W.d33
  exact ⟨t, fun nm qn cd pm doc ct an => BindsTo.of_defaults rfl e rfl rfl rfl⟩
theorem bindL_4 {a x lo hi k : Value} (W : Wd prog w mg mb tokf s.heap) : ∀ nm qn cd pm doc ct an, BindsTo s (mkFd 3 nm qn cd pm doc ct (.ref 33) (.ref 34) an) ⟨[a, x, lo, hi], [("key", k)]⟩ [("a", a), ("x", x), ("lo", lo), ("hi", hi), ("key", k)] := by
  obtain ⟨t, e⟩ := W.d33
  exact fun nm qn cd pm doc ct an => BindsTo.of_defaults rfl e rfl rfl rfl
theorem bindL_n {a x lo hi : Value} (W : Wd prog w mg mb tokf s.heap) : ∀ nm qn cd pm doc ct an, BindsTo s (mkFd 3 nm qn cd pm doc ct (.ref 33) (.ref 34) an) ⟨[a, x, lo, hi], []⟩ [("a", a), ("x", x), ("lo", lo), ("hi", hi), ("key", .none)] := by
  obtain ⟨t, e⟩ := W.d33
  obtain ⟨hs, t', n, hm⟩ := W.k34
  exact fun nm qn cd pm doc ct an => binds_both rfl e rfl hm rfl rfl rfl
theorem bindI {a x k : Value} (W : Wd prog w mg mb tokf s.heap) : ∃ t, ∀ nm qn cd pm doc ct an, BindsTo s (mkFd 1 nm qn cd pm doc ct (.ref 15) (.ref 16) an) ⟨[a, x], [("key", k)]⟩ [("a", a), ("x", x), ("lo", .int 0 t), ("hi", .none), ("key", k)] := by
  obtain ⟨t, e⟩ := W.d15
  exact ⟨t, fun nm qn cd pm doc ct an => BindsTo.of_defaults rfl e rfl rfl rfl⟩

theorem ct_R2 {ss : List Str} {vs : List Value} {a : Addr} {x : Str} {tx : Tok} {r : Nat} (W : Wd prog w mg mb tokf s.heap) (N : Nm mg mb) (hl : s.heap.IsList a vs.toArray) (hv : Al SV ss vs) (hlen : ∀ y ∈ ss, y.length ≤ 1000000) (hn : ss.length < 2 ^ 60)
    (cut : Cut (fun j => ltS x (keyS (ss.getD j ""))) 0 r ss.length) : Ct prog w 5 32 ⟨[.ref a, .str x tx], [("key", .ref 72)]⟩ s (IsI r) := fun A hA R hR => by
  obtain ⟨t, hb⟩ := bindR_2 (a := .ref a) (x := .str x tx) (k := .ref 72) W
  refine enter (by have := hA.depth; lia) W.f2 W.lim hb rfl rfl rfl rfl fun env s₁ hE hS E => ?_
  exact bodyR (lo0 := 0) (hA.deeper env) W N hE hS hl hv hlen hn .none cut fun t s' k => hR _ _ k ⟨t, rfl⟩
theorem ct_R4 {ss : List Str} {vs : List Value} {a : Addr} {x : Str} {tx tl : Tok} {r lo hi : Nat} {H : Value} (W : Wd prog w mg mb tokf s.heap) (N : Nm mg mb) (hl : s.heap.IsList a vs.toArray) (hv : Al SV ss vs) (hlen : ∀ y ∈ ss, y.length ≤ 1000000) (hn : ss.length < 2 ^ 60)
    (hH : HiIs ss.length H hi) (cut : Cut (fun j => ltS x (keyS (ss.getD j ""))) lo r hi) : Ct prog w 5 32 ⟨[.ref a, .str x tx, .int lo tl, H], [("key", .ref 72)]⟩ s (IsI r) := fun A hA R hR => by
  refine enter (by have := hA.depth; lia) W.f2 W.lim (bindR_4 W) rfl rfl rfl rfl fun env s₁ hE hS E => ?_
  exact bodyR (hA.deeper env) W N hE hS hl hv hlen hn hH cut fun t s' k => hR _ _ k ⟨t, rfl⟩
theorem ct_Rn {ss : List Int} {vs : List Value} {a : Addr} {x : Int} {tx tl : Tok} {r lo hi : Nat} {H : Value} (W : Wd prog w mg mb tokf s.heap) (N : Nm mg mb) (hl : s.heap.IsList a vs.toArray) (hv : Al IV ss vs) (hn : ss.length < 2 ^ 60)
    (hH : HiIs ss.length H hi) (cut : Cut (fun j => decide (x < ss.getD j 0)) lo r hi) : Ct prog w 5 32 ⟨[.ref a, .int x tx, .int lo tl, H], []⟩ s (IsI r) := fun A hA R hR => by
  refine enter (by have := hA.depth; lia) W.f2 W.lim (bindR_n W) rfl rfl rfl rfl fun env s₁ hE hS E => ?_
  exact bodyRI (hA.deeper env) W N hE hS hl hv hn hH cut fun t s' k => hR _ _ k ⟨t, rfl⟩
theorem ct_L2 {ss : List Str} {vs : List Value} {a : Addr} {x : Str} {tx : Tok} {r : Nat} (W : Wd prog w mg mb tokf s.heap) (N : Nm mg mb) (hl : s.heap.IsList a vs.toArray) (hv : Al SV ss vs) (hlen : ∀ y ∈ ss, y.length ≤ 1000000) (hn : ss.length < 2 ^ 60)
    (cut : Cut (fun j => !ltS (keyS (ss.getD j "")) x) 0 r ss.length) : Ct prog w 5 41 ⟨[.ref a, .str x tx], [("key", .ref 72)]⟩ s (IsI r) := fun A hA R hR => by
  obtain ⟨t, hb⟩ := bindL_2 (a := .ref a) (x := .str x tx) (k := .ref 72) W
  refine enter (by have := hA.depth; lia) W.f3 W.lim hb rfl rfl rfl rfl fun env s₁ hE hS E => ?_
  exact bodyL (lo0 := 0) (hA.deeper env) W N hE hS hl hv hlen hn .none cut fun t s' k => hR _ _ k ⟨t, rfl⟩
theorem ct_L4 {ss : List Str} {vs : List Value} {a : Addr} {x : Str} {tx tl : Tok} {r lo hi : Nat} {H : Value} (W : Wd prog w mg mb tokf s.heap) (N : Nm mg mb) (hl : s.heap.IsList a vs.toArray) (hv : Al SV ss vs) (hlen : ∀ y ∈ ss, y.length ≤ 1000000) (hn : ss.length < 2 ^ 60)
    (hH : HiIs ss.length H hi) (cut : Cut (fun j => !ltS (keyS (ss.getD j "")) x) lo r hi) : Ct prog w 5 41 ⟨[.ref a, .str x tx, .int lo tl, H], [("key", .ref 72)]⟩ s (IsI r) := fun A hA R hR => by
  refine enter (by have := hA.depth; lia) W.f3 W.lim (bindL_4 W) rfl rfl rfl rfl fun env s₁ hE hS E => ?_
  exact bodyL (hA.deeper env) W N hE hS hl hv hlen hn hH cut fun t s' k => hR _ _ k ⟨t, rfl⟩
theorem ct_Ln {ss : List Int} {vs : List Value} {a : Addr} {x : Int} {tx tl : Tok} {r lo hi : Nat} {H : Value} (W : Wd prog w mg mb tokf s.heap) (N : Nm mg mb) (hl : s.heap.IsList a vs.toArray) (hv : Al IV ss vs) (hn : ss.length < 2 ^ 60)
    (hH : HiIs ss.length H hi) (cut : Cut (fun j => !decide (ss.getD j 0 < x)) lo r hi) : Ct prog w 5 41 ⟨[.ref a, .int x tx, .int lo tl, H], []⟩ s (IsI r) := fun A hA R hR => by
  refine enter (by have := hA.depth; lia) W.f3 W.lim (bindL_n W) rfl rfl rfl rfl fun env s₁ hE hS E => ?_
  exact bodyLI (hA.deeper env) W N hE hS hl hv hn hH cut fun t s' k => hR _ _ k ⟨t, rfl⟩
end

section
variable {prog : Program} {w : World} {A : Around} {E : Value → Shared → Prop} {s₀ s : Shared} {env : Env} {mg mb tokf : Str → Option Value} {v : Str → Option Value} {ls pre post : List (Addr × Ent)} {P : VP} {Q : Flow → Shared → Prop} {rest : List Stmt}

theorem meth {o : Expr} {name : Str} {apos pos : Pos} {es : List Expr} {Ps : List VP} {Po : VP} {T id : String} {Q : Value → Shared → Prop} (pa : PlainAttrs T) (slot : Slot T name id) (hty : typeOf (.builtin id) = pure (.type "method_descriptor"))
    (ho : Ev prog w A (eval o env) s Po) (mo : Mono Po) (hT : ∀ u s', Keeps s s' → Po u s' → s'.TypeIs u T ∧ ∀ a, u = .ref a → ∃ ob, s'.heap.get? a = some ob ∧ ob.dict = none) (he : EvArgs prog w A env s es Ps)
    (hQ : ∀ u vs s', Keeps s s' → Po u s' → AllP Ps vs s' → wpAny (model prog w) A (call (.builtin id) (u :: vs)) Q E s')
    (hbase : attributeBase o name env (eval o env) = eval o env := by walk_at "xa")
    (hfew : ((backTo pos (starEach es env)).all (fun x => !x.1) && (backToKw pos (keywordEach [] env)).all (fun x => x.1.isSome)
      && decide (es.length + ([] : List Keyword).length + (if ([] : List Keyword).isEmpty then 0 else 1) < 30)) = true := by with_unfolding_all rfl)
    (hline : (apos.endLine == pos.line) = true := by walk_at "xa") : wpAny (model prog w) A (eval (.Call (.Attribute o name apos) es [] pos) env) Q E s :=
  wpAny_Call_method hbase hfew hline pa slot hty (ho.use fun u s1 k1 pu => by
    obtain ⟨h1, h2⟩ := hT u s1 k1 pu
    refine ⟨h1, h2, callWith_builtin (evArgs_star he pos) ?_⟩
    exact evArgs_eval he .nil pos s1 k1 fun vs kv s2 k2 ps qs => hQ u vs s2 (kTrans k1 k2) (mo _ _ _ k2 pu) ps)
theorem plain_typeIs {s : Shared} {a : Addr} {xs : Array Value} (h : s.heap.PlainList a xs) : s.TypeIs (.ref a) "list" ∧ ∀ b, Value.ref a = .ref b → ∃ ob, s.heap.get? b = some ob ∧ ob.dict = none := by
  obtain ⟨n, e⟩ := h
  exact ⟨⟨_, e, rfl⟩, fun b hb => by cases hb; exact ⟨_, e, rfl⟩⟩

theorem x_append {o e : Expr} {apos pos pos' : Pos} {a : Addr} {xs : List Value} (h : St s₀ env v (pre ++ (a, .lst xs) :: post) s) (ho : Ev prog w A (eval o env) s (IsV (.ref a))) (hns : ∀ es, starEach (e :: es) env = (false, eval e env) :: starEach es env)
    (he : Ev prog w A (eval e env) s P) (mp : Mono P) (hsz : xs.length ≤ sizeLine)
    (k : ∀ u s', Keeps s s' → P u s' → ∃ pre', St s₀ env v (pre' ++ (a, .lst xs) :: post) s' ∧ ∀ s'', St s₀ env v (pre' ++ (a, .lst (xs ++ [u])) :: post) s'' → wpAny (model prog w) A (execs rest env) Q E s'')
    (hi : interactive env = false)
    (hbase : attributeBase o "append" env (eval o env) = eval o env := by walk_at "xa")
    (hfew : ((backTo pos (starEach [e] env)).all (fun x => !x.1) && (backToKw pos (keywordEach [] env)).all (fun x => x.1.isSome)
      && decide ([e].length + ([] : List Keyword).length + (if ([] : List Keyword).isEmpty then 0 else 1) < 30)) = true := by with_unfolding_all rfl)
    (hline : (apos.endLine == pos.line) = true := by walk_at "xa") :
    wpAny (model prog w) A (execs (.Expr (.Call (.Attribute o "append" apos) [e] [] pos) pos' :: rest) env) Q E s := by
  refine x_expr (meth (Po := IsV (.ref a)) F.plainAttrs_list F.slot_list_append F.type_list_append ho (monoV _) (fun u s' k1 pu => by subst pu; exact plain_typeIs ((h.keeps k1).get (List.mem_append_right _ (.head _)))) (.cons hns he mp .nil) (fun u vs s' k1 pu ps => ?_) hbase hfew hline) hi
  obtain ⟨y, rfl, py⟩ := allP1 ps
  obtain rfl : u = .ref a := pu
  obtain ⟨pre', h', k'⟩ := k y s' k1 py
  have hl := h'.get (List.mem_append_right pre' (.head _))
  refine wpAny_list_append_plain (Ent.lst xs |>.At s'.heap a |> fun _ => hl) (fun h1 hl1 hs1 => k' _ ?_) (by simpa using hsz)
  exact h'.change (t := s'.toks) hs1 (e' := .lst (xs ++ [y])) (by simpa [Ent.At] using hl1)
theorem mapSeq_plain {f : Array Value → Array Value} {xs : Array Value} {n : Nat} : ∃ n', Obj.mapSeq f { cls := .type "list", data := .seq xs n } = { cls := .type "list", data := .seq (f xs) n' } := ⟨_, rfl⟩
theorem update_plain {h : Heap} {a : Addr} {xs : Array Value} {n : Nat} {f : Array Value → Array Value} (e : h.get? a = some { cls := .type "list", data := .seq xs n }) : (h.update a (Obj.mapSeq f)).PlainList a (f xs) := by
  obtain ⟨n', e'⟩ := mapSeq_plain (f := f) (xs := xs) (n := n)
  exact ⟨n', by rw [Heap.get?_update_self _ e (by rw [e']; rfl), e']⟩
theorem x_extend {o e : Expr} {apos pos pos' : Pos} {a : Addr} {xs ys : List Value} (h : St s₀ env v (pre ++ (a, .lst xs) :: post) s) (ho : Ev prog w A (eval o env) s (IsV (.ref a))) (hns : ∀ es, starEach (e :: es) env = (false, eval e env) :: starEach es env)
    (he : Ev prog w A (eval e env) s (fun u s' => ∃ b, u = .ref b ∧ s'.heap.PlainList b ys.toArray)) (hsz : xs.length + ys.length ≤ sizeLine)
    (k : ∀ s'', St s₀ env v (pre ++ (a, .lst (xs ++ ys)) :: post) s'' → wpAny (model prog w) A (execs rest env) Q E s'')
    (hi : interactive env = false)
    (hbase : attributeBase o "extend" env (eval o env) = eval o env := by walk_at "xa")
    (hfew : ((backTo pos (starEach [e] env)).all (fun x => !x.1) && (backToKw pos (keywordEach [] env)).all (fun x => x.1.isSome)
      && decide ([e].length + ([] : List Keyword).length + (if ([] : List Keyword).isEmpty then 0 else 1) < 30)) = true := by with_unfolding_all rfl)
    (hline : (apos.endLine == pos.line) = true := by walk_at "xa") :
    wpAny (model prog w) A (execs (.Expr (.Call (.Attribute o "extend" apos) [e] [] pos) pos' :: rest) env) Q E s := by
  refine x_expr (meth (Po := IsV (.ref a)) F.plainAttrs_list F.slot_list_extend F.type_list_extend ho (monoV _) (fun u s' k1 pu => by subst pu; exact plain_typeIs ((h.keeps k1).get (List.mem_append_right _ (.head _))))
    (.cons hns he (fun u s1 s2 kk ⟨b, e1, hb⟩ => ⟨b, e1, hb.at fun o e => kOld kk _ o e⟩) .nil) (fun u vs s' k1 pu ps => ?_) hbase hfew hline) hi
  obtain ⟨y, rfl, b, rfl, hb⟩ := allP1 ps
  obtain rfl : u = .ref a := pu
  have h' := h.keeps k1
  obtain ⟨n, hl⟩ := h'.get (List.mem_append_right pre (.head _))
  obtain ⟨n2, hb2⟩ := hb
  refine call_meets F.slot_list_extend ⟨_, hl, rfl⟩ F.entry_list_extend (F.args_list_extend_2 _ _) (AutoSeq1.list_extend_list_list_0 a xs.toArray n b ys.toArray n2 ?_ (by simp; lia) (by simp; lia)) ⟨hl, hb2, k _ ?_⟩
  · exact PyProof.Rows.extend_door (by simp; lia)
  · have := update_plain (f := fun x => x ++ ys.toArray) hl
    exact h'.change (t := s'.toks) (Heap.SameBut.update ..) (e' := .lst (xs ++ ys)) (by simpa [Ent.At] using this)
end

section
variable {prog : Program} {w : World} {A : Around} {E : Value → Shared → Prop} {s₀ s : Shared} {env : Env} {P Pa Pb : VP}

theorem al_items {ns : List Int} {vs : List Value} (h : Al IV ns vs) : ∃ xs : Array (Int × Tok), vs.toArray = intItems xs ∧ ns = xs.toList.map (·.1) := by
  induction h with
  | nil => exact ⟨#[], by simp [intItems], rfl⟩
  | @cons x v xs vs r _ ih =>
    obtain ⟨t, rfl⟩ := r
    obtain ⟨ys, e1, e2⟩ := ih
    refine ⟨#[(x, t)] ++ ys, ?_, by simp [e2]⟩
    have : (Value.int x t :: vs).toArray = #[Value.int x t] ++ vs.toArray := by simp
    rw [this, e1]; simp [intItems]
theorem numAt_getD (xs : Array (Int × Tok)) (i : Nat) : numAt xs i = (xs.toList.map (·.1)).getD i 0 := by simp [numAt, List.getD]
theorem op_max {l : Addr} {vs : List Value} {ns : List Int} {m : Int} (hh : A.handled = none) (hl : s.heap.IsList l vs.toArray) (hi : Al IV ns vs) (hm : m ∈ ns) (hb : ∀ a ∈ ns, a ≤ m) : Op prog w A (call (.builtin "max") [.ref l]) s (IsI m) := fun Q E hQ => by
  obtain ⟨xs, e, rfl⟩ := al_items hi
  rw [e] at hl
  have hsz : 0 < xs.size := by
    rcases Nat.eq_zero_or_pos xs.size with h0 | h0
    · have : xs = #[] := Array.eq_empty_of_size_eq_zero h0
      subst this; simp at hm
    · exact h0
  refine max_intList hh hl hsz fun v h' tk hv hk => ?_
  obtain ⟨t, rfl⟩ := intItems_at hv
  obtain ⟨h1, h2⟩ := argBest_gt (numAt xs) (xs.size - 1)
  simp only [gt_iff_lt] at *
  refine hQ _ _ (kBoth hk) ⟨t, ?_⟩
  congr 1
  refine Int.le_antisymm (hb _ ?_) ?_
  · rw [numAt_getD]
    have hlt : argBest (fun i j => decide (numAt xs j < numAt xs i)) (xs.size - 1) < (xs.toList.map (·.1)).length := by simp; lia
    rw [List.getD_eq_getElem?_getD, List.getElem?_eq_getElem hlt]
    exact List.getElem_mem hlt
  · obtain ⟨j, hj, rfl⟩ := List.getElem_of_mem hm
    have := h2 j (by simp at hj; lia)
    rw [numAt_getD] at this
    rw [List.getD_eq_getElem?_getD, List.getElem?_eq_getElem hj] at this
    exact this
theorem op_min {l : Addr} {vs : List Value} {ns : List Int} {m : Int} (hh : A.handled = none) (hl : s.heap.IsList l vs.toArray) (hi : Al IV ns vs) (hm : m ∈ ns) (hb : ∀ a ∈ ns, m ≤ a) : Op prog w A (call (.builtin "min") [.ref l]) s (IsI m) := fun Q E hQ => by
  obtain ⟨xs, e, rfl⟩ := al_items hi
  rw [e] at hl
  have hsz : 0 < xs.size := by
    rcases Nat.eq_zero_or_pos xs.size with h0 | h0
    · have : xs = #[] := Array.eq_empty_of_size_eq_zero h0
      subst this; simp at hm
    · exact h0
  refine min_intList hh hl hsz fun v h' tk hv hk => ?_
  obtain ⟨t, rfl⟩ := intItems_at hv
  obtain ⟨h1, h2⟩ := argBest_lt (numAt xs) (xs.size - 1)
  refine hQ _ _ (kBoth hk) ⟨t, ?_⟩
  congr 1
  refine Int.le_antisymm ?_ (hb _ ?_)
  · obtain ⟨j, hj, rfl⟩ := List.getElem_of_mem hm
    have := h2 j (by simp at hj; lia)
    rw [numAt_getD xs j] at this
    rw [List.getD_eq_getElem?_getD, List.getElem?_eq_getElem hj] at this
    exact this
  · rw [numAt_getD]
    have hlt : argBest (fun i j => decide (numAt xs i < numAt xs j)) (xs.size - 1) < (xs.toList.map (·.1)).length := by simp; lia
    rw [List.getD_eq_getElem?_getD, List.getElem?_eq_getElem hlt]
    exact List.getElem_mem hlt

noncomputable def SameV (x y : Value) : Prop := (∃ i t u, x = .int i t ∧ y = .int i u) ∨ (∃ i t u, x = .str i t ∧ y = .str i u)
theorem SameV.eqAt {x y : Value} (h : SameV x y) : SeqAt.EqAt A s x y true := by
  rcases h with ⟨i, t, u, rfl, rfl⟩ | ⟨i, t, u, rfl, rfl⟩
  · have := SeqAt.EqAt.int_int (A := A) (s := s) i t i u; rwa [beq_self_eq_true] at this
  · have := SeqAt.EqAt.str_str (A := A) (s := s) i t i u; rwa [beq_self_eq_true] at this
theorem op_neL {a b : Addr} {xs ys : List Value} (hu : A.units < cLine) (ha : s.heap.IsList a xs.toArray) (hb : s.heap.IsList b ys.toArray) (hl : xs.length = ys.length) (he : ∀ (j : Nat) x y, xs[j]? = some x → ys[j]? = some y → SameV x y) :
    Op prog w A (compareOp .NotEq (.ref a) (.ref b)) s (IsB false) := fun Q E hQ =>
  SeqAt.RcNeAt.lists (e := fun _ => true) ha hb (by simpa using hl) hu (fun j h1 h2 => (he j _ _ (List.getElem?_eq_getElem (by simpa using h1)) (List.getElem?_eq_getElem (by simpa using h2))).eqAt) prog w E Q (by
    have : (!(List.range xs.toArray.size).all fun _ => true) = false := by simp
    rw [this]; exact hQ _ _ (kRefl _) rfl)
theorem op_eqL {a b : Addr} {xs ys : List Value} (hu : A.units < cLine) (ha : s.heap.IsList a xs.toArray) (hb : s.heap.IsList b ys.toArray) (hl : xs.length = ys.length) (he : ∀ (j : Nat) x y, xs[j]? = some x → ys[j]? = some y → SameV x y) :
    Op prog w A (compareOp .Eq (.ref a) (.ref b)) s (IsB true) := fun Q E hQ =>
  SeqAt.eq_listAt (e := fun _ => true) ha hb (by simpa using hl) hu (fun j h1 h2 => (he j _ _ (List.getElem?_eq_getElem (by simpa using h1)) (List.getElem?_eq_getElem (by simpa using h2))).eqAt) (by
    have : ((List.range xs.toArray.size).all fun _ => true) = true := by simp
    rw [this]; exact hQ _ _ (kRefl _) rfl)

theorem fitsLong {i : Int} (h : -(2 ^ 60) ≤ i ∧ i ≤ 2 ^ 60) : Builtin.Range.rangeFitsLong i = true := by
  unfold Builtin.Range.rangeFitsLong; simp only [Bool.and_eq_true, decide_eq_true_eq]; lia
theorem rng_size {a b : Int} (h : a ≤ b) : Builtin.Range.rangeSize a b 1 = b - a := by
  unfold Builtin.Range.rangeSize
  simp
  lia
theorem rng_small {a b : Int} (h : a ≤ b) (ha : -(2 ^ 40) ≤ a) (hb : b ≤ 2 ^ 40) : Builtin.Range.small a b 1 = true := by
  unfold Builtin.Range.small
  rw [rng_size h, fitsLong (by lia), fitsLong (by lia), fitsLong (by lia), fitsLong (by lia)]
  simp only [Bool.true_and, Bool.or_eq_true]
  right
  rw [if_pos (by decide)]
  exact fitsLong (by lia)
theorem ev_range1 {p pos e} {n : Nat} (hf : Var prog w A env s "range" (.type "range")) (he : Ev prog w A (eval e env) s (IsI n)) (hn : n ≤ 2 ^ 30) (hs : ∀ es, starEach (e :: es) env = (false, eval e env) :: starEach es env := by walk_at "xa") :
    Ev prog w A (eval (.Call (.Name "range" p) [e] [] pos) env) s (IsRng 0 n) := fun s' k Q E hQ =>
  wpAny_Call_Name_kw (wpAny_Name (hf s' k _ _ (callWith_type (evArgs_star (.cons hs he (monoI _) .nil) pos) (evArgs_eval (.cons hs he (monoI _) .nil) .nil pos s' k fun vs kv s1 k1 ps qs => by
    obtain ⟨u, rfl, t, rfl⟩ := allP1 ps
    exact call_range_1 (hQ _ _ (kTrans k1 (kBoth fun _ _ e => Heap.get?_push_of_some _ e)) ⟨_, n, _, _, _, rfl, IsRange.new .., rng_small (by lia) (by lia) (by lia), by rw [rng_size (by lia)]; lia⟩)))))
theorem ev_range2 {p pos e1 e2} {a b : Int} {n : Nat} (hf : Var prog w A env s "range" (.type "range")) (h1 : Ev prog w A (eval e1 env) s (IsI a)) (h2 : Ev prog w A (eval e2 env) s (IsI b)) (hn : b = a + n) (ha : -(2 ^ 30) ≤ a) (hb : b ≤ 2 ^ 30)
    (hs1 : ∀ es, starEach (e1 :: es) env = (false, eval e1 env) :: starEach es env := by walk_at "xa") (hs2 : ∀ es, starEach (e2 :: es) env = (false, eval e2 env) :: starEach es env := by walk_at "xa") :
    Ev prog w A (eval (.Call (.Name "range" p) [e1, e2] [] pos) env) s (IsRng a n) := fun s' k Q E hQ =>
  wpAny_Call_Name_kw (wpAny_Name (hf s' k _ _ (callWith_type (evArgs_star (.cons hs1 h1 (monoI _) (.cons hs2 h2 (monoI _) .nil)) pos) (evArgs_eval (.cons hs1 h1 (monoI _) (.cons hs2 h2 (monoI _) .nil)) .nil pos s' k fun vs kv s1 k1 ps qs => by
    obtain ⟨u, u2, rfl, ⟨t, rfl⟩, t2, rfl⟩ := allP2 ps
    exact call_range_2 (hQ _ _ (kTrans k1 (kBoth fun _ _ e => Heap.get?_push_of_some _ e)) ⟨_, b, _, _, _, rfl, IsRange.new .., rng_small (by lia) (by lia) (by lia), by rw [rng_size (by lia)]; lia⟩)))))

theorem al_strs {ss : List Str} {vs : List Value} (h : Al SV ss vs) : ∃ l : List (Str × Tok), vs = strValues l ∧ l.map (·.1) = ss := by
  induction h with
  | nil => exact ⟨[], rfl, rfl⟩
  | @cons x v xs vs r _ ih =>
    obtain ⟨t, rfl⟩ := r
    obtain ⟨l, e1, e2⟩ := ih
    exact ⟨(x, t) :: l, by rw [e1]; rfl, by rw [← e2]; rfl⟩
theorem op_concat {a b : Addr} {xs ys : List Value} (ha : s.heap.PlainList a xs.toArray) (hb : s.heap.PlainList b ys.toArray) (hsz : xs.length + ys.length ≤ sizeLine) : Op prog w A (binaryOp .Add (.ref a) (.ref b)) s (NewL s (xs ++ ys)) := fun Q E hQ => by
  obtain ⟨n, ha⟩ := ha
  obtain ⟨n2, hb⟩ := hb
  exact concat_meets ⟨_, ha, rfl⟩ ⟨_, hb, rfl⟩ noFill_list_add seq_list_add F.slot_list_add F.entry_list_add (F.args_list_add_2 _ _) (AutoSeq1.list___add___list_list_0 a xs.toArray n b ys.toArray n2 (by simpa using hsz)) ⟨ha, hb, hQ _ _ (kPush _ _) ⟨_, rfl, ⟨_, by simpa using Heap.get?_push_size _ rfl⟩, get_none_of_push _⟩⟩
theorem op_isiInt {n : Int} {u : Tok} : Op prog w A (call (.builtin "isinstance") [.int n u, .type "bool"]) s (IsB false) := fun Q E hQ =>
  call_isinstance (isinstance_false_int rfl rfl F.sub_int_bool) (hQ _ _ (kTok _ _) rfl)
theorem ev_join {sep : Str} {e : Expr} {o : Expr} {apos pos : Pos} {ss : List Str} {B : Nat} (ho : Ev prog w A (eval o env) s (IsS sep)) (hns : ∀ es, starEach (e :: es) env = (false, eval e env) :: starEach es env)
    (he : Ev prog w A (eval e env) s (fun u s' => ∃ vs, IsL vs u s' ∧ Al SV ss vs)) (hB : ∀ y ∈ ss, y.length ≤ B) (hl : ss.length * B + ss.length * sep.length ≤ 16777216)
    (hbase : attributeBase o "join" env (eval o env) = eval o env := by walk_at "xa")
    (hfew : ((backTo pos (starEach [e] env)).all (fun x => !x.1) && (backToKw pos (keywordEach [] env)).all (fun x => x.1.isSome)
      && decide ([e].length + ([] : List Keyword).length + (if ([] : List Keyword).isEmpty then 0 else 1) < 30)) = true := by with_unfolding_all rfl)
    (hline : (apos.endLine == pos.line) = true := by walk_at "xa") :
    Ev prog w A (eval (.Call (.Attribute o "join" apos) [e] [] pos) env) s (IsS (Txt.join sep ss)) := fun s' k Q E hQ =>
  meth (Po := IsS sep) F.plainAttrs_str F.slot_str_join F.type_str_join (ho.later k) (monoS _) (fun u s1 k1 pu => by obtain ⟨t, rfl⟩ := pu; exact ⟨typeIs_str _ _ _, fun _ e => nomatch e⟩)
    (.cons hns (he.later k) (fun u s1 s2 kk ⟨vs, h1, h2⟩ => ⟨vs, monoL _ _ _ _ kk h1, h2⟩) .nil) (fun u vs s1 k1 pu ps => by
      obtain ⟨t, rfl⟩ := pu
      obtain ⟨y, rfl, vs, ⟨a, rfl, hl1⟩, hal⟩ := allP1 ps
      obtain ⟨l, rfl, e2⟩ := al_strs hal
      exact SC.join hl1 e2 (by unfold JoinOk; rw [StrLaws.joinFits hB hl]; rfl) fun t' k' => hQ _ _ (kTrans k1 (kTok _ _)) ⟨_, rfl⟩) hbase hfew hline
end

section
variable {prog : Program} {w : World} {A : Around} {E : Value → Shared → Prop} {s₀ s : Shared} {env : Env} {P Pa Pb : VP}

noncomputable def TgOk (tg : Expr) : Prop := (∀ it v, letOwnedTupleGo tg it v = pure ()) ∨ ∃ elts x pos, tg = .Tuple elts x pos
noncomputable def LetOk (prog : Program) (w : World) (A : Around) (tg : Expr) (I : Addr) (St : Nat → Heap → Prop) : Prop :=
  ∀ i (s : Shared) v (Q : Unit → Shared → Prop) (E : Value → Shared → Prop), St i s.heap → Q () s → wpAny (model prog w) A (letOwnedTupleGo tg (.ref I) v) Q E s
theorem letOk_name {I St x p} : LetOk prog w A (.Name x p) I St := fun _ _ _ _ _ _ h => wpAny_pure h
theorem letOk_list {I a tg} (hx : TgOk tg) : LetOk prog w A tg I (fun i h => h.IsListIter I a i ∧ h.IsList a xs) := by
  rcases hx with h | ⟨elts, x, pos, rfl⟩
  · intro i s v Q E _ hQ; rw [h]; exact wpAny_pure hQ
  · intro i s v Q E hst hQ
    cases v with
    | ref T => exact wpAny_letOwnedTupleGo_listiter hst.1 hQ
    | _ => exact wpAny_pure hQ
noncomputable def Src (prog : Program) (w : World) (A : Around) (tg : Expr) (v : Value) (s : Shared) (n : Nat) (P : Nat → Value → Prop) : Prop :=
  ∀ s', Keeps s s' → ∀ (Q : Value → Shared → Prop) (E : Value → Shared → Prop),
    (∀ I fp St s'', Keeps s' s'' → s'.heap.get? I = none → I ∈ fp → Walks prog w A I fp [I] n P St → LetOk prog w A tg I St → (∀ b ∈ fp, b < s''.heap.objs.size) → St 0 s''.heap → Q (.ref I) s'') → wpAny (model prog w) A (pyIter v) Q E s'
theorem src_list {a : Addr} {xs : List Value} {tg : Expr} (hA : A.handled = none) (hl : s.heap.IsList a xs.toArray) (htg : TgOk tg) : Src prog w A tg (.ref a) s xs.length (fun i u => xs[i]? = some u) := fun s' k Q E hQ => by
  have hl' := isList_keeps hl (kOld k)
  have hlt : a < s'.heap.objs.size := by obtain ⟨_, e, _⟩ := hl'; exact Heap.lt_size e
  refine wpAny_pyIter_list hl' (hQ _ [s'.heap.objs.size, a] (fun i h => h.IsListIter s'.heap.objs.size a i ∧ h.IsList a xs.toArray) _ (kPush _ _) (get_none_of_push _) (.head _) (by simpa using Walks.list (prog := prog) (w := w) hA s'.heap.objs.size a (Nat.ne_of_lt hlt) xs.toArray) (letOk_list htg) (fun b hb => ?_) ⟨⟨_, Heap.get?_push_size _ rfl, rfl, rfl⟩, hl'.push _⟩)
  show b < (s'.heap.push _).objs.size
  rw [Heap.size_push]
  rcases List.mem_cons.mp hb with rfl | hb
  · exact Nat.lt_succ_self _
  · rcases List.mem_cons.mp hb with rfl | hb
    · exact Nat.lt_succ_of_lt hlt
    · cases hb
theorem src_tuple {a : Addr} {xs : List Value} {x : Str} {p : Pos} (hA : A.handled = none) (hl : s.heap.IsTuple a xs.toArray) : Src prog w A (.Name x p) (.ref a) s xs.length (fun i u => xs[i]? = some u) := fun s' k Q E hQ => by
  have hl' : s'.heap.IsTuple a xs.toArray := let ⟨o, ho, r⟩ := hl; ⟨o, kOld k _ _ ho, r⟩
  have hlt : a < s'.heap.objs.size := by obtain ⟨_, e, _⟩ := hl'; exact Heap.lt_size e
  refine wpAny_pyIter_tuple hl' (hQ _ [s'.heap.objs.size, a] (fun i h => h.IsTupleIter s'.heap.objs.size a i ∧ h.IsTuple a xs.toArray) _ (kPush _ _) (get_none_of_push _) (.head _) (by simpa using Walks.tuple (prog := prog) (w := w) hA s'.heap.objs.size a (Nat.ne_of_lt hlt) xs.toArray) letOk_name (fun b hb => ?_) ⟨⟨_, Heap.get?_push_size _ rfl, rfl, rfl⟩, hl'.push _⟩)
  show b < (s'.heap.push _).objs.size
  rw [Heap.size_push]
  rcases List.mem_cons.mp hb with rfl | hb
  · exact Nat.lt_succ_self _
  · rcases List.mem_cons.mp hb with rfl | hb
    · exact Nat.lt_succ_of_lt hlt
    · cases hb
theorem src_str {x : Str} {t : Tok} {y : Str} {p : Pos} (hA : A.handled = none) : Src prog w A (.Name y p) (.str x t) s x.cps.size (SignAt x) := fun s' k Q E hQ => by
  refine wpAny_pyIter_str fun o St W h0 => hQ _ [s'.heap.objs.size] St _ (kPush _ _) (get_none_of_push _) (.head _) (W A hA) letOk_name (fun b hb => ?_) h0
  show b < (s'.heap.push _).objs.size
  rw [Heap.size_push, List.mem_singleton.mp hb]; exact Nat.lt_succ_self _
theorem src_range {v : Value} {a : Int} {n : Nat} {x : Str} {p : Pos} (hA : A.handled = none) (h : IsRng a n v s) : Src prog w A (.Name x p) v s n (fun i u => ∃ t, u = .int (a + i) t) := fun s' k Q E hQ => by
  obtain ⟨r, b, t, u, z, rfl, hr, hsm, hsz⟩ := h
  refine wpAny_pyIter_range (kOld k _ _ hr) hsm (hQ _ [s'.heap.objs.size] (fun i h => IsRangeIter h s'.heap.objs.size (a + i) ((n : Int) - i) 1) _ (kPush _ _) (get_none_of_push _) (.head _) ?_ letOk_name (fun b hb => ?_) ?_)
  · have W := Walks.range (prog := prog) (w := w) hA s'.heap.objs.size a 1 n
    simpa using W
  · show b < (s'.heap.push _).objs.size
    rw [Heap.size_push, List.mem_singleton.mp hb]; exact Nat.lt_succ_self _
  · rw [hsz]
    simpa using Heap.get?_push_size _ rfl

structure CI (B : (Str → Option Value) → Prop) (s₁ : Shared) (I D C : Addr) (ys : List Value) (s : Shared) : Prop where
  same : ∃ h tk, s = { s₁ with heap := h, toks := tk }
  old : ∀ b o, s₁.heap.get? b = some o → b ≠ I → b ≠ C → b ≠ D → s.heap.get? b = some o
  acc : s.heap.PlainList D ys.toArray
  ns : ∃ m, s.heap.Ns C m ∧ B m
structure CF (si s₁ : Shared) (fp : List Addr) (I D C : Addr) : Prop where
  k : Keeps si s₁
  ni : si.heap.get? I = none
  d : si.heap.get? D = none
  c : si.heap.get? C = none
  dc : D ≠ C
  fd : D ∉ fp
  fc : C ∉ fp
  i : I ∈ fp
theorem CI.keeps {B si s₁ s fp I D C ys} (F : CF si s₁ fp I D C) (h : CI B s₁ I D C ys s) : Keeps si s := by
  obtain ⟨h1, t1, rfl⟩ := h.same
  obtain ⟨h0, t0, e, k⟩ := F.k
  subst e
  exact ⟨h1, t1, rfl, fun b o e => h.old b o (k b o e) (by rintro rfl; rw [F.ni] at e; cases e) (by rintro rfl; rw [F.c] at e; cases e) (by rintro rfl; rw [F.d] at e; cases e)⟩
noncomputable def Tests (ifs : List Expr) (env : Env) : Sem Bool := forIn ifs true fun c r => if r = true then do let ok ← isTrue c env (eval c env); pure (ForInStep.yield ok) else pure (ForInStep.yield r)
theorem al_snoc_skip {R : Nat → Value → Prop} {p : Nat → Bool} {i : Nat} {zs : List Value} (h : Al R ((List.range i).filter p) zs) (hp : p i = false) : Al R ((List.range (i + 1)).filter p) zs := by
  rw [List.range_succ, List.filter_append]; simpa [hp] using h
theorem al_snoc_put {R : Nat → Value → Prop} {p : Nat → Bool} {i : Nat} {zs : List Value} {u : Value} (h : Al R ((List.range i).filter p) zs) (hp : p i = true) (r : R i u) : Al R ((List.range (i + 1)).filter p) (zs ++ [u]) := by
  rw [List.range_succ, List.filter_append]; simpa [hp] using h.snoc r

structure TurnA (prog : Program) (w : World) (A : Around) (B : (Str → Option Value) → Prop) (si : Shared) (C : Addr) (target : Expr) (cenv : Env) (n : Nat) (P : Nat → Value → Prop) (M : Nat → (Str → Option Value) → Prop) : Prop where
  asg : ∀ i u s m, i < n → P i u → s.heap.Ns C m → B m → Keeps si s → ∀ (Q : Unit → Shared → Prop) (E : Value → Shared → Prop),
    (∀ h' tk m', h'.Ns C m' → B m' → M i m' → (∀ b o, b ≠ C → s.heap.get? b = some o → h'.get? b = some o) → Q () { s with heap := h', toks := tk }) → wpAny (model prog w) A (assign target cenv u) Q E s
structure Turn (prog : Program) (w : World) (A : Around) (B : (Str → Option Value) → Prop) (si : Shared) (C : Addr) (target elt : Expr) (ifs : List Expr) (cenv : Env) (n : Nat) (P : Nat → Value → Prop) (M : Nat → (Str → Option Value) → Prop) (p : Nat → Bool) (R : Nat → Value → Prop) : Prop extends TurnA prog w A B si C target cenv n P M where
  tst : ∀ i s m, i < n → M i m → s.heap.Ns C m → Keeps si s → EvB prog w A (Tests ifs cenv) s (p i)
  el : ∀ i s m, i < n → p i = true → M i m → s.heap.Ns C m → Keeps si s → Op prog w A (eval elt cenv) s (fun u _ => R i u)

section
variable {B : (Str → Option Value) → Prop} {si s₁ : Shared} {I D C : Addr} {fp : List Addr} {n : Nat} {Pi : Nat → Value → Prop} {Wst : Nat → Heap → Prop} {M : Nat → (Str → Option Value) → Prop} {p : Nat → Bool} {R : Nat → Value → Prop} {target elt iter : Expr} {ifs : List Expr} {scope : Scope} {pos : Pos} {cenv : Env}

theorem asg_step (T : TurnA prog w A B si C target cenv n Pi M) (F : CF si s₁ fp I D C) (W : Walks prog w A I fp [I] n Pi Wst) {i : Nat} {u : Value} {ys : List Value} {s : Shared} (hi : i < n) (hP : Pi i u)
    (hI : CI B s₁ I D C ys s) (hst : Wst (i + 1) s.heap) {Q : Unit → Shared → Prop} (k : ∀ s' m', s'.heap.Ns C m' → M i m' → CI B s₁ I D C ys s' → Wst (i + 1) s'.heap → Q () s') : wpAny (model prog w) A (assign target cenv u) Q E s := by
  have ks := hI.keeps F
  obtain ⟨h1, t1, rfl⟩ := hI.same
  obtain ⟨m, hn, hB⟩ := hI.ns
  refine T.asg i u _ m hi hP hn hB ks _ _ fun h2 t2 m2 hn2 hB2 hM hk2 => ?_
  exact k _ m2 hn2 hM ⟨⟨_, _, rfl⟩, fun b o e hb hc hd => hk2 b o hc (hI.old b o e hb hc hd), hI.acc.at fun o e => hk2 D o F.dc e, m2, hn2, hB2⟩ (W.frame _ _ _ hst fun b hb o e => hk2 b o (fun e2 => F.fc (e2 ▸ hb)) e)
theorem turn_rest (T : Turn prog w A B si C target elt ifs cenv n Pi M p R) (F : CF si s₁ fp I D C) (W : Walks prog w A I fp [I] n Pi Wst) {i : Nat} {u : Value} {ys zs : List Value} {s : Shared} (hi : i < n) (hP : Pi i u)
    (hI : CI B s₁ I D C (ys ++ zs) s) (hst : Wst (i + 1) s.heap) (hz : Al R ((List.range i).filter p) zs) (hsz : ys.length + n ≤ sizeLine) {E : Value → Shared → Prop} {K : Shared → Prop}
    (k : ∀ zs' s', Al R ((List.range (i + 1)).filter p) zs' → CI B s₁ I D C (ys ++ zs') s' → Wst (i + 1) s'.heap → K s') :
    wpAny (model prog w) A (assign target cenv u) (fun _ s₂ => wpAny (model prog w) A (Tests ifs cenv) (fun ok s₃ =>
      if ok = true then wpAny (model prog w) A (eval elt cenv) (fun x s₄ => wpAny (model prog w) A (call (.builtin "list.append") [.ref D, x]) (fun _ s₅ => K s₅) E s₄) E s₃ else K s₃) E s₂) E s := by
  refine asg_step T.toTurnA F W hi hP hI hst fun s2 m2 hn2 hM hI2 st2 => ?_
  refine T.tst i s2 m2 hi hM hn2 (hI2.keeps F) s2 (kRefl _) _ _ fun s3 k3 => ?_
  have kk2 := hI2.keeps F
  obtain ⟨h2, t2, rfl⟩ := hI2.same
  have kk3 := kTrans kk2 k3
  obtain ⟨h3, t3, rfl, hk3⟩ := k3
  have acc3 : h3.PlainList D (ys ++ zs).toArray := hI2.acc.at fun o e => hk3 _ o e
  have st3 : Wst (i + 1) h3 := W.frame _ _ _ st2 fun b hb o e => hk3 _ o e
  have old3 : ∀ b o, s₁.heap.get? b = some o → b ≠ I → b ≠ C → b ≠ D → h3.get? b = some o := fun b o e hb hc hd => hk3 b o (hI2.old b o e hb hc hd)
  obtain ⟨mb, hnb, hBb⟩ := hI2.ns
  cases hp : p i with
  | false =>
    simp only [Bool.false_eq_true, if_false]
    exact k zs _ (al_snoc_skip hz hp) ⟨⟨_, _, rfl⟩, old3, acc3, ⟨mb, hnb.keeps hk3, hBb⟩⟩ st3
  | true =>
    simp only [if_true]
    refine T.el i _ m2 hi hp hM (hn2.keeps hk3) kk3 _ _ fun x s4 k4 hR => ?_
    obtain ⟨h4, t4, rfl, hk4⟩ := k4
    have hlen : zs.length ≤ i := by
      rw [hz.len]; exact Nat.le_trans (List.length_filter_le _ _) (by simp)
    refine wpAny_list_append_plain (acc3.at fun o e => hk4 _ o e) (fun h5 hl5 hs5 => ?_) (by simp; lia)
    refine k (zs ++ [x]) _ (al_snoc_put hz hp hR) ⟨⟨_, _, rfl⟩, fun b o e hb hc hd => hs5.extBut b o hd (hk4 b o (old3 b o e hb hc hd)), by simpa using hl5, ⟨mb, (hnb.keeps fun b o e => hk4 b o (hk3 b o e)).sameBut hs5 (Ne.symm F.dc), hBb⟩⟩ ?_
    exact W.frame _ _ _ st3 fun b hb o e => hs5.extBut b o (fun e2 => F.fd (e2 ▸ hb)) (hk4 b o e)
theorem turn_next (W : Walks prog w A I fp [I] n Pi Wst) (F : CF si s₁ fp I D C) {i : Nat} {ys : List Value} {s : Shared} (hle : i ≤ n) (hI : CI B s₁ I D C ys s) (hst : Wst i s.heap) {Q : Option Value → Shared → Prop} {E : Value → Shared → Prop}
    (item : ∀ u s', i < n → Pi i u → CI B s₁ I D C ys s' → Wst (i + 1) s'.heap → Q (some u) s') (done : ∀ s', i = n → CI B s₁ I D C ys s' → Q none s') : wpAny (model prog w) A (pyNext (.ref I)) Q E s := by
  obtain ⟨h1, t1, rfl⟩ := hI.same
  have hDI : D ≠ I := fun e => F.fd (e ▸ F.i)
  have hCI : C ≠ I := fun e => F.fc (e ▸ F.i)
  obtain ⟨m, hn, hB⟩ := hI.ns
  have up : ∀ h' : Heap, (∀ b o, b ∉ [I] → h1.get? b = some o → h'.get? b = some o) → ∀ t, CI B s₁ I D C ys { s₁ with heap := h', toks := t } := fun h' hk t =>
    ⟨⟨_, _, rfl⟩, fun b o e hb hc hd => hk b o (by simpa using hb) (hI.old b o e hb hc hd), hI.acc.at fun o e => hk _ o (by simpa using hDI) e, ⟨m, Heap.Ns.at' hn fun o e => hk _ o (by simpa using hCI) e, hB⟩⟩
  rcases Nat.lt_or_ge i n with hlt | hge
  · exact W.item i _ _ _ hlt hst fun v h' tk hP hst' hk => item v _ hlt hP (up h' hk tk) hst'
  · have : i = n := by lia
    subst this
    exact W.done _ _ _ hst fun h' tk hk => done _ rfl (up h' hk tk)

noncomputable def TurnIs (elt : Expr) (gens : List Comprehension) (scope : Scope) (pos : Pos) (d : Nat) (target iter : Expr) (ifs : List Expr) : Prop := ∀ (it acc : Value) (env : Env),
    compTurn (.ListComp elt gens scope pos) d it acc env = (standAt iter.pos >>= fun _ => pyNext it >>= fun r => match r with
      | none => pure (.done .next)
      | some v => letOwnedTupleGo target it v >>= fun _ => assign target env v >>= fun _ => Tests ifs env >>= fun ok =>
        if ok then (eval elt env >>= fun x => call (.builtin "list.append") [acc, x] >>= fun _ => again (.compLoop (.ListComp elt gens scope pos) d it acc env))
        else again (.compLoop (.ListComp elt gens scope pos) d it acc env))
theorem turn_list (elt target iter : Expr) (ifs : List Expr) (scope : Scope) (pos : Pos) : TurnIs elt [⟨target, iter, ifs, 0⟩] scope pos 0 target iter ifs := by
  intro it acc env
  rw [compTurn_list]
  congr 1; funext _; congr 1; funext r
  cases r with
  | none => rfl
  | some v =>
    dsimp only
    congr 1; funext _; congr 1; funext _
    show (Tests ifs env >>= fun ok => _) = _
    congr 1; funext ok
    cases ok
    · rfl
    · show ((do let _ ← call (.builtin "list.append") [acc, ← eval elt env]) >>= fun _ => again _) = _
      simp
theorem compTurn_list2 (elt : Expr) (g : Comprehension) (target iter : Expr) (ifs : List Expr) (scope : Scope) (pos : Pos) (it acc : Value) (env : Env) :
    compTurn (.ListComp elt [g, ⟨target, iter, ifs, 0⟩] scope pos) 1 it acc env = (do
      standAt iter.pos
      match ← pyNext it with
      | none => pure (.done .next)
      | some v =>
        letOwnedTupleGo target it v
        assign target env v
        let mut ok := true
        for c in ifs do
          if ok then ok ← isTrue c env (eval c env)
        if ok then
          (do let _ ← call (.builtin "list.append") [acc, ← eval elt env])
        again (.compLoop (.ListComp elt [g, ⟨target, iter, ifs, 0⟩] scope pos) 1 it acc env)) := by rfl
theorem turn_list2 (elt : Expr) (g : Comprehension) (target iter : Expr) (ifs : List Expr) (scope : Scope) (pos : Pos) : TurnIs elt [g, ⟨target, iter, ifs, 0⟩] scope pos 1 target iter ifs := by
  intro it acc env
  rw [compTurn_list2]
  congr 1; funext _; congr 1; funext r
  cases r with
  | none => rfl
  | some v =>
    dsimp only
    congr 1; funext _; congr 1; funext _
    show (Tests ifs env >>= fun ok => _) = _
    congr 1; funext ok
    cases ok
    · rfl
    · show ((do let _ ← call (.builtin "list.append") [acc, ← eval elt env]) >>= fun _ => again _) = _
      simp
theorem compTurn_outer (elt t0 i0 target iter : Expr) (ifs : List Expr) (scope : Scope) (pos : Pos) (it acc : Value) (env : Env) :
    compTurn (.ListComp elt [⟨t0, i0, [], 0⟩, ⟨target, iter, ifs, 0⟩] scope pos) 0 it acc env = (standAt i0.pos >>= fun _ => pyNext it >>= fun r => match r with
      | none => pure (.done .next)
      | some v => letOwnedTupleGo t0 it v >>= fun _ => assign t0 env v >>= fun _ => eval iter env >>= fun x => standAt iter.pos >>= fun _ => foldedSetIterable iter env x >>= fun x =>
        holding [x] (pyIter x) >>= fun i => runOwn (.compStart (.ListComp elt [⟨t0, i0, [], 0⟩, ⟨target, iter, ifs, 0⟩] scope pos) 1 i acc env) env >>= fun _ =>
          again (.compLoop (.ListComp elt [⟨t0, i0, [], 0⟩, ⟨target, iter, ifs, 0⟩] scope pos) 0 it acc env)) := by rfl
theorem loop0 {gens : List Comprehension} {d : Nat} (hT : TurnIs elt gens scope pos d target iter ifs) (hlet : LetOk prog w A target I Wst)
    (T : Turn prog w A B si C target elt ifs cenv n Pi M p R) (F : CF si s₁ fp I D C) (W : Walks prog w A I fp [I] n Pi Wst) {ys : List Value} {s : Shared} (hI : CI B s₁ I D C ys s) (hst : Wst 0 s.heap) (hsz : ys.length + n ≤ sizeLine) {RR : Result → Shared → Prop}
    (fin : ∀ zs s', Al R ((List.range n).filter p) zs → CI B s₁ I D C (ys ++ zs) s' → RR (.ok .next) s') :
    codeAny (model prog w) A (.compLoop (.ListComp elt gens scope pos) d (.ref I) (.ref D) cenv) RR s := by
  refine codeAny_loop rfl (fun k s => ∃ i zs, i ≤ n ∧ k = n - i ∧ Al R ((List.range i).filter p) zs ∧ CI B s₁ I D C (ys ++ zs) s ∧ Wst i s.heap) ?_ n ⟨0, [], Nat.zero_le _, rfl, by simpa using Al.nil, by simpa using hI, hst⟩
  rintro k s ⟨i, zs, hle, rfl, hz, hI, hst⟩
  show wpAny _ A ((compTurn (.ListComp elt gens scope pos) d (.ref I) (.ref D) cenv).onRaise (fun x => do noteFrame x cenv; theTreesLotGoes x)) _ _ s
  refine wpAny_noted ?_
  rw [hT]
  refine wpAny_bind (wpAny_standAt (wpAny_bind (turn_next W F hle hI hst (fun u s' hlt hP hI' hst' => ?_) fun s' e hI' => ?_)))
  · refine wpAny_bind (hlet (i + 1) _ _ _ _ hst' (wpAny_bind ?_))
    refine wpAny_mono (turn_rest T F W hlt hP hI' hst' hz hsz (K := fun s' => ∃ m, m < n - i ∧ ∃ i zs, i ≤ n ∧ m = n - i ∧ Al R ((List.range i).filter p) zs ∧ CI B s₁ I D C (ys ++ zs) s' ∧ Wst i s'.heap) fun zs' s' h1 h2 h3 => ⟨n - (i + 1), by lia, i + 1, zs', hlt, rfl, h1, h2, h3⟩) (fun _ s3 h3 => ?_) fun _ _ e => e
    refine wpAny_bind (wpAny_mono h3 (fun ok s4 h4 => ?_) fun _ _ e => e)
    cases ok with
    | false => simp only [Bool.false_eq_true, if_false] at h4 ⊢; exact wpAny_pure ⟨rfl, h4⟩
    | true =>
      simp only [if_true] at h4 ⊢
      exact wpAny_bind (wpAny_mono h4 (fun x s5 h5 => wpAny_bind (wpAny_mono h5 (fun _ s6 h6 => wpAny_pure ⟨rfl, h6⟩) fun _ _ e => e)) fun _ _ e => e)
  · subst e
    exact wpAny_pure (fin zs s' hz hI')
end

theorem comp_enter {elt : Expr} {g : Comprehension} {gs : List Comprehension} {scope : Scope} {cl : List (Str × Addr)} {pos : Pos} {n : Nat} {Pi : Nat → Value → Prop} {use : Option (Value → Sem Unit)} {Q : Value → Shared → Prop}
    (hs : ∀ x, foldedSetIterable g.iter env x = pure x) (hg : g.is_async = 0) (hclos : closureFor scope env = pure cl) (hcell : ∀ y ∈ scope.names, y.2 ≠ .cell) (hkind : scope.kind = .function) (hnames : ∀ y ∈ scope.names, y.2 = .local → scope.names.lookup y.1 = some .local)
    (hit : Ev prog w A (eval g.iter env) s Pa) (hsrc : ∀ v s', Keeps s s' → Pa v s' → Src prog w A g.target v s' n Pi)
    (run : ∀ I D C fp Wst s₁, Walks prog w A I fp [I] n Pi Wst → LetOk prog w A g.target I Wst → CF s s₁ fp I D C → CI (fun _ => True) s₁ I D C [] s₁ → Wst 0 s₁.heap → (∀ b ∈ fp, b < s₁.heap.objs.size) →
      codeAny (model prog w) A (.compLoop (.ListComp elt (g :: gs) scope pos) 0 (.ref I) (.ref D) (compEnvC scope cl C env)) (compPost (model prog w) A E use Q (.ref D) C) s₁) :
    wpAny (model prog w) A (comprehension (.ListComp elt (g :: gs) scope pos) scope env (firstIterPos (g :: gs) pos) (newList []) false (eval g.iter env) use) Q E s := by
  obtain ⟨target, iter, ifs, as⟩ := g
  obtain rfl : as = 0 := hg
  refine wpAny_comprehension_free rfl hs hclos hkind hnames (hit.use fun v s' k hv => hsrc v s' k hv s' (kRefl _) _ _ fun I fp Wst s2 k2 hIn hIf W hlet hfp hst => ?_)
  refine wpAny_newObj_type (wpAny_newFunctionEnv hcell (by intro y hy; simp at hy) (fun h₁ hns₁ hsb₁ => ?_) hkind)
  dsimp only at hns₁ hsb₁ ⊢
  generalize hH2 : s2.heap.push { cls := .type "list", dict := none, data := .seq ([] : List Value).toArray } = H2 at hns₁ hsb₁ ⊢
  have hC : H2.objs.size = s2.heap.objs.size + 1 := by rw [← hH2, Heap.size_push]
  have old : ∀ b o, s2.heap.get? b = some o → h₁.get? b = some o := fun b o e => hsb₁.extBut b o (by rw [hC]; exact Nat.ne_of_lt (Nat.lt_succ_of_lt (Heap.lt_size e))) (Heap.get?_push_of_some _ (hH2 ▸ Heap.get?_push_of_some _ e))
  have nC : s2.heap.get? H2.objs.size = none := Heap.get?_none_of_le (by rw [hC]; exact Nat.le_succ _)
  have dc : s2.heap.objs.size ≠ H2.objs.size := by rw [hC]; exact Nat.ne_of_lt (Nat.lt_succ_self _)
  have hst1 : Wst 0 h₁ := W.frame _ _ _ hst fun b _ o e => old b o e
  have big : ∀ b ∈ fp, b < h₁.objs.size := fun b hb => by
    obtain ⟨o, es, ep, ho, _⟩ := hns₁
    have := Heap.lt_size ho
    exact Nat.lt_trans (hfp b hb) (Nat.lt_of_lt_of_le (by rw [hC]; exact Nat.lt_succ_self _) (Nat.le_of_lt this))
  have hk : Keeps s { s2 with heap := h₁, toks := s2.toks + ([] : List (Str × Value)).length } := kTrans (kTrans k k2) (kBoth old)
  have F : CF s { s2 with heap := h₁, toks := s2.toks + ([] : List (Str × Value)).length } fp I s2.heap.objs.size H2.objs.size :=
    ⟨hk, kNone k hIn, kNone (kTrans k k2) (get_none_of_push _), kNone (kTrans k k2) nC, dc, fun hm => Nat.lt_irrefl _ (hfp _ hm), fun hm => by have := hfp _ hm; rw [hC] at this; exact Nat.lt_irrefl _ (Nat.lt_of_succ_lt this), hIf⟩
  have hI : CI (fun _ => True) { s2 with heap := h₁, toks := s2.toks + ([] : List (Str × Value)).length } I s2.heap.objs.size H2.objs.size [] { s2 with heap := h₁, toks := s2.toks + ([] : List (Str × Value)).length } :=
    ⟨⟨_, _, rfl⟩, fun b o e _ _ _ => e, ⟨_, hsb₁.extBut _ _ dc (Heap.get?_push_of_some _ (hH2 ▸ Heap.get?_push_size _ rfl))⟩, ⟨_, hns₁, trivial⟩⟩
  have go := run I _ _ fp Wst _ W hlet F hI hst1 big
  exact codeAny_compStart_list go (W.self 0 _ _ _ hst1 go)
end

structure CompOk (scope : Scope) (env : Env) : Prop where
  kind : scope.kind = .function
  cell : ∀ y ∈ scope.names, y.2 ≠ .cell
  nodup : (scope.names.map (·.1)).Nodup
  free : ∀ y ∈ scope.names, y.2 = .free → env.kindOf y.1 = some .cell
theorem lookup_mem_nodup {α : Type} : ∀ {l : List (Str × α)} {y : Str × α}, (l.map (·.1)).Nodup → y ∈ l → l.lookup y.1 = some y.2
  | [], _, _, h => nomatch h
  | z :: l, y, nd, h => by
    rw [List.map_cons, List.nodup_cons] at nd
    rcases List.mem_cons.mp h with rfl | h
    · show List.lookup y.1 ((y.1, y.2) :: l) = _
      simp [List.lookup_cons]
    · have hne : y.1 ≠ z.1 := fun e => nd.1 (e ▸ List.mem_map.mpr ⟨y, h, rfl⟩)
      have : List.lookup y.1 ((z.1, z.2) :: l) = l.lookup y.1 := by
        have hb : (y.1 == z.1) = false := by simpa using hne
        rw [List.lookup_cons, hb]
      exact this.trans (lookup_mem_nodup nd.2 h)
theorem mem_of_lookup' {α : Type} : ∀ {l : List (Str × α)} {x : Str} {k : α}, l.lookup x = some k → (x, k) ∈ l
  | [], _, _, h => by simp at h
  | z :: l, x, k, h => by
    have e : List.lookup x ((z.1, z.2) :: l) = some k := h
    rw [List.lookup_cons] at e
    by_cases hx : x == z.1
    · rw [hx] at e
      have : x = z.1 := by simpa using hx
      simp only [Option.some.injEq] at e
      subst this; subst e; exact .head _
    · simp only [hx] at e
      exact .tail _ (mem_of_lookup' e)
noncomputable def closL (env : Env) (names : List (Str × NameKind)) (acc : List (Str × Addr)) : List (Str × Addr) :=
  (names.filter (·.2 == .free)).reverse.map (fun y => (y.1, (env.cells.lookup y.1).getD 0)) ++ acc
theorem closureFor_eq {scope : Scope} {env : Env} (h : ∀ y ∈ scope.names, y.2 = .free → (env.cells.lookup y.1).isSome = true) : closureFor scope env = pure (closL env scope.names []) := by
  unfold closureFor
  have key : ∀ (names : List (Str × NameKind)) (acc : List (Str × Addr)), (∀ y ∈ names, y.2 = .free → (env.cells.lookup y.1).isSome = true) →
      (forIn names acc fun (x : Str × NameKind) (r : List (Str × Addr)) => (match x with | (name, kind) => if (kind == .free) = true then cellOf env name >>= fun c => pure (ForInStep.yield ((name, c) :: r)) else pure (ForInStep.yield r) : Sem (ForInStep (List (Str × Addr))))) = pure (closL env names acc) := by
    intro names
    induction names with
    | nil => intro acc _; rfl
    | cons y r ih =>
      intro acc hy
      rw [List.forIn_cons]
      obtain ⟨n, k⟩ := y
      by_cases hk : (k == .free) = true
      · have hs := hy (n, k) (.head _) (by simpa using hk)
        obtain ⟨c, hc⟩ := Option.isSome_iff_exists.mp hs
        have e1 : cellOf env n = pure c := by unfold cellOf; simp only at hc; rw [hc]
        simp only [hk, if_true, e1, pure_bind]
        rw [ih _ fun z hz => hy z (.tail _ hz)]
        unfold closL
        simp only at hc
        simp [List.filter_cons, hk, hc]
      · simp only [hk, if_false, pure_bind, Bool.false_eq_true]
        rw [ih _ fun z hz => hy z (.tail _ hz)]
        unfold closL
        simp [List.filter_cons, hk]
  have := key scope.names [] h
  simpa using this
theorem closL_mem {env : Env} {names : List (Str × NameKind)} {n : Str} {c : Addr} (h : (n, c) ∈ closL env names []) (hs : ∀ y ∈ names, y.2 = .free → (env.cells.lookup y.1).isSome = true) : env.cells.lookup n = some c ∧ (n, NameKind.free) ∈ names := by
  unfold closL at h
  simp only [List.append_nil, List.mem_map, List.mem_reverse, List.mem_filter] at h
  obtain ⟨⟨n', k⟩, ⟨hm, hk⟩, e⟩ := h
  simp only [Prod.mk.injEq] at e
  have hk' : k = .free := by simpa using hk
  subst hk'
  obtain ⟨rfl, e2⟩ := e
  obtain ⟨c', hc⟩ := Option.isSome_iff_exists.mp (hs _ hm rfl)
  simp only at hc
  rw [hc] at e2 ⊢
  exact ⟨by rw [← e2]; rfl, hm⟩
theorem closL_has {env : Env} {names : List (Str × NameKind)} {n : Str} (h : (n, NameKind.free) ∈ names) : (List.lookup n (closL env names [])).isSome = true := by
  have hm : (n, (env.cells.lookup n).getD 0) ∈ closL env names [] := by
    unfold closL
    simp only [List.append_nil, List.mem_map, List.mem_reverse, List.mem_filter]
    exact ⟨(n, .free), ⟨h, by simp⟩, rfl⟩
  generalize closL env names [] = l at hm
  induction l with
  | nil => cases hm
  | cons z l ih =>
    show (List.lookup n ((z.1, z.2) :: l)).isSome = true
    rw [List.lookup_cons]
    by_cases hx : n == z.1
    · simp [hx]
    · simp only [hx]
      rcases List.mem_cons.mp hm with e | hm
      · exact absurd (by rw [← e]; simp) hx
      · exact ih hm
noncomputable abbrev cEnv (scope : Scope) (C : Addr) (env : Env) : Env := compEnvC scope (closL env scope.names []) C env
theorem relabel_lookup {env : Env} : ∀ {names : List (Str × NameKind)} {x : Str},
    (names.map fun (n, k) => if (k == NameKind.free && env.scope.kind == .function && env.kindOf n == some .cell) then (n, NameKind.cell) else (n, k)).lookup x =
      (names.lookup x).map fun k => if (k == NameKind.free && env.scope.kind == .function && env.kindOf x == some .cell) then NameKind.cell else k
  | [], _ => rfl
  | (n, k) :: r, x => by
    have ih := @relabel_lookup env r x
    show List.lookup x ((if (k == NameKind.free && env.scope.kind == .function && env.kindOf n == some .cell) = true then (n, NameKind.cell) else (n, k)) :: _) = _
    cases hx : x == n with
    | true =>
      have e : x = n := by simpa using hx
      subst e
      by_cases hc : (k == NameKind.free && env.scope.kind == .function && env.kindOf x == some .cell) = true
      · rw [if_pos hc]; simp only [List.lookup_cons, beq_self_eq_true, Option.map_some]; rw [if_pos hc]
      · rw [if_neg hc]; simp only [List.lookup_cons, beq_self_eq_true, Option.map_some]; rw [if_neg hc]
    | false =>
      by_cases hc : (k == NameKind.free && env.scope.kind == .function && env.kindOf n == some .cell) = true
      · rw [if_pos hc]; simp only [List.lookup_cons, hx]; exact ih
      · rw [if_neg hc]; simp only [List.lookup_cons, hx]; exact ih
theorem cKind {scope : Scope} {C : Addr} {env : Env} {x : Str} : (cEnv scope C env).kindOf x = (scope.names.lookup x).map fun k => if (k == NameKind.free && env.scope.kind == .function && env.kindOf x == some .cell) then NameKind.cell else k := by
  unfold Env.kindOf
  exact relabel_lookup
noncomputable def vC (scope : Scope) (v m : Str → Option Value) : Str → Option Value := fun x => if scope.names.lookup x = some .free then v x else m x

section
variable {prog : Program} {w : World} {A : Around} {E : Value → Shared → Prop} {s₀ s s₁ : Shared} {env : Env} {v m : Str → Option Value} {ls : List (Addr × Ent)} {P P' Pa Pb : VP} {t : Sem Value} {Q : Flow → Shared → Prop} {rest : List Stmt} {scope : Scope} {C : Addr} {mg mb tokf : Str → Option Value}

theorem kind_cell (hc : CompOk scope env) {x : Str} (h : (cEnv scope C env).kindOf x = some .cell) : (x, NameKind.free) ∈ scope.names ∧ scope.names.lookup x = some .free := by
  rw [cKind] at h
  cases e : scope.names.lookup x with
  | none => rw [e] at h; cases h
  | some k =>
    rw [e] at h
    simp only [Option.map_some, Option.some.injEq] at h
    split at h
    · rename_i hb
      have hk : k = .free := by
        have := (Bool.and_eq_true_iff.mp (Bool.and_eq_true_iff.mp hb).1).1
        simpa using this
      subst hk
      exact ⟨mem_of_lookup' e, rfl⟩
    · exact absurd h (hc.cell _ (mem_of_lookup' e))
theorem kind_local {x : Str} (h : (cEnv scope C env).kindOf x = some .local) : scope.names.lookup x = some .local := by
  rw [cKind] at h
  cases e : scope.names.lookup x with
  | none => rw [e] at h; cases h
  | some k =>
    rw [e] at h
    simp only [Option.map_some, Option.some.injEq] at h
    split at h
    · cases h
    · rw [h]
theorem of_local {x : Str} (h : scope.names.lookup x = some .local) : (cEnv scope C env).kindOf x = some .local := by
  rw [cKind, h]; rfl
theorem of_glob {x : Str} (h : scope.names.lookup x = some .globalImplicit) : (cEnv scope C env).kindOf x = some .globalImplicit := by
  rw [cKind, h]; rfl
theorem of_free (hf : env.scope.kind = .function) (hc : CompOk scope env) {x : Str} (h : scope.names.lookup x = some .free) : (cEnv scope C env).kindOf x = some .cell := by
  have := hc.free _ (mem_of_lookup' h) rfl
  rw [cKind, h]
  simp only [Option.map_some, hf] at this ⊢
  rw [this]; rfl

theorem St.comp (h : St s₀ env v ls s) (hc : CompOk scope env) (k : Keeps s s₁) (hn : s₁.heap.Ns C m) (hC : s.heap.get? C = none) : St s₀ (cEnv scope C env) (vC scope v m) ls s₁ := by
  have hs : ∀ y ∈ scope.names, y.2 = .free → (env.cells.lookup y.1).isSome = true := fun y hy e => h.cx _ (hc.free y hy e)
  have hk := h.keeps k
  exact
    { fn := hc.kind
      base := hk.base
      ns := ⟨m, hn, fun x hx => by
        have := kind_local hx
        unfold vC; rw [if_neg]; rw [this]; intro e; cases e⟩
      cl := fun n c a b => by
        obtain ⟨hm, hl⟩ := kind_cell hc b
        unfold vC; rw [if_pos hl]
        exact hk.cl n c (closL_mem (mem_of_lookup' a) hs).1 (hc.free _ hm rfl)
      cx := fun n hn => closL_has (kind_cell hc hn).1
      fl := kNone h.base hC
      fc := fun n c hm => h.fc n c (mem_of_lookup' (closL_mem hm hs).1)
      ca := by
        show (closL env scope.names []).Pairwise _
        have hnd : (closL env scope.names []).Pairwise fun x y => x.1 ≠ y.1 := by
          unfold closL
          rw [List.append_nil, List.pairwise_map, List.pairwise_reverse]
          have : scope.names.Pairwise fun a b => a.1 ≠ b.1 := by
            have := hc.nodup
            unfold List.Nodup at this
            rwa [List.pairwise_map] at this
          exact (this.filter _).imp fun h => Ne.symm h
        refine List.Pairwise.imp_of_mem (fun {a b} ha hb hne e => hne ?_) hnd
        have ha' := (closL_mem (n := a.1) (c := a.2) ha hs).1
        have hb' := (closL_mem (n := b.1) (c := b.2) hb hs).1
        exact name_of_addr h.ca (mem_of_lookup ha') (e ▸ mem_of_lookup hb')
      le := hk.le
      nd := h.nd }
theorem St.but {h' : Heap} {t : Nat} {a : Addr} (h : St s₀ env v ls s) (hx : Heap.ExtBut a s.heap h') (n0 : s₀.heap.get? a = none) (nl : env.locals ≠ a) (nc : ∀ n c, env.cells.lookup n = some c → env.kindOf n = some .cell → c ≠ a) (ne : ∀ p ∈ ls, p.1 ≠ a) : St s₀ env v ls { s with heap := h', toks := t } := by
  obtain ⟨m, hn, hm⟩ := h.ns
  exact
    { fn := h.fn
      base := by
        obtain ⟨h1, t1, rfl, k⟩ := h.base
        exact ⟨h', t, rfl, fun b o e1 => hx b o (by rintro rfl; rw [n0] at e1; cases e1) (k b o e1)⟩
      ns := ⟨m, hn.extBut hx nl, hm⟩
      cl := fun n c x y => let ⟨o, ho, hd⟩ := h.cl n c x y; ⟨o, hx c o (nc n c x y) ho, hd⟩
      cx := h.cx
      fl := h.fl
      fc := h.fc
      ca := h.ca
      le := fun p hp => ⟨Ent.at_ext (fun o e1 => hx _ o (ne p hp) e1) (h.le p hp).1, (h.le p hp).2⟩
      nd := h.nd }

structure GenEnv (env : Env) : Prop where
  globals : env.globals = mainGlobals
  builtins : env.builtins = builtinsNs
theorem EnvIs.gen {i : Nat} (h : EnvIs i env) : GenEnv env := ⟨h.globals, h.builtins⟩
theorem cloc {x : Str} {u : Value} (hS : St s₀ (cEnv scope C env) (vC scope v m) ls s) (hk : scope.names.lookup x = some .local) (hm : m x = some u) : Var prog w A (cEnv scope C env) s x u :=
  hS.local (of_local hk) (by unfold vC; rw [if_neg (by rw [hk]; intro e; cases e)]; exact hm)
theorem cfree {x : Str} {u : Value} (hf : env.scope.kind = .function) (hc : CompOk scope env) (hS : St s₀ (cEnv scope C env) (vC scope v m) ls s) (hk : scope.names.lookup x = some .free) (hm : v x = some u) : Var prog w A (cEnv scope C env) s x u :=
  hS.cell (of_free hf hc hk) (by unfold vC; rw [if_pos hk]; exact hm)
theorem cglob {x : Str} {u : Value} (W : Wd prog w mg mb tokf s.heap) (hc : CompOk scope env) (hg : GenEnv env) (hk : scope.names.lookup x = some .globalImplicit) (hm : mg x = some u) : Var prog w A (cEnv scope C env) s x u :=
  varGlobal hc.kind (of_glob hk) hg.globals W.g hm
theorem cglobB {x : Str} {u : Value} (W : Wd prog w mg mb tokf s.heap) (hc : CompOk scope env) (hg : GenEnv env) (hk : scope.names.lookup x = some .globalImplicit) (hm : mg x = none ∧ mb x = some u) : Var prog w A (cEnv scope C env) s x u :=
  varBuiltin hc.kind (of_glob hk) hg.globals hg.builtins W.g hm.1 W.b hm.2
theorem CompOk.of {i : Nat} (hE : EnvIs i env) (h1 : scope.kind = .function) (h2 : (scope.names.all fun y => y.2 != .cell && (y.2 != .free || (fs i).names.lookup y.1 == some .cell)) = true) (h3 : (scope.names.map (·.1)).Nodup) : CompOk scope env where
  kind := h1
  nodup := h3
  cell := fun y hy e => by
    have := List.all_eq_true.mp h2 y hy
    rw [e] at this; simp at this
  free := fun y hy e => by
    have := List.all_eq_true.mp h2 y hy
    rw [e] at this
    exact hE.kind (by simpa using this)
theorem CompOk.nofree (h1 : scope.kind = .function) (h2 : (scope.names.all fun y => y.2 != .cell && y.2 != .free) = true) (h3 : (scope.names.map (·.1)).Nodup) : CompOk scope env where
  kind := h1
  nodup := h3
  cell := fun y hy e => by
    have := List.all_eq_true.mp h2 y hy
    rw [e] at this; simp at this
  free := fun y hy e => by
    have := List.all_eq_true.mp h2 y hy
    rw [e] at this; simp at this

theorem evTests_nil : EvB prog w A (Tests [] env) s true := fun s' _ Q E hQ => wpAny_tests_nil (hQ _ (kRefl _))
theorem evTests_one {c : Expr} {b : Bool} (h : EvB prog w A (isTrue c env (eval c env)) s b) : EvB prog w A (Tests [c] env) s b := fun s' k Q E hQ => wpAny_tests_one (h s' k Q E hQ)
end

section
variable (prog : Program) (w : World) (A : Around) (env : Env) (s : Shared)
noncomputable def Made (e : Expr) (gens : List Comprehension) (scope : Scope) (pos : Pos) (Z : List Value → Prop) : Prop :=
  ∀ s', Keeps s s' → ∀ (use : Option (Value → Sem Unit)) (Q E : Value → Shared → Prop),
    (∀ zs D C s2 m, Z zs → Keeps s' s2 → s'.heap.get? D = none → s'.heap.get? C = none → D ≠ C → s2.heap.PlainList D zs.toArray → s2.heap.Ns C m → compPost (model prog w) A E use Q (.ref D) C (.ok .next) s2) →
    wpAny (model prog w) A (comprehension e scope env (firstIterPos gens pos) (newList []) (firstAsync gens) (firstIter gens env) use) Q E s'
end

section
variable {prog : Program} {w : World} {A : Around} {E : Value → Shared → Prop} {s₀ s s₁ : Shared} {env : Env} {v m : Str → Option Value} {ls : List (Addr × Ent)} {P P' Pa Pb : VP} {t : Sem Value} {Q : Flow → Shared → Prop} {rest : List Stmt} {scope : Scope} {C : Addr} {Z : List Value → Prop} {elt : Expr} {gens : List Comprehension} {pos : Pos}

theorem ev_made (h : Made prog w A env s (.ListComp elt gens scope pos) gens scope pos Z) : Ev prog w A (eval (.ListComp elt gens scope pos) env) s (fun u s' => ∃ zs, NewL s zs u s' ∧ Z zs) := fun s' k Q E hQ => by
  rw [eval_ListComp]
  refine h s' k none Q E fun zs D C s2 m hz k2 hD hC dc hl hn => ⟨m, hn, fun h' hs' => ?_⟩
  have k3 : Keeps s' { s2 with heap := h' } := by
    obtain ⟨h2, t2, rfl, kk⟩ := k2
    exact ⟨h', t2, rfl, fun b o e => hs'.extBut b o (by rintro rfl; rw [hC] at e; cases e) (kk b o e)⟩
  exact hQ _ _ k3 ⟨zs, ⟨D, rfl, hl.at fun o e => hs'.extBut _ o dc e, kNone k hD⟩, hz⟩
theorem swaps_true {x : Str} {px : Pos} {line : Nat} (hf : env.scope.kind = .function) (hk : env.kindOf x = some .local) (hp : (px.line == pos.line) = true) (hn : (scope.names.any fun y => y.1 == x && (y.2 == .local || y.2 == .cell)) = false) :
    swapsWith (.ListComp elt gens scope pos) (some (.Name x px)) line env = pure true := by
  have e : swapsWith (.ListComp elt gens scope pos) (some (.Name x px)) line env = pure (env.blockKind == .function && env.kindOf x == some .local && px.line == pos.line && !(scope.names.any fun y => y.1 == x && (y.2 == .local || y.2 == .cell))) := rfl
  rw [e, hk, hp, hn]
  unfold Env.blockKind
  rw [hf]; rfl
theorem swaps_cell {x : Str} {px : Pos} {line : Nat} (hk : env.kindOf x = some .cell) :
    swapsWith (.ListComp elt gens scope pos) (some (.Name x px)) line env = pure false := by
  have e : swapsWith (.ListComp elt gens scope pos) (some (.Name x px)) line env = pure (env.blockKind == .function && env.kindOf x == some .local && px.line == pos.line && !(scope.names.any fun y => y.1 == x && (y.2 == .local || y.2 == .cell))) := rfl
  rw [e, hk]
  have : ((some NameKind.cell) == some .local) = false := rfl
  rw [this]; simp
theorem St.storeL2 (h : St s₀ env v ls s) {x : Str} {u : Value} (hk : env.kindOf x = some .local) {Q : Unit → Shared → Prop} (hQ : ∀ h', St s₀ env (upd v x u) ls { s with heap := h', toks := s.toks + 1 } → Heap.SameBut env.locals s.heap h' → Q () { s with heap := h', toks := s.toks + 1 }) : wpAny (model prog w) A (storeName env x u) Q E s := by
  obtain ⟨m, hn, hm⟩ := h.ns
  refine wpAny_storeName_local hk hn (fun h' hn' hs => hQ _ ?_ hs) (by rw [h.fn]; rfl)
  exact
    { fn := h.fn
      base := kBut h.base hs h.fl
      ns := ⟨_, hn', fun y hy => by
        unfold upd
        by_cases e : y = x
        · simp [e]
        · simp only [if_neg e]; exact hm y hy⟩
      cl := fun n c a b => by
        have hne : n ≠ x := fun e => by rw [e, hk] at b; cases b
        rw [upd_ne hne]
        exact (h.cl n c a b).sameBut hs (Ne.symm (ns_ne_cell hn (h.cl n c a b)))
      cx := h.cx
      fl := h.fl
      fc := h.fc
      ca := h.ca
      le := fun p hp => ⟨Ent.at_ext (fun o e => hs.extBut _ o (Ent.ne_ns (h.le p hp).1 hn) e) (h.le p hp).1, (h.le p hp).2⟩
      nd := h.nd }
theorem x_made {x : Str} {px spos : Pos} (h : St s₀ env v ls s) (hm : Made prog w A env s (.ListComp elt gens scope pos) gens scope pos Z) (hk : env.kindOf x = some .local) (hp : (px.line == pos.line) = true)
    (hn : (scope.names.any fun y => y.1 == x && (y.2 == .local || y.2 == .cell)) = false)
    (k : ∀ zs D s'', Z zs → St s₀ env (upd v x (.ref D)) ((D, .lst zs) :: ls) s'' → wpAny (model prog w) A (execs rest env) Q E s'') :
    wpAny (model prog w) A (execs (.Assign [.Name x px] (.ListComp elt gens scope pos) spos :: rest) env) Q E s := by
  refine wpAny_execs_cons ?_
  rw [exec_Assign_Name_used _ _ _ _ (swaps_true h.fn hk hp hn)]
  refine wpAny_bind (wpAny_standAt (wpAny_bind ?_))
  show wpAny _ A (do let _ ← comprehension (.ListComp elt gens scope pos) scope env (firstIterPos gens pos) (newList []) (firstAsync gens) (firstIter gens env) (some (assign (.Name x px) env))) _ _ s
  refine wpAny_bind (wpAny_mono (hm s (kRefl s) (some (assign (.Name x px) env)) (fun _ s' => wpAny (model prog w) A (execs rest env) Q E s') E fun zs D C s2 m hz k2 hD hC dc hl hnC => ?_) (fun _ s' hq => wpAny_pure (wpAny_pure hq)) fun _ _ e => e)
  have hS : St s₀ env v ((D, .lst zs) :: ls) s2 := h.add (e := .lst zs) k2 hD hl
  show wpAny _ A (assign (.Name x px) env (.ref D)) _ _ _
  have neC : ∀ a, (∃ o, s.heap.get? a = some o) → a ≠ C := fun a ⟨o, ho⟩ e => by rw [e, hC] at ho; cases ho
  obtain ⟨ml, hnl, _⟩ := h.ns
  have hLC : env.locals ≠ C := neC _ (let ⟨o, _, _, ho, _⟩ := hnl; ⟨o, ho⟩)
  refine wpAny_assign_Name (hS.storeL2 hk fun h3 h3S hs3 => ⟨m, hnC.sameBut hs3 (Ne.symm hLC), fun h4 hs4 => ?_⟩)
  refine k zs D _ hz (St.but h3S hs4.extBut (kNone h.base hC) hLC (fun n c a b => neC c ?_) fun p hp => ?_)
  · obtain ⟨o, ho, _⟩ := h.cl n c a b; exact ⟨o, ho⟩
  · rcases List.mem_cons.mp hp with rfl | hp
    · exact dc
    · obtain ⟨o, ho, _⟩ := Ent.live (h.le p hp).1; exact neC _ ⟨o, ho⟩

section
variable {x x1 : Str} {px px1 : Pos} {iter iter1 : Expr} {ifs : List Expr} {n n1 : Nat} {Pi Pj : Nat → Value → Prop} {p : Nat → Bool} {R : Nat → Value → Prop} {R2 : Nat × Nat → Value → Prop}

theorem asg_name {B : (Str → Option Value) → Prop} {M : Nat → (Str → Option Value) → Prop} (hc : CompOk scope env) (hx : scope.names.lookup x = some .local) (hB : ∀ m u, B m → B (fun z => if z = x then some u else m z))
    (hM : ∀ i m u, i < n → Pi i u → B m → M i (fun z => if z = x then some u else m z)) : TurnA prog w A B s C (.Name x px) (cEnv scope C env) n Pi M where
  asg := fun i u s' m hi hP hn hb k Q E hQ => wpAny_assign_Name (wpAny_storeName_local (of_local hx) hn (fun h' hn' hs => hQ h' _ _ hn' (hB _ _ hb) (hM i m u hi hP hb) fun b o hb e => hs.extBut b o hb e) (by
    show (scope.kind == .class || (scope.kind == .module && _)) = false
    rw [hc.kind]; rfl))

theorem made1 (h : St s₀ env v ls s) (hc : CompOk scope env) (hx : scope.names.lookup x = some .local) (hsz : n ≤ sizeLine) (hit : Ev prog w A (eval iter env) s Pa) (hsrc : ∀ u s', Keeps s s' → Pa u s' → Src prog w A (.Name x px) u s' n Pi)
    (tst : ∀ C m u i s₁, i < n → Pi i u → m x = some u → Keeps s s₁ → St s₀ (cEnv scope C env) (vC scope v m) ls s₁ → EvB prog w A (Tests ifs (cEnv scope C env)) s₁ (p i))
    (el : ∀ C m u i s₁, i < n → p i = true → Pi i u → m x = some u → Keeps s s₁ → St s₀ (cEnv scope C env) (vC scope v m) ls s₁ → Ev prog w A (eval elt (cEnv scope C env)) s₁ (fun u _ => R i u))
    (hs : ∀ x, foldedSetIterable iter env x = pure x := by walk_at "xa") :
    Made prog w A env s (.ListComp elt [⟨.Name x px, iter, ifs, 0⟩] scope pos) [⟨.Name x px, iter, ifs, 0⟩] scope pos (Al R ((List.range n).filter p)) := fun s' k use Q E hQ => by
  have h' := h.keeps k
  refine comp_enter (g := ⟨.Name x px, iter, ifs, 0⟩) (gs := []) hs rfl (closureFor_eq fun y hy e => h.cx _ (hc.free y hy e)) hc.cell hc.kind (fun y hy e => (lookup_mem_nodup hc.nodup hy).trans (by rw [e])) (hit.later k) (fun v' s'' k' pv => hsrc v' s'' (kTrans k k') pv) fun I D C fp Wst s1 W hlet F hI hst big => ?_
  refine loop0 (M := fun i m => ∃ u, Pi i u ∧ m x = some u) (turn_list elt (.Name x px) iter ifs scope pos) hlet
    { toTurnA := asg_name hc hx (fun _ _ _ => trivial) fun i m u hi hP _ => ⟨u, hP, if_pos rfl⟩
      tst := fun i s2 m hi ⟨u, hP, hm⟩ hn k2 => tst C m u i s2 hi hP hm (kTrans k k2) (h'.comp hc k2 hn F.c)
      el := fun i s2 m hi hp ⟨u, hP, hm⟩ hn k2 => (el C m u i s2 hi hp hP hm (kTrans k k2) (h'.comp hc k2 hn F.c)).op } F W hI hst (by simpa using hsz) fun zs s2 hz hI2 => ?_
  obtain ⟨m, hn, _⟩ := hI2.ns
  exact hQ zs D C s2 m hz (hI2.keeps F) F.d F.c F.dc (by simpa using hI2.acc) hn
theorem made1T {y : Str} {py tp : Pos} {kk : Nat} {us : List (Value × Value)} {as : List Addr} (hA : A.handled = none) (h : St s₀ env v ls s) (hc : CompOk scope env) (hx : scope.names.lookup x = some .local) (hy : scope.names.lookup y = some .local) (hxy : ¬ x = y) (hsz : n ≤ sizeLine) (hit : Ev prog w A (eval iter env) s Pa)
    (hsrc : ∀ u s', Keeps s s' → Pa u s' → Src prog w A (.Tuple [.Name x px, .Name y py] kk tp) u s' n Pi)
    (hP : ∀ i u s', i < n → Pi i u → Keeps s s' → ∃ T q, u = .ref T ∧ us[i]? = some q ∧ s'.heap.IsTuple T #[q.1, q.2])
    (tst : ∀ C m q i s₁, i < n → us[i]? = some q → m x = some q.1 → m y = some q.2 → Keeps s s₁ → St s₀ (cEnv scope C env) (vC scope v m) ls s₁ → EvB prog w A (Tests ifs (cEnv scope C env)) s₁ (p i))
    (el : ∀ C m q i s₁, i < n → p i = true → us[i]? = some q → m x = some q.1 → m y = some q.2 → Keeps s s₁ → St s₀ (cEnv scope C env) (vC scope v m) ls s₁ → Ev prog w A (eval elt (cEnv scope C env)) s₁ (fun u _ => R i u))
    (hs : ∀ x, foldedSetIterable iter env x = pure x := by walk_at "xa") :
    Made prog w A env s (.ListComp elt [⟨.Tuple [.Name x px, .Name y py] kk tp, iter, ifs, 0⟩] scope pos) [⟨.Tuple [.Name x px, .Name y py] kk tp, iter, ifs, 0⟩] scope pos (Al R ((List.range n).filter p)) := fun s' k use Q E hQ => by
  have h' := h.keeps k
  refine comp_enter (g := ⟨.Tuple [.Name x px, .Name y py] kk tp, iter, ifs, 0⟩) (gs := []) hs rfl (closureFor_eq fun y hy e => h.cx _ (hc.free y hy e)) hc.cell hc.kind (fun y hy e => (lookup_mem_nodup hc.nodup hy).trans (by rw [e])) (hit.later k) (fun v' s'' k' pv => hsrc v' s'' (kTrans k k') pv) fun I D C fp Wst s1 W hlet F hI hst big => ?_
  refine loop0 (M := fun i m => ∃ q, us[i]? = some q ∧ m x = some q.1 ∧ m y = some q.2) (turn_list elt (.Tuple [.Name x px, .Name y py] kk tp) iter ifs scope pos) hlet
    { asg := fun i u s2 m hi hPi hn hb k2 Q E hQ => by
        obtain ⟨T, q, rfl, hq, hT⟩ := hP i u s2 hi hPi (kTrans k k2)
        refine PySem.W.kcp_assign hA hT (of_local hx) (of_local hy) (by
          show (scope.kind == .class || (scope.kind == .module && _)) = false
          rw [hc.kind]; rfl) hn fun h2 tk hn2 hk2 => hQ h2 tk _ hn2 trivial ⟨q, hq, by rw [if_neg hxy, if_pos rfl], if_pos rfl⟩ hk2
      tst := fun i s2 m hi ⟨q, hq, hmx, hmy⟩ hn k2 => tst C m q i s2 hi hq hmx hmy (kTrans k k2) (h'.comp hc k2 hn F.c)
      el := fun i s2 m hi hp ⟨q, hq, hmx, hmy⟩ hn k2 => (el C m q i s2 hi hp hq hmx hmy (kTrans k k2) (h'.comp hc k2 hn F.c)).op } F W hI hst (by simpa using hsz) fun zs s2 hz hI2 => ?_
  obtain ⟨m, hn, _⟩ := hI2.ns
  exact hQ zs D C s2 m hz (hI2.keeps F) F.d F.c F.dc (by simpa using hI2.acc) hn

theorem codeAny_compStart_list1 {g : Comprehension} {tg : Expr} {it acc : Value} {RR : Result → Shared → Prop}
    (h0 : codeAny (model prog w) A (.compLoop (.ListComp elt [g, ⟨tg, iter, ifs, 0⟩] scope pos) 1 it acc env) RR s)
    (h : wpAny (model prog w) A (pyIter it) (fun it' s' => codeAny (model prog w) A (.compLoop (.ListComp elt [g, ⟨tg, iter, ifs, 0⟩] scope pos) 1 it' acc env) RR s')
      (notedBy (model prog w) A env fun x s' => RR (.error x) s') s) :
    codeAny (model prog w) A (.compStart (.ListComp elt [g, ⟨tg, iter, ifs, 0⟩] scope pos) 1 it acc env) RR s := by
  refine codeAny_of_tree ?_
  show wpAny _ _ ((compStart (.ListComp elt [g, ⟨tg, iter, ifs, 0⟩] scope pos) 1 it acc env).onRaise (fun x => do noteFrame x env; standAt theWindowsPlace)) _ _ s
  refine wpAny_notedAt ?_
  unfold compStart
  show wpAny _ _ (ask >>= _) _ _ s
  refine wpAny_bind (wpAny_askSetting (wpAny_ite ?_))
  split
  · first
      | exact wpAny_bind (wpAny_pure (wpAny_pure (And.intro rfl h0)))
      | exact wpAny_pure (And.intro rfl h0)
  · first
      | exact wpAny_bind (wpAny_rule (wpAny_bind (wpAny_standAt (wpAny_bind (wpAny_mono h (fun it' s' h' => wpAny_pure (And.intro rfl h')) fun _ _ x => x)))))
      | (refine wpAny_bind (wpAny_rule ?_); show wpAny _ _ (standAt iter.pos >>= _) _ _ s; exact wpAny_bind (wpAny_standAt (wpAny_bind (wpAny_mono h (fun it' s' h' => wpAny_pure (And.intro rfl h')) fun _ _ x => x))))
noncomputable def pairs (n1 i : Nat) : List (Nat × Nat) := (List.range i).flatMap fun a => (List.range n1).map fun b => (a, b)
theorem pairs_len {n1 i : Nat} : (pairs n1 i).length = i * n1 := by
  unfold pairs
  induction i with
  | zero => simp
  | succ i ih => rw [List.range_succ, List.flatMap_append, List.length_append, ih]; simp [Nat.succ_mul]
theorem pairs_succ {n1 i : Nat} : pairs n1 (i + 1) = pairs n1 i ++ (List.range n1).map fun b => (i, b) := by
  unfold pairs; rw [List.range_succ, List.flatMap_append]; simp
theorem al_map {α β : Type} {R : β → Value → Prop} {f : α → β} {xs : List α} {zs : List Value} (h : Al (fun a u => R (f a) u) xs zs) : Al R (xs.map f) zs := by
  induction h with
  | nil => exact .nil
  | cons r _ ih => exact .cons r ih
theorem made2 {t1 : Str} (hA : A.handled = none) (h : St s₀ env v ls s) (hc : CompOk scope env) (hx : scope.names.lookup x = some .local) (hx1 : scope.names.lookup x1 = some .local) (hxx : ¬ x = x1) (hsz : n * n1 ≤ sizeLine) (hn1 : n1 = t1.cps.size)
    (hit : Ev prog w A (eval iter env) s Pa) (hsrc : ∀ u s', Keeps s s' → Pa u s' → Src prog w A (.Name x px) u s' n Pi)
    (hit1 : ∀ C s₁, Ev prog w A (eval iter1 (cEnv scope C env)) s₁ (IsS t1))
    (el : ∀ C m u u1 i j s₁, i < n → j < n1 → Pi i u → SignAt t1 j u1 → m x = some u → m x1 = some u1 → Keeps s s₁ → St s₀ (cEnv scope C env) (vC scope v m) ls s₁ → Ev prog w A (eval elt (cEnv scope C env)) s₁ (fun u _ => R2 (i, j) u))
    (hs : ∀ x, foldedSetIterable iter env x = pure x := by walk_at "xa") (hs1 : ∀ env x, foldedSetIterable iter1 env x = pure x := by walk_at "xa") :
    Made prog w A env s (.ListComp elt [⟨.Name x px, iter, [], 0⟩, ⟨.Name x1 px1, iter1, [], 0⟩] scope pos) [⟨.Name x px, iter, [], 0⟩, ⟨.Name x1 px1, iter1, [], 0⟩] scope pos (Al R2 (pairs n1 n)) := fun s' k use Q E hQ => by
  subst hn1
  have h' := h.keeps k
  refine comp_enter (g := ⟨.Name x px, iter, [], 0⟩) (gs := [⟨.Name x1 px1, iter1, [], 0⟩]) hs rfl (closureFor_eq fun y hy e => h.cx _ (hc.free y hy e)) hc.cell hc.kind (fun y hy e => (lookup_mem_nodup hc.nodup hy).trans (by rw [e])) (hit.later k) (fun v' s'' k' pv => hsrc v' s'' (kTrans k k') pv) fun I D C fp Wst s1 W hlet F hI hst big => ?_
  refine codeAny_loop rfl (fun kk s2 => ∃ i zs, i ≤ n ∧ kk = n - i ∧ Al R2 (pairs t1.cps.size i) zs ∧ CI (fun _ => True) s1 I D C zs s2 ∧ Wst i s2.heap) ?_ n ⟨0, [], Nat.zero_le _, rfl, by simpa [pairs] using Al.nil, hI, hst⟩
  rintro kk s2 ⟨i, zs, hle, rfl, hz, hI, hst⟩
  show wpAny _ A ((compTurn (.ListComp elt [⟨.Name x px, iter, [], 0⟩, ⟨.Name x1 px1, iter1, [], 0⟩] scope pos) 0 (.ref I) (.ref D) (cEnv scope C env)).onRaise (fun x => do noteFrame x (cEnv scope C env); theTreesLotGoes x)) _ _ s2
  refine wpAny_noted ?_
  rw [compTurn_outer]
  refine wpAny_bind (wpAny_standAt (wpAny_bind (turn_next W F hle hI hst (fun u s3 hlt hP hI3 hst3 => ?_) fun s3 e hI3 => ?_)))
  · refine wpAny_bind (hlet (i + 1) _ _ _ _ hst3 (wpAny_bind ?_))
    refine asg_step (M := fun i m => ∃ u, Pi i u ∧ m x = some u) (asg_name hc hx (fun _ _ _ => trivial) fun i m u hi hP _ => ⟨u, hP, if_pos rfl⟩) F W hlt hP hI3 hst3 fun s4 m4 hn4 hM4 hI4 hst4 => ?_
    obtain ⟨u0, hP0, hm0⟩ := hM4
    refine wpAny_bind ((hit1 C s4).use fun u1 s5 k5 p5 => wpAny_bind (wpAny_standAt (wpAny_bind ?_)))
    obtain ⟨t, rfl⟩ := p5
    rw [hs1]
    refine wpAny_pure (wpAny_bind (wpAny_holding (wpAny_pyIter_str fun o St2 W2' h02 => ?_)))
    have W2 := W2' A hA
    have kk4 := hI4.keeps F
    have kp : Keeps s5 { s5 with heap := s5.heap.push o } := kPush _ _
    generalize hs6 : ({ s5 with heap := s5.heap.push o } : Shared) = s6 at kp h02 ⊢
    have h02' : St2 0 s6.heap := by rw [← hs6]; exact h02
    have k46 : Keeps s4 s6 := kTrans k5 kp
    have hDI : s4.heap.get? D ≠ none := fun e => by obtain ⟨nn, e2⟩ := hI4.acc; rw [e] at e2; cases e2
    have hCI : s4.heap.get? C ≠ none := fun e => by obtain ⟨o, es, ep, ho, _⟩ := hn4; rw [e] at ho; cases ho
    have nI2 : s4.heap.get? s5.heap.objs.size = none := kNone k5 (get_none_of_push _)
    have dI2 : D ≠ s5.heap.objs.size := fun e => hDI (e ▸ nI2)
    have cI2 : C ≠ s5.heap.objs.size := fun e => hCI (e ▸ nI2)
    have F2 : CF s' s6 [s5.heap.objs.size] s5.heap.objs.size D C := ⟨kTrans kk4 k46, kNone kk4 nI2, F.d, F.c, F.dc, by simpa using dI2, by simpa using cI2, .head _⟩
    have hI6 : CI (fun m => m x = some u0) s6 s5.heap.objs.size D C zs s6 := ⟨⟨_, _, rfl⟩, fun _ _ e _ _ _ => e, hI4.acc.at fun o e => kOld k46 _ o e, ⟨m4, hn4.keeps (kOld k46), hm0⟩⟩
    have hzl : zs.length = i * t1.cps.size := by rw [hz.len, pairs_len]
    have hsz2 : zs.length + t1.cps.size ≤ sizeLine := by
      rw [hzl]
      have : (i + 1) * t1.cps.size ≤ n * t1.cps.size := Nat.mul_le_mul_right _ hlt
      rw [Nat.succ_mul] at this
      omega
    refine wpAny_bind (wpAny_runOwn (codeAny_compStart_list1 ?go (W2.self 0 _ _ _ h02' ?go)))
    refine loop0 (B := fun m => m x = some u0) (M := fun j m => m x = some u0 ∧ ∃ u1, SignAt t1 j u1 ∧ m x1 = some u1) (p := fun _ => true) (R := fun j u => R2 (i, j) u) (turn_list2 elt ⟨.Name x px, iter, [], 0⟩ (.Name x1 px1) iter1 [] scope pos) letOk_name
      { toTurnA := asg_name hc hx1 (fun m u e => (if_neg hxx).trans e) fun j m u hj hPj e => ⟨(if_neg hxx).trans e, u, hPj, if_pos rfl⟩
        tst := fun _ _ _ _ _ _ _ => evTests_nil
        el := fun j s7 m hj _ ⟨hmx, u1, hPj, hm1⟩ hn7 k7 => (el C m u0 u1 i j s7 hlt hj hP0 hPj hmx hm1 (kTrans k k7) (h'.comp hc k7 hn7 F.c)).op } F2 W2 hI6 h02' hsz2 fun zs' s7 hz' hI7 => ?_
    obtain ⟨m7, hn7, _⟩ := hI7.ns
    have ne2 : ∀ b o, s4.heap.get? b = some o → b ≠ s5.heap.objs.size := fun b o e e2 => by rw [e2, nI2] at e; cases e
    refine wpAny_pure ⟨rfl, n - (i + 1), by omega, i + 1, zs ++ zs', hlt, rfl, ?_, ⟨?_, fun b o e hb hc' hd => ?_, hI7.acc, ⟨m7, hn7, trivial⟩⟩, ?_⟩
    · rw [pairs_succ]
      refine hz.append (al_map (f := fun b => (i, b)) ?_)
      have e : (List.range t1.cps.size).filter (fun _ => true) = List.range t1.cps.size := by simp
      rw [e] at hz'; exact hz'
    · obtain ⟨h4', t4', e4⟩ := hI4.same
      obtain ⟨h6', t6', e6, _⟩ := k46
      obtain ⟨h7', t7', e7⟩ := hI7.same
      exact ⟨h7', t7', by rw [e7, e6, e4]⟩
    · have e4 := hI4.old b o e hb hc' hd
      exact hI7.old b o (kOld k46 _ _ e4) (ne2 b o e4) hc' hd
    · exact W.frame _ _ _ hst4 fun b hb o e => hI7.old b o (kOld k46 _ _ e) (ne2 b o e) (fun e2 => F.fc (e2 ▸ hb)) (fun e2 => F.fd (e2 ▸ hb))
  · subst e
    obtain ⟨m, hn, _⟩ := hI3.ns
    exact wpAny_pure (hQ zs D C _ m hz (hI3.keeps F) F.d F.c F.dc hI3.acc hn)
end
end

noncomputable def code (c : Bool) : Nat := if c then 43 else 45
noncomputable def tx (b : List Bool) : Str := ⟨(b.map code).toArray⟩
theorem tx_len (b : List Bool) : (tx b).length = b.length := by
  show (b.map code).toArray.size = _; simp
theorem code_inj {a b : Bool} (h : code a = code b) : a = b := by cases a <;> cases b <;> first | rfl | exact absurd h (by decide)
theorem str_ext {x y : Str} (h : x.cps.toList = y.cps.toList) : x = y := by
  obtain ⟨a⟩ := x; obtain ⟨b⟩ := y
  have : a = b := Array.toList_inj.mp h
  rw [this]
theorem tx_list (b : List Bool) : (tx b).cps.toList = b.map code := by simp [tx]
theorem map_code_inj : ∀ {a b : List Bool}, a.map code = b.map code → a = b
  | [], [], _ => rfl
  | [], _ :: _, h => by simp at h
  | _ :: _, [], h => by simp at h
  | x :: a, y :: b, h => by
    simp only [List.map_cons, List.cons.injEq] at h
    rw [code_inj h.1, map_code_inj h.2]
theorem tx_inj {a b : List Bool} (h : tx a = tx b) : a = b := map_code_inj (by rw [← tx_list, ← tx_list, h])
theorem tx_beq (a b : List Bool) : (tx a == tx b) = decide (a = b) := by
  by_cases h : a = b
  · subst h; simp
  · rw [decide_eq_false h]
    exact beq_eq_false_iff_ne.mpr fun e => h (tx_inj e)
theorem str_append_list (x y : Str) : (x ++ y).cps.toList = x.cps.toList ++ y.cps.toList := by
  show (x.cps ++ y.cps).toList = _; simp
theorem tx_append (a b : List Bool) : tx a ++ tx b = tx (a ++ b) := str_ext (by rw [str_append_list, tx_list, tx_list, tx_list]; simp)
theorem tx_nil : tx [] = "" := by decide +kernel
theorem tx_plus : tx [true] = "+" := by decide +kernel
theorem tx_minus : tx [false] = "-" := by decide +kernel
theorem slice_list (x : Str) (i j : Nat) (h : i ≤ j) (hj : j ≤ x.cps.toList.length) : (Txt.slice x (some i) (some j)).cps.toList = (x.cps.toList.drop i).take (j - i) := by
  have := PyProof.Rows.slice_closes (x := x) (i := i) (j := j) ⟨by lia, by lia, by lia⟩
  rw [beq_iff_eq] at this
  rw [this]
  have e : ((j : Int) - (i : Int)).toNat = j - i := by lia
  simp [e]
theorem slice_list_to (x : Str) (j : Nat) (hj : j ≤ x.cps.toList.length) : (Txt.slice x none (some j)).cps.toList = x.cps.toList.take j := by
  have := PyProof.Rows.slice_closes_to (x := x) (j := j) ⟨by lia, by lia⟩
  rw [beq_iff_eq] at this
  rw [this]
  have e : ((j : Int) - 0).toNat = j := by lia
  simp [e]
theorem slice_list_from (x : Str) (i : Nat) (hj : i ≤ x.cps.toList.length) : (Txt.slice x (some i) none).cps.toList = x.cps.toList.drop i := by
  have := PyProof.Rows.slice_closes_from (x := x) (i := i) ⟨by lia, by lia⟩
  rw [beq_iff_eq] at this
  rw [this]
  have e : (((x.cps.toList.length : Nat) : Int) - (i : Int)).toNat = x.cps.toList.length - i := by lia
  simp only [e, Int.toNat_natCast]
  show ((x.cps.toList.drop i).take (x.cps.toList.length - i)).toArray.toList = _
  rw [List.take_of_length_le (by rw [List.length_drop]; exact Nat.le_refl _)]
theorem tx_slice_to (b : List Bool) (j : Nat) (hj : j ≤ b.length) : Txt.slice (tx b) none (some j) = tx (b.take j) := str_ext (by rw [slice_list_to _ _ (by rw [tx_list]; simpa using hj), tx_list, tx_list, List.map_take])
theorem tx_slice_from (b : List Bool) (j : Nat) (hj : j ≤ b.length) : Txt.slice (tx b) (some j) none = tx (b.drop j) := str_ext (by rw [slice_list_from _ _ (by rw [tx_list]; simpa using hj), tx_list, tx_list, List.map_drop])
theorem tx_get (b : List Bool) (j : Nat) (c : Bool) (h : b[j]? = some c) : (seqIndex? (j : Int) (tx b).length).bind ((tx b).cps[·]?) = some (code c) := by
  have hj : j < b.length := by
    rcases Nat.lt_or_ge j b.length with h1 | h1
    · exact h1
    · rw [List.getElem?_eq_none h1] at h; cases h
  have e : seqIndex? (j : Int) (tx b).length = some j := by
    unfold seqIndex?
    rw [tx_len]
    have h1 : ¬ ((j : Int) < 0) := by lia
    have h2 : (j : Int) < (b.length : Int) := by lia
    simp [h1, h2]
    try lia
  rw [e]
  simp [tx, h]

section
variable {prog : Program} {w : World} {A : Around} {s : Shared} {env : Env}
theorem foldl_append_flat : ∀ (l : List (Array Nat)) (acc : Array Nat), (l.foldl (· ++ ·) acc).toList = acc.toList ++ l.flatMap Array.toList
  | [], acc => by simp
  | x :: l, acc => by rw [List.foldl_cons, foldl_append_flat l]; simp
theorem op_mulS {c : Bool} {n : Nat} {t u : Tok} (h1 : 1 ≤ n) (h2 : n ≤ 1000000) : Op prog w A (binaryOp .Mult (.str (tx [c]) t) (.int n u)) s (IsS (tx (List.replicate n c))) := fun Q E hQ => by
  have hl : (tx [c]).length = 1 := tx_len _
  refine P.mul_str (by
      have a1 : ¬ (n : Int) < -(2 ^ 63 : Int) := by lia
      have a2 : ¬ (n : Int) ≥ 2 ^ 63 := by lia
      rw [decide_eq_false a1, decide_eq_false a2]; rfl) (fun _ _ => ?_) (fun _ _ => ?_) ?_
  · rw [hl]
    have : (n : Int) ≤ 2 ^ 63 - 1 := by lia
    have h3 : 1 ≤ ((2 : Int) ^ 63 - 1) / n := (Int.le_ediv_iff_mul_le (by lia)).mpr (by lia)
    lia
  · rw [hl, Int.toNat_natCast]
    unfold Builtin.Str.tooLong
    rw [sizeLine_eq]
    simp
    lia
  · rw [if_neg (by lia)]
    by_cases hn : n = 1
    · subst hn
      rw [if_pos (by rfl)]
      exact hQ _ _ (kRefl _) ⟨t, rfl⟩
    · rw [if_neg (by rw [hl]; simp; lia)]
      refine ⟨?_, hQ _ _ (kTok _ _) ⟨s.toks, congrArg (fun z => Value.str z s.toks) (str_ext ?_)⟩⟩
      · show (List.foldl (· ++ ·) #[] (List.replicate (n : Int).toNat (tx [c]).cps)).size ≤ _
        rw [← Array.length_toList, foldl_append_flat, Int.toNat_natCast]
        simp [tx, List.length_flatMap]
        rw [sizeLine_eq]; lia
      · show (List.foldl (· ++ ·) #[] (List.replicate (n : Int).toNat (tx [c]).cps)).toList = _
        rw [foldl_append_flat, tx_list, Int.toNat_natCast]
        clear hn h1 h2 hQ
        induction n with
        | zero => rfl
        | succ n ih =>
          rw [List.replicate_succ, List.replicate_succ, List.flatMap_cons, List.map_cons, ← ih]
          simp [tx]
end

noncomputable def worthAt (b : List Bool) : Nat → Int × Int
  | 0 => (0, 16)
  | k + 1 =>
    let (wo, st) := worthAt b k
    let st' := if b.take (k + 1) = List.replicate (k + 1) (b.getD 0 true) then st else st.fdiv 2
    (wo + (if b.getD k true then st' else -st'), st')
noncomputable def worth (b : List Bool) : Int := (worthAt b b.length).1

section
variable {prog : Program} {w : World} {A : Around} {s₀ s : Shared} {env : Env} {mg mb tokf : Str → Option Value} {i : Nat} {v : Str → Option Value} {ls : List (Addr × Ent)}

theorem ct_worth {b : List Bool} {t : Tok} (W : Wd prog w mg mb tokf s.heap) (N : Nm mg mb) (hb : b.length ≤ 1000) : Ct prog w 1 79 ⟨[.str (tx b) t], []⟩ s (IsI (worth b)) := fun A hA R hR => by
  refine enter (by have := hA.depth; lia) W.f59 W.lim (binds := [("number", .str (tx b) t)]) (fun nm qn cd pm doc ct an => BindsTo.of_eq rfl) rfl rfl rfl rfl fun env s₁ hE hS E => ?_
  have hA' := hA.deeper env
  refine x_assignI hS ev_int (isL hE (by decide +kernel)) fun t1 s2 h2 => ?_
  refine x_assignI h2 ev_int (isL hE (by decide +kernel)) fun t2 s3 h3 => ?_
  have W3 := W.st h3
  refine x_forR (n := b.length) (a := 0) hA'.handled h3 (ev_range1 (W3.varB hE rfl (by decide +kernel) N.range) (ev_of_eqI (ev_lenS (W3.varB hE rfl (by decide +kernel) N.len) (ev_nameS (loc hE h3 (by decide +kernel) (by walk_at "lk"))) (by rw [tx_len]; lia)) (by rw [tx_len])) (by lia)) (isL hE (by decide +kernel))
    (fun k v ls => ls = [] ∧ v "number" = some (.str (tx b) t) ∧ (∃ t, v "worth" = some (.int (worthAt b k).1 t)) ∧ ∃ t, v "step" = some (.int (worthAt b k).2 t))
    ⟨rfl, by walk_at "lk", ⟨t1, by walk_at "lk"⟩, t2, by walk_at "lk"⟩ ?_ ?_
  · rintro k v ls it tk s4 hk ⟨rfl, vn, ⟨tw, vw⟩, ts, vs⟩ h4 E
    simp only [Int.zero_add] at h4
    obtain ⟨c, hc⟩ : ∃ c, b[k]? = some c := ⟨b[k], by simp [hk]⟩
    obtain ⟨c0, hc0⟩ : ∃ c, b[0]? = some c := ⟨b[0]'(by lia), by simp [show 0 < b.length by lia]⟩
    have hcD : b.getD k true = c := by simp [List.getD, hc]
    have hc0D : b.getD 0 true = c0 := by simp [List.getD, hc0]
    refine x_cut (fun s' => ∃ v, St s env v [(it, .rit ((k : Int) + 1) ((b.length : Int) - k - 1))] s' ∧ v "number" = some (.str (tx b) t) ∧ v "k" = some (.int k tk) ∧ (∃ t, v "worth" = some (.int (worthAt b k).1 t)) ∧ ∃ t, v "step" = some (.int (worthAt b (k + 1)).2 t)) (fun E => ?_) ?_
    · refine x_if (b := decide (¬ b.take (k + 1) = List.replicate (k + 1) c0)) h4 (evB_of_eq (evB_cmp (Pa := IsS (tx (b.take (k + 1)))) (Pb := IsS (tx (List.replicate (k + 1) c0)))
        (ev_of_eqS (ev_sliceS (hi := some ((k + 1 : Nat) : Int)) (lo := none) (ev_nameS (loc hE h4 (by decide +kernel) (by walk_at "lk"))) evP_none (evP_int (ev_of_eqI (ev_add (ev_nameI (loc hE h4 (by decide +kernel) (by walk_at "lk"))) ev_int) (by lia))) (by rw [tx_len, sizeLine_eq]; lia)) (tx_slice_to b (k + 1) (by lia)))
        (monoS _)
        (ev_bin (Pa := IsS (tx [c0])) (Pb := IsI ((k + 1 : Nat) : Int)) (ev_itemS (k := 0) (c := code c0) (ev_nameS (loc hE h4 (by decide +kernel) (by walk_at "lk"))) ev_int (by decide) (tx_get b 0 c0 hc0)) (monoS _) (ev_of_eqI (ev_add (ev_nameI (loc hE h4 (by decide +kernel) (by walk_at "lk"))) ev_int) (by lia)) fun x y s' _ hx hy => by
          obtain ⟨t, rfl⟩ := hx; obtain ⟨u, rfl⟩ := hy
          exact op_mulS (by lia) (by lia))
        fun x y s' _ hx hy => by
          obtain ⟨t, rfl⟩ := hx; obtain ⟨u, rfl⟩ := hy
          exact op_neS) (by show (!(tx _ == tx _)) = _; rw [tx_beq]; simp)) (fun hb s5 h5 => ?_) (fun hb s5 h5 => ?_)
      · have hb' : ¬ b.take (k + 1) = List.replicate (k + 1) c0 := by simpa using hb
        refine x_aug (P := IsI ((worthAt b k).2.fdiv 2)) h5 (loc hE h5 (by decide +kernel) (by walk_at "lk")) ev_int (fun u s' _ hu => by obtain ⟨t, rfl⟩ := hu; exact op_ifdiv (by decide) (by decide)) (isL hE (by decide +kernel)) fun u s6 k6 p6 => ?_
        obtain ⟨t6, rfl⟩ := p6
        refine ⟨_, h5.keeps k6, fun s7 h7 => x_nil (x_nil ⟨rfl, _, h7, by walk_at "lk", by walk_at "lk", ⟨tw, by walk_at "lk"⟩, t6, ?_⟩)⟩
        rw [upd_same, worthAt]; simp only [hc0D]; rw [if_neg hb']
      · have hb' : b.take (k + 1) = List.replicate (k + 1) c0 := by simpa using hb
        refine x_nil (x_nil ⟨rfl, _, h5, by walk_at "lk", by walk_at "lk", ⟨tw, by walk_at "lk"⟩, ts, ?_⟩)
        rw [upd_ne (by decide +kernel), vs, worthAt]; simp only [hc0D]; rw [if_pos hb']
    · rintro s5 ⟨v, h5, vn, vk, ⟨tw, vw⟩, ts, vs⟩
      have hW1 : (worthAt b (k + 1)).1 = (worthAt b k).1 + (if c then (worthAt b (k + 1)).2 else -(worthAt b (k + 1)).2) := by
        rw [worthAt]; simp only [hcD]
      refine x_aug (P := IsI (worthAt b (k + 1)).1) (Pa := IsI (if c then (worthAt b (k + 1)).2 else -(worthAt b (k + 1)).2)) h5 (loc hE h5 (by decide +kernel) vw) ?_ (fun u s' _ hu => by obtain ⟨t, rfl⟩ := hu; rw [hW1]; exact op_iadd) (isL hE (by decide +kernel)) fun u s6 k6 p6 => ?_
      · have tst : ∀ d : Bool, c = d → (tx [c] == ("+" : Str)) = d := fun d e => by rw [← tx_plus, tx_beq]; subst e; cases c <;> rfl
        cases c with
        | true => exact ev_ifT (evB_of_eq (evB_cmpS (ev_itemS (k := k) (c := code true) (ev_nameS (loc hE h5 (by decide +kernel) vn)) (ev_nameI (loc hE h5 (by decide +kernel) vk)) (by simp; lia) (tx_get b k _ hc)) ev_str fun _ _ _ => op_eqS) (tst _ rfl)) (by simpa using ev_nameI (loc hE h5 (by decide +kernel) vs))
        | false => exact ev_ifF (evB_of_eq (evB_cmpS (ev_itemS (k := k) (c := code false) (ev_nameS (loc hE h5 (by decide +kernel) vn)) (ev_nameI (loc hE h5 (by decide +kernel) vk)) (by simp; lia) (tx_get b k _ hc)) ev_str fun _ _ _ => op_eqS) (tst _ rfl)) (by simpa using ev_neg (ev_nameI (loc hE h5 (by decide +kernel) vs)))
      · obtain ⟨t6, rfl⟩ := p6
        exact ⟨_, h5.keeps k6, fun s7 h7 => x_nil ⟨rfl, _, [], by simpa using h7, rfl, by walk_at "lk", ⟨t6, by walk_at "lk"⟩, ts, by walk_at "lk"⟩⟩
  · rintro v ls s4 ⟨rfl, vn, ⟨tw, vw⟩, ts, vs⟩ h4
    exact x_return (ev_nameI (loc hE h4 (by decide +kernel) vw)) fun u s' k p => hR _ _ (kTrans h4.base k) p
end

theorem St.quiet {s₀ s : Shared} {env : Env} {v : Str → Option Value} {ls : List (Addr × Ent)} (h : St s₀ env v ls s) : interactive env = false := by unfold interactive; rw [h.fn]; rfl
noncomputable def fig (n : Int) (p : Nat) : Int := (n.fdiv (10 ^ p)).fmod 10
noncomputable def coll (x y : Str) : Int := PyProof.Rows.b2i (ltS y x) - PyProof.Rows.b2i (ltS x y)

section
variable {prog : Program} {w : World} {A : Around} {E : Value → Shared → Prop} {s₀ s : Shared} {env : Env} {mg mb tokf : Str → Option Value} {i : Nat} {v : Str → Option Value} {ls : List (Addr × Ent)} {Q : Flow → Shared → Prop} {rest : List Stmt}

theorem pow_small {p : Nat} (hp : p ≤ 5) : ((10 : Int) ^ p).natAbs < 1073741824 ∧ ((10 : Int) ^ p) ≠ 0 ∧ ((Builtin.Int.intBits 10 : Int) * p ≤ 2 ^ 27) := by
  have : p = 0 ∨ p = 1 ∨ p = 2 ∨ p = 3 ∨ p = 4 ∨ p = 5 := by lia
  rcases this with rfl | rfl | rfl | rfl | rfl | rfl <;> decide +kernel
theorem ct_figure {n : Int} {p : Nat} {t u : Tok} (W : Wd prog w mg mb tokf s.heap) (hp : p ≤ 5) : Ct prog w 1 65 ⟨[.int n t, .int p u], []⟩ s (IsI (fig n p)) := fun A hA R hR => by
  obtain ⟨h1, h2, h3⟩ := pow_small hp
  refine enter (by have := hA.depth; lia) W.f57 W.lim (binds := [("number", .int n t), ("place", .int p u)]) (fun nm qn cd pm doc ct an => BindsTo.of_eq rfl) rfl rfl rfl rfl fun env s₁ hE hS E => ?_
  refine x_return (ev_mod (ev_fdiv (ev_nameI (loc hE hS (by decide +kernel) rfl)) (ev_of_eqI (ev_pow ev_int (ev_nameI (i := (p : Int)) (u := u) (loc hE hS (by decide +kernel) rfl)) (by lia) h3) (by rw [Int.toNat_natCast])) h2 h1) ev_int (by decide)) fun u s' k p => hR _ _ (kTrans hS.base k) p
theorem ct_coll {x y : Str} {t u : Tok} (W : Wd prog w mg mb tokf s.heap) : Ct prog w 1 48 ⟨[.str x t, .str y u], []⟩ s (IsI (coll x y)) := fun A hA R hR => by
  refine enter (by have := hA.depth; lia) W.f5 W.lim (binds := [("a", .str x t), ("b", .str y u)]) (fun nm qn cd pm doc ct an => BindsTo.of_eq rfl) rfl rfl rfl rfl fun env s₁ hE hS E => ?_
  refine x_return (ev_bin (P := IsI (coll x y)) (ev_cmpS (ev_nameS (loc hE hS (by decide +kernel) rfl)) (ev_nameS (loc hE hS (by decide +kernel) rfl)) fun _ _ _ => op_gtS) (monoB _)
    (ev_cmpS (ev_nameS (loc hE hS (by decide +kernel) rfl)) (ev_nameS (loc hE hS (by decide +kernel) rfl)) fun _ _ _ => op_ltS) fun a b s' _ ha hb => ?_) fun u s' k p => hR _ _ (kTrans hS.base k) p
  have ha' : a = .bool _ := ha
  have hb' : b = .bool _ := hb
  subst ha' hb'
  exact op_subB

theorem c_insort {bs : List Str} {vs : List Value} {a : Addr} {x : Str} {t : Tok} {r : Nat} (W : Wd prog w mg mb tokf s.heap) (N : Nm mg mb) (hl : s.heap.PlainList a vs.toArray) (hv : Al SV bs vs) (hlen : ∀ y ∈ bs, y.length ≤ 1000000) (hx : x.length ≤ 1000000) (hn : bs.length < 1000)
    (cut : Cut (fun j => ltS (keyS x) (keyS (bs.getD j ""))) 0 r bs.length) (hA : AOk 6 A) {R : Result → Shared → Prop}
    (hR : ∀ s' h', Keeps s s' → Heap.SameBut a s'.heap h' → h'.PlainList a (vs.take r ++ .str x t :: vs.drop r).toArray → R (.ok (.ret .none)) { s' with heap := h' }) : codeAny (model prog w) A (.call (.ref 23) ⟨[.ref a, .str x t], [("key", .ref 72)]⟩) R s := by
  obtain ⟨tl, hb⟩ := bindI (a := .ref a) (x := .str x t) (k := .ref 72) W
  refine enter (by have := hA.depth; lia) W.f1 W.lim hb rfl rfl rfl rfl fun env s₁ hE hS E => ?_
  have hA' := hA.deeper env
  refine x_cut (fun s' => ∃ v t', St s env v [] s' ∧ v "a" = some (.ref a) ∧ v "x" = some (.str x t) ∧ v "lo" = some (.int r t')) (fun E => ?_) ?_
  · refine x_if hS (b := false) (evB_is (a := .ref 72) (ev_name (loc hE hS (by decide +kernel) rfl)) ev_none rfl) (fun e => by cases e) fun _ s2 h2 => ?_
    have W2 := W.st h2
    obtain ⟨o1, fd1, ho1, hd1⟩ := W2.f58.some
    obtain ⟨o2, fd2, ho2, hd2⟩ := W2.f2.some
    refine x_assignI h2 (ev_call (Ks := [IsV (.ref 72)]) (W2.var hE rfl (by decide +kernel) N.bisect_right) ho2 hd2
      (.cons (fun _ => rfl) (ev_name (loc hE h2 (by decide +kernel) rfl)) (monoV _) (.cons (fun _ => rfl) (ev_call (P := IsS (keyS x)) (loc hE h2 (by decide +kernel) rfl) ho1 hd1 (.cons (fun _ => rfl) (ev_nameS (loc hE h2 (by decide +kernel) rfl)) (monoS _) .nil) .nil
        fun vs kv s' k ps qs => by
          obtain ⟨u, rfl, t', rfl⟩ := allP1 ps
          exact call_key (hA'.down (by lia)) (W2.keeps (kOld k)) N hx) (monoS _) (.cons (fun _ => rfl) (ev_name (loc hE h2 (by decide +kernel) rfl)) (monoV _) (.cons (fun _ => rfl) (ev_name (loc hE h2 (by decide +kernel) rfl)) (monoV _) .nil))))
      (.cons (ev_name (loc hE h2 (by decide +kernel) rfl)) (monoV _) .nil) fun vs' kv s' k ps qs => ?_) (isL hE (by decide +kernel)) fun t' s3 h3 => x_nil (x_nil ⟨rfl, _, t', h3, by walk_at "lk", by walk_at "lk", by walk_at "lk"⟩)
    obtain ⟨u1, u2, u3, u4, rfl, e1, ⟨tx', rfl⟩, e3, e4⟩ := allP4 ps
    obtain ⟨q1, rfl, e5⟩ := allP1 qs
    subst e1; subst e3; subst e4; subst e5
    exact Ct.op hA' (ct_R4 (lo := 0) (W2.keeps (kOld k)) N ((hl.at fun o e => kOld (kTrans h2.base k) _ o e).isList) hv hlen (by lia) .none cut)
  · rintro s2 ⟨v, t', h2, va, vx, vlo⟩
    refine x_expr (meth (Po := IsV (.ref a)) F.plainAttrs_list F.slot_list_insert F.type_list_insert (ev_name (loc hE h2 (by decide +kernel) va)) (monoV _) (fun u s' k1 pu => by subst pu; exact plain_typeIs (hl.at fun o e => kOld (kTrans h2.base k1) _ o e))
      (.cons (fun _ => rfl) (ev_name (loc hE h2 (by decide +kernel) vlo)) (monoV _) (.cons (fun _ => rfl) (ev_name (loc hE h2 (by decide +kernel) vx)) (monoV _) .nil)) (fun u us s' k1 pu ps => ?_)) h2.quiet
    obtain ⟨y, z, rfl, e1, e2⟩ := allP2 ps
    obtain rfl : u = .ref a := pu
    subst e1; subst e2
    obtain ⟨n, hl'⟩ := hl.at fun o e => kOld (kTrans h2.base k1) _ o e
    have hvl := hv.len
    have hr := cut.le
    have hc0 : ¬(!Builtin.List.listFitsIndex (r : Int)) = true := by
      unfold Builtin.List.listFitsIndex
      simp
      lia
    have h0 : ¬ (r : Int) < 0 := by lia
    have h1 : min (r : Int).toNat vs.toArray.size = r := by simp; lia
    generalize (r : Int) = z at hc0 h0 h1 ⊢
    have M := AutoSeq1.list_insert_list_int_val_1 a vs.toArray n z t' (.str x t) hc0 (by rw [sizeLine_eq]; simp; lia)
    refine call_meets F.slot_list_insert ⟨_, hl', rfl⟩ F.entry_list_insert (F.args_list_insert_3 _ _ _) M ⟨hl', ?_⟩
    have e := update_plain (f := fun xs => have k := if z < 0 then (z + (xs.size : Int)).toNat else min z.toNat xs.size; (xs.extract 0 k).push (.str x t) ++ xs.extract k) hl'
    have e2 : ((fun xs : Array Value => have k := if z < 0 then (z + (xs.size : Int)).toNat else min z.toNat xs.size; (xs.extract 0 k).push (.str x t) ++ xs.extract k) vs.toArray) = (vs.take r ++ .str x t :: vs.drop r).toArray := by
      simp only [if_neg h0, h1]
      apply Array.toList_inj.mp
      simp
      rw [List.take_of_length_le (by rw [List.length_drop]; exact Nat.le_refl _)]
    exact x_nil (hR s' _ (kTrans h2.base k1) (Heap.SameBut.update ..) (by rw [← e2]; exact e))
end

noncomputable def kb (b : List Bool) : List Nat := b.map code ++ [44]
noncomputable def ltB (a b : List Bool) : Bool := decide (kb a < kb b)
noncomputable def dayB : Nat → List (List Bool)
  | 0 => [[]]
  | d + 1 => (dayB d).flatMap fun n => [n ++ [true], n ++ [false]]
noncomputable def posB (row : List (List Bool)) (x : List Bool) : Nat := (row.takeWhile fun y => !ltB x y).length
noncomputable def insB (row : List (List Bool)) (x : List Bool) : List (List Bool) := row.take (posB row x) ++ x :: row.drop (posB row x)
noncomputable def revDays : List (List (List Bool)) := [dayB 4, dayB 3, dayB 2, dayB 1, dayB 0]
noncomputable def rowB : List (List Bool) := revDays.flatten.foldl insB []
noncomputable def cutChk (p : Nat → Bool) (lo r hi : Nat) : Bool := decide (lo ≤ r) && decide (r ≤ hi) && (List.range hi).all fun j => decide (j < lo) || (p j == decide (r ≤ j))
theorem cut_of {p : Nat → Bool} {lo r hi : Nat} (h : cutChk p lo r hi = true) : Cut p lo r hi := by
  unfold cutChk at h
  simp only [Bool.and_eq_true, decide_eq_true_eq, List.all_eq_true, List.mem_range, Bool.or_eq_true] at h
  obtain ⟨⟨h1, h2⟩, h3⟩ := h
  refine ⟨h1, h2, fun j a b => ?_, fun j a b => ?_⟩
  · rcases h3 j (by lia) with h | h
    · lia
    · have e : p j = decide (r ≤ j) := by simpa using h
      rw [e]; simp; lia
  · rcases h3 j (by lia) with h | h
    · lia
    · have e : p j = decide (r ≤ j) := by simpa using h
      rw [e]; simp; lia
noncomputable def chkIns (row : List (List Bool)) : List (List Bool) → Bool
  | [] => true
  | x :: xs => cutChk (fun j => ltB x (row.getD j [])) 0 (posB row x) row.length && chkIns (insB row x) xs
theorem chkIns_at : ∀ {xs ys : List (List Bool)} {x : List Bool} {row : List (List Bool)}, chkIns row (xs ++ x :: ys) = true → Cut (fun j => ltB x ((xs.foldl insB row).getD j [])) 0 (posB (xs.foldl insB row) x) (xs.foldl insB row).length
  | [], ys, x, row, h => by
    rw [List.nil_append, chkIns, Bool.and_eq_true] at h
    exact cut_of h.1
  | z :: xs, ys, x, row, h => by
    rw [List.cons_append, chkIns, Bool.and_eq_true] at h
    exact chkIns_at (row := insB row z) (xs := xs) h.2
theorem chk_row : chkIns [] revDays.flatten = true := by decide +kernel
theorem day_step : ∀ d, d < 4 → (pairs 2 (dayB d).length).map (fun p => (dayB d).getD p.1 [] ++ [p.2 == 0]) = dayB (d + 1) := by
  intro d hd
  have : d = 0 ∨ d = 1 ∨ d = 2 ∨ d = 3 := by lia
  rcases this with rfl | rfl | rfl | rfl <;> decide +kernel
theorem day_len : ∀ d, d ≤ 4 → (dayB d).length ≤ 16 := by
  intro d hd
  have : d = 0 ∨ d = 1 ∨ d = 2 ∨ d = 3 ∨ d = 4 := by lia
  rcases this with rfl | rfl | rfl | rfl | rfl <;> decide +kernel
theorem day_short : ∀ d, d ≤ 4 → ∀ x ∈ dayB d, x.length ≤ 4 := by
  intro d hd
  have : d = 0 ∨ d = 1 ∨ d = 2 ∨ d = 3 ∨ d = 4 := by lia
  rcases this with rfl | rfl | rfl | rfl | rfl <;> decide +kernel
theorem keyS_list (b : List Bool) : (keyS (tx b)).cps.toList = kb b := by
  unfold keyS kb
  rw [str_append_list, tx_list]
  rfl
theorem ltS_key (a b : List Bool) : ltS (keyS (tx a)) (keyS (tx b)) = ltB a b := by
  unfold ltS ltB
  rw [keyS_list, keyS_list]
noncomputable abbrev TV (b : List Bool) (v : Value) : Prop := SV (tx b) v
theorem al_tv {bs : List (List Bool)} {vs : List Value} (h : Al TV bs vs) : Al SV (bs.map tx) vs := al_map h
theorem getD_map {α β : Type} {f : α → β} {xs : List α} {j : Nat} {d : α} {e : β} (h : j < xs.length) : (xs.map f).getD j e = f (xs.getD j d) := by
  simp [List.getD, h]
theorem Cut.congr {p q : Nat → Bool} {lo r hi : Nat} (h : Cut p lo r hi) (e : ∀ j, j < hi → q j = p j) : Cut q lo r hi :=
  ⟨h.ge, h.le, fun j a b => by rw [e j (by have := h.le; lia)]; exact h.no j a b, fun j a b => by rw [e j b]; exact h.yes j a b⟩
theorem cut_map {x : List Bool} {bs : List (List Bool)} {lo r hi : Nat} (hh : hi ≤ bs.length) (h : Cut (fun j => ltB x (bs.getD j [])) lo r hi) : Cut (fun j => ltS (keyS (tx x)) (keyS ((bs.map tx).getD j ""))) lo r hi :=
  h.congr fun j hj => by rw [getD_map (d := []) (by lia), ltS_key]
theorem short_tx {n : Nat} (hn : n ≤ 1000000) {bs : List (List Bool)} (h : ∀ x ∈ bs, x.length ≤ n) : ∀ y ∈ bs.map tx, y.length ≤ 1000000 := fun y hy => by
  obtain ⟨b, hb, rfl⟩ := List.mem_map.mp hy
  rw [tx_len]; exact Nat.le_trans (h b hb) hn

section
variable {prog : Program} {w : World} {A : Around} {E : Value → Shared → Prop} {s₀ s : Shared} {env : Env} {mg mb tokf : Str → Option Value} {i : Nat} {v : Str → Option Value} {ls pre post : List (Addr × Ent)} {Q : Flow → Shared → Prop} {rest : List Stmt} {P : VP}
theorem St.addAt {a : Addr} {e : Ent} (h : St s₀ env v ls s) (n0 : s₀.heap.get? a = none) (hne : a ∉ ls.map (·.1)) (he : e.At s.heap a) : St s₀ env v ((a, e) :: ls) s :=
  { h with
    le := fun p hp => by
      rcases List.mem_cons.mp hp with rfl | hp
      · exact ⟨he, n0⟩
      · exact h.le p hp
    nd := by simp only [List.map_cons, List.nodup_cons]; exact ⟨hne, h.nd⟩ }
theorem ev_rev {p pos p1 p2 : Pos} {value : Expr} {k0} {xs : List Value} (hv : Ev prog w A (eval value env) s (IsL xs)) (hsz : xs.length ≤ sizeLine) :
    Ev prog w A (eval (.Subscript value (.Slice none none (some (.UnaryOp .USub (.Constant (.int 1) k0 p1) p2)) p) pos) env) s (NewL s xs.reverse) := fun s' k Q E hQ =>
  PyProof.Rows.Subscript_ (hv s' k _ _ fun o s1 k1 pa => wpAny_Slice (by
    rw [evalPart_none]
    refine wpAny_pure (wpAny_pure ?_)
    refine (evP_int (ev_neg ev_int) : EvP prog w A (some (.UnaryOp .USub (.Constant (.int 1) k0 p1) p2)) env s1 (some (-1))) s1 (kRefl _) _ _ fun vu s3 k3 pu => ?_
    have k4 : Keeps s3 { s3 with heap := s3.heap.push { cls := .type "slice", data := .fields #[.none, .none, vu] } } := kPush _ _
    obtain ⟨a, rfl, hL⟩ := monoL xs _ _ _ (kTrans k3 k4) pa
    have hs : ({ s3 with heap := s3.heap.push { cls := .type "slice", data := .fields #[.none, .none, vu] } } : Shared).heap.IsSliceOf s3.heap.objs.size .none .none vu := Heap.IsSliceOf.new ..
    exact op_tail (P := NewL s xs.reverse) hL.typeIs list_getitem_lookup (fun Q E hQ => wpAny_getItem_list_slice hL hs .none .none pu (by decide) (hQ _ _ (kPush _ _) ⟨_, rfl, ⟨_, by rw [show slicePick xs.toArray none none (some (-1)) = xs.reverse.toArray from by rw [PySem.W.krv_pick]]; exact Heap.get?_push_size _ rfl⟩, kNone (kTrans k (kTrans k1 (kTrans k3 k4))) (get_none_of_push _)⟩) (by simpa using hsz)) rfl _ _ fun v s5 k5 p5 => hQ v s5 (kTrans k1 (kTrans k3 (kTrans k4 k5))) p5))
end

section
variable {prog : Program} {w : World} {A : Around} {E : Value → Shared → Prop} {s₀ s : Shared} {env : Env} {mg mb tokf : Str → Option Value} {i : Nat} {v : Str → Option Value} {ls pre post : List (Addr × Ent)} {Q : Flow → Shared → Prop} {rest : List Stmt} {P : VP}

theorem x_insort {f row x kf : Str} {p1 p2 p3 p4 p5 p6 p7 p8 : Pos} {k0} {body : List Stmt} {rA : Addr} {bs : List (List Bool)} {vs : List Value} {b : List Bool} {t : Tok} {r : Nat} (hA : AOk 6 A) (W : Wd prog w mg mb tokf s.heap) (N : Nm mg mb)
    (h : St s₀ env v (pre ++ (rA, .lst vs) :: post) s) (hf : Var prog w A env s f (.ref 23)) (hr : Var prog w A env s row (.ref rA)) (hx : Var prog w A env s x (.str (tx b) t)) (hkf : Var prog w A env s kf (.ref 72))
    (hv : Al TV bs vs) (hlen : ∀ y ∈ bs, y.length ≤ 100) (hb : b.length ≤ 100) (hn : bs.length < 1000) (cut : Cut (fun j => ltB b (bs.getD j [])) 0 r bs.length)
    (k : ∀ s', St s₀ env v (pre ++ (rA, .lst (vs.take r ++ .str (tx b) t :: vs.drop r)) :: post) s' → wpAny (model prog w) A (execs rest env) Q E s')
    (d1 : (f == ("__debug__" : Str)) = false := by walk_at "xa") (d2 : (row == ("__debug__" : Str)) = false := by walk_at "xa") (d3 : (x == ("__debug__" : Str)) = false := by walk_at "xa") (d4 : (kf == ("__debug__" : Str)) = false := by walk_at "xa") :
    wpAny (model prog w) A (execs (.If (.Compare (.Call (.Name f p1) [.Name row p2, .Name x p3] [⟨some "key", .Name kf p4, p5⟩] p6) [.IsNot] [.Constant .none k0 p7] p8) body [] pos :: rest) env) Q E s := by
  obtain ⟨o, fd, ho, hd⟩ := W.f1.some
  refine wpAny_execs_cons (wpAny_If (wpAny_isTrue_Compare1 ?_))
  refine wpAny_Call_Name_kw (wpAny_Name (hf s (kRefl s) _ _ (callWith_function_kw (o := o) (fd := fd) (evArgs_eval
    (.cons (fun _ => rfl) (ev_name hr d2) (monoV _) (.cons (fun _ => rfl) (ev_name hx d3) (monoV _) .nil)) (.cons (ev_name hkf d4) (monoV _) .nil) p6 s (kRefl s) fun us kv s1 k1 ps qs => ⟨⟨kOld k1 _ _ ho, hd⟩, ?_⟩))) d1)
  obtain ⟨u1, u2, rfl, e1, e2⟩ := allP2 ps
  obtain ⟨q1, rfl, e3⟩ := allP1 qs
  subst e1; subst e2; subst e3
  have h1 := h.keeps k1
  have hlen' : ∀ y ∈ bs.map tx, y.length ≤ 1000000 := short_tx (n := 100) (by lia) hlen
  refine wpAny_call (c_insort (W.keeps (kOld k1)) N (h1.get (List.mem_append_right _ (.head _))) (al_tv hv) hlen' (by rw [tx_len]; lia) (by simpa using hn) (by simpa using cut_map (Nat.le_refl _) cut) hA fun s2 h' k2 hs' hl' => ?_)
  have h2 := h1.keeps k2
  have h3 := h2.change (t := s2.toks) hs' (e' := .lst (vs.take r ++ .str (tx b) t :: vs.drop r)) hl'
  refine wpAny_Constant_none (wpAny_isNot_plain rfl (wpAny_truthy_bool ?_))
  rw [if_neg (by decide)]
  exact wpAny_execs_nil (k _ h3)

noncomputable abbrev dEnt (dA : Addr) (ds : List (Addr × List Value)) : List (Addr × Ent) := (dA, .lst (ds.map fun p => .ref p.1)) :: ds.map fun p => (p.1, .lst p.2)
noncomputable def DaysOk (k : Nat) (ds : List (Addr × List Value)) : Prop := ds.length = k + 1 ∧ ∀ j p, ds[j]? = some p → Al TV (dayB j) p.2
theorem dmem {dA : Addr} {ds : List (Addr × List Value)} {j : Nat} {p : Addr × List Value} (h : ds[j]? = some p) : (p.1, Ent.lst p.2) ∈ ds.map fun p => (p.1, Ent.lst p.2) := List.mem_map.mpr ⟨p, List.mem_of_getElem? h, rfl⟩

theorem monoList {s₁ : Shared} {Ps : List VP} (h : ∀ P ∈ Ps, Mono P) : Mono (fun v s' => ∃ a vs, v = .ref a ∧ s'.heap.PlainList a (vs : List Value).toArray ∧ s₁.heap.get? a = none ∧ AllP Ps vs s') :=
  fun v s s' k ⟨a, vs, e, hl, hn, hp⟩ => ⟨a, vs, e, hl.at fun o e => kOld k _ o e, hn, allP_mono h k hp⟩
theorem ev_nil {pos : Pos} : Ev prog w A (eval (.List [] pos) env) s (NewL s []) := (ev_list .nil (Nat.zero_le _)).mono fun v s' k ⟨a, vs, e, hl, hn, hp⟩ => by
  have := allP0 hp; subst this; exact ⟨a, e, hl, hn⟩
theorem x_forN {x px iter body pos} {xs : List Value} {J : Nat → (Str → Option Value) → List (Addr × Ent) → Prop} (hA : A.handled = none) (h : St s₀ env v ls s) (hit : Ev prog w A (eval iter env) s (NewL s xs)) (hk : env.kindOf x = some .local ∨ env.kindOf x = some .cell)
    (h0 : J 0 v ls)
    (step : ∀ i y v' ls' it l s', xs[i]? = some y → J i v' ls' → St s₀ env (upd v' x y) ((it, .lit l (i + 1)) :: (l, .lst xs) :: ls') s' → ∀ E,
      wpAny (model prog w) A (execs body env) (fun f s'' => f = .next ∧ ∃ v'' ls'', St s₀ env v'' ((it, .lit l (i + 1)) :: (l, .lst xs) :: ls'') s'' ∧ J (i + 1) v'' ls'') E s')
    (k : ∀ v' ls' s', J xs.length v' ls' → St s₀ env v' ls' s' → wpAny (model prog w) A (execs rest env) Q E s')
    (hs : ∀ x, foldedSetIterable iter env x = pure x := by walk_at "xa") :
    wpAny (model prog w) A (execs (.For (.Name x px) iter body [] pos :: rest) env) Q E s := by
  refine wpAny_execs_cons (wpAny_For (hit.use fun u s1 k1 p => ?_) hs)
  obtain ⟨l, rfl, hl, hn⟩ := p
  have hS1 : St s₀ env v ((l, .lst xs) :: ls) s1 := h.add (e := .lst xs) k1 hn hl
  refine wpAny_pyIter_list (hS1.list (.head _)) ?_
  have hnew : St s₀ env v ((s1.heap.objs.size, .lit l 0) :: (l, .lst xs) :: ls) { s1 with heap := s1.heap.push { cls := .type "list_iterator", data := .fields #[.ref l, .int 0 0] } } :=
    hS1.add (e := .lit l 0) (kPush _ _) (get_none_of_push _) ⟨_, Heap.get?_push_size _ rfl, rfl, rfl⟩
  refine codeAny_forLoop (fun k s' => ∃ i v' ls', i ≤ xs.length ∧ k = xs.length - i ∧ J i v' ls' ∧ St s₀ env v' ((s1.heap.objs.size, .lit l i) :: (l, .lst xs) :: ls') s') ?_ xs.length ⟨0, v, ls, Nat.zero_le _, rfl, h0, hnew⟩
  rintro k2 s2 ⟨i, v', ls', hi, rfl, hJ, hS⟩
  have hli := hS.list (List.mem_cons_of_mem _ (.head _))
  by_cases hlt : i < xs.length
  · refine wpAny_pyNext_list_item (x := xs[i]) (hS.get (.head _)) hli (by simp [hlt]) fun h' hit' hs' => ?_
    have hS2 : St s₀ env v' ((s1.heap.objs.size, .lit l (i + 1)) :: (l, .lst xs) :: ls') { s2 with heap := h', toks := s2.toks } := hS.head hs' hit'
    refine wpAny_assign_Name (St.store (s := { s2 with heap := h' }) hS2 hk fun s3 h3 => ?_)
    refine wpAny_mono (step i _ v' ls' _ l s3 (by simp [hlt]) hJ h3 _) (fun f s4 h4 => ?_) fun _ _ e => e
    obtain ⟨rfl, v'', ls'', h5, hJ'⟩ := h4
    exact ⟨xs.length - (i + 1), by lia, i + 1, v'', ls'', hlt, rfl, hJ', h5⟩
  · have hin : i = xs.length := by lia
    subst hin
    refine wpAny_pyNext_list_end hA (hS.get (.head _)) hli (by simp) fun h' hx => wpAny_execs_nil ?_
    exact k v' ls' _ hJ ((hS.dropped (t := s2.toks) hx).sub (List.sublist_cons_self _ _))
end

theorem flat_at {α : Type} : ∀ {L : List (List α)} {a j : Nat} {d : List α} {x : α}, L[a]? = some d → d[j]? = some x → ∃ post, L.flatten = ((L.take a).flatten ++ d.take j) ++ x :: post
  | [], _, _, _, _, h, _ => by simp at h
  | d0 :: L, 0, j, d, x, h, hx => by
    simp at h; subst h
    have hj : j < d0.length := by
      rcases Nat.lt_or_ge j d0.length with h1 | h1
      · exact h1
      · rw [List.getElem?_eq_none h1] at hx; cases hx
    refine ⟨d0.drop (j + 1) ++ L.flatten, ?_⟩
    have e : d0 = d0.take j ++ x :: d0.drop (j + 1) := by
      rw [List.getElem?_eq_getElem hj] at hx
      cases hx
      rw [← List.drop_eq_getElem_cons hj, List.take_append_drop]
    simp only [List.take_zero, List.flatten_nil, List.nil_append, List.flatten_cons]
    rw [← List.cons_append, ← List.append_assoc, ← e]
  | d0 :: L, a + 1, j, d, x, h, hx => by
    obtain ⟨post, e⟩ := flat_at (L := L) (a := a) (by simpa using h) hx
    exact ⟨post, by rw [List.flatten_cons, e]; simp⟩
theorem insB_len (row : List (List Bool)) (x) : (insB row x).length = row.length + 1 := by
  have : posB row x ≤ row.length := by
    unfold posB
    exact (List.takeWhile_sublist _).length_le
  unfold insB
  simp
  lia
theorem foldl_len : ∀ (xs row : List (List Bool)), (xs.foldl insB row).length = row.length + xs.length
  | [], row => by simp
  | x :: xs, row => by rw [List.foldl_cons, foldl_len xs, insB_len]; simp; lia
theorem foldl_mem : ∀ (xs row : List (List Bool)) (y), y ∈ xs.foldl insB row → y ∈ row ∨ y ∈ xs
  | [], row, y, h => .inl h
  | x :: xs, row, y, h => by
    rcases foldl_mem xs _ y h with h | h
    · unfold insB at h
      rcases List.mem_append.mp h with h | h
      · exact .inl (List.mem_of_mem_take h)
      · rcases List.mem_cons.mp h with h | h
        · exact .inr (h ▸ .head _)
        · exact .inl (List.mem_of_mem_drop h)
    · exact .inr (.tail _ h)
theorem order_facts : revDays.flatten.length = 31 ∧ ∀ y ∈ revDays.flatten, y.length ≤ 4 := by decide +kernel
theorem revDays_at : ∀ a, a < 5 → revDays[a]? = some (dayB (4 - a)) := by
  intro a ha
  have : a = 0 ∨ a = 1 ∨ a = 2 ∨ a = 3 ∨ a = 4 := by lia
  rcases this with rfl | rfl | rfl | rfl | rfl <;> rfl

section
variable {prog : Program} {w : World} {A : Around} {E : Value → Shared → Prop} {s₀ s : Shared} {env : Env} {mg mb tokf : Str → Option Value} {i : Nat} {v : Str → Option Value} {ls pre post : List (Addr × Ent)} {Q : Flow → Shared → Prop} {rest : List Stmt} {P : VP}
theorem sz {n : Nat} (h : n ≤ 1000000) : n ≤ sizeLine := by rw [sizeLine_eq]; lia

theorem ct_row (W : Wd prog w mg mb tokf s.heap) (N : Nm mg mb) : Ct prog w 7 84 ⟨[], []⟩ s (fun u s' => ∃ vs, NewL s vs u s' ∧ Al TV rowB vs) := fun A hA R hR => by
  refine enter (by have := hA.depth; lia) W.f60 W.lim (binds := []) (fun nm qn cd pm doc ct an => BindsTo.of_eq rfl) rfl rfl rfl rfl fun env s₁ hE hS E => ?_
  have hA' : AOk 6 (A.deeper env) := hA.deeper env
  -- days = [['']]
  refine x_assign hS (ev_list (.cons (fun _ => rfl) (ev_list (.cons (fun _ => rfl) ev_str (monoS "") .nil) (sz (by simp))) (monoList fun P hP => by
    rcases List.mem_cons.mp hP with rfl | hP
    · exact monoS ""
    · cases hP) .nil) (sz (by simp))) (isL hE (by decide +kernel)) fun u s2 k2 p2 => ?_
  obtain ⟨dA, vs, rfl, hdA, ndA, pv⟩ := p2
  obtain ⟨u1, rfl, d0, vs1, rfl, hd0, nd0, pv1⟩ := allP1 pv
  obtain ⟨u2, rfl, t2, rfl⟩ := allP1 pv1
  have hne : d0 ≠ dA := by
    rintro rfl
    obtain ⟨n1, e1⟩ := hdA
    obtain ⟨n2, e2⟩ := hd0
    rw [e1] at e2
    cases e2
  refine ⟨dEnt dA [(d0, [.str "" t2])], ?_, fun s3 h3 => ?_⟩
  · have h2 : St s env (binds0 []) [(d0, .lst [.str "" t2])] s2 := hS.add (e := .lst [.str "" t2]) k2 nd0 hd0
    exact h2.addAt (e := .lst [.ref d0]) (kNone hS.base ndA) (by simpa using Ne.symm hne) hdA
  have W3 := W.st h3
  -- for k in range(4)
  refine x_forR (n := 4) (a := 0) hA'.handled h3 (ev_range1 (n := 4) (W3.varB hE rfl (by decide +kernel) N.range) ev_int (by decide)) (isL hE (by decide +kernel))
    (fun k v ls => ∃ dA ds, v "days" = some (.ref dA) ∧ ls = dEnt dA ds ∧ DaysOk k ds)
    ⟨dA, [(d0, [.str "" t2])], by walk_at "lk", rfl, rfl, fun j p hp => by
      cases j with
      | zero => simp at hp; subst hp; exact .cons ⟨t2, by rw [tx_nil]⟩ .nil
      | succ j => simp at hp⟩ ?_ ?_
  · rintro k v ls it tk s4 hk ⟨dA, ds, vd, rfl, hlen, hds⟩ h4 E
    have W4 := W.st h4
    obtain ⟨p, hp⟩ : ∃ p, ds[k]? = some p := ⟨ds[k]'(by lia), by simp [hlen]⟩
    have hal := hds k p hp
    have hpm := dmem (dA := dA) hp
    have hn16 := day_len k (by lia)
    have hvl : p.2.length = (dayB k).length := hal.len
    refine x_append (pre := [(it, .rit (0 + k + 1) ((4 : Nat) - k - 1))]) (a := dA) (xs := ds.map fun p => .ref p.1) (post := ds.map fun p => (p.1, .lst p.2)) (P := fun u s' => ∃ zs, NewL s4 zs u s' ∧ Al (fun q u => TV ((dayB k).getD q.1 [] ++ [q.2 == 0]) u) (pairs 2 p.2.length) zs)
      h4 (ev_name (loc hE h4 (by decide +kernel) (by walk_at "lk"))) (fun _ => rfl)
      (ev_made (made2 (t1 := "+-") (n := p.2.length) (n1 := 2) (Pi := fun i u => p.2[i]? = some u) (Pa := IsV (.ref p.1)) hA'.handled h4 (CompOk.of hE rfl (by decide +kernel) (by decide +kernel)) (by decide +kernel) (by decide +kernel) (by decide +kernel) (sz (by lia)) (by decide +kernel)
        (ev_itemNeg (k := -1) (xs := ds.map fun p => .ref p.1) (ev_nameL (loc hE h4 (by decide +kernel) (by walk_at "lk")) (h4.list (.tail _ (.head _)))) (ev_neg ev_int) (by decide) (by simp; lia) (by decide) (by
          have e : ((-1 : Int) + ((ds.map fun p => Value.ref p.1).length : Nat)).toNat = k := by simp; lia
          rw [e]; simp [hp]))
        (fun u s' k5 pu => by subst pu; exact src_list hA'.handled (isList_keeps (h4.list (.tail _ (.tail _ hpm))) (kOld k5)) (.inl fun _ _ => rfl))
        (fun C s5 => ev_str)
        fun C m u u1 i j s5 hi hj hPi hPj hm hm1 k5 h5 => ?_))
      (fun u s1 s2 kk ⟨zs, hz, hz2⟩ => ⟨zs, monoN _ _ _ _ _ kk hz, hz2⟩) (sz (by simp; lia)) (fun u s5 k5 pu => ?_) h4.quiet
    · obtain ⟨b, hb, t, rfl⟩ := hal.get' hPi
      obtain ⟨c, t1, hc, rfl⟩ := hPj
      have e2 : (⟨#[c]⟩ : Str) = tx [j == 0] := by
        have : j = 0 ∨ j = 1 := by lia
        rcases this with rfl | rfl
        · have : some 43 = some c := hc
          cases this; rfl
        · have : some 45 = some c := hc
          cases this; rfl
      rw [e2] at hm1
      have hbl : b.length ≤ 4 := day_short k (by lia) b (List.mem_of_getElem? hb)
      have e3 : (dayB k).getD i [] = b := by simp [List.getD, hb]
      show Ev _ _ _ _ _ (fun u _ => TV ((dayB k).getD i [] ++ [j == 0]) u)
      rw [e3]
      refine ev_of_eqS (ev_addS (ev_nameS (cloc h5 (by decide +kernel) hm)) (ev_nameS (cloc h5 (by decide +kernel) hm1)) (by rw [tx_len, tx_len]; exact sz (by simp; lia))) (tx_append _ _)
    · obtain ⟨zs, ⟨D, rfl, hD, nD⟩, hz⟩ := pu
      refine ⟨[(D, .lst zs), (it, .rit (0 + k + 1) ((4 : Nat) - k - 1))], h4.add (e := .lst zs) k5 nD hD, fun s6 h6 => x_nil ⟨rfl, upd v "k" (.int (0 + k) tk), dEnt dA (ds ++ [(D, zs)]), ?_, dA, ds ++ [(D, zs)], by walk_at "lk", rfl, by simp [hlen], fun j q hq => ?_⟩⟩
      · refine h6.perm ?_
        simp only [dEnt, List.map_append, List.map_cons, List.map_nil, List.cons_append, List.nil_append]
        exact (List.perm_append_comm (l₁ := [_]) (l₂ := _ :: _ :: _))
      · rcases Nat.lt_or_ge j (k + 1) with hj | hj
        · rw [List.getElem?_append_left (by lia)] at hq
          exact hds j q hq
        · rw [List.getElem?_append_right (by lia)] at hq
          have hj' : j = k + 1 := by
            rcases Nat.lt_or_ge (j - ds.length) 1 with h | h
            · lia
            · rw [List.getElem?_eq_none (by simpa using h)] at hq; cases hq
          subst hj'
          rw [show k + 1 - ds.length = 0 by lia] at hq
          simp at hq; subst hq
          rw [hvl] at hz
          have := al_map (R := TV) hz
          rwa [day_step k hk] at this
  · rintro v ls s4 ⟨dA, ds, vd, rfl, hlen, hds⟩ h4
    -- row = []
    refine x_assignN h4 ev_nil (isL hE (by decide +kernel)) fun rA s5 h5 => ?_
    have hxs : ∀ a y, (ds.map fun p => Value.ref p.1).reverse[a]? = some y → a < 5 ∧ ∃ p, ds[4 - a]? = some p ∧ y = .ref p.1 := fun a y hy => by
      have ha : a < 5 := by
        rcases Nat.lt_or_ge a 5 with h | h
        · exact h
        · rw [List.getElem?_eq_none (by simp; lia)] at hy; cases hy
      rw [List.getElem?_reverse (by simp; lia)] at hy
      simp only [List.length_map, hlen] at hy
      rw [show 4 + 1 - 1 - a = 4 - a by lia, List.getElem?_map] at hy
      refine ⟨ha, ?_⟩
      cases e : ds[4 - a]? with
      | none => rw [e] at hy; cases hy
      | some p => rw [e] at hy; simp at hy; exact ⟨p, rfl, hy.symm⟩
    refine x_forN hA'.handled h5 (ev_rev (ev_nameL (xs := ds.map fun p => .ref p.1) (loc hE h5 (by decide +kernel) (by walk_at "lk")) (h5.list (.tail _ (.head _)))) (sz (by simp; lia))) (isL hE (by decide +kernel))
      (J := fun a v ls => v "row" = some (.ref rA) ∧ ∃ vs, ls = (rA, .lst vs) :: dEnt dA ds ∧ Al TV ((revDays.take a).flatten.foldl insB []) vs)
      ⟨by walk_at "lk", [], rfl, by simpa using Al.nil⟩ ?_ ?_
    · rintro a y v ls it l s6 hy ⟨vr, vs0, rfl, hal0⟩ h6 E
      obtain ⟨ha, p, hp, rfl⟩ := hxs a y hy
      have hpm := dmem (dA := dA) hp
      have hday := hds _ p hp
      have hrd := revDays_at a ha
      refine x_forL (l := p.1) (xs := p.2) (P := IsV (.ref p.1)) hA'.handled h6 (ev_name (loc hE h6 (by decide +kernel) (by walk_at "lk"))) (fun u s7 k7 pu => ⟨_, pu, h6.keeps k7, ?j0⟩) (isL hE (by decide +kernel))
        (J := fun j v ls => v "row" = some (.ref rA) ∧ ∃ vs, ls = (it, .lit l (a + 1)) :: (l, .lst (ds.map fun p => Value.ref p.1).reverse) :: (rA, .lst vs) :: dEnt dA ds ∧ Al TV (((revDays.take a).flatten ++ (dayB (4 - a)).take j).foldl insB []) vs)
        (fun j v ls ⟨_, vs, e, _⟩ => by subst e; exact .tail _ (.tail _ (.tail _ (.tail _ hpm)))) ?_ ?_
      case j0 => exact ⟨by walk_at "lk", vs0, rfl, by simpa using hal0⟩
      · rintro j y v ls it2 s7 hy2 ⟨vr, vs, rfl, hal⟩ h7 E
        obtain ⟨b, hb, t, rfl⟩ := hday.get' hy2
        obtain ⟨post, hpost⟩ := flat_at hrd hb
        obtain ⟨of1, of2⟩ := order_facts
        have hc := chk_row
        rw [hpost] at hc of1 of2
        have cut := chkIns_at hc
        have W7 := W.st h7
        have hblen : b.length ≤ 100 := Nat.le_trans (of2 b (List.mem_append_right _ (.head _))) (by lia)
        refine x_insort (pre := [(it2, .lit p.1 (j + 1)), (it, .lit l (a + 1)), (l, .lst (ds.map fun p => Value.ref p.1).reverse)]) (post := dEnt dA ds) hA' W7 N h7 (W7.var hE rfl (by decide +kernel) N.insort_right) (loc hE h7 (by decide +kernel) (by walk_at "lk")) (loc hE h7 (by decide +kernel) (by walk_at "lk")) (W7.var hE rfl (by decide +kernel) N.key) hal
          (fun y hy => ?_) hblen (by
            rw [foldl_len]
            simp only [List.length_append, List.length_cons, List.length_nil] at of1 ⊢
            lia) cut fun s8 h8 => ?_
        · rcases foldl_mem _ _ _ hy with h | h
          · cases h
          · exact Nat.le_trans (of2 y (List.mem_append_left _ h)) (by lia)
        · refine x_nil ⟨rfl, _, _, h8, by walk_at "lk", _, rfl, ?_⟩
          have e : (revDays.take a).flatten ++ (dayB (4 - a)).take (j + 1) = ((revDays.take a).flatten ++ (dayB (4 - a)).take j) ++ [b] := by
            rw [List.take_add_one, hb]; simp
          rw [e, List.foldl_append]
          exact (hal.take _).append (.cons ⟨t, rfl⟩ (hal.drop _))
      · rintro v ls s7 ⟨vr, vs, rfl, hal⟩ h7
        refine x_nil ⟨rfl, _, _, h7, vr, vs, rfl, ?_⟩
        rw [hday.len] at hal
        have e : (revDays.take (a + 1)).flatten = (revDays.take a).flatten ++ (dayB (4 - a)).take (dayB (4 - a)).length := by
          rw [List.take_add_one, hrd]; simp
        rw [e]; exact hal
    · rintro v ls s6 ⟨vr, vs, rfl, hal⟩ h6
      refine x_return (ev_name (loc hE h6 (by decide +kernel) vr)) fun u s7 k7 e => ?_
      have e' : u = .ref rA := e
      subst e'
      have h7 := h6.keeps k7
      have hm := h7.le _ (.head _)
      refine hR _ _ h7.base ⟨vs, ⟨rA, rfl, hm.1, hm.2⟩, ?_⟩
      have e : revDays.take (ds.map fun p => Value.ref p.1).reverse.length = revDays := by simp [hlen, revDays]
      rw [e] at hal
      exact hal
end

theorem Al.split {α : Type} {R : α → Value → Prop} : ∀ {a b : List α} {zs : List Value}, Al R (a ++ b) zs → ∃ z1 z2, zs = z1 ++ z2 ∧ Al R a z1 ∧ Al R b z2
  | [], b, zs, h => ⟨[], zs, rfl, .nil, h⟩
  | x :: a, b, zs, h => by
    cases h with
    | cons r h =>
      obtain ⟨z1, z2, rfl, h1, h2⟩ := Al.split h
      exact ⟨_ :: z1, z2, rfl, .cons r h1, h2⟩
theorem al_pick {α : Type} {S : α → Value → Prop} {q : α → Bool} {p : Nat → Bool} {xs : List α} (hp : ∀ i x, xs[i]? = some x → p i = q x) : ∀ {n : Nat} {zs : List Value}, n ≤ xs.length →
    Al (fun i u => ∀ x, xs[i]? = some x → S x u) ((List.range n).filter p) zs → Al S ((xs.take n).filter q) zs
  | 0, zs, _, h => by simpa using (show zs = [] from by cases h; rfl) ▸ Al.nil
  | n + 1, zs, hn, h => by
    rw [List.range_succ, List.filter_append] at h
    obtain ⟨z1, z2, rfl, h1, h2⟩ := h.split
    have ih := al_pick hp (by lia) h1
    have hx : xs[n]? = some (xs[n]'(by lia)) := List.getElem?_eq_getElem _
    rw [List.take_add_one, hx, List.filter_append]
    refine ih.append ?_
    have e := hp n _ hx
    simp only [Option.toList_some, List.filter_cons, List.filter_nil] at h2 ⊢
    rw [e] at h2
    cases hq : q (xs[n]'(by lia)) with
    | false =>
      simp only [hq, Bool.false_eq_true, if_false] at h2 ⊢
      cases h2; exact .nil
    | true =>
      simp only [hq, if_true] at h2 ⊢
      cases h2 with
      | cons r h2 => cases h2; exact .one (r _ hx)
theorem al_pick' {α : Type} {S : α → Value → Prop} {q : α → Bool} {p : Nat → Bool} {xs : List α} {zs : List Value} {n : Nat} (hn : n = xs.length) (hp : ∀ i x, xs[i]? = some x → p i = q x)
    (h : Al (fun i u => ∀ x, xs[i]? = some x → S x u) ((List.range n).filter p) zs) : Al S (xs.filter q) zs := by
  subst hn
  have := al_pick hp (Nat.le_refl _) h
  rwa [List.take_length] at this
theorem al_idx {α : Type} {S : α → Value → Prop} {xs : List α} {zs : List Value} {n : Nat} (hn : n = xs.length) (h : Al (fun i u => ∀ x, xs[i]? = some x → S x u) ((List.range n).filter fun _ => true) zs) : Al S xs zs := by
  have := al_pick' (q := fun _ => true) hn (fun _ _ _ => rfl) h
  rwa [List.filter_eq_self.mpr fun _ _ => rfl] at this

noncomputable def kd (c : Nat) : Int := if c = 43 then 14 else if c = 45 then 15 else if c = 44 then 12 else if c = 123 then 25 else if c = 124 then 18 else 26
noncomputable def sideC (bs : List (List Bool)) : List Nat := bs.flatMap kb
noncomputable def bodyC (L R : List (List Bool)) : List Nat := sideC L ++ 124 :: sideC R
noncomputable def textC (L R : List (List Bool)) : List Nat := 123 :: bodyC L R ++ [125]
noncomputable def textS (L R : List (List Bool)) : Str := ⟨(textC L R).toArray⟩
structure RS where
  side : Nat
  num : List Bool
  l : List (List Bool)
  r : List (List Bool)
noncomputable def stepR (s : RS) (c : Nat) : RS :=
  if c = 44 then (if s.side = 0 then ⟨0, [], s.l ++ [s.num], s.r⟩ else ⟨s.side, [], s.l, s.r ++ [s.num]⟩)
  else if c = 124 then ⟨s.side + 1, s.num, s.l, s.r⟩ else ⟨s.side, s.num ++ [decide (c = 43)], s.l, s.r⟩
theorem code_sign (c : Bool) (s : RS) : stepR s (code c) = ⟨s.side, s.num ++ [c], s.l, s.r⟩ := by cases c <;> rfl
theorem fold_code : ∀ (b : List Bool) (s : RS), (b.map code).foldl stepR s = ⟨s.side, s.num ++ b, s.l, s.r⟩
  | [], s => by simp
  | c :: b, s => by rw [List.map_cons, List.foldl_cons, code_sign, fold_code b]; simp
theorem fold_kb0 (b : List Bool) (l r : List (List Bool)) : (kb b).foldl stepR ⟨0, [], l, r⟩ = ⟨0, [], l ++ [b], r⟩ := by
  unfold kb; rw [List.foldl_append, fold_code]; rfl
theorem fold_kb1 (b : List Bool) (l r : List (List Bool)) : (kb b).foldl stepR ⟨1, [], l, r⟩ = ⟨1, [], l, r ++ [b]⟩ := by
  unfold kb; rw [List.foldl_append, fold_code]; rfl
theorem fold_side0 : ∀ (L l r : List (List Bool)), (sideC L).foldl stepR ⟨0, [], l, r⟩ = ⟨0, [], l ++ L, r⟩
  | [], l, r => by simp [sideC]
  | b :: L, l, r => by
    have : sideC (b :: L) = kb b ++ sideC L := rfl
    rw [this, List.foldl_append, fold_kb0, fold_side0 L]; simp
theorem fold_side1 : ∀ (L l r : List (List Bool)), (sideC L).foldl stepR ⟨1, [], l, r⟩ = ⟨1, [], l, r ++ L⟩
  | [], l, r => by simp [sideC]
  | b :: L, l, r => by
    have : sideC (b :: L) = kb b ++ sideC L := rfl
    rw [this, List.foldl_append, fold_kb1, fold_side1 L]; simp
theorem fold_body (L R : List (List Bool)) : (bodyC L R).foldl stepR ⟨0, [], [], []⟩ = ⟨1, [], L, R⟩ := by
  unfold bodyC
  rw [List.foldl_append, fold_side0, List.foldl_cons]
  show (sideC R).foldl stepR ⟨1, [], [] ++ L, []⟩ = _
  rw [fold_side1]; simp
theorem side_codes (L : List (List Bool)) : ∀ c ∈ sideC L, c = 43 ∨ c = 45 ∨ c = 44 := fun c hc => by
  obtain ⟨b, _, hb⟩ := List.mem_flatMap.mp hc
  rcases List.mem_append.mp hb with h | h
  · obtain ⟨x, _, rfl⟩ := List.mem_map.mp h
    cases x
    · exact .inr (.inl rfl)
    · exact .inl rfl
  · exact .inr (.inr (by simpa using h))
theorem body_codes (L R : List (List Bool)) : ∀ c ∈ bodyC L R, c = 43 ∨ c = 45 ∨ c = 44 ∨ c = 124 := fun c hc => by
  rcases List.mem_append.mp hc with h | h
  · rcases side_codes L c h with h | h | h <;> simp [h]
  · rcases List.mem_cons.mp h with h | h
    · simp [h]
    · rcases side_codes R c h with h | h | h <;> simp [h]
theorem step_side (s : RS) (c : Nat) : (stepR s c).side = s.side + [c].count 124 := by
  unfold stepR
  by_cases h1 : c = 44
  · subst h1; rw [if_pos rfl]; split
    · rename_i h; simp [h]
    · simp
  · rw [if_neg h1]
    by_cases h2 : c = 124
    · subst h2; rw [if_pos rfl]; simp
    · rw [if_neg h2]; simp [List.count_singleton, h2]
theorem fold_sideN : ∀ (cs : List Nat) (s : RS), (cs.foldl stepR s).side = s.side + cs.count 124
  | [], s => by simp
  | c :: cs, s => by
    rw [List.foldl_cons, fold_sideN cs, step_side]
    have : (c :: cs).count 124 = [c].count 124 + cs.count 124 := by
      rw [show c :: cs = [c] ++ cs from rfl, List.count_append]
    lia
theorem side_count (L : List (List Bool)) : (sideC L).count 124 = 0 := List.count_eq_zero.mpr fun h => by rcases side_codes L _ h with h | h | h <;> lia
theorem body_count (L R : List (List Bool)) : (bodyC L R).count 124 = 1 := by
  unfold bodyC
  rw [List.count_append, side_count, List.count_cons_self, side_count]
theorem side_le (L R : List (List Bool)) (i : Nat) : (((bodyC L R).take i).foldl stepR ⟨0, [], [], []⟩).side ≤ 1 := by
  rw [fold_sideN]
  have := (List.take_sublist i (bodyC L R)).count_le 124
  rw [body_count] at this
  simpa using this
theorem num_le : ∀ (cs : List Nat) (s : RS), (cs.foldl stepR s).num.length ≤ s.num.length + cs.length
  | [], s => by simp
  | c :: cs, s => by
    rw [List.foldl_cons]
    have h1 := num_le cs (stepR s c)
    have h2 : (stepR s c).num.length ≤ s.num.length + 1 := by
      unfold stepR
      split
      · split <;> simp
      · split <;> simp
    simp only [List.length_cons]
    lia
theorem lists_le : ∀ (cs : List Nat) (s : RS), (cs.foldl stepR s).l.length ≤ s.l.length + cs.length ∧ (cs.foldl stepR s).r.length ≤ s.r.length + cs.length
  | [], s => by simp
  | c :: cs, s => by
    rw [List.foldl_cons]
    have h1 := lists_le cs (stepR s c)
    have h2 : (stepR s c).l.length ≤ s.l.length + 1 ∧ (stepR s c).r.length ≤ s.r.length + 1 := by
      unfold stepR
      split
      · split <;> simp
      · split <;> simp
    simp only [List.length_cons]
    lia

section
variable {prog : Program} {w : World} {A : Around} {E : Value → Shared → Prop} {s₀ s : Shared} {env : Env} {mg mb tokf : Str → Option Value} {i : Nat} {v : Str → Option Value} {ls pre post : List (Addr × Ent)} {Q : Flow → Shared → Prop} {rest : List Stmt} {P : VP}

theorem monoMap {K : Type} [DecidableEq K] {knd : KeyKind prog w K} {f : K → Option Value} {h h' : Heap} {a : Addr} (k : ∀ b o, h.get? b = some o → h'.get? b = some o) (x : h.MapOf knd a f) : h'.MapOf knd a f :=
  let ⟨o, es, ep, ho, r⟩ := x; ⟨o, es, ep, k _ _ ho, r⟩
theorem ev_dict2 {k1 k2 k3 k4 p1 p2 p3 p4 p5} : Ev prog w A (eval (.Dict [some (.Constant (.int 14) k1 p1), some (.Constant (.int 15) k2 p2)] [.Constant (.str "+") k3 p3, .Constant (.str "-") k4 p4] p5) env) s
    (fun v s' => ∃ d t1 t2, v = .ref d ∧ s'.heap.MapOf (intKind prog w) d (valueAt [(14, .str "+" t1), (15, .str "-" t2)])) := fun s' k Q E hQ => by
  have hall : ([some (.Constant (.int 14) k1 p1), some (.Constant (.int 15) k2 p2)] : List (Option Expr)).all (·.isSome) = true := by simp
  have hl : ([some (.Constant (.int 14) k1 p1), some (.Constant (.int 15) k2 p2)] : List (Option Expr)).length = ([.Constant (.str "+") k3 p3, .Constant (.str "-") k4 p4] : List Expr).length := by simp
  refine wpAny_Dict_walk (knd := intKind prog w) hall hl (by simp) (by simp) ?_
  refine pairTrees_cons_walk ?_
  refine ev_int.use fun kv s1 k1 pk => ?_
  refine ev_str.use fun vv s2 k2 pv => ?_
  refine pairTrees_cons_walk ?_
  refine ev_int.use fun kv2 s3 k3 pk2 => ?_
  refine ev_str.use fun vv2 s4 k4 pv2 => ?_
  refine pairTrees_nil_walk ?_
  obtain ⟨t1, rfl⟩ := pk; obtain ⟨t2, rfl⟩ := pv; obtain ⟨t3, rfl⟩ := pk2; obtain ⟨t4, rfl⟩ := pv2
  have kk := kTrans k1 (kTrans k2 (kTrans k3 k4))
  have hnew : ({ s' with heap := s'.heap.push { cls := .type "dict", data := .dict #[] } } : Shared).heap.DictOf (intKind prog w) s'.heap.objs.size [] := Heap.DictOf.new _
  obtain ⟨o, es, ep, ho, r⟩ := hnew
  refine display_done_int (by rfl) (by simp [intKeyPairs]) ⟨o, es, ep, kOld kk _ _ ho, r⟩ fun h' hm hsb => hQ _ _ ?_ ⟨_, t2, t4, rfl, hm.mapOf⟩
  obtain ⟨h4, t4', e4, kk4⟩ := kk
  subst e4
  exact ⟨h', _, rfl, fun b o e => hsb.extBut b o (Nat.ne_of_lt (Heap.lt_size e)) (kk4 b o (Heap.get?_push_of_some _ e))⟩
theorem ev_signD {k1 k2 k3 k4 p1 p2 p3 p4 p5 pos} {e : Expr} {c : Nat} (he : Ev prog w A (eval e env) s (IsI (kd c))) (hc : c = 43 ∨ c = 45)
    (hs : ∀ o i, subscripted e false o i = operate [o, i] (getItem o i) := by walk_at "xa") :
    Ev prog w A (eval (.Subscript (.Dict [some (.Constant (.int 14) k1 p1), some (.Constant (.int 15) k2 p2)] [.Constant (.str "+") k3 p3, .Constant (.str "-") k4 p4] p5) e pos) env) s (IsS (tx [decide (c = 43)])) := by
  refine ev_subs ev_dict2 (fun v s1 s2 k ⟨d, t1, t2, e, hm⟩ => ⟨d, t1, t2, e, monoMap (kOld k) hm⟩) he fun o i s' k ho hi => ?_
  obtain ⟨d, t1, t2, rfl, hm⟩ := ho
  obtain ⟨t, rfl⟩ := hi
  refine op_tail hm.typeIs slot_dict_getitem.lookup (P := IsS (tx [decide (c = 43)])) ?_ (hs _ _)
  rcases hc with rfl | rfl
  · exact fun Q E hQ => wpAny_getItem_of (v := .str "+" t1) (intKind_is prog w _ t) hm rfl (hQ _ _ (kTok _ _) ⟨t1, rfl⟩)
  · exact fun Q E hQ => wpAny_getItem_of (v := .str "-" t2) (intKind_is prog w _ t) hm rfl (hQ _ _ (kTok _ _) ⟨t2, rfl⟩)
end

noncomputable def IsSign (c : Nat) : Prop := c = 43 ∨ c = 45 ∨ c = 44 ∨ c = 123 ∨ c = 124 ∨ c = 125
structure Tk (tokf : Str → Option Value) : Prop where
  one : ∀ c, IsSign c → ∃ t, tokf ⟨#[c]⟩ = some (.int (kd c) t)
  two : ∀ c d, IsSign c → IsSign d → tokf ⟨#[c, d]⟩ = none
theorem text_codes (L R : List (List Bool)) : ∀ c ∈ textC L R, IsSign c := fun c hc => by
  rcases List.mem_append.mp hc with h | h
  · rcases List.mem_cons.mp h with h | h
    · simp [IsSign, h]
    · rcases body_codes L R c h with h | h | h | h <;> simp [IsSign, h]
  · simp at h; simp [IsSign, h]
theorem text_mid (L R : List (List Bool)) : ((textC L R).drop 1).take ((textC L R).length - 2) = bodyC L R := by
  unfold textC
  simp
theorem pick_mid (vs : List Value) (h : 2 ≤ vs.length) : (slicePick vs.toArray (some 1) (some (-1)) none).toList = (vs.drop 1).take (vs.length - 2) := by
  have e : sliceBounds (some 1) (some (-1)) none vs.toArray.size = (((1 : Nat) : Int), ((vs.length - 1 : Nat) : Int), 1) := by
    simp only [sliceBounds, Option.getD_none, show (1 : Int) > 0 by decide, if_true, if_neg (show ¬ ((1 : Int) < 0) by lia), if_pos (show ((-1 : Int) < 0) by lia), List.size_toArray]
    congr 1
    · lia
    · congr 1
      lia
  rw [PySem.W.kmk_pick_nat _ e]
  show (vs.drop 1).take (vs.length - 1 - 1) = _
  rw [show vs.length - 1 - 1 = vs.length - 2 by lia]

theorem kd_12 {c : Nat} (hc : c = 43 ∨ c = 45 ∨ c = 44 ∨ c = 124) (h : ¬ c = 44) : (kd c == 12) = false := by
  rcases hc with rfl | rfl | rfl | rfl
  · decide
  · decide
  · exact absurd rfl h
  · decide
theorem kd_18 {c : Nat} (hc : c = 43 ∨ c = 45) : (kd c == 18) = false := by
  rcases hc with rfl | rfl
  · decide
  · decide
section
variable {prog : Program} {w : World} {A : Around} {E : Value → Shared → Prop} {s₀ s : Shared} {env : Env} {mg mb tokf : Str → Option Value} {i : Nat} {v : Str → Option Value} {ls pre post : List (Addr × Ent)} {Q : Flow → Shared → Prop} {rest : List Stmt} {P : VP}
theorem ev_two {p1 p2 pos : Pos} : Ev prog w A (eval (.List [.List [] p1, .List [] p2] pos) env) s (fun v s' => ∃ a a0 a1, v = .ref a ∧ s'.heap.PlainList a #[.ref a0, .ref a1] ∧ s'.heap.PlainList a0 #[] ∧ s'.heap.PlainList a1 #[] ∧
    s.heap.get? a = none ∧ s.heap.get? a0 = none ∧ s.heap.get? a1 = none ∧ a0 ≠ a1 ∧ a ≠ a0 ∧ a ≠ a1) := fun s' k Q E hQ => by
  have e1 : ∀ p s, Op prog w A (eval (.List [] p) env) s (NewL s []) := fun p s => ev_nil.op
  refine PyProof.Rows.List_ ?_
  show wpAny _ _ (spliced (backTo pos ((false, eval (.List [] p1) env) :: (false, eval (.List [] p2) env) :: []))) _ _ _
  have e2 : backTo pos ((false, eval (.List [] p1) env) :: (false, eval (.List [] p2) env) :: []) = (false, eval (.List [] p1) env) :: backTo pos ((false, eval (.List [] p2) env) :: []) := by unfold backTo; simp
  rw [e2]
  refine spliced_cons (e1 p1 s' _ _ fun v0 s1 k1 n0 => ?_)
  have e3 : backTo pos ((false, eval (.List [] p2) env) :: []) = (false, eval (.List [] p2) env) :: [] := by unfold backTo; simp
  rw [e3]
  refine spliced_cons (e1 p2 s1 _ _ fun v1 s2 k2 n1 => spliced_nil ?_)
  obtain ⟨a0, rfl, h0, f0⟩ := n0
  obtain ⟨a1, rfl, h1, f1⟩ := n1
  have g0 : ∃ o, s1.heap.get? a0 = some o := let ⟨n, e⟩ := h0; ⟨_, e⟩
  have g1 : ∃ o, s2.heap.get? a1 = some o := let ⟨n, e⟩ := h1; ⟨_, e⟩
  obtain ⟨o0, g0⟩ := g0
  obtain ⟨o1, g1⟩ := g1
  refine wpAny_newList (hQ _ _ (kTrans k1 (kTrans k2 (kPush _ _))) ⟨s2.heap.objs.size, a0, a1, rfl, ⟨_, Heap.get?_push_size _ rfl⟩, (h0.at fun o e => kOld k2 _ o e).at fun o e => Heap.get?_push_of_some _ e, h1.at fun o e => Heap.get?_push_of_some _ e, ?_, ?_, ?_, ?_, ?_, ?_⟩) (sz (by simp))
  · exact kNone (kTrans k (kTrans k1 k2)) (get_none_of_push _)
  · exact kNone k f0
  · exact kNone (kTrans k k1) f1
  · rintro rfl; rw [f1] at g0; cases g0
  · exact fun e => Nat.lt_irrefl _ (by have := Heap.lt_size (kOld k2 _ _ g0); rw [← e] at this; exact this)
  · exact fun e => Nat.lt_irrefl _ (by have := Heap.lt_size g1; rw [← e] at this; exact this)
noncomputable abbrev TwoL (s₀ : Shared) (L R : List (List Bool)) : VP := fun u s' => ∃ a a0 a1 vs0 vs1, u = .ref a ∧ s'.heap.PlainList a #[.ref a0, .ref a1] ∧ s'.heap.PlainList a0 (vs0 : List Value).toArray ∧ s'.heap.PlainList a1 (vs1 : List Value).toArray ∧ s₀.heap.get? a0 = none ∧ s₀.heap.get? a1 = none ∧ a0 ≠ a1 ∧ Al TV L vs0 ∧ Al TV R vs1

theorem ct_read {L R : List (List Bool)} {t : Tok} (W : Wd prog w mg mb tokf s.heap) (N : Nm mg mb) (T : Tk tokf) (hlen : (textC L R).length ≤ 1000) : Ct prog w 1 89 ⟨[.str (textS L R) t], []⟩ s (TwoL s L R) := fun A hA R' hR => by
  refine enter (by have := hA.depth; lia) W.f61 W.lim (binds := [("text", .str (textS L R) t)]) (fun nm qn cd pm doc ct an => BindsTo.of_eq rfl) rfl rfl rfl rfl fun env s₁ hE hS E => ?_
  have hA' := hA.deeper env
  have hcl : (textS L R).cps.size = (textC L R).length := by show (textC L R).toArray.size = _; simp
  have hbl : (textC L R).length = (bodyC L R).length + 2 := by unfold textC; simp
  have hcomp : ∀ sc : Scope, sc.kind = .function → (sc.names.all fun y => y.2 != .cell && y.2 != .free) = true → (sc.names.map (·.1)).Nodup → CompOk sc env := fun _ a b c => CompOk.nofree a b c
  -- kinds
  refine x_made (Z := Al (fun i u => ∀ c, (textC L R)[i]? = some c → IV (kd c) u) ((List.range (textS L R).cps.size).filter fun _ => true)) hS (made1 (n := (textS L R).cps.size) (Pi := SignAt (textS L R)) (Pa := IsS (textS L R)) hS (hcomp _ rfl (by decide +kernel) (by decide +kernel)) (by decide +kernel) (sz (by lia))
    (ev_nameS (loc hE hS (by decide +kernel) rfl)) (fun u s' k pu => by obtain ⟨t, rfl⟩ := pu; exact src_str hA'.handled) (fun _ _ _ _ _ _ _ _ _ _ => evTests_nil) (fun C m u i s2 hi _ hPi hm k2 h2 => ?_)) (hE.kind (by decide +kernel)) rfl (by decide +kernel) fun zs kA s2 hz h2 => ?_
  · obtain ⟨c, t1, hc, rfl⟩ := hPi
    have hc' : (textC L R)[i]? = some c := by
      have : (textC L R).toArray[i]? = some c := hc
      simpa using this
    obtain ⟨t2, ht2⟩ := T.one c (text_codes L R c (List.mem_of_getElem? hc'))
    have W2 := W.st h2
    refine (ev_itemD (ev_name (cglob W2 (hcomp _ rfl (by decide +kernel) (by decide +kernel)) hE.gen (by decide +kernel) N.tokens)) (ev_nameS (cloc h2 (by decide +kernel) hm)) W2.tok ht2).mono fun u s3 k3 e => ?_
    intro c' hc''
    rw [hc'] at hc''; cases hc''
    have e' : u = .int (kd c) t2 := e
    exact ⟨t2, e'⟩
  have hal : Al (fun c u => IV (kd c) u) (textC L R) zs := al_idx hcl hz
  have hzl : zs.length = (textC L R).length := hal.len
  -- sides
  refine x_assign h2 ev_two (isL hE (by decide +kernel)) fun u s3 k3 p3 => ?_
  obtain ⟨a, a0, a1, rfl, hla, hl0, hl1, na, n0, n1, ne01, nea0, nea1⟩ := p3
  have ad : ∀ b : Addr, s2.heap.get? b = none → b ≠ kA := fun b hb => by rintro rfl; have := h2.fresh hb; simp at this
  refine ⟨[(a0, .lst []), (a1, .lst []), (a, .lst [.ref a0, .ref a1]), (kA, .lst zs)], ?_, fun s4 h4 => ?_⟩
  · have h3 := h2.keeps k3
    have g1 := h3.addAt (e := .lst [.ref a0, .ref a1]) (kNone h2.base na) (by simpa using ad a na) hla
    have g2 := g1.addAt (e := .lst []) (kNone h2.base n1) (by simpa using ⟨Ne.symm nea1, ad a1 n1⟩) hl1
    exact g2.addAt (e := .lst []) (kNone h2.base n0) (by simpa using ⟨ne01, Ne.symm nea0, ad a0 n0⟩) hl0
  refine x_assignI h4 ev_int (isL hE (by decide +kernel)) fun t5 s5 h5 => ?_
  refine x_assignS h5 ev_str (isL hE (by decide +kernel)) fun t6 s6 h6 => ?_
  -- the loop
  have hbody : Al (fun c u => IV (kd c) u) (bodyC L R) ((zs.drop 1).take (zs.length - 2)) := by
    have := (hal.drop 1).take ((textC L R).length - 2)
    rw [text_mid] at this
    rw [hzl]; exact this
  refine x_forN (xs := (zs.drop 1).take (zs.length - 2)) hA'.handled h6 ?iter (isL hE (by decide +kernel))
    (J := fun i v ls => v "sides" = some (.ref a) ∧ v "kinds" = some (.ref kA) ∧ (∃ t, v "side" = some (.int (((bodyC L R).take i).foldl stepR ⟨0, [], [], []⟩).side t)) ∧ (∃ t, v "number" = some (.str (tx (((bodyC L R).take i).foldl stepR ⟨0, [], [], []⟩).num) t)) ∧
      ∃ vs0 vs1, ls = [(a0, .lst vs0), (a1, .lst vs1), (a, .lst [.ref a0, .ref a1]), (kA, .lst zs)] ∧ Al TV (((bodyC L R).take i).foldl stepR ⟨0, [], [], []⟩).l vs0 ∧ Al TV (((bodyC L R).take i).foldl stepR ⟨0, [], [], []⟩).r vs1)
    ⟨by walk_at "lk", by walk_at "lk", ⟨t5, by walk_at "lk"⟩, ⟨t6, by rw [upd_same]; rfl⟩, [], [], rfl, .nil, .nil⟩ ?_ ?_
  case iter =>
    rw [← pick_mid zs (by lia)]
    exact ev_sliceL (ev_nameL (xs := zs) (loc hE h6 (x := "kinds") (by decide +kernel) (by walk_at "lk")) (h6.list (.tail _ (.tail _ (.tail _ (.head _)))))) (evP_int ev_int) (evP_int (ev_neg ev_int)) (sz (by lia))
  · rintro i y v ls it l s7 hy ⟨vsd, vk, ⟨tsd, vsi⟩, ⟨tn, vn⟩, vs0, vs1, rfl, al0, al1⟩ h7 E
    obtain ⟨c, hc, tc, rfl⟩ := hbody.get' hy
    have hil : i < (bodyC L R).length := by
      rcases Nat.lt_or_ge i (bodyC L R).length with h | h
      · exact h
      · rw [List.getElem?_eq_none h] at hc; cases hc
    have hnext : ((bodyC L R).take (i + 1)).foldl stepR ⟨0, [], [], []⟩ = stepR (((bodyC L R).take i).foldl stepR ⟨0, [], [], []⟩) c := by
      rw [List.take_add_one, hc, List.foldl_append]; rfl
    have hside := side_le L R i
    have hnum := num_le ((bodyC L R).take i) ⟨0, [], [], []⟩
    have hll := lists_le ((bodyC L R).take i) ⟨0, [], [], []⟩
    simp only [hnext]
    generalize ((bodyC L R).take i).foldl stepR ⟨0, [], [], []⟩ = st at *
    have hnum' : st.num.length ≤ 1000 := by have := List.length_take_le i (bodyC L R); simp at hnum; lia
    have hl0' : vs0.length ≤ 1000 := by have := List.length_take_le i (bodyC L R); rw [al0.len]; simp at hll; lia
    have hl1' : vs1.length ≤ 1000 := by have := List.length_take_le i (bodyC L R); rw [al1.len]; simp at hll; lia
    have hcs := body_codes L R c (List.mem_of_getElem? hc)
    by_cases h44 : c = 44
    · subst h44
      refine x_if h7 (b := true) (evB_of_eq (evB_cmpI (ev_nameI (loc hE h7 (by decide +kernel) (by walk_at "lk"))) ev_int fun _ _ _ => op_eq) (by decide)) (fun _ s8 h8 => ?_) (fun e => by cases e)
      have hsd : st.side = 0 ∨ st.side = 1 := by lia
      rcases hsd with hsd | hsd
      · refine x_append (pre := [(it, .lit l (i + 1)), (l, .lst ((zs.drop 1).take (zs.length - 2)))]) (a := a0) (xs := vs0) (post := [(a1, .lst vs1), (a, .lst [.ref a0, .ref a1]), (kA, .lst zs)]) (P := IsV (.str (tx st.num) tn)) h8
          (ev_item (k := 0) (xs := [.ref a0, .ref a1]) (ev_nameL (loc hE h8 (by decide +kernel) (by walk_at "lk")) (h8.list (.tail _ (.tail _ (.tail _ (.tail _ (.head _))))))) (ev_of_eqI (ev_nameI (loc hE h8 (by decide +kernel) (by walk_at "lk"))) (by rw [hsd]; rfl)) (by decide) (by decide) rfl)
          (fun _ => rfl) (ev_name (loc hE h8 (by decide +kernel) (by walk_at "lk"))) (monoV _) (sz (by lia)) (fun u s9 k9 pu => ⟨[(it, .lit l (i + 1)), (l, .lst ((zs.drop 1).take (zs.length - 2)))], h8.keeps k9, fun s10 h10 => ?_⟩) h8.quiet
        subst pu
        refine x_assignS h10 ev_str (isL hE (by decide +kernel)) fun t11 s11 h11 => x_nil (x_nil ⟨rfl, _, _, h11, by walk_at "lk", by walk_at "lk", ⟨tsd, ?_⟩, ⟨t11, ?_⟩, vs0 ++ [.str (tx st.num) tn], vs1, rfl, ?_, ?_⟩)
        · rw [show (stepR st 44).side = st.side from by unfold stepR; rw [if_pos rfl, if_pos hsd, hsd]]; walk_at "lk"
        · rw [upd_same]; unfold stepR; rw [if_pos rfl, if_pos hsd]; rfl
        · unfold stepR; rw [if_pos rfl, if_pos hsd]; exact al0.snoc ⟨tn, rfl⟩
        · unfold stepR; rw [if_pos rfl, if_pos hsd]; exact al1
      · have hs0 : ¬ st.side = 0 := by lia
        refine x_append (pre := [(it, .lit l (i + 1)), (l, .lst ((zs.drop 1).take (zs.length - 2))), (a0, .lst vs0)]) (a := a1) (xs := vs1) (post := [(a, .lst [.ref a0, .ref a1]), (kA, .lst zs)]) (P := IsV (.str (tx st.num) tn)) h8
          (ev_item (k := 1) (xs := [.ref a0, .ref a1]) (ev_nameL (loc hE h8 (by decide +kernel) (by walk_at "lk")) (h8.list (.tail _ (.tail _ (.tail _ (.tail _ (.head _))))))) (ev_of_eqI (ev_nameI (loc hE h8 (by decide +kernel) (by walk_at "lk"))) (by rw [hsd]; rfl)) (by decide) (by decide) rfl)
          (fun _ => rfl) (ev_name (loc hE h8 (by decide +kernel) (by walk_at "lk"))) (monoV _) (sz (by lia)) (fun u s9 k9 pu => ⟨[(it, .lit l (i + 1)), (l, .lst ((zs.drop 1).take (zs.length - 2))), (a0, .lst vs0)], h8.keeps k9, fun s10 h10 => ?_⟩) h8.quiet
        subst pu
        refine x_assignS h10 ev_str (isL hE (by decide +kernel)) fun t11 s11 h11 => x_nil (x_nil ⟨rfl, _, _, h11, by walk_at "lk", by walk_at "lk", ⟨tsd, ?_⟩, ⟨t11, ?_⟩, vs0, vs1 ++ [.str (tx st.num) tn], rfl, ?_, ?_⟩)
        · rw [show (stepR st 44).side = st.side from by unfold stepR; rw [if_pos rfl, if_neg hs0]]; walk_at "lk"
        · rw [upd_same]; unfold stepR; rw [if_pos rfl, if_neg hs0]; rfl
        · unfold stepR; rw [if_pos rfl, if_neg hs0]; exact al0
        · unfold stepR; rw [if_pos rfl, if_neg hs0]; exact al1.snoc ⟨tn, rfl⟩
    · refine x_if h7 (b := false) (evB_of_eq (evB_cmpI (ev_nameI (loc hE h7 (by decide +kernel) (by walk_at "lk"))) ev_int fun _ _ _ => op_eq) (kd_12 hcs h44)) (fun e => by cases e) (fun _ s8 h8 => ?_)
      by_cases h124 : c = 124
      · subst h124
        refine x_if h8 (b := true) (evB_of_eq (evB_cmpI (ev_nameI (loc hE h8 (by decide +kernel) (by walk_at "lk"))) ev_int fun _ _ _ => op_eq) (by decide)) (fun _ s9 h9 => ?_) (fun e => by cases e)
        rw [show stepR st 124 = ⟨st.side + 1, st.num, st.l, st.r⟩ from rfl]
        have e1 : ((st.side + 1 : Nat) : Int) = st.side + 1 := by lia
        refine x_aug (P := IsI ((st.side + 1 : Nat) : Int)) h9 (loc hE h9 (by decide +kernel) (by walk_at "lk")) ev_int (fun u s' _ hu => by
          obtain ⟨t, rfl⟩ := hu
          rw [e1]; exact op_iadd) (isL hE (by decide +kernel)) fun u s10 k10 p10 => ?_
        obtain ⟨t10, rfl⟩ := p10
        exact ⟨_, h9.keeps k10, fun s11 h11 => x_nil (x_nil (x_nil ⟨rfl, _, _, h11, by walk_at "lk", by walk_at "lk", ⟨t10, by walk_at "lk"⟩, ⟨tn, by walk_at "lk"⟩, vs0, vs1, rfl, al0, al1⟩))⟩
      · have hsg : c = 43 ∨ c = 45 := by lia
        refine x_if h8 (b := false) (evB_of_eq (evB_cmpI (ev_nameI (loc hE h8 (by decide +kernel) (by walk_at "lk"))) ev_int fun _ _ _ => op_eq) (kd_18 hsg)) (fun e => by cases e) (fun _ s9 h9 => ?_)
        have hst : stepR st c = ⟨st.side, st.num ++ [decide (c = 43)], st.l, st.r⟩ := by unfold stepR; rw [if_neg h44, if_neg h124]
        refine x_aug (P := IsS (tx (st.num ++ [decide (c = 43)]))) h9 (loc hE h9 (by decide +kernel) (by walk_at "lk")) (ev_signD (ev_nameI (loc hE h9 (by decide +kernel) (by walk_at "lk"))) hsg) (fun u s' _ hu => by
          obtain ⟨t, rfl⟩ := hu
          rw [← tx_append]
          exact op_iaddS (by rw [tx_len, tx_len]; exact sz (by simp; lia))) (isL hE (by decide +kernel)) fun u s10 k10 p10 => ?_
        obtain ⟨t10, rfl⟩ := p10
        rw [hst]
        exact ⟨_, h9.keeps k10, fun s11 h11 => x_nil (x_nil (x_nil ⟨rfl, _, _, h11, by walk_at "lk", by walk_at "lk", ⟨tsd, by walk_at "lk"⟩, ⟨t10, by walk_at "lk"⟩, vs0, vs1, rfl, al0, al1⟩))⟩
  · rintro v ls s7 ⟨vsd, vk, ⟨tsd, vsi⟩, ⟨tn, vn⟩, vs0, vs1, rfl, al0, al1⟩ h7
    rw [hbody.len, List.take_length, fold_body] at al0 al1
    obtain ⟨u0, hu0, tu0, rfl⟩ := hal.get (i := 0) (x := 123) (by unfold textC; rfl)
    obtain ⟨u9, hu9, tu9, rfl⟩ := hal.get (i := (bodyC L R).length + 1) (x := 125) (by unfold textC; simp)
    refine x_return (P := IsV (.ref a)) (ev_ifT (evB_cmp (ev_list (Ps := [IsV (.int (kd 123) tu0), IsV (.int (kd 125) tu9)]) (.cons (fun _ => rfl) (ev_item (k := 0) (ev_nameL (xs := zs) (loc hE h7 (by decide +kernel) vk) (h7.list (.tail _ (.tail _ (.tail _ (.head _)))))) ev_int (by decide) (by decide) hu0) (monoV _)
        (.cons (fun _ => rfl) (ev_itemNeg (k := -1) (ev_nameL (xs := zs) (loc hE h7 (by decide +kernel) vk) (h7.list (.tail _ (.tail _ (.tail _ (.head _)))))) (ev_neg ev_int) (by decide) (by lia) (by decide) (by rw [show ((-1 : Int) + (zs.length : Nat)).toNat = (bodyC L R).length + 1 by lia]; exact hu9)) (monoV _) .nil)) (sz (by simp)))
      (monoList fun P hP => by
        rcases List.mem_cons.mp hP with rfl | hP
        · exact monoV _
        · rcases List.mem_cons.mp hP with rfl | hP
          · exact monoV _
          · cases hP)
      (ev_list (Ps := [IsI 25, IsI 26]) (.cons (fun _ => rfl) ev_int (monoI _) (.cons (fun _ => rfl) ev_int (monoI _) .nil)) (sz (by simp)))
      (fun x y s' k hx hy => ?_)) (ev_name (loc hE h7 (by decide +kernel) vsd))) fun u s8 k8 e => ?_
    · obtain ⟨b1, ws1, rfl, hw1, _, pw1⟩ := hx
      obtain ⟨b2, ws2, rfl, hw2, _, pw2⟩ := hy
      obtain ⟨q1, q2, rfl, e1, e2⟩ := allP2 pw1
      obtain ⟨r1, r2, rfl, ⟨t1, rfl⟩, t2, rfl⟩ := allP2 pw2
      subst e1; subst e2
      exact op_eqL hA'.units hw1.isList hw2.isList rfl fun j x y hx hy => by
        match j, hx, hy with
        | 0, hx, hy => simp at hx hy; subst hx; subst hy; exact .inl ⟨_, _, _, rfl, rfl⟩
        | 1, hx, hy => simp at hx hy; subst hx; subst hy; exact .inl ⟨_, _, _, rfl, rfl⟩
        | j + 2, hx, hy => simp at hx
    · have e' : u = .ref a := e
      subst e'
      have h8 := h7.keeps k8
      have g0 := h8.le _ (.head _)
      have g1 := h8.le _ (.tail _ (.head _))
      have g2 := h8.le _ (.tail _ (.tail _ (.head _)))
      exact hR _ _ h8.base ⟨a, a0, a1, vs0, vs1, rfl, g2.1, g0.1, g1.1, g0.2, g1.2, ne01, al0, al1⟩
end

noncomputable def posL (row : List (List Bool)) (x : List Bool) : Nat := (row.takeWhile fun y => ltB y x).length
noncomputable def lowOf (row : List (List Bool)) (R : List (List Bool)) : Nat := (R.map (posB row)).foldl max 0
noncomputable def highOf (row : List (List Bool)) (L : List (List Bool)) : Nat := (L.map (posL row)).foldl min row.length
theorem foldl_max_ge : ∀ (l : List Nat) (a : Nat), a ≤ l.foldl max a ∧ ∀ x ∈ l, x ≤ l.foldl max a
  | [], a => ⟨Nat.le_refl _, fun _ h => nomatch h⟩
  | y :: l, a => by
    obtain ⟨h1, h2⟩ := foldl_max_ge l (max a y)
    rw [List.foldl_cons]
    refine ⟨by lia, fun x hx => ?_⟩
    rcases List.mem_cons.mp hx with rfl | hx
    · lia
    · exact h2 x hx
theorem foldl_max_mem : ∀ (l : List Nat) (a : Nat), l.foldl max a = a ∨ l.foldl max a ∈ l
  | [], a => .inl rfl
  | y :: l, a => by
    rw [List.foldl_cons]
    rcases foldl_max_mem l (max a y) with h | h
    · rcases Nat.le_total a y with h1 | h1
      · rw [Nat.max_eq_right h1] at h ⊢; exact .inr (by rw [h]; exact .head _)
      · rw [Nat.max_eq_left h1] at h ⊢; exact .inl h
    · exact .inr (.tail _ h)
theorem foldl_min_le : ∀ (l : List Nat) (a : Nat), l.foldl min a ≤ a ∧ ∀ x ∈ l, l.foldl min a ≤ x
  | [], a => ⟨Nat.le_refl _, fun _ h => nomatch h⟩
  | y :: l, a => by
    obtain ⟨h1, h2⟩ := foldl_min_le l (min a y)
    rw [List.foldl_cons]
    refine ⟨by lia, fun x hx => ?_⟩
    rcases List.mem_cons.mp hx with rfl | hx
    · lia
    · exact h2 x hx
theorem foldl_min_mem : ∀ (l : List Nat) (a : Nat), l.foldl min a = a ∨ l.foldl min a ∈ l
  | [], a => .inl rfl
  | y :: l, a => by
    rw [List.foldl_cons]
    rcases foldl_min_mem l (min a y) with h | h
    · rcases Nat.le_total a y with h1 | h1
      · rw [Nat.min_eq_left h1] at h ⊢; exact .inl h
      · rw [Nat.min_eq_right h1] at h ⊢; exact .inr (by rw [h]; exact .head _)
    · exact .inr (.tail _ h)
structure CutsAt (row : List (List Bool)) (x : List Bool) : Prop where
  r : Cut (fun j => ltB x (row.getD j [])) 0 (posB row x) row.length
  l : Cut (fun j => !ltB (row.getD j []) x) 0 (posL row x) row.length
theorem cut_mapL {x : List Bool} {bs : List (List Bool)} {lo r hi : Nat} (hh : hi ≤ bs.length) (h : Cut (fun j => !ltB (bs.getD j []) x) lo r hi) : Cut (fun j => !ltS (keyS ((bs.map tx).getD j "")) (keyS (tx x))) lo r hi :=
  h.congr fun j hj => by rw [getD_map (d := []) (by lia), ltS_key]

section
variable {prog : Program} {w : World} {A : Around} {E : Value → Shared → Prop} {s₀ s : Shared} {env : Env} {mg mb tokf : Str → Option Value} {i : Nat} {v : Str → Option Value} {ls pre post : List (Addr × Ent)} {Q : Flow → Shared → Prop} {rest : List Stmt} {P : VP}

theorem keeps_ext {h' : Heap} (hx : Heap.ExtBut s.heap.objs.size s.heap h') : Keeps s { s with heap := h' } := ⟨h', s.toks, rfl, fun b o e => hx b o (Nat.ne_of_lt (Heap.lt_size e)) e⟩
theorem x_unpackL {n1 n2 : Str} {p1 p2 tp pos : Pos} {k0 : Nat} {e : Expr} (hA : A.handled = none) (h : St s₀ env v ls s) (he : Ev prog w A (eval e env) s P) (hk1 : env.kindOf n1 = some .local ∨ env.kindOf n1 = some .cell) (hk2 : env.kindOf n2 = some .local ∨ env.kindOf n2 = some .cell)
    (k : ∀ u s', Keeps s s' → P u s' → ∃ a x y ls', u = .ref a ∧ s'.heap.IsList a #[x, y] ∧ St s₀ env v ls' s' ∧ ∀ s'', St s₀ env (upd (upd v n1 x) n2 y) ls' s'' → wpAny (model prog w) A (execs rest env) Q E s'')
    (hs : swapsWithSole [.Tuple [.Name n1 p1, .Name n2 p2] k0 tp] e pos.line env = pure false := by walk_at "xa") (hw : swappedStores [.Tuple [.Name n1 p1, .Name n2 p2] k0 tp] e env = pure none := by walk_at "xa") :
    wpAny (model prog w) A (execs (.Assign [.Tuple [.Name n1 p1, .Name n2 p2] k0 tp] e pos :: rest) env) Q E s := by
  refine wpAny_execs_cons (PyProof.Rows.Assign_Tuple (he.use fun u s1 k1 p => ?_) hs hw)
  obtain ⟨a, x, y, ls', rfl, hl, hS, kk⟩ := k u s1 k1 p
  rw [PyProof.Rows.assign_Tuple]
  refine wpAny_bind (wpAny_standAt ?_)
  unfold unpack
  show wpAny _ _ (holding [Value.ref a] (unpackItems (.ref a) #[x, y].size none) >>= _) _ _ _
  refine wpAny_bind (wpAny_holding (PySem.W.kun_itemsOf hA hl fun h' hx => ?_))
  have h2 := hS.keeps (keeps_ext hx)
  show wpAny _ _ (assignInOrder [assign (.Name n1 p1) env, assign (.Name n2 p2) env] [x, y]) _ _ _
  refine PyProof.Rows.assignInOrder_cons (wpAny_assign_Name (h2.store hk1 fun s3 h3 => PyProof.Rows.assignInOrder_cons (wpAny_assign_Name (h3.store hk2 fun s4 h4 => ?_))))
  exact wpAny_pure (kk s4 h4)
theorem x_unpackT {n1 n2 : Str} {p1 p2 tp pos : Pos} {k0 : Nat} {e : Expr} (hA : A.handled = none) (h : St s₀ env v ls s) (he : Ev prog w A (eval e env) s P) (hk1 : env.kindOf n1 = some .local ∨ env.kindOf n1 = some .cell) (hk2 : env.kindOf n2 = some .local ∨ env.kindOf n2 = some .cell)
    (k : ∀ u s', Keeps s s' → P u s' → ∃ a x y ls', u = .ref a ∧ PyProof.Rows.IsTup s'.heap a #[x, y] ∧ St s₀ env v ls' s' ∧ ∀ s'', St s₀ env (upd (upd v n1 x) n2 y) ls' s'' → wpAny (model prog w) A (execs rest env) Q E s'')
    (hs : swapsWithSole [.Tuple [.Name n1 p1, .Name n2 p2] k0 tp] e pos.line env = pure false := by walk_at "xa") (hw : swappedStores [.Tuple [.Name n1 p1, .Name n2 p2] k0 tp] e env = pure none := by walk_at "xa") :
    wpAny (model prog w) A (execs (.Assign [.Tuple [.Name n1 p1, .Name n2 p2] k0 tp] e pos :: rest) env) Q E s := by
  refine wpAny_execs_cons (PyProof.Rows.Assign_Tuple (he.use fun u s1 k1 p => ?_) hs hw)
  obtain ⟨a, x, y, ls', rfl, hl, hS, kk⟩ := k u s1 k1 p
  refine PyProof.Rows.assign_Tuple_tuple hA hl rfl rfl fun h' hx => ?_
  have h2 := hS.keeps (keeps_ext hx)
  show wpAny _ _ (assignInOrder [assign (.Name n1 p1) env, assign (.Name n2 p2) env] [x, y]) _ _ _
  refine PyProof.Rows.assignInOrder_cons (wpAny_assign_Name (h2.store hk1 fun s3 h3 => PyProof.Rows.assignInOrder_cons (wpAny_assign_Name (h3.store hk2 fun s4 h4 => ?_))))
  exact wpAny_pure (kk s4 h4)
theorem ev_searchR {f row x kf : Str} {p1 p2 p3 p4 p5 p6 p7 p8 : Pos} {rA : Addr} {bs : List (List Bool)} {vs : List Value} {b : List Bool} {t : Tok} (hA : AOk 5 A) (W : Wd prog w mg mb tokf s.heap) (N : Nm mg mb)
    (hf : Var prog w A env s f (.ref 32)) (hr : Var prog w A env s row (.ref rA)) (hx : Var prog w A env s x (.str (tx b) t)) (hkf : Var prog w A env s kf (.ref 72)) (hl : s.heap.IsList rA vs.toArray) (hv : Al TV bs vs) (hlen : ∀ y ∈ bs, y.length ≤ 100) (hb : b.length ≤ 100) (hn : bs.length < 1000)
    {r : Nat} (cut : Cut (fun j => ltB b (bs.getD j [])) 0 r bs.length)
    (d1 : (f == ("__debug__" : Str)) = false := by walk_at "xa") (d2 : (row == ("__debug__" : Str)) = false := by walk_at "xa") (d3 : (x == ("__debug__" : Str)) = false := by walk_at "xa") (d4 : (kf == ("__debug__" : Str)) = false := by walk_at "xa") :
    Ev prog w A (eval (.Call (.Name f p1) [.Name row p2, .Call (.Name kf p3) [.Name x p4] [] p5] [⟨some "key", .Name kf p6, p7⟩] p8) env) s (IsI r) := by
  obtain ⟨o1, fd1, ho1, hd1⟩ := W.f58.some
  obtain ⟨o2, fd2, ho2, hd2⟩ := W.f2.some
  refine ev_call (Ps := [IsV (.ref rA), IsS (keyS (tx b))]) (Ks := [IsV (.ref 72)]) hf ho2 hd2 (.cons (fun _ => rfl) (ev_name hr d2) (monoV _) (.cons (fun _ => rfl) (ev_call (P := IsS (keyS (tx b))) hkf ho1 hd1 (.cons (fun _ => rfl) (ev_nameS hx d3) (monoS _) .nil) .nil
    (fun vs kv s' k ps qs => by
      obtain ⟨u, rfl, t', rfl⟩ := allP1 ps
      exact call_key (hA.down (by lia)) (W.keeps (kOld k)) N (by rw [tx_len]; lia)) d4) (monoS _) .nil)) (.cons (ev_name hkf d4) (monoV _) .nil) (fun us kv s' k ps qs => ?_) d1
  obtain ⟨u1, u2, rfl, e1, t2, rfl⟩ := allP2 ps
  obtain ⟨q1, rfl, e3⟩ := allP1 qs
  subst e1; subst e3
  exact Ct.op hA (ct_R2 (W.keeps (kOld k)) N (isList_keeps hl (kOld k)) (al_tv hv) (short_tx (n := 100) (by lia) hlen) (by simp; lia) (by simpa using cut_map (Nat.le_refl _) cut))
theorem ev_searchL {f row x kf : Str} {p1 p2 p3 p4 p5 p6 p7 p8 : Pos} {rA : Addr} {bs : List (List Bool)} {vs : List Value} {b : List Bool} {t : Tok} (hA : AOk 5 A) (W : Wd prog w mg mb tokf s.heap) (N : Nm mg mb)
    (hf : Var prog w A env s f (.ref 41)) (hr : Var prog w A env s row (.ref rA)) (hx : Var prog w A env s x (.str (tx b) t)) (hkf : Var prog w A env s kf (.ref 72)) (hl : s.heap.IsList rA vs.toArray) (hv : Al TV bs vs) (hlen : ∀ y ∈ bs, y.length ≤ 100) (hb : b.length ≤ 100) (hn : bs.length < 1000)
    {r : Nat} (cut : Cut (fun j => !ltB (bs.getD j []) b) 0 r bs.length)
    (d1 : (f == ("__debug__" : Str)) = false := by walk_at "xa") (d2 : (row == ("__debug__" : Str)) = false := by walk_at "xa") (d3 : (x == ("__debug__" : Str)) = false := by walk_at "xa") (d4 : (kf == ("__debug__" : Str)) = false := by walk_at "xa") :
    Ev prog w A (eval (.Call (.Name f p1) [.Name row p2, .Call (.Name kf p3) [.Name x p4] [] p5] [⟨some "key", .Name kf p6, p7⟩] p8) env) s (IsI r) := by
  obtain ⟨o1, fd1, ho1, hd1⟩ := W.f58.some
  obtain ⟨o2, fd2, ho2, hd2⟩ := W.f3.some
  refine ev_call (Ps := [IsV (.ref rA), IsS (keyS (tx b))]) (Ks := [IsV (.ref 72)]) hf ho2 hd2 (.cons (fun _ => rfl) (ev_name hr d2) (monoV _) (.cons (fun _ => rfl) (ev_call (P := IsS (keyS (tx b))) hkf ho1 hd1 (.cons (fun _ => rfl) (ev_nameS hx d3) (monoS _) .nil) .nil
    (fun vs kv s' k ps qs => by
      obtain ⟨u, rfl, t', rfl⟩ := allP1 ps
      exact call_key (hA.down (by lia)) (W.keeps (kOld k)) N (by rw [tx_len]; lia)) d4) (monoS _) .nil)) (.cons (ev_name hkf d4) (monoV _) .nil) (fun us kv s' k ps qs => ?_) d1
  obtain ⟨u1, u2, rfl, e1, t2, rfl⟩ := allP2 ps
  obtain ⟨q1, rfl, e3⟩ := allP1 qs
  subst e1; subst e3
  exact Ct.op hA (ct_L2 (W.keeps (kOld k)) N (isList_keeps hl (kOld k)) (al_tv hv) (short_tx (n := 100) (by lia) hlen) (by simp; lia) (by simpa using cut_mapL (Nat.le_refl _) cut))

noncomputable abbrev Pair2 (lo hi : Nat) : VP := fun u s' => ∃ a t1 t2, u = .ref a ∧ PyProof.Rows.IsTup s'.heap a #[.int lo t1, .int hi t2]
theorem ct_between {L R bs : List (List Bool)} {t : Tok} {rA : Addr} {vs : List Value} (W : Wd prog w mg mb tokf s.heap) (N : Nm mg mb) (T : Tk tokf) (hlen : (textC L R).length ≤ 1000) (hl : s.heap.IsList rA vs.toArray) (hv : Al TV bs vs) (hbl : ∀ y ∈ bs, y.length ≤ 100) (hn : bs.length < 1000)
    (hL : ∀ x ∈ L, x.length ≤ 100 ∧ CutsAt bs x) (hR' : ∀ x ∈ R, x.length ≤ 100 ∧ CutsAt bs x) (hLn : L.length ≤ 1000) (hRn : R.length ≤ 1000) :
    Ct prog w 6 94 ⟨[.str (textS L R) t, .ref rA], []⟩ s (Pair2 (lowOf bs R) (highOf bs L)) := fun A hA R' hR => by
  refine enter (by have := hA.depth; lia) W.f62 W.lim (binds := [("text", .str (textS L R) t), ("row", .ref rA)]) (fun nm qn cd pm doc ct an => BindsTo.of_eq rfl) rfl rfl rfl rfl fun env s₁ hE hS E => ?_
  have hA' : AOk 5 (A.deeper env) := hA.deeper env
  have W1 := W.st hS
  obtain ⟨o1, fd1, ho1, hd1⟩ := W1.f61.some
  refine x_unpackL (P := TwoL s₁ L R) hA'.handled hS (ev_call (Ps := [IsS (textS L R)]) (W1.var hE rfl (by decide +kernel) N.read) ho1 hd1 (.cons (fun _ => rfl) (ev_nameS (loc hE hS (by decide +kernel) rfl)) (monoS _) .nil) .nil (fun us kv s' k ps qs => ?_)) (isL hE (by decide +kernel)) (isL hE (by decide +kernel)) fun u s2 k2 p2 => ?_
  · obtain ⟨u, rfl, t', rfl⟩ := allP1 ps
    refine (Ct.op (n := 1) (hA'.down (by lia)) (ct_read (W1.keeps (kOld k)) N T hlen)).mono fun u s'' k' p => ?_
    obtain ⟨a, a0, a1, vs0, vs1, e, h1, h2, h3, h4, h5, h6, h7, h8⟩ := p
    exact ⟨a, a0, a1, vs0, vs1, e, h1, h2, h3, kNone k h4, kNone k h5, h6, h7, h8⟩
  obtain ⟨a, a0, a1, vs0, vs1, rfl, hla, hl0, hl1, n0, n1, ne01, al0, al1⟩ := p2
  have h2 := hS.keeps k2
  have g1 := h2.addAt (e := .lst vs1) (kNone hS.base n1) (by simp) hl1
  have g0 := g1.addAt (e := .lst vs0) (kNone hS.base n0) (by simpa using ne01) hl0
  refine ⟨a, _, _, _, rfl, hla.isList, g0, fun s3 h3 => ?_⟩
  have W3 := W.st h3
  have hc3 : ∀ sc : Scope, sc.kind = .function → (sc.names.all fun y => y.2 != .cell && (y.2 != .free || (fs 62).names.lookup y.1 == some .cell)) = true → (sc.names.map (·.1)).Nodup → CompOk sc env := fun _ a b c => CompOk.of hE a b c
  -- low
  have hlow : ((lowOf bs R : Nat) : Int) ∈ ((0 : Int) :: R.map fun b => ((posB bs b : Nat) : Int)) ∧ ∀ x ∈ ((0 : Int) :: R.map fun b => ((posB bs b : Nat) : Int)), x ≤ ((lowOf bs R : Nat) : Int) := by
    obtain ⟨q1, q2⟩ := foldl_max_ge (R.map (posB bs)) 0
    refine ⟨?_, fun x hx => ?_⟩
    · rcases foldl_max_mem (R.map (posB bs)) 0 with h | h
      · unfold lowOf; rw [h]; exact .head _
      · obtain ⟨b, hb, e⟩ := List.mem_map.mp h
        unfold lowOf; rw [← e]; exact .tail _ (List.mem_map.mpr ⟨b, hb, rfl⟩)
    · rcases List.mem_cons.mp hx with rfl | hx
      · exact Int.natCast_nonneg _
      · obtain ⟨b, hb, rfl⟩ := List.mem_map.mp hx
        exact Int.ofNat_le.mpr (q2 _ (List.mem_map.mpr ⟨b, hb, rfl⟩))
  refine x_assignI (i := ((lowOf bs R : Nat) : Int)) h3 (ev_callB (Ps := [fun u s' => ∃ zs, IsL zs u s' ∧ Al IV ((0 : Int) :: R.map fun b => ((posB bs b : Nat) : Int)) zs]) (W3.varB hE rfl (by decide +kernel) N.max)
    (.cons (fun _ => rfl) (ev_bin (ev_list (Ps := [IsI 0]) (.cons (fun _ => rfl) ev_int (monoI _) .nil) (sz (by simp))) (monoList fun P hP => by
        rcases List.mem_cons.mp hP with rfl | hP
        · exact monoI 0
        · cases hP)
      (ev_made (Z := Al (fun i u => ∀ b, R[i]? = some b → IV ((posB bs b : Nat) : Int) u) ((List.range vs1.length).filter fun _ => true)) (made1 (n := vs1.length) (Pi := fun i u => vs1[i]? = some u) (Pa := IsV (.ref a1)) h3 (hc3 _ rfl (by decide +kernel) (by decide +kernel)) (by decide +kernel) (sz (by rw [al1.len]; lia))
        (ev_name (loc hE h3 (by decide +kernel) (by walk_at "lk"))) (fun u s' k pu => by subst pu; exact src_list hA'.handled (isList_keeps (h3.list (.tail _ (.head _))) (kOld k)) (.inl fun _ _ => rfl)) (fun _ _ _ _ _ _ _ _ _ _ => evTests_nil)
        (fun C m u i s4 hi _ hPi hm k4 h4 => by
          obtain ⟨b, hb, t, rfl⟩ := al1.get' hPi
          obtain ⟨hb100, hcut⟩ := hR' b (List.mem_of_getElem? hb)
          have W4 := W.st h4
          refine (ev_searchR hA' W4 N (cglob W4 (hc3 _ rfl (by decide +kernel) (by decide +kernel)) hE.gen (by decide +kernel) N.bisect_right) (cfree h3.fn (hc3 _ rfl (by decide +kernel) (by decide +kernel)) h4 (by decide +kernel) (by walk_at "lk")) (cloc h4 (by decide +kernel) hm) (cglob W4 (hc3 _ rfl (by decide +kernel) (by decide +kernel)) hE.gen (by decide +kernel) N.key) (isList_keeps hl (kOld h4.base)) hv hbl hb100 hn hcut.r).mono fun u s5 k5 p5 => ?_
          intro b' hb'
          rw [hb] at hb'; cases hb'
          exact p5)))
      (fun x y s' k hx hy => by
        obtain ⟨b1, ws1, rfl, hw1, _, pw1⟩ := hx
        obtain ⟨q1, rfl, t1, rfl⟩ := allP1 pw1
        obtain ⟨zs, ⟨b2, rfl, hw2, _⟩, hz⟩ := hy
        have hz' := al_map (f := fun b => ((posB bs b : Nat) : Int)) (R := IV) (al_idx al1.len hz)
        refine (op_concat hw1 hw2 (sz (by rw [← List.length_map (f := fun b => ((posB bs b : Nat) : Int)), ← hz'.len] at hRn; simp; lia))).mono fun u s6 k6 p6 => ⟨_, p6.isL, .cons ⟨t1, rfl⟩ hz'⟩))
      (fun u s1 s2 kk ⟨zs, h1, h2⟩ => ⟨zs, monoL _ _ _ _ kk h1, h2⟩) .nil)
    fun us s' k ps => by
      obtain ⟨u, rfl, zs, ⟨b, rfl, hb⟩, hz⟩ := allP1 ps
      exact op_max hA'.handled hb hz hlow.1 hlow.2) (isL hE (by decide +kernel)) fun t4 s4 h4 => ?_
  have W4 := W.st h4
  -- high
  have hhigh : ((highOf bs L : Nat) : Int) ∈ ((bs.length : Int) :: L.map fun b => ((posL bs b : Nat) : Int)) ∧ ∀ x ∈ ((bs.length : Int) :: L.map fun b => ((posL bs b : Nat) : Int)), ((highOf bs L : Nat) : Int) ≤ x := by
    obtain ⟨q1, q2⟩ := foldl_min_le (L.map (posL bs)) bs.length
    refine ⟨?_, fun x hx => ?_⟩
    · rcases foldl_min_mem (L.map (posL bs)) bs.length with h | h
      · unfold highOf; rw [h]; exact .head _
      · obtain ⟨b, hb, e⟩ := List.mem_map.mp h
        unfold highOf; rw [← e]; exact .tail _ (List.mem_map.mpr ⟨b, hb, rfl⟩)
    · rcases List.mem_cons.mp hx with rfl | hx
      · exact Int.ofNat_le.mpr q1
      · obtain ⟨b, hb, rfl⟩ := List.mem_map.mp hx
        exact Int.ofNat_le.mpr (q2 _ (List.mem_map.mpr ⟨b, hb, rfl⟩))
  have hvl : vs.length = bs.length := hv.len
  refine x_assignI (i := ((highOf bs L : Nat) : Int)) h4 (ev_callB (Ps := [fun u s' => ∃ zs, IsL zs u s' ∧ Al IV ((bs.length : Int) :: L.map fun b => ((posL bs b : Nat) : Int)) zs]) (W4.varB hE rfl (by decide +kernel) N.min)
    (.cons (fun _ => rfl) (ev_bin (ev_list (Ps := [IsI bs.length]) (.cons (fun _ => rfl) (ev_of_eqI (ev_lenL (W4.varB hE rfl (by decide +kernel) N.len) (ev_nameL (xs := vs) (cel hE h4 (by decide +kernel) (by walk_at "lk")) (isList_keeps hl (kOld h4.base))) (by lia)) (by rw [hvl])) (monoI _) .nil) (sz (by simp))) (monoList fun P hP => by
        rcases List.mem_cons.mp hP with rfl | hP
        · exact monoI _
        · cases hP)
      (ev_made (Z := Al (fun i u => ∀ b, L[i]? = some b → IV ((posL bs b : Nat) : Int) u) ((List.range vs0.length).filter fun _ => true)) (made1 (n := vs0.length) (Pi := fun i u => vs0[i]? = some u) (Pa := IsV (.ref a0)) h4 (hc3 _ rfl (by decide +kernel) (by decide +kernel)) (by decide +kernel) (sz (by rw [al0.len]; lia))
        (ev_name (loc hE h4 (by decide +kernel) (by walk_at "lk"))) (fun u s' k pu => by subst pu; exact src_list hA'.handled (isList_keeps (h4.list (.head _)) (kOld k)) (.inl fun _ _ => rfl)) (fun _ _ _ _ _ _ _ _ _ _ => evTests_nil)
        (fun C m u i s5 hi _ hPi hm k5 h5 => by
          obtain ⟨b, hb, t, rfl⟩ := al0.get' hPi
          obtain ⟨hb100, hcut⟩ := hL b (List.mem_of_getElem? hb)
          have W5 := W.st h5
          refine (ev_searchL hA' W5 N (cglob W5 (hc3 _ rfl (by decide +kernel) (by decide +kernel)) hE.gen (by decide +kernel) N.bisect_left) (cfree h4.fn (hc3 _ rfl (by decide +kernel) (by decide +kernel)) h5 (by decide +kernel) (by walk_at "lk")) (cloc h5 (by decide +kernel) hm) (cglob W5 (hc3 _ rfl (by decide +kernel) (by decide +kernel)) hE.gen (by decide +kernel) N.key) (isList_keeps hl (kOld h5.base)) hv hbl hb100 hn hcut.l).mono fun u s5 k5 p5 => ?_
          intro b' hb'
          rw [hb] at hb'; cases hb'
          exact p5)))
      (fun x y s' k hx hy => by
        obtain ⟨b1, ws1, rfl, hw1, _, pw1⟩ := hx
        obtain ⟨q1, rfl, t1, rfl⟩ := allP1 pw1
        obtain ⟨zs, ⟨b2, rfl, hw2, _⟩, hz⟩ := hy
        have hz' := al_map (f := fun b => ((posL bs b : Nat) : Int)) (R := IV) (al_idx al0.len hz)
        refine (op_concat hw1 hw2 (sz (by rw [← List.length_map (f := fun b => ((posL bs b : Nat) : Int)), ← hz'.len] at hLn; simp; lia))).mono fun u s6 k6 p6 => ⟨_, p6.isL, .cons ⟨t1, rfl⟩ hz'⟩))
      (fun u s1 s2 kk ⟨zs, h1, h2⟩ => ⟨zs, monoL _ _ _ _ kk h1, h2⟩) .nil)
    fun us s' k ps => by
      obtain ⟨u, rfl, zs, ⟨b, rfl, hb⟩, hz⟩ := allP1 ps
      exact op_min hA'.handled hb hz hhigh.1 hhigh.2) (isL hE (by decide +kernel)) fun t5 s5 h5 => ?_
  refine x_return (ev_tuple (Ps := [IsI ((lowOf bs R : Nat) : Int), IsI ((highOf bs L : Nat) : Int)]) (.cons (fun _ => rfl) (ev_nameI (loc hE h5 (by decide +kernel) (by walk_at "lk"))) (monoI _) (.cons (fun _ => rfl) (ev_nameI (loc hE h5 (by decide +kernel) (by walk_at "lk"))) (monoI _) .nil)) (sz (by simp))) fun u s' k p => hR _ _ (kTrans h5.base k) ?_
  obtain ⟨a, ws, rfl, hw, _, pw⟩ := p
  obtain ⟨q1, q2, rfl, ⟨t1, rfl⟩, t2, rfl⟩ := allP2 pw
  exact ⟨a, t1, t2, rfl, hw⟩
end

theorem kb_ne (b : List Bool) : ∃ c r, kb b = c :: r ∧ (c = 43 ∨ c = 45 ∨ c = 44) := by
  cases b with
  | nil => exact ⟨44, [], rfl, by simp⟩
  | cons x b => cases x
                · exact ⟨45, kb b, rfl, by simp⟩
                · exact ⟨43, kb b, rfl, by simp⟩
theorem ltS_empty (b : List Bool) : ltS "" (keyS (tx b)) = true ∧ ltS (keyS (tx b)) "" = false := by
  obtain ⟨c, r, e, hc⟩ := kb_ne b
  unfold ltS
  rw [keyS_list, e]
  have e0 : (Str.ofString "").cps.toList = [] := by decide +kernel
  rw [e0]
  simp
theorem ltS_tilde (b : List Bool) : ltS "~" (keyS (tx b)) = false ∧ ltS (keyS (tx b)) "~" = true := by
  obtain ⟨c, r, e, hc⟩ := kb_ne b
  unfold ltS
  rw [keyS_list, e]
  have e0 : (Str.ofString "~").cps.toList = [126] := by decide +kernel
  rw [e0]
  constructor
  · simp [List.cons_lt_cons_iff]; lia
  · simp [List.cons_lt_cons_iff]; lia
noncomputable def endAt (x : Str) (lo hi : Nat) : Nat := if x = "" then lo else hi
theorem end_cutL {bs : List (List Bool)} {lo hi : Nat} (h : lo ≤ hi) (hh : hi ≤ bs.length) {x : Str} (hx : x = "" ∨ x = "~") : Cut (fun j => !ltS (keyS ((bs.map tx).getD j "")) x) lo (endAt x lo hi) hi := by
  rcases hx with rfl | rfl
  · have : endAt "" lo hi = lo := if_pos rfl
    rw [this]
    refine ⟨Nat.le_refl _, h, fun j a b => by lia, fun j a b => ?_⟩
    rw [getD_map (d := []) (by lia), (ltS_empty _).2]; rfl
  · have : endAt "~" lo hi = hi := if_neg (by decide +kernel)
    rw [this]
    refine ⟨h, Nat.le_refl _, fun j a b => ?_, fun j a b => by lia⟩
    rw [getD_map (d := []) (by lia), (ltS_tilde _).2]; rfl
theorem end_cutR {bs : List (List Bool)} {lo hi : Nat} (h : lo ≤ hi) (hh : hi ≤ bs.length) {x : Str} (hx : x = "" ∨ x = "~") : Cut (fun j => ltS x (keyS ((bs.map tx).getD j ""))) lo (endAt x lo hi) hi := by
  rcases hx with rfl | rfl
  · have : endAt "" lo hi = lo := if_pos rfl
    rw [this]
    refine ⟨Nat.le_refl _, h, fun j a b => by lia, fun j a b => ?_⟩
    rw [getD_map (d := []) (by lia), (ltS_empty _).1]
  · have : endAt "~" lo hi = hi := if_neg (by decide +kernel)
    rw [this]
    refine ⟨h, Nat.le_refl _, fun j a b => ?_, fun j a b => by lia⟩
    rw [getD_map (d := []) (by lia), (ltS_tilde _).1]

section
variable {prog : Program} {w : World} {A : Around} {E : Value → Shared → Prop} {s₀ s : Shared} {env : Env} {mg mb tokf : Str → Option Value} {i : Nat} {v : Str → Option Value} {ls pre post : List (Addr × Ent)} {Q : Flow → Shared → Prop} {rest : List Stmt} {P : VP}
theorem x_forT2 {x px iter body pos} {V : List Value → Prop} {n : Nat} {J : Nat → (Str → Option Value) → List (Addr × Ent) → Prop} (hA : A.handled = none) (h : St s₀ env v ls s) (hit : Ev prog w A (eval iter env) s (fun u s' => ∃ a xs, u = .ref a ∧ PyProof.Rows.IsTup s'.heap a (xs : List Value).toArray ∧ s.heap.get? a = none ∧ V xs)) (hk : env.kindOf x = some .local ∨ env.kindOf x = some .cell)
    (hn : ∀ xs, V xs → xs.length = n) (h0 : J 0 v ls)
    (step : ∀ xs i y v' ls' it l s', V xs → xs[i]? = some y → J i v' ls' → St s₀ env (upd v' x y) ((it, .tit l (i + 1)) :: (l, .tup xs) :: ls') s' → ∀ E,
      wpAny (model prog w) A (execs body env) (fun f s'' => f = .next ∧ ∃ v'' ls'', St s₀ env v'' ((it, .tit l (i + 1)) :: (l, .tup xs) :: ls'') s'' ∧ J (i + 1) v'' ls'') E s')
    (k : ∀ v' ls' s', J n v' ls' → St s₀ env v' ls' s' → wpAny (model prog w) A (execs rest env) Q E s')
    (hs : ∀ x, foldedSetIterable iter env x = pure x := by walk_at "xa") :
    wpAny (model prog w) A (execs (.For (.Name x px) iter body [] pos :: rest) env) Q E s := by
  refine wpAny_execs_cons (wpAny_For (hit.use fun u s1 k1 p => ?_) hs)
  obtain ⟨l, xs, rfl, hl, hnew0, hV⟩ := p
  have hnx := hn xs hV
  have hS1 : St s₀ env v ((l, .tup xs) :: ls) s1 := h.add (e := .tup xs) k1 hnew0 hl
  refine wpAny_pyIter_tuple (hS1.tup (.head _)) ?_
  have hnew : St s₀ env v ((s1.heap.objs.size, .tit l 0) :: (l, .tup xs) :: ls) { s1 with heap := s1.heap.push { cls := .type "tuple_iterator", data := .fields #[.ref l, .int 0 0] } } :=
    hS1.add (e := .tit l 0) (kPush _ _) (get_none_of_push _) ⟨_, Heap.get?_push_size _ rfl, rfl, rfl⟩
  refine codeAny_forLoop (fun k s' => ∃ i v' ls', i ≤ xs.length ∧ k = xs.length - i ∧ J i v' ls' ∧ St s₀ env v' ((s1.heap.objs.size, .tit l i) :: (l, .tup xs) :: ls') s') ?_ xs.length ⟨0, v, ls, Nat.zero_le _, rfl, h0, hnew⟩
  rintro k2 s2 ⟨i, v', ls', hi, rfl, hJ, hS⟩
  have hli := hS.tup (List.mem_cons_of_mem _ (.head _))
  by_cases hlt : i < xs.length
  · refine wpAny_pyNext_tuple_item (x := xs[i]) (hS.get (.head _)) hli (by simp [hlt]) fun h' hit' hs' => ?_
    have hS2 : St s₀ env v' ((s1.heap.objs.size, .tit l (i + 1)) :: (l, .tup xs) :: ls') { s2 with heap := h', toks := s2.toks } := hS.head hs' hit'
    refine wpAny_assign_Name (St.store (s := { s2 with heap := h' }) hS2 hk fun s3 h3 => ?_)
    refine wpAny_mono (step xs i _ v' ls' _ l s3 hV (by simp [hlt]) hJ h3 _) (fun f s4 h4 => ?_) fun _ _ e => e
    obtain ⟨rfl, v'', ls'', h5, hJ'⟩ := h4
    exact ⟨xs.length - (i + 1), by lia, i + 1, v'', ls'', hlt, rfl, hJ', h5⟩
  · have hin : i = xs.length := by lia
    subst hin
    refine wpAny_pyNext_tuple_end hA (hS.get (.head _)) hli (by simp) fun h' hx => wpAny_execs_nil ?_
    rw [hnx] at hJ
    exact k v' ls' _ hJ ((hS.dropped (t := s2.toks) hx).sub (List.sublist_cons_self _ _))

noncomputable def endsOf (lo hi : Nat) : Nat → List Int
  | 0 => []
  | 1 => [lo, lo]
  | _ => [lo, lo, hi, hi]
theorem ct_ends {bs : List (List Bool)} {rA : Addr} {vs : List Value} {lo hi : Nat} {t1 t2 : Tok} (W : Wd prog w mg mb tokf s.heap) (N : Nm mg mb) (hl : s.heap.IsList rA vs.toArray) (hv : Al TV bs vs) (hbl : ∀ y ∈ bs, y.length ≤ 100) (hn : bs.length < 1000)
    (hlo : lo ≤ hi) (hhi : hi ≤ bs.length) : Ct prog w 6 101 ⟨[.ref rA, .int lo t1, .int hi t2], []⟩ s (fun u s' => ∃ vs, NewL s vs u s' ∧ Al IV [(lo : Int), lo, hi, hi] vs) := fun A hA R' hR => by
  refine enter (by have := hA.depth; lia) W.f63 W.lim (binds := [("row", .ref rA), ("low", .int lo t1), ("high", .int hi t2)]) (fun nm qn cd pm doc ct an => BindsTo.of_eq rfl) rfl rfl rfl rfl fun env s₁ hE hS E => ?_
  have hA' : AOk 5 (A.deeper env) := hA.deeper env
  refine x_assignN hS ev_nil (isL hE (by decide +kernel)) fun eA s2 h2 => ?_
  refine x_forT2 (n := 2) (V := fun xs => ∃ t3 t4, xs = [.str "" t3, .str "~" t4]) hA'.handled h2 ?iter (isL hE (by decide +kernel)) (fun xs ⟨_, _, e⟩ => by rw [e]; rfl)
    (J := fun i v ls => v "row" = some (.ref rA) ∧ v "low" = some (.int lo t1) ∧ v "high" = some (.int hi t2) ∧ v "ends" = some (.ref eA) ∧ ∃ es, ls = [(eA, .lst es)] ∧ Al IV (endsOf lo hi i) es)
    ⟨by walk_at "lk", by walk_at "lk", by walk_at "lk", by walk_at "lk", [], rfl, .nil⟩ ?_ ?_
  case iter =>
    refine (ev_tuple (Ps := [IsS "", IsS "~"]) (.cons (fun _ => rfl) ev_str (monoS _) (.cons (fun _ => rfl) ev_str (monoS _) .nil)) (sz (by simp))).mono fun u s' k p => ?_
    obtain ⟨a, ws, rfl, hw, hna, pw⟩ := p
    obtain ⟨q1, q2, rfl, ⟨t3, rfl⟩, t4, rfl⟩ := allP2 pw
    exact ⟨a, _, rfl, hw, hna, t3, t4, rfl⟩
  · rintro xs i y v ls it l s3 ⟨t3, t4, rfl⟩ hy ⟨vr, vl, vh, ve, es, rfl, hes⟩ h3 E
    obtain ⟨x, tx', hy', hx, hends⟩ : ∃ x tx', y = .str x tx' ∧ (x = "" ∨ x = "~") ∧ endsOf lo hi (i + 1) = endsOf lo hi i ++ [((endAt x lo hi : Nat) : Int)] ++ [((endAt x lo hi : Nat) : Int)] := by
      match i, hy with
      | 0, hy => simp at hy; exact ⟨"", t3, hy.symm, .inl rfl, by rw [show endAt "" lo hi = lo from if_pos rfl]; rfl⟩
      | 1, hy => simp at hy; exact ⟨"~", t4, hy.symm, .inr rfl, by rw [show endAt "~" lo hi = hi from if_neg (by decide +kernel)]; rfl⟩
      | i + 2, hy => simp at hy
    subst hy'
    have hel : es.length ≤ 4 := by
      rw [hes.len]
      match i with
      | 0 => simp [endsOf]
      | 1 => simp [endsOf]
      | i + 2 => simp [endsOf]
    have go : ∀ (f : Nat) (s' : Shared), True := fun _ _ => trivial
    have W3 := W.st h3
    obtain ⟨o2, fd2, ho2, hd2⟩ := W3.f3.some
    refine x_append (pre := [(it, .tit l (i + 1)), (l, .tup [.str "" t3, .str "~" t4])]) (a := eA) (xs := es) (post := []) (P := IsI ((endAt x lo hi : Nat) : Int)) h3 (ev_name (loc hE h3 (by decide +kernel) (by walk_at "lk"))) (fun _ => rfl)
      (ev_call (Ks := [IsV (.ref 72)]) (W3.var hE rfl (by decide +kernel) N.bisect_left) ho2 hd2 (.cons (fun _ => rfl) (ev_name (loc hE h3 (by decide +kernel) (by walk_at "lk"))) (monoV _) (.cons (fun _ => rfl) (ev_name (loc hE h3 (by decide +kernel) (by walk_at "lk"))) (monoV _) (.cons (fun _ => rfl) (ev_name (loc hE h3 (by decide +kernel) (by walk_at "lk"))) (monoV _) (.cons (fun _ => rfl) (ev_name (loc hE h3 (by decide +kernel) (by walk_at "lk"))) (monoV _) .nil))))
        (.cons (ev_name (W3.var hE rfl (by decide +kernel) N.key)) (monoV _) .nil) fun us kv s' k ps qs => ?_) (monoI _) (sz (by lia)) (fun u s4 k4 pu => ⟨[(it, .tit l (i + 1)), (l, .tup [.str "" t3, .str "~" t4])], h3.keeps k4, fun s5 h5 => ?_⟩) h3.quiet
    · obtain ⟨u1, u2, u3, u4, rfl, e1, e2, e3, e4⟩ := allP4 ps
      obtain ⟨q1, rfl, e5⟩ := allP1 qs
      subst e1; subst e2; subst e3; subst e4; subst e5
      exact Ct.op hA' (ct_L4 (W3.keeps (kOld k)) N (isList_keeps hl (kOld (kTrans h3.base k))) (al_tv hv) (short_tx (n := 100) (by lia) hbl) (by simp; lia) (.int (by simpa using hhi)) (end_cutL hlo hhi hx))
    · obtain ⟨tu, rfl⟩ := pu
      have W5 := W.st h5
      obtain ⟨o6, fd6, ho6, hd6⟩ := W5.f2.some
      refine x_append (pre := [(it, .tit l (i + 1)), (l, .tup [.str "" t3, .str "~" t4])]) (a := eA) (xs := es ++ [.int ((endAt x lo hi : Nat) : Int) tu]) (post := []) (P := IsI ((endAt x lo hi : Nat) : Int)) h5 (ev_name (loc hE h5 (by decide +kernel) (by walk_at "lk"))) (fun _ => rfl)
        (ev_call (Ks := [IsV (.ref 72)]) (W5.var hE rfl (by decide +kernel) N.bisect_right) ho6 hd6 (.cons (fun _ => rfl) (ev_name (loc hE h5 (by decide +kernel) (by walk_at "lk"))) (monoV _) (.cons (fun _ => rfl) (ev_name (loc hE h5 (by decide +kernel) (by walk_at "lk"))) (monoV _) (.cons (fun _ => rfl) (ev_name (loc hE h5 (by decide +kernel) (by walk_at "lk"))) (monoV _) (.cons (fun _ => rfl) (ev_name (loc hE h5 (by decide +kernel) (by walk_at "lk"))) (monoV _) .nil))))
          (.cons (ev_name (W5.var hE rfl (by decide +kernel) N.key)) (monoV _) .nil) fun us kv s' k ps qs => ?_) (monoI _) (sz (by simp; lia)) (fun u s6 k6 pu => ⟨[(it, .tit l (i + 1)), (l, .tup [.str "" t3, .str "~" t4])], h5.keeps k6, fun s7 h7 => ?_⟩) h5.quiet
      · obtain ⟨u1, u2, u3, u4, rfl, e1, e2, e3, e4⟩ := allP4 ps
        obtain ⟨q1, rfl, e5⟩ := allP1 qs
        subst e1; subst e2; subst e3; subst e4; subst e5
        exact Ct.op hA' (ct_R4 (W5.keeps (kOld k)) N (isList_keeps hl (kOld (kTrans h5.base k))) (al_tv hv) (short_tx (n := 100) (by lia) hbl) (by simp; lia) (.int (by simpa using hhi)) (end_cutR hlo hhi hx))
      · obtain ⟨tv, rfl⟩ := pu
        refine x_nil ⟨rfl, _, _, h7, by walk_at "lk", by walk_at "lk", by walk_at "lk", by walk_at "lk", _, rfl, ?_⟩
        rw [hends]
        exact (hes.snoc ⟨tu, rfl⟩).snoc ⟨tv, rfl⟩
  · rintro v ls s3 ⟨vr, vl, vh, ve, es, rfl, hes⟩ h3
    refine x_return (ev_name (loc hE h3 (by decide +kernel) ve)) fun u s4 k4 e => ?_
    have e' : u = .ref eA := e
    subst e'
    have h4 := h3.keeps k4
    have hm := h4.le _ (.head _)
    exact hR _ _ h4.base ⟨es, ⟨eA, rfl, hm.1, hm.2⟩, hes⟩
end

noncomputable def rowL : List (List Bool) := [[true, true, true, true], [true, true, true], [true, true, true, false], [true, true], [true, true, false, true], [true, true, false], [true, true, false, false], [true], [true, false, true, true], [true, false, true], [true, false, true, false], [true, false], [true, false, false, true], [true, false, false], [true, false, false, false], [], [false, true, true, true], [false, true, true], [false, true, true, false], [false, true], [false, true, false, true], [false, true, false], [false, true, false, false], [false], [false, false, true, true], [false, false, true], [false, false, true, false], [false, false], [false, false, false, true], [false, false, false], [false, false, false, false]]
noncomputable def wsL : List Int := [64, 48, 40, 32, 28, 24, 20, 16, 14, 12, 10, 8, 6, 4, 2, 0, -2, -4, -6, -8, -10, -12, -14, -16, -20, -24, -28, -32, -40, -48, -64]
theorem row_lit : rowB = rowL := by decide +kernel
theorem ws_lit : rowL.map worth = wsL := by decide +kernel
theorem rowL_len : rowL.length = 31 := rfl
theorem wsL_len : wsL.length = 31 := rfl
theorem rowL_short : ∀ y ∈ rowL, y.length ≤ 4 := by decide +kernel
noncomputable def plc (w : Int) : Nat := wsL.findIdx (· == w)
noncomputable def sumB (u v : List Bool) : List Bool := rowL.getD (plc (worth u + worth v)) []
noncomputable def opp (s : Bool) (u v : List Bool) : List (List Bool) :=
  ((List.range u.length).filter fun k => u.getD k true == s).map (fun k => sumB (u.take k) v) ++ ((List.range v.length).filter fun k => v.getD k true == s).map fun k => sumB u (v.take k)
noncomputable def all4 : List (List Bool) := dayB 0 ++ dayB 1 ++ dayB 2 ++ dayB 3 ++ dayB 4
noncomputable def all5 : List (List Bool) := all4 ++ dayB 5
theorem mem_day : ∀ (d : Nat) (b : List Bool), b.length = d → b ∈ dayB d
  | 0, [], _ => .head _
  | 0, _ :: _, h => by simp at h
  | d + 1, b, h => by
    have hne : b ≠ [] := by rintro rfl; simp at h
    have e := List.dropLast_concat_getLast hne
    have hd : b.dropLast.length = d := by rw [List.length_dropLast]; lia
    have ih := mem_day d b.dropLast hd
    show b ∈ (dayB d).flatMap fun n => [n ++ [true], n ++ [false]]
    refine List.mem_flatMap.mpr ⟨_, ih, ?_⟩
    rw [← e]
    cases b.getLast hne <;> simp
theorem mem4 {b : List Bool} (h : b.length ≤ 4) : b ∈ all4 := by
  have : b.length = 0 ∨ b.length = 1 ∨ b.length = 2 ∨ b.length = 3 ∨ b.length = 4 := by lia
  unfold all4
  simp only [List.mem_append]
  rcases this with h | h | h | h | h
  · exact .inl (.inl (.inl (.inl (mem_day _ _ h))))
  · exact .inl (.inl (.inl (.inr (mem_day _ _ h))))
  · exact .inl (.inl (.inr (mem_day _ _ h)))
  · exact .inl (.inr (mem_day _ _ h))
  · exact .inr (mem_day _ _ h)
theorem mem5 {b : List Bool} (h : b.length ≤ 5) : b ∈ all5 := by
  unfold all5
  rcases Nat.lt_or_ge b.length 5 with h1 | h1
  · exact List.mem_append_left _ (mem4 (by lia))
  · exact List.mem_append_right _ (mem_day _ _ (by lia))

noncomputable def chkUV (u v : List Bool) : Bool :=
  let i := plc (worth u + worth v)
  let lo := lowOf rowL (opp false u v)
  let hi := highOf rowL (opp true u v)
  decide (i < 31) && decide (wsL.getD i 0 = worth u + worth v) && decide (lo ≤ i) && decide (i < hi) && decide (hi ≤ 31) &&
    (List.range 31).all fun j => decide (j < lo) || decide (hi ≤ j) || decide (j = i) || decide ((rowL.getD i []).length < (rowL.getD j []).length)
theorem chk_uv : (all4.all fun u => all4.all fun v => decide (4 < u.length + v.length) || chkUV u v) = true := by decide +kernel
noncomputable def chkG (g : List Bool) : Bool :=
  let p := posB rowL g
  let q := posL rowL g
  let w := worth g
  cutChk (fun j => ltB g (rowL.getD j [])) 0 p 31 && cutChk (fun j => !ltB (rowL.getD j []) g) 0 q 31 &&
    (List.range 31).all fun i => (decide (w ≤ wsL.getD i 0) || decide (p ≤ i)) && (decide (wsL.getD i 0 ≤ w) || decide (i < q))
theorem chk_g : all5.all chkG = true := by decide +kernel
noncomputable def thrB : List (List Bool) := rowL.flatMap fun b => [b, b, b]
noncomputable def chkT (g : List Bool) : Bool :=
  cutChk (fun j => !ltB (thrB.getD j []) g) 0 (3 * (wsL.filter fun x => decide (x > worth g)).length) 93 && cutChk (fun j => ltB g (thrB.getD j [])) 0 (3 * (wsL.filter fun x => decide (x ≥ worth g)).length) 93
theorem chk_t : all5.all chkT = true := by decide +kernel
theorem fall : ∀ i, i < 31 → ∀ j, j < 31 → decide (wsL.getD i 0 < wsL.getD j 0) = decide (j < i) := by decide +kernel
theorem fall1 : ((List.range 30).filter fun k => decide (wsL.getD k 0 ≤ wsL.getD (k + 1) 0)) = [] := by decide +kernel
theorem collate : ∀ k, k < 30 → ltB (rowL.getD k []) (rowL.getD (k + 1) []) = true ∧ ltB (rowL.getD (k + 1) []) (rowL.getD k []) = false ∧ ltB (rowL.getD (k + 1) []) (rowL.getD (k + 1) []) = false := by decide +kernel

noncomputable def lr (n : Nat) : List Stmt := (fb 64).drop n

section
variable {prog : Program} {w : World} {A : Around} {E : Value → Shared → Prop} {s₀ s : Shared} {env : Env} {mg mb tokf : Str → Option Value} {i : Nat} {v : Str → Option Value} {ls pre post : List (Addr × Ent)} {Q : Flow → Shared → Prop} {rest : List Stmt} {P : VP}

theorem setItem_plain {l : Addr} {xs : List Value} {k : Nat} {z : Int} {t : Tok} {u : Value} {Q : Unit → Shared → Prop} (hl : s.heap.PlainList l xs.toArray) (hk : k < xs.length) (h0 : 0 ≤ z) (hfit : z < 2 ^ 63) (hz : z = Int.ofNat k)
    (hQ : ∀ h', h'.PlainList l (xs.set k u).toArray → Heap.SameBut l s.heap h' → Q () { s with heap := h' }) : wpAny (model prog w) A (setItem (.ref l) (.int z t) u) Q E s := by
  obtain ⟨n, ho⟩ := id hl
  unfold setItem
  try with_reducible refine wpAny_holding ?_
  first | refine wpAny_bind (wpAny_pure ?_) | skip
  refine wpAny_bind (wpAny_sequenceKey hl.isList.typeIs (by decide) ?_)
  refine wpAny_bind (wpAny_callSpecial?_slot (name := Str.ofString "__setitem__") hl.isList.typeIs slot_list_setitem
    (wpAny_call_entry slot_list_setitem hl.isList.typeIs entry_list_setitem ?_ (args_list_setitem _ _ _)))
  show wpAny _ _ (Builtin.List.listSubscript? (.int z t) >>= _) _ _ s
  refine wpAny_bind (wpAny_listSubscript_int (fitsIndex_of h0 hfit) ?_)
  clear hfit
  subst hz
  have hx' : xs.toArray[k]? = some (xs[k]'hk) := by simp [hk]
  show wpAny _ _ ((seqItemAt l k >>= fun r => pure (r.map (k, ·))) >>= _) _ _ s
  refine wpAny_bind (wpAny_bind (wpAny_seqItemAt ho rfl (wpAny_pure ?_)))
  rw [hx']
  show wpAny _ _ (setSeqItemAt l k u >>= _) _ _ s
  have hfin := update_plain (f := fun ys => ys.setIfInBounds k u) ho
  have e : xs.toArray.setIfInBounds k u = (xs.set k u).toArray := by simp
  rw [e] at hfin
  refine wpAny_bind (wpAny_setSeqItemAt ho rfl ?_)
  first
    | exact wpAny_bind (wpAny_pure (wpAny_pure ⟨.none, rfl, wpAny_pure (hQ _ hfin (Heap.SameBut.update ..))⟩))
    | exact wpAny_pure ⟨.none, rfl, wpAny_pure (hQ _ hfin (Heap.SameBut.update ..))⟩

theorem x_addItem {o i e : Expr} {p pos : Pos} {a : Addr} {xs : List Value} {k : Nat} {n m : Int} {u : Tok} (h : St s₀ env v (pre ++ (a, .lst xs) :: post) s) (ho : Ev prog w A (eval o env) s (IsV (.ref a))) (hi : Ev prog w A (eval i env) s (IsI k)) (hx : xs[k]? = some (.int n u)) (hfit : k < 2 ^ 62)
    (he : Ev prog w A (eval e env) s (IsI m)) (kk : ∀ t s', St s₀ env v (pre ++ (a, .lst (xs.set k (.int (n + m) t))) :: post) s' → wpAny (model prog w) A (execs rest env) Q E s')
    (ha : ∀ ov iv new, augStore i ov iv new = (do holding [new, ov, iv] (setItem ov iv new); release [new, ov, iv] []; pure .next) := by intro _ _ _; rfl) :
    wpAny (model prog w) A (execs (.AugAssign (.Subscript o i p) .Add e pos :: rest) env) Q E s := by
  have hk : k < xs.length := by
    rcases Nat.lt_or_ge k xs.length with h1 | h1
    · exact h1
    · rw [List.getElem?_eq_none h1] at hx; cases hx
  refine wpAny_execs_cons (PyProof.Rows.wpAny_AugAssign_Subscript_any (ho.use fun ov s1 k1 p1 => (hi.later k1).use fun iv s2 k2 p2 => ?_) ha)
  subst p1
  obtain ⟨ti, rfl⟩ := p2
  have h2 := h.keeps (kTrans k1 k2)
  refine wpAny_getItem_list (h2.list (List.mem_append_right _ (.head _))) (by lia) (by lia) (by simpa using hx) ?_
  refine (he.later (kTrans k1 k2)).use fun ev s3 k3 p3 => ?_
  obtain ⟨te, rfl⟩ := p3
  refine op_iadd _ _ fun nv s4 k4 p4 => ?_
  obtain ⟨tn, rfl⟩ := p4
  have h4 := (h2.keeps k3).keeps k4
  exact setItem_plain (h4.get (List.mem_append_right _ (.head _))) hk (by lia) (by lia) rfl fun h' hl' hs' => kk tn _ (h4.change (t := s4.toks) hs' (e' := .lst (xs.set k (.int (n + m) tn))) hl')
theorem evB_orCons {x : Expr} {xs : List Expr} {b : Bool} (h1 : EvB prog w A (isTrue x env (eval x env)) s false) (h2 : EvB prog w A (allTrue .Or xs env) s b) : EvB prog w A (allTrue .Or (x :: xs) env) s b := fun s' k Q E hQ =>
  wpAny_allTrue_Or_cons (h1 s' k _ _ fun s1 k1 => by rw [if_neg Bool.false_ne_true]; exact h2 s1 (kTrans k k1) _ _ fun s2 k2 => hQ s2 (kTrans k1 k2))
theorem evB_andFalse {x : Expr} {xs : List Expr} (h1 : EvB prog w A (isTrue x env (eval x env)) s false) : EvB prog w A (allTrue .And (x :: xs) env) s false := fun s' k Q E hQ =>
  wpAny_allTrue_And_cons (h1 s' k _ _ fun s1 k1 => hQ s1 k1)
theorem evB_andTrue {x : Expr} {xs : List Expr} {b : Bool} (h1 : EvB prog w A (isTrue x env (eval x env)) s true) (h2 : EvB prog w A (allTrue .And xs env) s b) : EvB prog w A (allTrue .And (x :: xs) env) s b := fun s' k Q E hQ =>
  wpAny_allTrue_And_cons (h1 s' k _ _ fun s1 k1 => by exact h2 s1 (kTrans k k1) _ _ fun s2 k2 => hQ s2 (kTrans k1 k2))

theorem monoP1 {P1 : VP} (h : Mono P1) : ∀ P ∈ [P1], Mono P := fun P hP => by
  rcases List.mem_cons.mp hP with rfl | hP
  · exact h
  · cases hP

noncomputable abbrev CellsE (cA : Addr) (c0 c1 : Int) (t0 t1 : Tok) : Addr × Ent := (cA, .lst [.int c0 t0, .int c1 t1])
theorem pA {sc : Addr} {ns : List Int} {svs : List Value} (hA : AOk 8 A) (W : Wd prog w mg mb tokf s₀.heap) (N : Nm mg mb) (hE : EnvIs 64 env) (hS : St s₀ env (binds0 [("script", .ref sc)]) [] s) (hl : s₀.heap.IsList sc svs.toArray) (hv : Al IV ns svs) (hn : ns.length ≤ 63)
    (k : ∀ v s' cA c0 c1 t0 t1, St s₀ env v [CellsE cA c0 c1 t0 t1] s' → v "cells" = some (.ref cA) → wpAny (model prog w) A (execs (lr 2) env) Q E s') : wpAny (model prog w) A (execs (lr 0) env) Q E s := by
  refine x_assign hS (ev_list (Ps := [IsI 223210, IsI 101205]) (.cons (fun _ => rfl) ev_int (monoI _) (.cons (fun _ => rfl) ev_int (monoI _) .nil)) (sz (by simp))) (isC hE (by decide +kernel)) fun u s2 k2 p2 => ?_
  obtain ⟨cA, ws, rfl, hw, hna, pw⟩ := p2
  obtain ⟨q1, q2, rfl, ⟨t0, rfl⟩, t1, rfl⟩ := allP2 pw
  refine ⟨[CellsE cA 223210 101205 t0 t1], hS.add (e := .lst [.int 223210 t0, .int 101205 t1]) k2 hna hw, fun s3 h3 => ?_⟩
  have W3 := W.st h3
  have hsl : svs.length = ns.length := hv.len
  refine x_forR (n := ns.length) (a := 0) hA.handled h3 (ev_range1 (W3.varB hE rfl (by decide +kernel) N.range) (ev_of_eqI (ev_lenL (W3.varB hE rfl (by decide +kernel) N.len) (ev_nameL (xs := svs) (loc hE h3 (by decide +kernel) (by walk_at "lk")) (isList_keeps hl (kOld h3.base))) (by lia)) (by rw [hsl])) (by lia)) (isL hE (by decide +kernel))
    (fun k v ls => v "script" = some (.ref sc) ∧ v "cells" = some (.ref cA) ∧ ∃ c0 c1 t0 t1, ls = [CellsE cA c0 c1 t0 t1])
    ⟨by walk_at "lk", by walk_at "lk", _, _, t0, t1, rfl⟩ ?_ ?_
  · rintro k v ls it tk s4 hk ⟨vs, vc, c0, c1, t0, t1, rfl⟩ h4 E
    obtain ⟨u, hu, tu, rfl⟩ := hv.get (i := k) (List.getElem?_eq_getElem hk)
    have hm : k % 2 = 0 ∨ k % 2 = 1 := by lia
    have hmod : ((0 : Int) + (k : Int)).fmod 2 = ((k % 2 : Nat) : Int) := by
      rw [Int.fmod_eq_emod_of_nonneg _ (by decide)]; lia
    rcases hm with hm | hm
    · refine x_addItem (pre := [(it, .rit (0 + k + 1) ((ns.length : Int) - k - 1))]) (a := cA) (xs := [.int c0 t0, .int c1 t1]) (post := []) (k := 0) h4 (ev_name (cel hE h4 (by decide +kernel) (by walk_at "lk"))) (ev_of_eqI (ev_mod (ev_nameI (loc hE h4 (by decide +kernel) (by walk_at "lk"))) ev_int (by decide)) (by rw [hmod, hm])) rfl (by decide)
        (ev_itemI (ev_nameL (xs := svs) (loc hE h4 (by decide +kernel) (by walk_at "lk")) (isList_keeps hl (kOld h4.base))) (ev_nameI (loc hE h4 (by decide +kernel) (by walk_at "lk"))) (by lia) (by lia) (by rw [show ((0 : Int) + (k : Int)).toNat = k by lia]; exact hu)) fun t s5 h5 => ?_
      exact x_nil ⟨rfl, _, _, h5, by walk_at "lk", by walk_at "lk", _, _, _, _, rfl⟩
    · refine x_addItem (pre := [(it, .rit (0 + k + 1) ((ns.length : Int) - k - 1))]) (a := cA) (xs := [.int c0 t0, .int c1 t1]) (post := []) (k := 1) h4 (ev_name (cel hE h4 (by decide +kernel) (by walk_at "lk"))) (ev_of_eqI (ev_mod (ev_nameI (loc hE h4 (by decide +kernel) (by walk_at "lk"))) ev_int (by decide)) (by rw [hmod, hm])) rfl (by decide)
        (ev_itemI (ev_nameL (xs := svs) (loc hE h4 (by decide +kernel) (by walk_at "lk")) (isList_keeps hl (kOld h4.base))) (ev_nameI (loc hE h4 (by decide +kernel) (by walk_at "lk"))) (by lia) (by lia) (by rw [show ((0 : Int) + (k : Int)).toNat = k by lia]; exact hu)) fun t s5 h5 => ?_
      exact x_nil ⟨rfl, _, _, h5, by walk_at "lk", by walk_at "lk", _, _, _, _, rfl⟩
  · rintro v ls s4 ⟨vs, vc, c0, c1, t0, t1, rfl⟩ h4
    exact k v s4 cA c0 c1 t0 t1 h4 vc
end

theorem coll_key (a b : List Bool) : coll (keyS (tx a)) (keyS (tx b)) = PyProof.Rows.b2i (ltB b a) - PyProof.Rows.b2i (ltB a b) := by
  unfold coll; rw [ltS_key, ltS_key]
theorem getD_some {α : Type} {l : List α} {i : Nat} {x d : α} (h : l[i]? = some x) : l.getD i d = x := by simp [List.getD, h]

section
variable {prog : Program} {w : World} {A : Around} {E : Value → Shared → Prop} {s₀ s : Shared} {env : Env} {mg mb tokf : Str → Option Value} {i : Nat} {v : Str → Option Value} {ls pre post : List (Addr × Ent)} {Q : Flow → Shared → Prop} {rest : List Stmt} {P : VP}

theorem pB {cA : Addr} {c0 c1 : Int} {t0 t1 : Tok} (hA : AOk 8 A) (W : Wd prog w mg mb tokf s₀.heap) (N : Nm mg mb) (hE : EnvIs 64 env) (hS : St s₀ env v [CellsE cA c0 c1 t0 t1] s) (vc : v "cells" = some (.ref cA))
    (k : ∀ v s' rA wA rvs wvs, St s₀ env v [(wA, .lst wvs), (rA, .lst rvs), CellsE cA c0 c1 t0 t1] s' → v "cells" = some (.ref cA) → v "row" = some (.ref rA) → v "worths" = some (.ref wA) → Al TV rowL rvs → Al IV wsL wvs → wpAny (model prog w) A (execs (lr 4) env) Q E s') :
    wpAny (model prog w) A (execs (lr 2) env) Q E s := by
  have W0 := W.st hS
  obtain ⟨o1, fd1, ho1, hd1⟩ := W0.f60.some
  refine x_assign hS (ev_call (P := fun u s' => ∃ vs, NewL s vs u s' ∧ Al TV rowB vs) (W0.var hE rfl (by decide +kernel) N.row) ho1 hd1 .nil .nil fun us kv s' k' ps qs => ?_) (isL hE (by decide +kernel)) fun u s2 k2 p2 => ?_
  · have := allP0 ps; subst this
    have := allP0 qs; subst this
    refine (Ct.op (n := 7) (hA.down (by lia)) (ct_row (W0.keeps (kOld k')) N)).mono fun u s'' k'' ⟨vs, h1, h2⟩ => ⟨vs, NewL.from k' h1, h2⟩
  · obtain ⟨rvs, ⟨rA, rfl, hl, hn⟩, hal⟩ := p2
    rw [row_lit] at hal
    refine ⟨_, hS.add (e := .lst rvs) k2 hn hl, fun s3 h3 => ?_⟩
    have hrl : rvs.length = 31 := hal.len
    have hcc : ∀ sc : Scope, sc.kind = .function → (sc.names.all fun y => y.2 != .cell && (y.2 != .free || (fs 64).names.lookup y.1 == some .cell)) = true → (sc.names.map (·.1)).Nodup → CompOk sc env := fun _ a b c => CompOk.of hE a b c
    refine x_assign h3 (ev_made (Z := Al (fun i u => ∀ b, rowL[i]? = some b → IV (worth b) u) ((List.range rvs.length).filter fun _ => true)) (made1 (n := rvs.length) (Pi := fun i u => rvs[i]? = some u) (Pa := IsV (.ref rA)) h3 (hcc _ rfl (by decide +kernel) (by decide +kernel)) (by decide +kernel) (sz (by lia))
      (ev_name (loc hE h3 (by decide +kernel) (by walk_at "lk"))) (fun u s' k pu => by subst pu; exact src_list hA.handled (isList_keeps (h3.list (.head _)) (kOld k)) (.inl fun _ _ => rfl)) (fun _ _ _ _ _ _ _ _ _ _ => evTests_nil)
      (fun C m u i s4 hi _ hPi hm k4 h4 => ?_))) (isC hE (by decide +kernel)) (fun u s5 k5 p5 => ?_) (swaps_cell (hE.kind (by decide +kernel)))
    · obtain ⟨b, hb, t, rfl⟩ := hal.get' hPi
      have W4 := W.st h4
      obtain ⟨o2, fd2, ho2, hd2⟩ := W4.f59.some
      refine (ev_call (P := IsI (worth b)) (cglob W4 (hcc _ rfl (by decide +kernel) (by decide +kernel)) hE.gen (by decide +kernel) N.worth) ho2 hd2 (.cons (fun _ => rfl) (ev_nameS (cloc h4 (by decide +kernel) hm)) (monoS _) .nil) .nil fun us kv s' k' ps qs => ?_).mono fun u s5 k5 p5 => ?_
      · obtain ⟨u, rfl, t', rfl⟩ := allP1 ps
        have := allP0 qs; subst this
        exact Ct.op (n := 1) (hA.down (by lia)) (ct_worth (W4.keeps (kOld k')) N (Nat.le_trans (rowL_short b (List.mem_of_getElem? hb)) (by lia)))
      · intro b' hb'
        rw [hb] at hb'; cases hb'
        exact p5
    · obtain ⟨wvs, ⟨wA, rfl, hl5, hn5⟩, hz⟩ := p5
      have hw := al_map (f := worth) (R := IV) (al_idx hal.len hz)
      rw [ws_lit] at hw
      exact ⟨_, h3.add (e := .lst wvs) k5 hn5 hl5, fun s6 h6 => k _ s6 rA wA rvs wvs h6 (by walk_at "lk") (by walk_at "lk") (by walk_at "lk") hal hw⟩

theorem pC {cA rA wA : Addr} {c0 c1 : Int} {t0 t1 : Tok} {rvs wvs : List Value} (hA : AOk 8 A) (W : Wd prog w mg mb tokf s₀.heap) (N : Nm mg mb) (hE : EnvIs 64 env) (hS : St s₀ env v [(wA, .lst wvs), (rA, .lst rvs), CellsE cA c0 c1 t0 t1] s) (vc : v "cells" = some (.ref cA)) (vr : v "row" = some (.ref rA)) (vw : v "worths" = some (.ref wA)) (alr : Al TV rowL rvs) (alw : Al IV wsL wvs)
    (k : ∀ v s', St s₀ env v [(wA, .lst wvs), (rA, .lst rvs), CellsE cA c0 c1 t0 t1] s' → v "cells" = some (.ref cA) → v "row" = some (.ref rA) → v "worths" = some (.ref wA) → wpAny (model prog w) A (execs (lr 6) env) Q E s') :
    wpAny (model prog w) A (execs (lr 4) env) Q E s := by
  have W0 := W.st hS
  have hrl : rvs.length = 31 := alr.len
  have hwl : wvs.length = 31 := alw.len
  have hcc : ∀ sc : Scope, sc.kind = .function → (sc.names.all fun y => y.2 != .cell && (y.2 != .free || (fs 64).names.lookup y.1 == some .cell)) = true → (sc.names.map (·.1)).Nodup → CompOk sc env := fun _ a b c => CompOk.of hE a b c
  refine x_skip hS (evB_or (evB_orCons ?t1 (evB_orCons ?t2 evB_orNil))) fun s2 h2 => ?_
  case t1 => exact evB_of_eq (evB_cmpI (ev_lenL (W0.varB hE rfl (by decide +kernel) N.len) (ev_nameL (xs := rvs) (loc hE hS (by decide +kernel) vr) (hS.list (.tail _ (.head _)))) (by lia)) ev_int fun _ _ _ => op_ne) (by rw [hrl]; rfl)
  case t2 =>
    refine evB_cmp (Pa := fun u s' => ∃ zs, NewL s zs u s' ∧ Al (fun _ _ => True) ((List.range 30).filter fun k => decide (wsL.getD k 0 ≤ wsL.getD (k + 1) 0)) zs) (Pb := NewL s [])
      (ev_made (made1 (n := 30) (Pi := fun i u => ∃ t, u = .int (1 + i) t) (Pa := IsRng 1 30) hS (hcc _ rfl (by decide +kernel) (by decide +kernel)) (by decide +kernel) (sz (by lia))
        (ev_range2 (W0.varB hE rfl (by decide +kernel) N.range) ev_int ev_int (by decide) (by decide) (by decide)) (fun u s' k pu => src_range hA.handled pu) (fun C m u i s4 hi hPi hm k4 h4 => ?_) (fun C m u i s4 hi _ hPi hm k4 h4 => (ev_name (cloc h4 (by decide +kernel) hm)).mono fun _ _ _ _ => trivial)))
      (fun u s1 s2 kk ⟨zs, h1, h2⟩ => ⟨zs, monoN _ _ _ _ _ kk h1, h2⟩) ev_nil fun x y s' k hx hy => ?_
    · obtain ⟨t, rfl⟩ := hPi
      obtain ⟨u1, hu1, tu1, rfl⟩ := alw.get (i := i) (x := wsL.getD i 0) (by
        have : i < wsL.length := by rw [wsL_len]; lia
        simp [List.getD, this])
      obtain ⟨u2, hu2, tu2, rfl⟩ := alw.get (i := i + 1) (x := wsL.getD (i + 1) 0) (by
        have : i + 1 < wsL.length := by rw [wsL_len]; lia
        simp [List.getD, this])
      refine evTests_one (evB_cmpI (ev_itemI (k := i) (ev_nameL (xs := wvs) (cfree hS.fn (hcc _ rfl (by decide +kernel) (by decide +kernel)) h4 (by decide +kernel) vw) (h4.list (.head _))) (ev_of_eqI (ev_subI (ev_nameI (cloc h4 (by decide +kernel) hm)) ev_int) (by lia)) (by lia) (by lia) (by rw [Int.toNat_natCast]; exact hu1))
        (ev_itemI (k := ((i + 1 : Nat) : Int)) (ev_nameL (xs := wvs) (cfree hS.fn (hcc _ rfl (by decide +kernel) (by decide +kernel)) h4 (by decide +kernel) vw) (h4.list (.head _))) (ev_of_eqI (ev_nameI (cloc h4 (by decide +kernel) hm)) (by lia)) (by lia) (by lia) (by rw [Int.toNat_natCast]; exact hu2)) fun _ _ _ => op_le)
    · obtain ⟨zs, ⟨a, rfl, ha, _⟩, hz⟩ := hx
      obtain ⟨b, rfl, hb, _⟩ := hy
      rw [fall1] at hz
      cases hz
      exact op_neL (hA.units |> fun h => by lia) ha.isList hb.isList rfl fun j x y hx => by simp at hx
  -- for k in range(1, 31)
  have W2 := W.st h2
  refine x_forR (n := 30) (a := 1) hA.handled h2 (ev_range2 (W2.varB hE rfl (by decide +kernel) N.range) ev_int ev_int (by decide) (by decide) (by decide)) (isL hE (by decide +kernel))
    (fun k v ls => v "cells" = some (.ref cA) ∧ v "row" = some (.ref rA) ∧ v "worths" = some (.ref wA) ∧ ls = [(wA, .lst wvs), (rA, .lst rvs), CellsE cA c0 c1 t0 t1]) ⟨vc, vr, vw, rfl⟩ ?_ ?_
  · rintro i v ls it tk s3 hi ⟨vc, vr, vw, rfl⟩ h3 E
    have W3 := W.st h3
    obtain ⟨u1, hu1, tu1, rfl⟩ := alr.get (i := i) (x := rowL.getD i []) (by
      have : i < rowL.length := by rw [rowL_len]; lia
      simp [List.getD, this])
    obtain ⟨u2, hu2, tu2, rfl⟩ := alr.get (i := i + 1) (x := rowL.getD (i + 1) []) (by
      have : i + 1 < rowL.length := by rw [rowL_len]; lia
      simp [List.getD, this])
    have len4 : ∀ j, (rowL.getD j []).length ≤ 4 := fun j => by
      rcases Nat.lt_or_ge j rowL.length with h | h
      · rw [List.getD_eq_getElem?_getD, List.getElem?_eq_getElem h]; exact rowL_short _ (List.getElem_mem h)
      · rw [List.getD_eq_getElem?_getD, List.getElem?_eq_none h]; simp
    have hcomma : (Str.ofString ",").length = 1 := by decide +kernel
    have l1 := len4 i
    have l2 := len4 (i + 1)
    refine x_assignS (i := keyS (tx (rowL.getD i []))) h3 (ev_addS (ev_itemSt (k := i) (ev_nameL (xs := rvs) (loc hE h3 (by decide +kernel) (by walk_at "lk")) (h3.list (.tail _ (.tail _ (.head _))))) (ev_of_eqI (ev_subI (ev_nameI (loc hE h3 (by decide +kernel) (by walk_at "lk"))) ev_int) (by lia)) (by lia) (by lia) (by rw [Int.toNat_natCast]; exact hu1)) ev_str (by rw [tx_len, hcomma]; exact sz (by lia))) (isL hE (by decide +kernel)) fun t4 s4 h4 => ?_
    refine x_assignS (i := keyS (tx (rowL.getD (i + 1) []))) h4 (ev_addS (ev_itemSt (k := ((i + 1 : Nat) : Int)) (ev_nameL (xs := rvs) (loc hE h4 (by decide +kernel) (by walk_at "lk")) (h4.list (.tail _ (.tail _ (.head _))))) (ev_of_eqI (ev_nameI (loc hE h4 (by decide +kernel) (by walk_at "lk"))) (by lia)) (by lia) (by lia) (by rw [Int.toNat_natCast]; exact hu2)) ev_str (by rw [tx_len, hcomma]; exact sz (by lia))) (isL hE (by decide +kernel)) fun t5 s5 h5 => ?_
    have W5 := W.st h5
    obtain ⟨o, fd, ho, hd⟩ := W5.f5.some
    obtain ⟨q1, q2, q3⟩ := collate i hi
    have call2 : ∀ {x y : Str} {p1 p2 p3 pos : Pos} {X Y : Str} {tX tY : Tok} {n : Int}, Var prog w A env s5 x (.str X tX) → Var prog w A env s5 y (.str Y tY) → coll X Y = n → (x == ("__debug__" : Str)) = false → (y == ("__debug__" : Str)) = false →
        Ev prog w A (eval (.Call (.Name "_strcoll" p1) [.Name x p2, .Name y p3] [] pos) env) s5 (IsI n) := fun hx hy e d1 d2 =>
      ev_call (W5.var hE rfl (by decide +kernel) N.strcoll) ho hd (.cons (fun _ => rfl) (ev_nameS hx d1) (monoS _) (.cons (fun _ => rfl) (ev_nameS hy d2) (monoS _) .nil)) .nil fun us kv s' k' ps qs => by
        obtain ⟨a, b, rfl, ⟨ta, rfl⟩, tb, rfl⟩ := allP2 ps
        have := allP0 qs; subst this
        rw [← e]
        exact Ct.op (n := 1) (hA.down (by lia)) (ct_coll (W5.keeps (kOld k')))
    refine x_assign h5 (ev_list (Ps := [IsI (-1), IsI 1, IsI 0])
      (.cons (fun _ => rfl) (call2 (loc hE h5 (by decide +kernel) (by walk_at "lk")) (loc hE h5 (by decide +kernel) (by walk_at "lk")) (by rw [coll_key, q1, q2]; rfl) (by decide) (by decide)) (monoI _)
      (.cons (fun _ => rfl) (call2 (loc hE h5 (by decide +kernel) (by walk_at "lk")) (loc hE h5 (by decide +kernel) (by walk_at "lk")) (by rw [coll_key, q1, q2]; rfl) (by decide) (by decide)) (monoI _)
      (.cons (fun _ => rfl) (call2 (loc hE h5 (by decide +kernel) (by walk_at "lk")) (loc hE h5 (by decide +kernel) (by walk_at "lk")) (by rw [coll_key, q3]; rfl) (by decide) (by decide)) (monoI _) .nil))) (sz (by simp))) (isL hE (by decide +kernel)) fun u s6 k6 p6 => ?_
    obtain ⟨dA, ws, rfl, hw, hnw, pw⟩ := p6
    obtain ⟨z1, z2, z3, rfl, ⟨tz1, rfl⟩, ⟨tz2, rfl⟩, tz3, rfl⟩ := allP3 pw
    refine ⟨_, h5.add (e := .lst [.int (-1) tz1, .int 1 tz2, .int 0 tz3]) k6 hnw hw, fun s7 h7 => ?_⟩
    have W7 := W.st h7
    refine x_skip h7 (evB_or (evB_orCons ?a1 (evB_orCons ?a2 (evB_orCons ?a3 evB_orNil)))) fun s8 h8 => ?_
    case a1 =>
      refine evB_cmp (Pa := IsV (.ref dA)) (ev_name (loc hE h7 (by decide +kernel) (by walk_at "lk"))) (monoV _) (ev_list (Ps := [IsI (-1), IsI 1, IsI 0]) (.cons (fun _ => rfl) (ev_neg ev_int) (monoI _) (.cons (fun _ => rfl) ev_int (monoI _) (.cons (fun _ => rfl) ev_int (monoI _) .nil))) (sz (by simp))) fun x y s' k' hx hy => ?_
      have hx' : x = .ref dA := hx
      subst hx'
      obtain ⟨b, ys, rfl, hb, _, pb⟩ := hy
      obtain ⟨y1, y2, y3, rfl, ⟨ty1, rfl⟩, ⟨ty2, rfl⟩, ty3, rfl⟩ := allP3 pb
      exact op_neL (by have := hA.units; lia) (isList_keeps (h7.list (.head _)) (kOld k')) hb.isList rfl fun j x y hx hy => by
        match j, hx, hy with
        | 0, hx, hy => simp at hx hy; subst hx; subst hy; exact .inl ⟨_, _, _, rfl, rfl⟩
        | 1, hx, hy => simp at hx hy; subst hx; subst hy; exact .inl ⟨_, _, _, rfl, rfl⟩
        | 2, hx, hy => simp at hx hy; subst hx; subst hy; exact .inl ⟨_, _, _, rfl, rfl⟩
        | j + 3, hx, hy => simp at hx
    case a2 =>
      refine evB_value (ev_callB (W7.varB hE rfl (by decide +kernel) N.isinstance) (.cons (fun _ => rfl) (ev_item (k := 1) (ev_nameL (loc hE h7 (by decide +kernel) (by walk_at "lk")) (h7.list (.head _))) ev_int (by decide) (by decide) rfl) (monoV _) (.cons (fun _ => rfl) (ev_name (W7.varB hE rfl (by decide +kernel) N.bool)) (monoV _) .nil)) fun us s' k' ps => ?_)
      obtain ⟨x, y, rfl, e1, e2⟩ := allP2 ps
      subst e1; subst e2
      exact op_isiInt
    case a3 =>
      refine evB_value (ev_callB (W7.varB hE rfl (by decide +kernel) N.isinstance) (.cons (fun _ => rfl) (ev_item (k := 2) (ev_nameL (loc hE h7 (by decide +kernel) (by walk_at "lk")) (h7.list (.head _))) ev_int (by decide) (by decide) rfl) (monoV _) (.cons (fun _ => rfl) (ev_name (W7.varB hE rfl (by decide +kernel) N.bool)) (monoV _) .nil)) fun us s' k' ps => ?_)
      obtain ⟨x, y, rfl, e1, e2⟩ := allP2 ps
      subst e1; subst e2
      exact op_isiInt
    exact x_nil ⟨rfl, _, _, (h8.sub (List.sublist_cons_self _ _)), by walk_at "lk", by walk_at "lk", by walk_at "lk", rfl⟩
  · rintro v ls s3 ⟨vc, vr, vw, rfl⟩ h3
    exact k v s3 h3 vc vr vw
end

structure Gf where
  a : Addr
  b : List Bool
  tw : Tok
  tb : Tok
noncomputable def Gf.val (g : Gf) : List Value := [.int (worth g.b) g.tw, .str (tx g.b) g.tb]
noncomputable abbrev gEnt (gA : Addr) (gs : List Gf) : List (Addr × Ent) := (gA, .lst (gs.map fun g => .ref g.a)) :: gs.map fun g => (g.a, .tup g.val)
noncomputable def sfx (i : Nat) : List Bool := if i = 0 then [] else if i = 1 then [true] else [false]
theorem sfx_len (i : Nat) : (sfx i).length ≤ 1 := by unfold sfx; split <;> (try split) <;> simp
theorem thr_pairs : (pairs 3 31).map (fun p => rowL.getD p.1 []) = thrB := by decide +kernel
theorem thr_len : thrB.length = 93 := by decide +kernel
theorem thr_short : ∀ y ∈ thrB, y.length ≤ 4 := by decide +kernel
theorem chkG_at {g : List Bool} (h : g.length ≤ 5) : chkG g = true := List.all_eq_true.mp chk_g g (mem5 h)
theorem chkT_at {g : List Bool} (h : g.length ≤ 5) : chkT g = true := List.all_eq_true.mp chk_t g (mem5 h)
theorem fmod_range {a b : Int} (h : 0 < b) : 0 ≤ a.fmod b ∧ a.fmod b < b := by
  rw [Int.fmod_eq_emod_of_nonneg _ (by lia)]
  exact ⟨Int.emod_nonneg _ (by lia), Int.emod_lt_of_pos _ h⟩

section
variable {prog : Program} {w : World} {A : Around} {E : Value → Shared → Prop} {s₀ s : Shared} {env : Env} {mg mb tokf : Str → Option Value} {i : Nat} {v : Str → Option Value} {ls pre post : List (Addr × Ent)} {Q : Flow → Shared → Prop} {rest : List Stmt} {P : VP}
theorem ev_pick3 {k1 k2 k3 k0 : Nat} {p1 p2 p3 p4 pos : Pos} {e : Expr} {i : Nat} (hi : i < 3) (he : Ev prog w A (eval e env) s (IsI i)) (hs : ∀ o i, subscripted e false o i = operate [o, i] (getItem o i) := by walk_at "xa") :
    Ev prog w A (eval (.Subscript (.Tuple [.Constant (.str "") k1 p1, .Constant (.str "+") k2 p2, .Constant (.str "-") k3 p3] k0 p4) e pos) env) s (IsS (tx (sfx i))) := by
  refine ev_subs (Pa := fun u s' => ∃ a t1 t2 t3, u = .ref a ∧ PyProof.Rows.IsTup s'.heap a #[.str "" t1, .str "+" t2, .str "-" t3]) ((ev_tuple (Ps := [IsS "", IsS "+", IsS "-"]) (.cons (fun _ => rfl) ev_str (monoS _) (.cons (fun _ => rfl) ev_str (monoS _) (.cons (fun _ => rfl) ev_str (monoS _) .nil))) (sz (by simp))).mono fun u s' k p => ?_)
    (fun u s1 s2 k ⟨a, t1, t2, t3, e, h⟩ => ⟨a, t1, t2, t3, e, h.keeps (kOld k)⟩) he fun o j s' k ho hj => ?_
  · obtain ⟨a, ws, rfl, hw, _, pw⟩ := p
    obtain ⟨x, y, z, rfl, ⟨t1, rfl⟩, ⟨t2, rfl⟩, t3, rfl⟩ := allP3 pw
    exact ⟨a, t1, t2, t3, rfl, hw⟩
  · obtain ⟨a, t1, t2, t3, rfl, ht⟩ := ho
    obtain ⟨t, rfl⟩ := hj
    refine op_tail (T := "tuple") ht.typeIs PyProof.Rows.slot_tuple_getitem.lookup ?_ (hs _ _)
    match i, hi with
    | 0, _ => exact fun Q E hQ => PyProof.Rows.getItem_tuple (j := 0) ht (by decide) (by decide) rfl rfl (hQ _ _ (kRefl _) ⟨t1, rfl⟩)
    | 1, _ => exact fun Q E hQ => PyProof.Rows.getItem_tuple (j := 1) ht (by decide) (by decide) rfl rfl (hQ _ _ (kRefl _) ⟨t2, rfl⟩)
    | 2, _ => exact fun Q E hQ => PyProof.Rows.getItem_tuple (j := 2) ht (by decide) (by decide) rfl rfl (hQ _ _ (kRefl _) ⟨t3, rfl⟩)
theorem ev_count {q : Int → Bool} {e : Expr} {p p' pos pos' : Pos} {k0} (hf : Var prog w A env s "len" (.builtin "len")) (he : Ev prog w A (eval e env) s (fun u s' => ∃ zs, NewL s zs u s' ∧ Al IV (wsL.filter q) zs)) (hs : ∀ es, starEach (e :: es) env = (false, eval e env) :: starEach es env := by walk_at "xa") :
    Ev prog w A (eval (.BinOp (.Constant (.int 3) k0 p) .Mult (.Call (.Name "len" pos) [e] [] pos') p') env) s (IsI ((3 * (wsL.filter q).length : Nat) : Int)) := by
  have hle : (wsL.filter q).length ≤ 31 := Nat.le_trans (List.length_filter_le _ _) (by rw [wsL_len]; lia)
  refine ev_of_eqI (ev_mul ev_int (ev_callB (P := IsI ((wsL.filter q).length : Nat)) hf (.cons hs he (fun u s1 s2 kk ⟨zs, h1, h2⟩ => ⟨zs, monoN _ _ _ _ _ kk h1, h2⟩) .nil) fun vs s' k ps => ?_) ?_) (by lia)
  · obtain ⟨u, rfl, zs, ⟨a, rfl, hl, _⟩, hz⟩ := allP1 ps
    have := hz.len
    have h1 : Op prog w A (call (.builtin "len") [.ref a]) s' (IsI zs.length) := fun Q E hQ => PyProof.Rows.len_list hl.isList (by simp; lia) (by simpa using hQ _ _ (kTok _ _) ⟨_, rfl⟩)
    rw [this] at h1
    exact h1
  · exact IntMulOk.of_left (by decide +kernel)

theorem pD {cA rA wA : Addr} {c0 c1 : Int} {t0 t1 : Tok} {rvs wvs : List Value} (hA : AOk 8 A) (W : Wd prog w mg mb tokf s₀.heap) (N : Nm mg mb) (hE : EnvIs 64 env) (hS : St s₀ env v [(wA, .lst wvs), (rA, .lst rvs), CellsE cA c0 c1 t0 t1] s) (vc : v "cells" = some (.ref cA)) (vr : v "row" = some (.ref rA)) (vw : v "worths" = some (.ref wA)) (alr : Al TV rowL rvs) (alw : Al IV wsL wvs)
    (k : ∀ v s' gA gs, St s₀ env v (gEnt gA gs ++ [(wA, .lst wvs), (rA, .lst rvs), CellsE cA c0 c1 t0 t1]) s' → v "cells" = some (.ref cA) → v "row" = some (.ref rA) → v "worths" = some (.ref wA) → v "gifts" = some (.ref gA) → gs.length = 2 → (∀ g ∈ gs, g.b.length ≤ 5) → wpAny (model prog w) A (execs (lr 9) env) Q E s') :
    wpAny (model prog w) A (execs (lr 6) env) Q E s := by
  have hrl : rvs.length = 31 := alr.len
  have hwl : wvs.length = 31 := alw.len
  have hcc : ∀ sc : Scope, sc.kind = .function → (sc.names.all fun y => y.2 != .cell && (y.2 != .free || (fs 64).names.lookup y.1 == some .cell)) = true → (sc.names.map (·.1)).Nodup → CompOk sc env := fun _ a b c => CompOk.of hE a b c
  refine x_made (Z := Al (fun q u => TV (rowL.getD q.1 []) u) (pairs 3 rvs.length)) hS (made2 (t1 := "123") (n := rvs.length) (n1 := 3) (Pi := fun i u => rvs[i]? = some u) (Pa := IsV (.ref rA)) hA.handled hS (hcc _ rfl (by decide +kernel) (by decide +kernel)) (by decide +kernel) (by decide +kernel) (by decide +kernel) (sz (by lia)) (by decide +kernel)
    (ev_name (loc hE hS (by decide +kernel) vr)) (fun u s' k pu => by subst pu; exact src_list hA.handled (isList_keeps (hS.list (.tail _ (.head _))) (kOld k)) (.inl fun _ _ => rfl)) (fun C s5 => ev_str)
    (fun C m u u1 i j s5 hi hj hPi hPj hm hm1 k5 h5 => ?_)) (hE.kind (by decide +kernel)) rfl (by decide +kernel) fun tvs hTA s2 hz h2 => ?_
  · obtain ⟨b, hb, t, rfl⟩ := alr.get' hPi
    refine (ev_name (cloc h5 (by decide +kernel) hm)).mono fun u s6 k6 e => ?_
    have e' : u = .str (tx b) t := e
    show TV (rowL.getD i []) u
    rw [getD_some hb]
    exact ⟨t, e'⟩
  have alt : Al TV thrB tvs := by
    have := al_map (f := fun p : Nat × Nat => rowL.getD p.1 []) (R := TV) hz
    rwa [hrl, thr_pairs] at this
  have htl : tvs.length = 93 := by rw [alt.len, thr_len]
  refine x_assignN h2 ev_nil (isL hE (by decide +kernel)) fun gA s3 h3 => ?_
  have W3 := W.st h3
  refine x_forR (n := 2) (a := 0) hA.handled h3 (ev_range1 (n := 2) (W3.varB hE rfl (by decide +kernel) N.range) ev_int (by decide)) (isL hE (by decide +kernel))
    (fun k v ls => v "cells" = some (.ref cA) ∧ v "row" = some (.ref rA) ∧ v "worths" = some (.ref wA) ∧ v "thrice" = some (.ref hTA) ∧ v "gifts" = some (.ref gA) ∧ ∃ gs : List Gf, ls = gEnt gA gs ++ [(hTA, .lst tvs), (wA, .lst wvs), (rA, .lst rvs), CellsE cA c0 c1 t0 t1] ∧ gs.length = k ∧ ∀ g ∈ gs, g.b.length ≤ 5)
    ⟨by walk_at "lk", by walk_at "lk", by walk_at "lk", by walk_at "lk", by walk_at "lk", [], rfl, rfl, fun _ h => nomatch h⟩ ?_ ?_
  · rintro k v ls it tk s4 hk ⟨vc, vr, vw, vt, vg, gs, rfl, hgl, hgs⟩ h4 E
    simp only [Int.zero_add] at h4
    have memB : ∀ {p : Addr × Ent} {x : Addr × Ent}, p ∈ [(hTA, Ent.lst tvs), (wA, .lst wvs), (rA, .lst rvs), CellsE cA c0 c1 t0 t1] → p ∈ x :: (gEnt gA gs ++ [(hTA, Ent.lst tvs), (wA, .lst wvs), (rA, .lst rvs), CellsE cA c0 c1 t0 t1]) := fun h => .tail _ (List.mem_append_right _ h)
    have W4 := W.st h4
    obtain ⟨r1, r2⟩ := fmod_range (a := (c1.fdiv (100 ^ k)).fmod 100) (b := 31) (by decide)
    obtain ⟨ix, hix⟩ := Int.eq_ofNat_of_zero_le r1
    have hix31 : ix < 31 := by lia
    obtain ⟨m1, m2⟩ := fmod_range (a := fig c1 (4 + k)) (b := 3) (by decide)
    obtain ⟨mx, hmx⟩ := Int.eq_ofNat_of_zero_le m1
    have hmx3 : mx < 3 := by lia
    have pw : ((100 : Int) ^ k).natAbs < 1073741824 ∧ ((100 : Int) ^ k) ≠ 0 ∧ ((Builtin.Int.intBits 100 : Int) * k ≤ 2 ^ 27) := by
      have : k = 0 ∨ k = 1 := by lia
      rcases this with rfl | rfl <;> decide +kernel
    obtain ⟨p1, p2, p3⟩ := pw
    obtain ⟨u1, hu1, tu1, rfl⟩ := alr.get (i := ix) (x := rowL.getD ix []) (by
      have : ix < rowL.length := by rw [rowL_len]; lia
      simp [List.getD, this])
    have hb4 : (rowL.getD ix []).length ≤ 4 := by
      have : ix < rowL.length := by rw [rowL_len]; lia
      rw [List.getD_eq_getElem?_getD, List.getElem?_eq_getElem this]; exact rowL_short _ (List.getElem_mem this)
    have hg5 : (rowL.getD ix [] ++ sfx mx).length ≤ 5 := by rw [List.length_append]; have := sfx_len mx; lia
    have cells1 : ∀ {s' v'} {ls'}, St s₀ env v' ls' s' → v' "cells" = some (.ref cA) → CellsE cA c0 c1 t0 t1 ∈ ls' → ∀ {p k0 p' pos}, Ev prog w A (eval (.Subscript (.Name "cells" p) (.Constant (.int 1) k0 p') pos) env) s' (IsI c1) := fun h' vc' hm => ev_itemI (k := 1) (ev_nameL (xs := [.int c0 t0, .int c1 t1]) (cel hE h' (by decide +kernel) vc') (h'.list hm)) ev_int (by decide) (by decide) rfl
    obtain ⟨o5, fd5, ho5, hd5⟩ := W4.f57.some
    refine x_assignS (i := tx (rowL.getD ix [] ++ sfx mx)) h4 (ev_of_eqS (ev_addS (ev_itemSt (k := ix) (ev_nameL (xs := rvs) (loc hE h4 (by decide +kernel) (by walk_at "lk")) (h4.list (memB (.tail _ (.tail _ (.head _))))))
        (ev_of_eqI (ev_mod (ev_mod (ev_fdiv (cells1 h4 (by walk_at "lk") (memB (.tail _ (.tail _ (.tail _ (.head _)))))) (ev_of_eqI (ev_pow ev_int (ev_nameI (i := (k : Int)) (loc hE h4 (by decide +kernel) (by walk_at "lk"))) (by lia) p3) (by rw [Int.toNat_natCast])) p2 p1) ev_int (by decide)) ev_int (by decide)) hix) (by lia) (by lia) (by rw [Int.toNat_natCast]; exact hu1))
      (ev_pick3 hmx3 (ev_of_eqI (ev_mod (ev_call (P := IsI (fig c1 (4 + k))) (W4.var hE rfl (by decide +kernel) N.figure) ho5 hd5 (.cons (fun _ => rfl) (cells1 h4 (by walk_at "lk") (memB (.tail _ (.tail _ (.tail _ (.head _)))))) (monoI _) (.cons (fun _ => rfl) (ev_of_eqI (b := ((4 + k : Nat) : Int)) (ev_add ev_int (ev_nameI (i := (k : Int)) (loc hE h4 (by decide +kernel) (by walk_at "lk")))) (by lia)) (monoI _) .nil)) .nil fun us kv s' k' ps qs => by
        obtain ⟨x, y, rfl, ⟨tx', rfl⟩, ty, rfl⟩ := allP2 ps
        have := allP0 qs; subst this
        exact Ct.op (n := 1) (hA.down (by lia)) (ct_figure (W4.keeps (kOld k')) (by lia))) ev_int (by decide)) hmx)) (by rw [tx_len, tx_len]; exact sz (by have := sfx_len mx; lia))) (tx_append _ _)) (isL hE (by decide +kernel)) fun t5 s5 h5 => ?_
    generalize hgd : rowL.getD ix [] ++ sfx mx = gb at h5 hg5
    have W5 := W.st h5
    obtain ⟨o6, fd6, ho6, hd6⟩ := W5.f59.some
    refine x_assignI (i := worth gb) h5 (ev_call (P := IsI (worth gb)) (W5.var hE rfl (by decide +kernel) N.worth) ho6 hd6 (.cons (fun _ => rfl) (ev_nameS (loc hE h5 (by decide +kernel) (by walk_at "lk"))) (monoS _) .nil) .nil fun us kv s' k' ps qs => by
        obtain ⟨x, rfl, tx', rfl⟩ := allP1 ps
        have := allP0 qs; subst this
        exact Ct.op (n := 1) (hA.down (by lia)) (ct_worth (W5.keeps (kOld k')) N (by lia))) (isC hE (by decide +kernel)) fun t6 s6 h6 => ?_
    have W6 := W.st h6
    have hT := chkT_at hg5
    unfold chkT at hT
    rw [Bool.and_eq_true] at hT
    have cutL := cut_of hT.1
    have cutR := cut_of hT.2
    have cnt : ∀ (q : Int → Bool) (op : CmpOp) (sc : Scope) (p1 p2 p3 p4 p5 p6 pos : Pos) {s' v' ls'}, St s₀ env v' ls' s' → v' "worth" = some (.int (worth gb) t6) → v' "worths" = some (.ref wA) → (wA, Ent.lst wvs) ∈ ls' →
        (∀ a t u s, Op prog w A (compareOp op (.int a t) (.int (worth gb) u)) s (IsB (q a))) → behindInMarks op (.Name "worth" p5) = false → CompOk sc env → sc.names.lookup ("weight" : Str) = some .local → sc.names.lookup ("worth" : Str) = some .free →
        Ev prog w A (eval (.ListComp (.Name "weight" p1) [⟨.Name "weight" p2, .Name "worths" p3, [.Compare (.Name "weight" p4) [op] [.Name "worth" p5] p6], 0⟩] sc pos) env) s' (fun u s'' => ∃ zs, NewL s' zs u s'' ∧ Al IV (wsL.filter q) zs) := by
      intro q op sc p1 p2 p3 p4 p5 p6 pos s' v' ls' h' vwo vws hm hop hmk hco hl1 hl2
      refine (ev_made (made1 (n := wvs.length) (Pi := fun i u => wvs[i]? = some u) (p := fun i => q (wsL.getD i 0)) (R := fun i u => ∀ x, wsL[i]? = some x → IV x u) (Pa := IsV (.ref wA)) h' hco hl1 (sz (by lia))
        (ev_name (cel hE h' (by decide +kernel) vws)) (fun u s'' k pu => by subst pu; exact src_list hA.handled (isList_keeps (h'.list hm) (kOld k)) (.inl fun _ _ => rfl))
        (fun C m u i s7 hi hPi hmm k7 h7 => ?_) (fun C m u i s7 hi _ hPi hmm k7 h7 => ?_))).mono fun u s'' k ⟨zs, hn, hz⟩ => ⟨zs, hn, al_pick' (q := q) alw.len (fun i x hx => by simp only [getD_some hx]) hz⟩
      · obtain ⟨x, hx, t, rfl⟩ := alw.get' hPi
        simp only [getD_some hx]
        exact evTests_one (evB_cmpI (ev_nameI (cloc h7 hl1 hmm)) (ev_nameI (cfree h'.fn hco h7 hl2 vwo)) (fun t u s => hop x t u s) hmk)
      · obtain ⟨x, hx, t, rfl⟩ := alw.get' hPi
        refine (ev_name (cloc h7 hl1 hmm)).mono fun u s8 k8 e => ?_
        intro x' hx'
        rw [hx] at hx'; cases hx'
        exact ⟨t, e⟩
    have inW : ∀ {x : Addr × Ent}, (wA, Ent.lst wvs) ∈ x :: (gEnt gA gs ++ [(hTA, Ent.lst tvs), (wA, .lst wvs), (rA, .lst rvs), CellsE cA c0 c1 t0 t1]) := memB (.tail _ (.head _))
    have inT : ∀ {x : Addr × Ent}, (hTA, Ent.lst tvs) ∈ x :: (gEnt gA gs ++ [(hTA, Ent.lst tvs), (wA, .lst wvs), (rA, .lst rvs), CellsE cA c0 c1 t0 t1]) := memB (.head _)
    refine x_assignI h6 (ev_count (q := fun x => decide (x > worth gb)) (W6.varB hE rfl (by decide +kernel) N.len) (cnt _ .Gt _ _ _ _ _ _ _ _ h6 (by walk_at "lk") (by walk_at "lk") inW (fun a t u s => op_gt) (by with_unfolding_all rfl) (hcc _ rfl (by decide +kernel) (by decide +kernel)) (by decide +kernel) (by decide +kernel))) (isL hE (by decide +kernel)) fun t7 s7 h7 => ?_
    have W7 := W.st h7
    refine x_assignI h7 (ev_count (q := fun x => decide (x ≥ worth gb)) (W7.varB hE rfl (by decide +kernel) N.len) (cnt _ .GtE _ _ _ _ _ _ _ _ h7 (by walk_at "lk") (by walk_at "lk") inW (fun a t u s => op_ge) (by with_unfolding_all rfl) (hcc _ rfl (by decide +kernel) (by decide +kernel)) (by decide +kernel) (by decide +kernel))) (isL hE (by decide +kernel)) fun t8 s8 h8 => ?_
    have W8 := W.st h8
    generalize 3 * (wsL.filter fun x => decide (x > worth gb)).length = nA at h7 h8 cutL
    generalize 3 * (wsL.filter fun x => decide (x ≥ worth gb)).length = nB at h8 cutR
    -- told
    obtain ⟨o9, fd9, ho9, hd9⟩ := W8.f2.some
    have hcomma : (Str.ofString ",").length = 1 := by decide +kernel
    have ts100 : ∀ y ∈ thrB, y.length ≤ 100 := fun y hy => Nat.le_trans (thr_short y hy) (by lia)
    have tl1000 : thrB.length < 1000 := by rw [thr_len]; lia
    refine x_assign h8 (ev_list (Ps := [IsI nA, IsI nB])
      (.cons (fun _ => rfl) (ev_searchL (bs := thrB) (hA.down (by lia)) W8 N (W8.var hE rfl (by decide +kernel) N.bisect_left) (loc hE h8 (by decide +kernel) (by walk_at "lk")) (loc hE h8 (by decide +kernel) (by walk_at "lk")) (W8.var hE rfl (by decide +kernel) N.key) (h8.list inT) alt ts100 (by lia) tl1000 (by rw [thr_len]; exact cutL)) (monoI _)
      (.cons (fun _ => rfl) (ev_call (Ps := [IsV (.ref hTA), IsS (keyS (tx gb))]) (Ks := [IsV (.ref 72)]) (W8.var hE rfl (by decide +kernel) N.bisect_right) ho9 hd9 (.cons (fun _ => rfl) (ev_name (loc hE h8 (by decide +kernel) (by walk_at "lk"))) (monoV _) (.cons (fun _ => rfl) (ev_addS (ev_nameS (loc hE h8 (by decide +kernel) (by walk_at "lk"))) ev_str (by rw [tx_len, hcomma]; exact sz (by lia))) (monoS _) .nil))
        (.cons (ev_name (W8.var hE rfl (by decide +kernel) N.key)) (monoV _) .nil) fun us kv s' k' ps qs => by
          obtain ⟨x, y, rfl, e1, t2, rfl⟩ := allP2 ps
          obtain ⟨q1, rfl, e3⟩ := allP1 qs
          subst e1; subst e3
          exact Ct.op (n := 5) (hA.down (by lia)) (ct_R2 (W8.keeps (kOld k')) N (isList_keeps (h8.list inT) (kOld k')) (al_tv alt) (short_tx (n := 100) (by lia) ts100) (by simp; rw [thr_len]; lia) (by
            have := cut_map (x := gb) (bs := thrB) (hi := thrB.length) (Nat.le_refl _) (by rw [thr_len]; exact cutR)
            simpa using this))) (monoI _) .nil)) (sz (by simp))) (isL hE (by decide +kernel)) fun u s9 k9 p9 => ?_
    obtain ⟨dA, ws, rfl, hw, hnw, pw⟩ := p9
    obtain ⟨z1, z2, rfl, ⟨tz1, rfl⟩, tz2, rfl⟩ := allP2 pw
    refine ⟨_, h8.add (e := .lst [.int nA tz1, .int nB tz2]) k9 hnw hw, fun s10 h10 => ?_⟩
    refine x_skip h10 (evB_cmp (Pa := IsV (.ref dA)) (ev_name (loc hE h10 (by decide +kernel) (by walk_at "lk"))) (monoV _) (ev_list (Ps := [IsI nA, IsI nB]) (.cons (fun _ => rfl) (ev_nameI (loc hE h10 (by decide +kernel) (by walk_at "lk"))) (monoI _) (.cons (fun _ => rfl) (ev_nameI (loc hE h10 (by decide +kernel) (by walk_at "lk"))) (monoI _) .nil)) (sz (by simp))) fun x y s' k' hx hy => ?_) fun s11 h11 => ?_
    · have hx' : x = .ref dA := hx
      subst hx'
      obtain ⟨b, ys, rfl, hb, _, pb⟩ := hy
      obtain ⟨y1, y2, rfl, ⟨ty1, rfl⟩, ty2, rfl⟩ := allP2 pb
      exact op_neL (by have := hA.units; lia) (isList_keeps (h10.list (.head _)) (kOld k')) hb.isList rfl fun j x y hx hy => by
        match j, hx, hy with
        | 0, hx, hy => simp at hx hy; subst hx; subst hy; exact .inl ⟨_, _, _, rfl, rfl⟩
        | 1, hx, hy => simp at hx hy; subst hx; subst hy; exact .inl ⟨_, _, _, rfl, rfl⟩
        | j + 2, hx, hy => simp at hx
    -- gifts.append((worth, gift))
    have h12 := h11.sub (List.sublist_cons_self _ _)
    refine x_append (pre := [(it, .rit ((k : Int) + 1) (((2 : Nat) : Int) - k - 1))]) (a := gA) (xs := gs.map fun g => .ref g.a) (post := (gs.map fun g => (g.a, Ent.tup g.val)) ++ [(hTA, .lst tvs), (wA, .lst wvs), (rA, .lst rvs), CellsE cA c0 c1 t0 t1])
      (P := fun u s' => ∃ a, u = .ref a ∧ PyProof.Rows.IsTup s'.heap a #[.int (worth gb) t6, .str (tx gb) t5] ∧ s11.heap.get? a = none) (by simpa using h12) (ev_name (loc hE h12 (by decide +kernel) (by walk_at "lk"))) (fun _ => rfl)
      ((ev_tuple (Ps := [IsV (.int (worth gb) t6), IsV (.str (tx gb) t5)]) (.cons (fun _ => rfl) (ev_name (cel hE h12 (by decide +kernel) (by walk_at "lk"))) (monoV _) (.cons (fun _ => rfl) (ev_name (loc hE h12 (by decide +kernel) (by walk_at "lk"))) (monoV _) .nil)) (sz (by simp))).mono fun u s' k' p => by
        obtain ⟨a, ws, rfl, hw, hna, pw⟩ := p
        obtain ⟨x, y, rfl, e1, e2⟩ := allP2 pw
        subst e1; subst e2
        exact ⟨a, rfl, hw, hna⟩)
      (fun u s1 s2 kk ⟨a, e, h1, h2⟩ => ⟨a, e, h1.keeps (kOld kk), h2⟩) (sz (by simp; lia)) (fun u s13 k13 pu => ?_) h12.quiet
    obtain ⟨a, rfl, hta, hna⟩ := pu
    refine ⟨[(a, .tup [.int (worth gb) t6, .str (tx gb) t5]), (it, .rit ((k : Int) + 1) (((2 : Nat) : Int) - k - 1))], ?_, fun s14 h14 => x_nil ⟨rfl, _, gEnt gA (gs ++ [⟨a, gb, t6, t5⟩]) ++ [(hTA, .lst tvs), (wA, .lst wvs), (rA, .lst rvs), CellsE cA c0 c1 t0 t1], h14.perm ?_, by walk_at "lk", by walk_at "lk", by walk_at "lk", by walk_at "lk", by walk_at "lk", gs ++ [⟨a, gb, t6, t5⟩], rfl, by simp [hgl], fun g hg => ?_⟩⟩
    · exact (show St s₀ env _ ((it, .rit ((k : Int) + 1) (((2 : Nat) : Int) - k - 1)) :: (gA, .lst (gs.map fun g => .ref g.a)) :: ((gs.map fun g => (g.a, Ent.tup g.val)) ++ [(hTA, .lst tvs), (wA, .lst wvs), (rA, .lst rvs), CellsE cA c0 c1 t0 t1])) s11 from by simpa using h12).add (e := .tup [.int (worth gb) t6, .str (tx gb) t5]) k13 hna hta
    · rw [Int.zero_add]
      simp only [gEnt, List.map_append, List.map_cons, List.map_nil, List.cons_append, List.nil_append, List.append_assoc]
      refine (List.Perm.swap _ _ _).trans (List.Perm.cons _ ?_)
      refine (List.Perm.swap _ _ _).trans (List.Perm.cons _ ?_)
      exact (List.perm_middle (a := (a, Ent.tup (Gf.val ⟨a, gb, t6, t5⟩)))).symm
    · rcases List.mem_append.mp hg with h | h
      · exact hgs g h
      · have : g = ⟨a, gb, t6, t5⟩ := by simpa using h
        subst this; exact hg5
  · rintro v ls s4 ⟨vc, vr, vw, vt, vg, gs, rfl, hgl, hgs⟩ h4
    refine k v s4 gA gs (h4.sub ?_) vc vr vw vg hgl hgs
    exact List.Sublist.append_left (List.sublist_cons_self _ _) _
end

theorem join_flat' : ∀ ss : List Str, (Str.join "" ss).cps.toList = ss.flatMap fun x => x.cps.toList
  | [] => rfl
  | [x] => by simp [Str.join]
  | x :: y :: r => by
    have ih := join_flat' (y :: r)
    show (x ++ "" ++ Str.join "" (y :: r)).cps.toList = _
    rw [str_append_list, str_append_list, ih]
    have e0 : (Str.ofString "").cps.toList = [] := by decide +kernel
    rw [e0]
    simp
theorem join_flat (ss : List Str) : (Txt.join "" ss).cps.toList = ss.flatMap fun x => x.cps.toList := by
  unfold Txt.join
  rw [StrLaws.glued_eq_join, join_flat']
theorem join_signs (b : List Bool) : Txt.join "" (b.map fun c => tx [c]) = tx b := str_ext (by
  rw [join_flat, tx_list]
  induction b with
  | nil => rfl
  | cons c b ih => rw [List.map_cons, List.flatMap_cons, ih, tx_list]; rfl)
theorem join_keys (bs : List (List Bool)) : Txt.join "" (bs.map fun b => keyS (tx b)) = ⟨(sideC bs).toArray⟩ := str_ext (by
  rw [join_flat]
  show _ = (sideC bs).toArray.toList
  induction bs with
  | nil => rfl
  | cons b bs ih =>
    have e : sideC (b :: bs) = kb b ++ sideC bs := rfl
    rw [List.map_cons, List.flatMap_cons, ih, keyS_list, e])
noncomputable def sgn (c0 : Int) (n : Nat) : List Bool := (List.range n).map fun k => decide ((fig c0 k).fmod 2 = 0)
theorem sgn_len (c0 : Int) (n : Nat) : (sgn c0 n).length = n := by simp [sgn]

section
variable {prog : Program} {w : World} {A : Around} {E : Value → Shared → Prop} {s₀ s : Shared} {env : Env} {mg mb tokf : Str → Option Value} {i : Nat} {v : Str → Option Value} {ls pre post : List (Addr × Ent)} {Q : Flow → Shared → Prop} {rest : List Stmt} {P : VP}
theorem evP_name {x : Str} {p : Pos} {j : Int} {t : Tok} (h : Var prog w A env s x (.int j t)) (hd : (x == ("__debug__" : Str)) = false := by walk_at "xa") : EvP prog w A (some (.Name x p)) env s (some j) := evP_int (ev_nameI h hd)

theorem pE {cA rA wA gA : Addr} {gs : List Gf} {c0 c1 : Int} {t0 t1 : Tok} {rvs wvs : List Value} (hA : AOk 8 A) (W : Wd prog w mg mb tokf s₀.heap) (N : Nm mg mb) (hE : EnvIs 64 env) (hS : St s₀ env v (gEnt gA gs ++ [(wA, .lst wvs), (rA, .lst rvs), CellsE cA c0 c1 t0 t1]) s) (vc : v "cells" = some (.ref cA)) (vr : v "row" = some (.ref rA)) (vw : v "worths" = some (.ref wA)) (vg : v "gifts" = some (.ref gA)) (alw : Al IV wsL wvs)
    (k : ∀ v s' fA fvs tA o p n t2 t3 t4, St s₀ env v ((tA, .lst []) :: (fA, .lst fvs) :: (gEnt gA gs ++ [(wA, .lst wvs), (rA, .lst rvs), CellsE cA c0 c1 t0 t1])) s' → v "row" = some (.ref rA) → v "gifts" = some (.ref gA) → v "fallen" = some (.ref fA) → v "table" = some (.ref tA) → v "count" = some (.int (n : Nat) t2) → v "one" = some (.str (tx o) t3) → v "other" = some (.str (tx p) t4) →
      o.length + p.length = n → n ≤ 4 → Al IV (wsL.map fun x => -x) fvs → wpAny (model prog w) A (execs (lr 16) env) Q E s') :
    wpAny (model prog w) A (execs (lr 9) env) Q E s := by
  have hwl : wvs.length = 31 := alw.len
  have hcc : ∀ sc : Scope, sc.kind = .function → (sc.names.all fun y => y.2 != .cell && (y.2 != .free || (fs 64).names.lookup y.1 == some .cell)) = true → (sc.names.map (·.1)).Nodup → CompOk sc env := fun _ a b c => CompOk.of hE a b c
  have inB : ∀ {p : Addr × Ent} {l1 : List (Addr × Ent)}, p ∈ [(wA, Ent.lst wvs), (rA, .lst rvs), CellsE cA c0 c1 t0 t1] → p ∈ l1 ++ [(wA, Ent.lst wvs), (rA, .lst rvs), CellsE cA c0 c1 t0 t1] := fun h => List.mem_append_right _ h
  -- fallen
  refine x_made (Z := Al (fun i u => ∀ x, wsL[i]? = some x → IV (-x) u) ((List.range wvs.length).filter fun _ => true)) hS (made1 (n := wvs.length) (Pi := fun i u => wvs[i]? = some u) (Pa := IsV (.ref wA)) hS (hcc _ rfl (by decide +kernel) (by decide +kernel)) (by decide +kernel) (sz (by omega))
    (ev_name (cel hE hS (by decide +kernel) vw)) (fun u s' k pu => by subst pu; exact src_list hA.handled (isList_keeps (hS.list (inB (.head _))) (kOld k)) (.inl fun _ _ => rfl)) (fun _ _ _ _ _ _ _ _ _ _ => evTests_nil)
    (fun C m u i s4 hi _ hPi hm k4 h4 => ?_)) (hE.kind (by decide +kernel)) rfl (by decide +kernel) fun fvs fA s2 hz h2 => ?_
  · obtain ⟨x, hx, t, rfl⟩ := alw.get' hPi
    refine (ev_neg (ev_nameI (cloc h4 (by decide +kernel) hm))).mono fun u s8 k8 e => ?_
    intro x' hx'
    rw [hx] at hx'; cases hx'
    exact e
  have alf := al_map (f := fun x : Int => -x) (R := IV) (al_idx alw.len hz)
  have cells0 : ∀ {s' v'} {ls'}, St s₀ env v' ls' s' → v' "cells" = some (.ref cA) → CellsE cA c0 c1 t0 t1 ∈ ls' → ∀ {p k0 p' pos}, Ev prog w A (eval (.Subscript (.Name "cells" p) (.Constant (.int 0) k0 p') pos) env) s' (IsI c0) := fun h' vc' hm => ev_itemI (k := 0) (ev_nameL (xs := [.int c0 t0, .int c1 t1]) (cel hE h' (by decide +kernel) vc') (h'.list hm)) ev_int (by decide) (by decide) rfl
  have figc : ∀ {s' v'} {ls'} {m : Nat} {p1 p2 p3 p4 p5 p6 k1 k2}, St s₀ env v' ls' s' → v' "cells" = some (.ref cA) → CellsE cA c0 c1 t0 t1 ∈ ls' → m ≤ 5 →
      Ev prog w A (eval (.Call (.Name "_law_figure" p1) [.Subscript (.Name "cells" p2) (.Constant (.int 0) k1 p3) p4, .Constant (.int m) k2 p5] [] p6) env) s' (IsI (fig c0 m)) := fun {s' v' ls' m p1 p2 p3 p4 p5 p6 k1 k2} h' vc' hm hm5 => by
    have W' := W.st h'
    obtain ⟨o5, fd5, ho5, hd5⟩ := W'.f57.some
    exact ev_call (P := IsI (fig c0 m)) (W'.var hE rfl (by decide +kernel) N.figure) ho5 hd5 (.cons (fun _ => rfl) (cells0 h' vc' hm) (monoI _) (.cons (fun _ => rfl) ev_int (monoI _) .nil)) .nil fun us kv s'' k' ps qs => by
      obtain ⟨x, y, rfl, ⟨tx', rfl⟩, ty, rfl⟩ := allP2 ps
      have := allP0 qs; subst this
      exact Ct.op (n := 1) (hA.down (by omega)) (ct_figure (W'.keeps (kOld k')) hm5)
  have inC : ∀ {l1 : List (Addr × Ent)}, CellsE cA c0 c1 t0 t1 ∈ l1 ++ [(wA, Ent.lst wvs), (rA, .lst rvs), CellsE cA c0 c1 t0 t1] := inB (.tail _ (.tail _ (.head _)))
  -- count
  obtain ⟨m1, m2⟩ := fmod_range (a := fig c0 4) (b := 3) (by decide)
  obtain ⟨mx, hmx⟩ := Int.eq_ofNat_of_zero_le m1
  have hmx3 : mx < 3 := by omega
  refine x_assignI (i := ((2 + mx : Nat) : Int)) h2 (ev_of_eqI (ev_add ev_int (ev_mod (figc (m := 4) h2 (by walk_at "lk") (.tail _ inC) (by decide)) ev_int (by decide))) (by rw [hmx]; omega)) (isL hE (by decide +kernel)) fun t2 s3 h3 => ?_
  obtain ⟨n, hn⟩ : ∃ n, n = 2 + mx := ⟨_, rfl⟩
  rw [← hn] at h3
  have hn4 : n ≤ 4 := by omega
  have W3 := W.st h3
  -- signs
  have hss : ∀ y ∈ (sgn c0 n).map (fun c => tx [c]), y.length ≤ 1 := fun y hy => by
    obtain ⟨c, _, rfl⟩ := List.mem_map.mp hy
    rw [tx_len]; simp
  refine x_assignS (i := tx (sgn c0 n)) h3 (ev_of_eqS (ev_join (sep := "") (ss := (sgn c0 n).map fun c => tx [c]) (B := 1) ev_str (fun _ => rfl)
    ((ev_made (Z := Al (fun i u => ∀ c, (sgn c0 n)[i]? = some c → SV (tx [c]) u) ((List.range n).filter fun _ => true)) (made1 (n := n) (Pi := fun i u => ∃ t, u = .int (0 + i) t) (Pa := IsRng 0 n) h3 (hcc _ rfl (by decide +kernel) (by decide +kernel)) (by decide +kernel) (sz (by omega))
      (ev_range1 (W3.varB hE rfl (by decide +kernel) N.range) (ev_nameI (i := (n : Int)) (loc hE h3 (by decide +kernel) (by walk_at "lk"))) (by omega)) (fun u s' k pu => src_range hA.handled pu) (fun _ _ _ _ _ _ _ _ _ _ => evTests_nil)
      (fun C m u i s4 hi _ hPi hm k4 h4 => ?_))).mono fun u s' k' p => ?_) hss (by
        have e0 : (Str.ofString "").length = 0 := by decide +kernel
        rw [List.length_map, sgn_len, e0]; omega)) (join_signs _)) (isL hE (by decide +kernel)) fun t3 s4 h4 => ?_
  · obtain ⟨t, rfl⟩ := hPi
    have W4 := W.st h4
    obtain ⟨o5, fd5, ho5, hd5⟩ := W4.f57.some
    obtain ⟨b1, b2⟩ := fmod_range (a := fig c0 i) (b := 2) (by decide)
    have hbit : (sgn c0 n)[i]? = some (decide ((fig c0 i).fmod 2 = 0)) := by simp [sgn, hi]
    have hix : (seqIndex? ((fig c0 i).fmod 2) (Str.ofString "+-").length).bind ((Str.ofString "+-").cps[·]?) = some (code (decide ((fig c0 i).fmod 2 = 0))) := by
      have : (fig c0 i).fmod 2 = 0 ∨ (fig c0 i).fmod 2 = 1 := by omega
      rcases this with h | h <;> rw [h] <;> decide +kernel
    refine (ev_itemS (k := (fig c0 i).fmod 2) (c := code (decide ((fig c0 i).fmod 2 = 0))) ev_str (ev_mod (ev_call (P := IsI (fig c0 i)) (cglob W4 (hcc _ rfl (by decide +kernel) (by decide +kernel)) hE.gen (by decide +kernel) N.figure) ho5 hd5 (.cons (fun _ => rfl) (ev_itemI (k := 0) (ev_nameL (xs := [.int c0 t0, .int c1 t1]) (cfree h3.fn (hcc _ rfl (by decide +kernel) (by decide +kernel)) h4 (by decide +kernel) (by walk_at "lk")) (h4.list (.tail _ inC))) ev_int (by decide) (by decide) rfl) (monoI _) (.cons (fun _ => rfl) (ev_of_eqI (b := (i : Int)) (ev_nameI (cloc h4 (by decide +kernel) hm)) (by omega)) (monoI _) .nil)) .nil fun us kv s'' k' ps qs => by
        obtain ⟨x, y, rfl, ⟨tx', rfl⟩, ty, rfl⟩ := allP2 ps
        have := allP0 qs; subst this
        exact Ct.op (n := 1) (hA.down (by omega)) (ct_figure (W4.keeps (kOld k')) (by omega))) ev_int (by decide)) (by
          have a1 : ¬ (fig c0 i).fmod 2 < -(2 ^ 63 : Int) := by omega
          have a2 : ¬ (fig c0 i).fmod 2 ≥ 2 ^ 63 := by omega
          rw [decide_eq_false a1, decide_eq_false a2]; rfl) hix).mono fun u s8 k8 e => ?_
    intro c hc
    rw [hbit] at hc; cases hc
    exact e
  · obtain ⟨zs, hnew, hz⟩ := p
    exact ⟨zs, hnew.isL, al_map (R := SV) (f := fun c => tx [c]) (al_idx (sgn_len c0 n).symm hz)⟩
  -- cut
  obtain ⟨r1, r2⟩ := fmod_range (a := fig c0 5) (b := (n : Int) + 1) (by omega)
  obtain ⟨ct, hct⟩ := Int.eq_ofNat_of_zero_le r1
  have hctn : ct ≤ n := by omega
  refine x_assignI (i := (ct : Int)) h4 (ev_of_eqI (ev_mod (figc (m := 5) h4 (by walk_at "lk") (.tail _ inC) (by decide)) (ev_add (ev_nameI (i := (n : Int)) (loc hE h4 (by decide +kernel) (by walk_at "lk"))) ev_int) (by omega)) hct) (isL hE (by decide +kernel)) fun t4 s5 h5 => ?_
  have hsl := sgn_len c0 n
  refine x_assignS (i := tx ((sgn c0 n).take ct)) h5 (ev_of_eqS (ev_sliceS (lo := none) (hi := some (ct : Int)) (ev_nameS (loc hE h5 (by decide +kernel) (by walk_at "lk"))) evP_none (evP_name (loc hE h5 (by decide +kernel) (by walk_at "lk"))) (by rw [tx_len]; exact sz (by omega))) (tx_slice_to _ _ (by omega))) (isC hE (by decide +kernel)) fun t5 s6 h6 => ?_
  refine x_assignS (i := tx ((sgn c0 n).drop ct)) h6 (ev_of_eqS (ev_sliceS (lo := some (ct : Int)) (hi := none) (ev_nameS (loc hE h6 (by decide +kernel) (by walk_at "lk"))) (evP_name (loc hE h6 (by decide +kernel) (by walk_at "lk"))) evP_none (by rw [tx_len]; exact sz (by omega))) (tx_slice_from _ _ (by omega))) (isC hE (by decide +kernel)) fun t6 s7 h7 => ?_
  refine x_assignN h7 ev_nil (isC hE (by decide +kernel)) fun tA s8 h8 => ?_
  exact k _ s8 fA fvs tA ((sgn c0 n).take ct) ((sgn c0 n).drop ct) n t2 t5 t6 h8 (by walk_at "lk") (by walk_at "lk") (by walk_at "lk") (by walk_at "lk") (by walk_at "lk") (by walk_at "lk") (by walk_at "lk") (by rw [List.length_take, List.length_drop]; omega) hn4 alf
end

structure UV (u q : List Bool) (ix : Nat) : Prop where
  lt : ix < 31
  is : wsL.getD ix 0 = worth u + worth q
  lo : lowOf rowL (opp false u q) ≤ ix
  hi : ix < highOf rowL (opp true u q)
  hi31 : highOf rowL (opp true u q) ≤ 31
  short : ∀ j, lowOf rowL (opp false u q) ≤ j → j < highOf rowL (opp true u q) → j ≠ ix → (rowL.getD ix []).length < (rowL.getD j []).length
theorem uv_at {u q : List Bool} (h : u.length + q.length ≤ 4) : UV u q (plc (worth u + worth q)) := by
  have h1 := List.all_eq_true.mp chk_uv u (mem4 (by lia))
  have h2 := List.all_eq_true.mp h1 q (mem4 (by lia))
  rw [Bool.or_eq_true] at h2
  have h3 : chkUV u q = true := by
    rcases h2 with h2 | h2
    · simp at h2; lia
    · exact h2
  unfold chkUV at h3
  simp only [Bool.and_eq_true, decide_eq_true_eq, List.all_eq_true, List.mem_range, Bool.or_eq_true] at h3
  obtain ⟨⟨⟨⟨⟨h1, h2⟩, h3⟩, h4⟩, h5⟩, h6⟩ := h3
  refine ⟨h1, h2, h3, h4, h5, fun j a b c => ?_⟩
  rcases h6 j (by lia) with ((h | h) | h) | h
  · lia
  · lia
  · exact absurd h c
  · exact h
structure GF (g : List Bool) : Prop where
  cuts : CutsAt rowL g
  le : ∀ i, i < 31 → wsL.getD i 0 < worth g → posB rowL g ≤ i
  gt : ∀ i, i < 31 → worth g < wsL.getD i 0 → i < posL rowL g
theorem gf_at {g : List Bool} (h : g.length ≤ 5) : GF g := by
  have h1 := chkG_at h
  unfold chkG at h1
  simp only [Bool.and_eq_true, List.all_eq_true, List.mem_range, Bool.or_eq_true, decide_eq_true_eq] at h1
  obtain ⟨⟨h1, h2⟩, h3⟩ := h1
  refine ⟨⟨cut_of h1, cut_of h2⟩, fun i hi hw => ?_, fun i hi hw => ?_⟩
  · rcases (h3 i hi).1 with h | h
    · lia
    · exact h
  · rcases (h3 i hi).2 with h | h
    · lia
    · exact h
theorem low_app (X Y : List (List Bool)) (n : Nat) (hX : ∀ x ∈ X, posB rowL x ≤ n) (hY : lowOf rowL Y ≤ n) : lowOf rowL (X ++ Y) ≤ n ∧ lowOf rowL Y ≤ lowOf rowL (X ++ Y) := by
  unfold lowOf at *
  obtain ⟨a1, a2⟩ := foldl_max_ge ((X ++ Y).map (posB rowL)) 0
  obtain ⟨b1, b2⟩ := foldl_max_ge (Y.map (posB rowL)) 0
  constructor
  · rcases foldl_max_mem ((X ++ Y).map (posB rowL)) 0 with h | h
    · rw [h]; lia
    · rw [List.map_append] at h ⊢
      rcases List.mem_append.mp h with h | h
      · obtain ⟨x, hx, e⟩ := List.mem_map.mp h
        rw [← e]; exact hX x hx
      · exact Nat.le_trans (b2 _ h) hY
  · rcases foldl_max_mem (Y.map (posB rowL)) 0 with h | h
    · rw [h]; lia
    · exact a2 _ (by rw [List.map_append]; exact List.mem_append_right _ h)
theorem high_app (X Y : List (List Bool)) (n : Nat) (hX : ∀ x ∈ X, n < posL rowL x) (hY : n < highOf rowL Y) : n < highOf rowL (X ++ Y) ∧ highOf rowL (X ++ Y) ≤ highOf rowL Y := by
  unfold highOf at *
  obtain ⟨a1, a2⟩ := foldl_min_le ((X ++ Y).map (posL rowL)) rowL.length
  obtain ⟨b1, b2⟩ := foldl_min_le (Y.map (posL rowL)) rowL.length
  constructor
  · rcases foldl_min_mem ((X ++ Y).map (posL rowL)) rowL.length with h | h
    · rw [h]; lia
    · rw [List.map_append] at h ⊢
      rcases List.mem_append.mp h with h | h
      · obtain ⟨x, hx, e⟩ := List.mem_map.mp h
        rw [← e]; exact hX x hx
      · exact Nat.lt_of_lt_of_le hY (b2 _ h)
  · rcases foldl_min_mem (Y.map (posL rowL)) rowL.length with h | h
    · rw [h]; exact a1
    · exact a2 _ (by rw [List.map_append]; exact List.mem_append_right _ h)
theorem filter_one {α : Type} {q : α → Bool} : ∀ {l : List α} {k : Nat} {x : α}, l[k]? = some x → q x = true → (∀ j y, l[j]? = some y → j ≠ k → q y = false) → l.filter q = [x]
  | [], k, x, h, _, _ => by simp at h
  | y :: l, 0, x, h, hq, ho => by
    simp at h; subst h
    rw [List.filter_cons, if_pos hq]
    have : l.filter q = [] := List.filter_eq_nil_iff.mpr fun z hz => by
      obtain ⟨j, hj, e⟩ := List.getElem_of_mem hz
      rw [ho (j + 1) z (by simp [hj, e]) (by lia)]; simp
    rw [this]
  | y :: l, k + 1, x, h, hq, ho => by
    rw [List.filter_cons, if_neg (by rw [ho 0 y rfl (by lia)]; simp)]
    exact filter_one (k := k) (by simpa using h) hq fun j z hz hj => ho (j + 1) z (by simpa using hz) (by lia)
structure Btw (lo hi ix : Nat) : Prop where
  at' : ((rowL.drop lo).take (hi - lo))[ix - lo]? = some (rowL.getD ix [])
  least : ∀ b ∈ (rowL.drop lo).take (hi - lo), (rowL.getD ix []).length ≤ b.length
  only : ((rowL.drop lo).take (hi - lo)).filter (fun b => decide (((b.length : Nat) : Int) = ((rowL.getD ix []).length : Nat))) = [rowL.getD ix []]
theorem btw_at {u q : List Bool} {ix lo hi : Nat} (h : UV u q ix) (h1 : lo ≤ ix) (h2 : ix < hi) (h3 : lowOf rowL (opp false u q) ≤ lo) (h4 : hi ≤ highOf rowL (opp true u q)) : Btw lo hi ix := by
  have hi31 := h.hi31
  have hget : ∀ k, k < hi - lo → ((rowL.drop lo).take (hi - lo))[k]? = some (rowL.getD (lo + k) []) := fun k hk => by
    rw [List.getElem?_take, if_pos hk, List.getElem?_drop]
    have : lo + k < rowL.length := by rw [rowL_len]; lia
    simp [List.getD, this]
  have hat := hget (ix - lo) (by lia)
  rw [show lo + (ix - lo) = ix by lia] at hat
  have hcl : ∀ j y, ((rowL.drop lo).take (hi - lo))[j]? = some y → j < hi - lo ∧ y = rowL.getD (lo + j) [] := fun j y hy => by
    have hj : j < hi - lo := by
      rcases Nat.lt_or_ge j (hi - lo) with h | h
      · exact h
      · rw [List.getElem?_take, if_neg (by lia)] at hy; cases hy
    rw [hget j hj] at hy
    exact ⟨hj, (Option.some.inj hy).symm⟩
  refine ⟨hat, fun b hb => ?_, filter_one hat (by simp) fun j y hy hj => ?_⟩
  · obtain ⟨j, hj, e⟩ := List.getElem_of_mem hb
    obtain ⟨hj1, hj2⟩ := hcl j b (by rw [List.getElem?_eq_getElem hj, e])
    rw [hj2]
    by_cases hx : lo + j = ix
    · rw [hx]; exact Nat.le_refl _
    · exact Nat.le_of_lt (h.short (lo + j) (by lia) (by lia) hx)
  · obtain ⟨hj1, hj2⟩ := hcl j y hy
    have := h.short (lo + j) (by lia) (by lia) (by lia)
    rw [hj2]
    rw [decide_eq_false_iff_not]
    lia

section
variable {prog : Program} {w : World} {A : Around} {E : Value → Shared → Prop} {s₀ s : Shared} {env : Env} {mg mb tokf : Str → Option Value} {i : Nat} {v : Str → Option Value} {ls pre post : List (Addr × Ent)} {Q : Flow → Shared → Prop} {rest : List Stmt} {P : VP} {Z : List Value → Prop}
noncomputable abbrev NewZ (s₀ : Shared) (Z : List Value → Prop) : VP := fun u s' => ∃ zs, NewL s₀ zs u s' ∧ Z zs
theorem monoNZ {s₀ : Shared} {Z : List Value → Prop} : Mono (NewZ s₀ Z) := fun u s1 s2 kk ⟨zs, h1, h2⟩ => ⟨zs, monoN _ _ _ _ _ kk h1, h2⟩
theorem x_extendZ {o e : Expr} {apos pos pos' : Pos} {a : Addr} {xs : List Value} (h : St s₀ env v (pre ++ (a, .lst xs) :: post) s) (ho : Ev prog w A (eval o env) s (IsV (.ref a))) (hns : ∀ es, starEach (e :: es) env = (false, eval e env) :: starEach es env)
    (he : Ev prog w A (eval e env) s (NewZ s Z)) (hsz : ∀ ys, Z ys → xs.length + ys.length ≤ 1000000)
    (k : ∀ ys s'', Z ys → St s₀ env v (pre ++ (a, .lst (xs ++ ys)) :: post) s'' → wpAny (model prog w) A (execs rest env) Q E s'')
    (hi : interactive env = false)
    (hbase : attributeBase o "extend" env (eval o env) = eval o env := by walk_at "xa")
    (hfew : ((backTo pos (starEach [e] env)).all (fun x => !x.1) && (backToKw pos (keywordEach [] env)).all (fun x => x.1.isSome)
      && decide ([e].length + ([] : List Keyword).length + (if ([] : List Keyword).isEmpty then 0 else 1) < 30)) = true := by with_unfolding_all rfl)
    (hline : (apos.endLine == pos.line) = true := by walk_at "xa") :
    wpAny (model prog w) A (execs (.Expr (.Call (.Attribute o "extend" apos) [e] [] pos) pos' :: rest) env) Q E s := by
  refine x_expr (meth (Po := IsV (.ref a)) F.plainAttrs_list F.slot_list_extend F.type_list_extend ho (monoV _) (fun u s' k1 pu => by subst pu; exact plain_typeIs ((h.keeps k1).get (List.mem_append_right _ (.head _))))
    (.cons hns he monoNZ .nil) (fun u vs s' k1 pu ps => ?_) hbase hfew hline) hi
  obtain ⟨y, rfl, ys, ⟨b, rfl, hb, _⟩, hz⟩ := allP1 ps
  obtain rfl : u = .ref a := pu
  have h' := h.keeps k1
  have hs := hsz ys hz
  obtain ⟨n, hl⟩ := h'.get (List.mem_append_right pre (.head _))
  obtain ⟨n2, hb2⟩ := hb
  have hs' : xs.length + ys.length ≤ sizeLine := sz hs
  refine call_meets F.slot_list_extend ⟨_, hl, rfl⟩ F.entry_list_extend (F.args_list_extend_2 _ _) (AutoSeq1.list_extend_list_list_0 a xs.toArray n b ys.toArray n2 ?_ (by simp; lia) (by simp; lia)) ⟨hl, hb2, k ys _ hz ?_⟩
  · exact PyProof.Rows.extend_door (by simp; lia)
  · have := update_plain (f := fun x => x ++ ys.toArray) hl
    exact h'.change (t := s'.toks) (Heap.SameBut.update ..) (e' := .lst (xs ++ ys)) (by simpa [Ent.At] using this)
theorem ev_sliceZ {l u : Option Expr} {p pos : Pos} {value : Expr} {lo hi : Option Int} (hv : Ev prog w A (eval value env) s (NewZ s Z)) (hl : EvP prog w A l env s lo) (hu : EvP prog w A u env s hi) (hsz : ∀ xs, Z xs → xs.length ≤ sizeLine) :
    Ev prog w A (eval (.Subscript value (.Slice l u none p) pos) env) s (NewZ s fun ys => ∃ xs, Z xs ∧ ys = (slicePick xs.toArray lo hi none).toList) :=
  ev_slice hv monoNZ hl hu fun o vl vu sl s' k ho pl pu hs => by
    obtain ⟨xs, ⟨a, rfl, hL, _⟩, hz⟩ := ho
    refine ⟨"list", _, hL.isList.typeIs, list_getitem_lookup, fun Q E hQ => wpAny_getItem_list_slice hL.isList hs pl pu .none (by simp) (hQ _ _ (kPush _ _) ⟨_, ⟨_, rfl, ⟨_, by simpa using Heap.get?_push_size _ rfl⟩, kNone k (get_none_of_push _)⟩, xs, hz, rfl⟩) (by simpa using hsz xs hz)⟩
theorem x_assignZ {x px e pos} (h : St s₀ env v ls s) (he : Ev prog w A (eval e env) s (NewZ s Z)) (hk : env.kindOf x = some .local ∨ env.kindOf x = some .cell)
    (k : ∀ a xs s'', Z xs → St s₀ env (upd v x (.ref a)) ((a, .lst xs) :: ls) s'' → wpAny (model prog w) A (execs rest env) Q E s'') (hsw : swapsWith e (some (.Name x px)) pos.line env = pure false := by walk_at "xa") :
    wpAny (model prog w) A (execs (.Assign [.Name x px] e pos :: rest) env) Q E s :=
  x_assign h he hk (fun u s1 k1 p => by obtain ⟨xs, ⟨a, rfl, hl, hn⟩, hz⟩ := p; exact ⟨_, h.add (e := .lst xs) k1 hn hl, fun s'' h'' => k a xs s'' hz h''⟩) hsw
end

noncomputable def forBody : Stmt → List Stmt
  | .For _ _ body _ _ => body
  | _ => []
noncomputable def ib : List Stmt := forBody (((fb 64)[16]?).getD (.Pass default))
noncomputable def jb : List Stmt := forBody ((ib[1]?).getD (.Pass default))
noncomputable def jr (n : Nat) : List Stmt := jb.drop n

structure Nv (rA gA fA tA : Addr) (n i j : Nat) (o p : List Bool) (t2 t3 t4 ti tj : Tok) (v : Str → Option Value) : Prop where
  row : v "row" = some (.ref rA)
  gifts : v "gifts" = some (.ref gA)
  fallen : v "fallen" = some (.ref fA)
  table : v "table" = some (.ref tA)
  count : v "count" = some (.int n t2)
  one : v "one" = some (.str (tx o) t3)
  other : v "other" = some (.str (tx p) t4)
  i : v "i" = some (.int i ti)
  j : v "j" = some (.int j tj)
noncomputable def nvNames : List Str := ["row", "gifts", "fallen", "table", "count", "one", "other", "i", "j"]
theorem Nv.upd {rA gA fA tA n i j o p t2 t3 t4 ti tj v} {x : Str} {u : Value} (h : Nv rA gA fA tA n i j o p t2 t3 t4 ti tj v) (hx : (nvNames.all fun y => y != x) = true) : Nv rA gA fA tA n i j o p t2 t3 t4 ti tj (Mine.upd v x u) := by
  have ne : ∀ y ∈ nvNames, y ≠ x := fun y hy => by have := List.all_eq_true.mp hx y hy; simpa using this
  exact ⟨upd_to (ne _ (by decide +kernel)) h.row, upd_to (ne _ (by decide +kernel)) h.gifts, upd_to (ne _ (by decide +kernel)) h.fallen, upd_to (ne _ (by decide +kernel)) h.table, upd_to (ne _ (by decide +kernel)) h.count,
    upd_to (ne _ (by decide +kernel)) h.one, upd_to (ne _ (by decide +kernel)) h.other, upd_to (ne _ (by decide +kernel)) h.i, upd_to (ne _ (by decide +kernel)) h.j⟩
noncomputable def rowT (o p : List Bool) (i m : Nat) : List (List Bool) := (List.range m).map fun j => sumB (o.take i) (p.take j)
structure Lg (rA gA fA tA tI : Addr) (rvs fvs tr tv : List Value) (gs : List Gf) (o p : List Bool) (i j : Nat) (ls : List (Addr × Ent)) : Prop where
  row : (rA, .lst rvs) ∈ ls
  fal : (fA, .lst fvs) ∈ ls
  gif : (gA, .lst (gs.map fun g => .ref g.a)) ∈ ls
  gts : ∀ g ∈ gs, (g.a, .tup g.val) ∈ ls
  tab : (tA, .lst tr) ∈ ls
  rows : ∀ k, k < i → ∃ a vals, tr[k]? = some (.ref a) ∧ (a, .lst vals) ∈ ls ∧ Al TV (rowT o p k (p.length + 1)) vals
  this : tr[i]? = some (.ref tI)
  thv : (tI, .lst tv) ∈ ls
theorem Lg.mono {rA gA fA tA tI rvs fvs tr tv gs o p i j} {ls ls' : List (Addr × Ent)} (h : Lg rA gA fA tA tI rvs fvs tr tv gs o p i j ls) (hs : ∀ x ∈ ls, x ∈ ls') : Lg rA gA fA tA tI rvs fvs tr tv gs o p i j ls' :=
  ⟨hs _ h.row, hs _ h.fal, hs _ h.gif, fun g hg => hs _ (h.gts g hg), hs _ h.tab, fun k hk => let ⟨a, vals, e, hm, al⟩ := h.rows k hk; ⟨a, vals, e, hs _ hm, al⟩, h.this, hs _ h.thv⟩
theorem Lg.cons {rA gA fA tA tI rvs fvs tr tv gs o p i j} {ls : List (Addr × Ent)} {x : Addr × Ent} (h : Lg rA gA fA tA tI rvs fvs tr tv gs o p i j ls) : Lg rA gA fA tA tI rvs fvs tr tv gs o p i j (x :: ls) := h.mono fun _ hx => .tail _ hx

theorem rowT_at {o p : List Bool} {i m j : Nat} (hj : j < m) : (rowT o p i m)[j]? = some (sumB (o.take i) (p.take j)) := by simp [rowT, hj]
noncomputable def part1 (s : Bool) (u q : List Bool) : List (List Bool) := ((List.range u.length).filter fun k => u.getD k true == s).map fun k => sumB (u.take k) q
noncomputable def part2 (s : Bool) (u q : List Bool) : List (List Bool) := ((List.range q.length).filter fun k => q.getD k true == s).map fun k => sumB u (q.take k)
theorem opp_parts (s : Bool) (u q : List Bool) : opp s u q = part1 s u q ++ part2 s u q := rfl
theorem part1_len (s : Bool) (u q : List Bool) : (part1 s u q).length ≤ u.length := by
  unfold part1; rw [List.length_map]; exact Nat.le_trans (List.length_filter_le _ _) (by simp)
theorem part2_len (s : Bool) (u q : List Bool) : (part2 s u q).length ≤ q.length := by
  unfold part2; rw [List.length_map]; exact Nat.le_trans (List.length_filter_le _ _) (by simp)
theorem take_getD {l : List Bool} {i k : Nat} (hk : k < i) (hi : i ≤ l.length) : ∃ c, l[k]? = some c ∧ (l.take i).getD k true = c ∧ (l.take i).take k = l.take k := by
  have hkl : k < l.length := by lia
  refine ⟨l[k], List.getElem?_eq_getElem hkl, ?_, ?_⟩
  · rw [List.getD_eq_getElem?_getD, List.getElem?_take, if_pos hk, List.getElem?_eq_getElem hkl]; rfl
  · rw [List.take_take, Nat.min_eq_left (by lia)]
theorem sign_eq (c s : Bool) : (tx [c] == tx [s]) = (c == s) := by rw [tx_beq]; cases c <;> cases s <;> rfl

section
variable {prog : Program} {w : World} {A : Around} {E : Value → Shared → Prop} {s₀ s : Shared} {env : Env} {mg mb tokf : Str → Option Value} {v : Str → Option Value} {ls pre post : List (Addr × Ent)} {Q : Flow → Shared → Prop} {rest : List Stmt} {P : VP}
variable {rA gA fA tA tI : Addr} {rvs fvs tr tv : List Value} {gs : List Gf} {o p : List Bool} {n i j : Nat} {t2 t3 t4 ti tj : Tok}

theorem ev_tab1 {sc : Scope} {p1 p2 p3 p4 p5 p6 p7 p8 p9 p10 p11 p12 p13 p14 pos : Pos} {k0 : Nat} {sg : Str} {b : Bool} (hA : A.handled = none) (W : Wd prog w mg mb tokf s₀.heap) (N : Nm mg mb) (hE : EnvIs 64 env) (h : St s₀ env v ls s) (hn : Nv rA gA fA tA n i j o p t2 t3 t4 ti tj v) (hl : Lg rA gA fA tA tI rvs fvs tr tv gs o p i j ls)
    (hi : i ≤ o.length) (hj : j ≤ p.length) (ho : o.length ≤ 4) (hp : p.length ≤ 4) (hsg : sg = tx [b]) (hc : CompOk sc env) (l1 : sc.names.lookup ("k" : Str) = some .local) (l2 : sc.names.lookup ("j" : Str) = some .free) (l3 : sc.names.lookup ("one" : Str) = some .free) (l4 : sc.names.lookup ("table" : Str) = some .free) :
    Ev prog w A (eval (.ListComp (.Subscript (.Subscript (.Name "table" p1) (.Name "k" p2) p3) (.Name "j" p4) p5) [⟨.Name "k" p6, .Call (.Name "range" p7) [.Name "i" p8] [] p9, [.Compare (.Subscript (.Name "one" p10) (.Name "k" p11) p12) [.Eq] [.Constant (.str sg) k0 p13] p14], 0⟩] sc pos) env) s
      (NewZ s (Al TV (part1 b (o.take i) (p.take j)))) := by
  have W1 := W.st h
  have hul : (o.take i).length = i := by rw [List.length_take]; lia
  refine (ev_made (made1 (n := i) (Pi := fun k u => ∃ t, u = .int (0 + k) t) (p := fun k => (o.take i).getD k true == b) (R := fun k u => TV (sumB ((o.take i).take k) (p.take j)) u) (Pa := IsRng 0 i) h hc l1 (sz (by lia))
    (ev_range1 (W1.varB hE rfl (by decide +kernel) N.range) (ev_nameI (cel hE h (by decide +kernel) hn.i)) (by lia)) (fun u s' k pu => src_range hA pu)
    (fun C m u k s4 hk hPi hm k4 h4 => ?_) (fun C m u k s4 hk _ hPi hm k4 h4 => ?_))).mono fun u s' k' ⟨zs, h1, h2⟩ => ⟨zs, h1, by
      unfold part1; rw [hul]; exact al_map (f := fun k => sumB ((o.take i).take k) (p.take j)) (R := TV) h2⟩
  · obtain ⟨t, rfl⟩ := hPi
    obtain ⟨c, hc1, hc2, hc3⟩ := take_getD hk hi
    simp only [hc2]
    refine evTests_one (evB_of_eq (evB_cmpS (ev_itemS (k := (k : Int)) (c := code c) (ev_nameS (cfree h.fn hc h4 l3 hn.one)) (ev_of_eqI (ev_nameI (cloc h4 l1 hm)) (by lia)) (by
      have a1 : ¬ (k : Int) < -(2 ^ 63 : Int) := by lia
      have a2 : ¬ (k : Int) ≥ 2 ^ 63 := by lia
      rw [decide_eq_false a1, decide_eq_false a2]; rfl) (tx_get o k c hc1)) ev_str fun _ _ _ => op_eqS) (by rw [hsg]; exact sign_eq c b))
  · obtain ⟨t, rfl⟩ := hPi
    obtain ⟨c, hc1, hc2, hc3⟩ := take_getD hk hi
    rw [hc3]
    obtain ⟨a, vals, e1, e2, e3⟩ := hl.rows k hk
    obtain ⟨u2, hu2, tu2, rfl⟩ := e3.get (i := j) (rowT_at (by lia))
    have hl4 : ∀ {x : Addr × Ent}, x ∈ ls → x ∈ ls := fun h => h
    refine (ev_item (k := (j : Int)) (xs := vals) ((ev_item (k := (k : Int)) (xs := tr) (ev_nameL (cfree h.fn hc h4 l4 hn.table) (h4.list hl.tab)) (ev_of_eqI (ev_nameI (cloc h4 l1 hm)) (by lia)) (by lia) (by lia) (by rw [Int.toNat_natCast]; exact e1)).mono fun u s5 k5 e => ?_)
      (ev_nameI (cfree h.fn hc h4 l2 hn.j)) (by lia) (by lia) (by rw [Int.toNat_natCast]; exact hu2)).mono fun u s5 k5 e => ⟨tu2, e⟩
    have e' : u = .ref a := e
    exact ⟨a, e', isList_keeps (h4.list e2) (kOld k5)⟩
theorem ev_tab2 {sc : Scope} {p1 p2 p3 p4 p5 p6 p7 p8 p9 p10 p11 p12 p13 p14 pos : Pos} {k0 : Nat} {sg : Str} {b : Bool} (hA : A.handled = none) (W : Wd prog w mg mb tokf s₀.heap) (N : Nm mg mb) (hE : EnvIs 64 env) (h : St s₀ env v ls s) (hn : Nv rA gA fA tA n i j o p t2 t3 t4 ti tj v) (hl : Lg rA gA fA tA tI rvs fvs tr tv gs o p i j ls)
    (htv : Al TV (rowT o p i j) tv) (hi : i ≤ o.length) (hj : j ≤ p.length) (ho : o.length ≤ 4) (hp : p.length ≤ 4) (hsg : sg = tx [b]) (hc : CompOk sc env) (l1 : sc.names.lookup ("k" : Str) = some .local) (l2 : sc.names.lookup ("i" : Str) = some .free) (l3 : sc.names.lookup ("other" : Str) = some .free) (l4 : sc.names.lookup ("table" : Str) = some .free) :
    Ev prog w A (eval (.ListComp (.Subscript (.Subscript (.Name "table" p1) (.Name "i" p2) p3) (.Name "k" p4) p5) [⟨.Name "k" p6, .Call (.Name "range" p7) [.Name "j" p8] [] p9, [.Compare (.Subscript (.Name "other" p10) (.Name "k" p11) p12) [.Eq] [.Constant (.str sg) k0 p13] p14], 0⟩] sc pos) env) s
      (NewZ s (Al TV (part2 b (o.take i) (p.take j)))) := by
  have W1 := W.st h
  have hul : (p.take j).length = j := by rw [List.length_take]; lia
  refine (ev_made (made1 (n := j) (Pi := fun k u => ∃ t, u = .int (0 + k) t) (p := fun k => (p.take j).getD k true == b) (R := fun k u => TV (sumB (o.take i) ((p.take j).take k)) u) (Pa := IsRng 0 j) h hc l1 (sz (by lia))
    (ev_range1 (W1.varB hE rfl (by decide +kernel) N.range) (ev_nameI (cel hE h (by decide +kernel) hn.j)) (by lia)) (fun u s' k pu => src_range hA pu)
    (fun C m u k s4 hk hPi hm k4 h4 => ?_) (fun C m u k s4 hk _ hPi hm k4 h4 => ?_))).mono fun u s' k' ⟨zs, h1, h2⟩ => ⟨zs, h1, by
      unfold part2; rw [hul]; exact al_map (f := fun k => sumB (o.take i) ((p.take j).take k)) (R := TV) h2⟩
  · obtain ⟨t, rfl⟩ := hPi
    obtain ⟨c, hc1, hc2, hc3⟩ := take_getD hk hj
    simp only [hc2]
    refine evTests_one (evB_of_eq (evB_cmpS (ev_itemS (k := (k : Int)) (c := code c) (ev_nameS (cfree h.fn hc h4 l3 hn.other)) (ev_of_eqI (ev_nameI (cloc h4 l1 hm)) (by lia)) (by
      have a1 : ¬ (k : Int) < -(2 ^ 63 : Int) := by lia
      have a2 : ¬ (k : Int) ≥ 2 ^ 63 := by lia
      rw [decide_eq_false a1, decide_eq_false a2]; rfl) (tx_get p k c hc1)) ev_str fun _ _ _ => op_eqS) (by rw [hsg]; exact sign_eq c b))
  · obtain ⟨t, rfl⟩ := hPi
    obtain ⟨c, hc1, hc2, hc3⟩ := take_getD hk hj
    rw [hc3]
    obtain ⟨u2, hu2, tu2, rfl⟩ := htv.get (i := k) (rowT_at hk)
    refine (ev_item (k := (k : Int)) (xs := tv) ((ev_item (k := (i : Int)) (xs := tr) (ev_nameL (cfree h.fn hc h4 l4 hn.table) (h4.list hl.tab)) (ev_nameI (cfree h.fn hc h4 l2 hn.i)) (by lia) (by lia) (by rw [Int.toNat_natCast]; exact hl.this)).mono fun u s5 k5 e => ?_)
      (ev_of_eqI (ev_nameI (cloc h4 l1 hm)) (by lia)) (by lia) (by lia) (by rw [Int.toNat_natCast]; exact hu2)).mono fun u s5 k5 e => ⟨tu2, e⟩
    have e' : u = .ref tI := e
    exact ⟨tI, e', isList_keeps (h4.list hl.thv) (kOld k5)⟩
theorem made_gifts {sc : Scope} {p1 p2 p3 p4 p5 p6 p7 p8 pos : Pos} {kk : Nat} {op : CmpOp} {qq : Int → Bool} {wd : Int} {td : Tok} (hA : A.handled = none) (hE : EnvIs 64 env) (h : St s₀ env v ls s) (hn : Nv rA gA fA tA n i j o p t2 t3 t4 ti tj v) (hl : Lg rA gA fA tA tI rvs fvs tr tv gs o p i j ls) (hdue : v "due" = some (.int wd td)) (hgl : gs.length ≤ 1000)
    (hop : ∀ a t u s, Op prog w A (compareOp op (.int a t) (.int wd u)) s (IsB (qq a))) (hmk : behindInMarks op (.Name "due" p7) = false) (hc : CompOk sc env) (l1 : sc.names.lookup ("worth" : Str) = some .local) (l2 : sc.names.lookup ("gift" : Str) = some .local) (l3 : sc.names.lookup ("due" : Str) = some .free) :
    Made prog w A env s (.ListComp (.Name "gift" p1) [⟨.Tuple [.Name "worth" p2, .Name "gift" p3] kk p4, .Name "gifts" p5, [.Compare (.Name "worth" p6) [op] [.Name "due" p7] p8], 0⟩] sc pos) [⟨.Tuple [.Name "worth" p2, .Name "gift" p3] kk p4, .Name "gifts" p5, [.Compare (.Name "worth" p6) [op] [.Name "due" p7] p8], 0⟩] sc pos
      (Al (fun k u => ∀ g, gs[k]? = some g → TV g.b u) ((List.range gs.length).filter fun k => qq (worth (((gs[k]?).map Gf.b).getD [])))) := by
  refine made1T (n := gs.length) (us := gs.map fun g => (.int (worth g.b) g.tw, .str (tx g.b) g.tb)) (Pi := fun k u => (gs.map fun g => Value.ref g.a)[k]? = some u) (Pa := IsV (.ref gA)) (as := []) hA h hc l1 l2 (by decide +kernel) (sz (by lia)) (ev_name (loc hE h (by decide +kernel) hn.gifts))
    (fun u s' k pu => by
      subst pu
      have := src_list (prog := prog) (w := w) (tg := .Tuple [.Name "worth" p2, .Name "gift" p3] kk p4) hA (isList_keeps (h.list hl.gif) (kOld k)) (.inr ⟨_, _, _, rfl⟩)
      rwa [List.length_map] at this) (fun k u s' hk hPi k' => ?_) (fun C m qv k s4 hk hq hmx hmy k4 h4 => ?_) (fun C m qv k s4 hk _ hq hmx hmy k4 h4 => ?_)
  · have hg : gs[k]? = some gs[k] := List.getElem?_eq_getElem hk
    rw [List.getElem?_map, hg] at hPi
    simp at hPi
    refine ⟨gs[k].a, _, hPi.symm, by rw [List.getElem?_map, hg]; rfl, ?_⟩
    exact (h.keeps k').tup (hl.gts _ (List.getElem_mem hk))
  · have hg : gs[k]? = some gs[k] := List.getElem?_eq_getElem hk
    rw [List.getElem?_map, hg] at hq
    simp at hq
    subst hq
    simp only [hg, Option.map_some, Option.getD_some]
    exact evTests_one (evB_cmpI (ev_nameI (cloc h4 l1 hmx)) (ev_nameI (cfree h.fn hc h4 l3 hdue)) (fun t u s => hop _ t u s) hmk)
  · have hg : gs[k]? = some gs[k] := List.getElem?_eq_getElem hk
    rw [List.getElem?_map, hg] at hq
    simp at hq
    subst hq
    refine (ev_name (cloc h4 l2 hmy)).mono fun u s5 k5 e => ?_
    intro g' hg'
    rw [hg] at hg'; cases hg'
    exact ⟨_, e⟩
end

noncomputable def giftsBy (qq : Int → Bool) (gs : List Gf) : List (List Bool) := (gs.filter fun g => qq (worth g.b)).map Gf.b
section
variable {prog : Program} {w : World} {A : Around} {E : Value → Shared → Prop} {s₀ s : Shared} {env : Env} {mg mb tokf : Str → Option Value} {v : Str → Option Value} {ls pre post : List (Addr × Ent)} {Q : Flow → Shared → Prop} {rest : List Stmt} {P : VP}
variable {rA gA fA tA tI : Addr} {rvs fvs tr tv : List Value} {gs : List Gf} {o p : List Bool} {n i j : Nat} {t2 t3 t4 ti tj : Tok}

theorem gifts_al {qq : Int → Bool} {zs : List Value} (hz : Al (fun k u => ∀ g, gs[k]? = some g → TV g.b u) ((List.range gs.length).filter fun k => qq (worth (((gs[k]?).map Gf.b).getD []))) zs) : Al TV (giftsBy qq gs) zs :=
  al_map (f := Gf.b) (R := TV) (al_pick' (q := fun g : Gf => qq (worth g.b)) rfl (fun k g hg => by simp [hg]) hz)
theorem giftsBy_len (qq) : (giftsBy qq gs).length ≤ gs.length := by
  unfold giftsBy; rw [List.length_map]; exact List.length_filter_le _ _

theorem pJ1 (hA : AOk 8 A) (W : Wd prog w mg mb tokf s₀.heap) (N : Nm mg mb) (hE : EnvIs 64 env) (h : St s₀ env v ls s) (hn : Nv rA gA fA tA n i j o p t2 t3 t4 ti tj v) (hl : Lg rA gA fA tA tI rvs fvs tr tv gs o p i j ls)
    (htv : Al TV (rowT o p i j) tv) (hi : i ≤ o.length) (hj : j ≤ p.length) (ho : o.length ≤ 4) (hp : p.length ≤ 4) (hgl : gs.length ≤ 2)
    (k : ∀ v' s' lA gB lvs gvs td, St s₀ env v' ((gB, .lst gvs) :: (lA, .lst lvs) :: ls) s' → Nv rA gA fA tA n i j o p t2 t3 t4 ti tj v' → v' "due" = some (.int (worth (o.take i) + worth (p.take j)) td) → v' "lefts" = some (.ref lA) → v' "rights" = some (.ref gB) →
      Al TV (giftsBy (fun x => decide (x < worth (o.take i) + worth (p.take j))) gs ++ opp true (o.take i) (p.take j)) lvs → Al TV (giftsBy (fun x => decide (x > worth (o.take i) + worth (p.take j))) gs ++ opp false (o.take i) (p.take j)) gvs → wpAny (model prog w) A (execs (jr 7) env) Q E s') :
    wpAny (model prog w) A (execs (jr 0) env) Q E s := by
  have hcc : ∀ sc : Scope, sc.kind = .function → (sc.names.all fun y => y.2 != .cell && (y.2 != .free || (fs 64).names.lookup y.1 == some .cell)) = true → (sc.names.map (·.1)).Nodup → CompOk sc env := fun _ a b c => CompOk.of hE a b c
  have W0 := W.st h
  obtain ⟨o6, fd6, ho6, hd6⟩ := W0.f59.some
  have wcall : ∀ {x jn : Str} {b : List Bool} {m : Nat} {tb tm : Tok} {p1 p2 p3 p4 p5 p6 : Pos}, Var prog w A env s x (.str (tx b) tb) → Var prog w A env s jn (.int (m : Nat) tm) → m ≤ b.length → b.length ≤ 4 → (x == ("__debug__" : Str)) = false → (jn == ("__debug__" : Str)) = false →
      Ev prog w A (eval (.Call (.Name "_law_worth" p1) [.Subscript (.Name x p2) (.Slice none (some (.Name jn p3)) none p4) p5] [] p6) env) s (IsI (worth (b.take m))) := fun {x jn b m tb tm p1 p2 p3 p4 p5 p6} hx hjn hm hb4 d1 d2 =>
    ev_call (W0.var hE rfl (by decide +kernel) N.worth) ho6 hd6 (.cons (fun _ => rfl) (ev_of_eqS (ev_sliceS (lo := none) (hi := some (m : Int)) (ev_nameS hx d1) evP_none (evP_name hjn d2) (by rw [tx_len]; exact sz (by lia))) (tx_slice_to b m hm)) (monoS _) .nil) .nil fun us kv s' k' ps qs => by
      obtain ⟨x, rfl, tx', rfl⟩ := allP1 ps
      have := allP0 qs; subst this
      exact Ct.op (n := 1) (hA.down (by lia)) (ct_worth (W0.keeps (kOld k')) N (by rw [List.length_take]; lia))
  refine x_assignI (i := worth (o.take i) + worth (p.take j)) h (ev_add (wcall (cel hE h (by decide +kernel) hn.one) (cel hE h (by decide +kernel) hn.i) hi ho (by decide) (by decide)) (wcall (cel hE h (by decide +kernel) hn.other) (cel hE h (by decide +kernel) hn.j) hj hp (by decide) (by decide))) (isC hE (by decide +kernel)) fun td s2 h2 => ?_
  have hn2 := hn.upd (x := "due") (u := .int (worth (o.take i) + worth (p.take j)) td) (by decide +kernel)
  generalize hwd : worth (o.take i) + worth (p.take j) = wd at *
  -- lefts
  refine x_made h2 (made_gifts (qq := fun x => decide (x < wd)) hA.handled hE h2 hn2 hl (by walk_at "lk") (by lia) (fun _ _ _ _ => op_lt) (by with_unfolding_all rfl) (hcc _ rfl (by decide +kernel) (by decide +kernel)) (by decide +kernel) (by decide +kernel) (by decide +kernel)) (hE.kind (by decide +kernel)) rfl (by decide +kernel) fun lvs lA s3 hz3 h3 => ?_
  have al3 := gifts_al (qq := fun x => decide (x < wd)) hz3
  have hn3 := hn2.upd (x := "lefts") (u := .ref lA) (by decide +kernel)
  refine x_made h3 (made_gifts (qq := fun x => decide (x > wd)) hA.handled hE h3 hn3 hl.cons (by walk_at "lk") (by lia) (fun _ _ _ _ => op_gt) (by with_unfolding_all rfl) (hcc _ rfl (by decide +kernel) (by decide +kernel)) (by decide +kernel) (by decide +kernel) (by decide +kernel)) (hE.kind (by decide +kernel)) rfl (by decide +kernel) fun gvs gB s4 hz4 h4 => ?_
  have al4 := gifts_al (qq := fun x => decide (x > wd)) hz4
  have hn4 := hn3.upd (x := "rights") (u := .ref gB) (by decide +kernel)
  have l3 := al3.len
  have l4 := al4.len
  have g3 := giftsBy_len (gs := gs) (fun x => decide (x < wd))
  have g4 := giftsBy_len (gs := gs) (fun x => decide (x > wd))
  have q1 := part1_len true (o.take i) (p.take j)
  have q2 := part1_len false (o.take i) (p.take j)
  have q3 := part2_len true (o.take i) (p.take j)
  have q4 := part2_len false (o.take i) (p.take j)
  rw [List.length_take] at q1 q2 q3 q4
  have v4l : upd (upd (upd v "due" (.int wd td)) "lefts" (.ref lA)) "rights" (.ref gB) "lefts" = some (.ref lA) := by walk_at "lk"
  have v4r : upd (upd (upd v "due" (.int wd td)) "lefts" (.ref lA)) "rights" (.ref gB) "rights" = some (.ref gB) := by walk_at "lk"
  have v4d : upd (upd (upd v "due" (.int wd td)) "lefts" (.ref lA)) "rights" (.ref gB) "due" = some (.int wd td) := by walk_at "lk"
  generalize hv4 : upd (upd (upd v "due" (.int wd td)) "lefts" (.ref lA)) "rights" (.ref gB) = v4 at *
  -- lefts.extend: table[k][j]
  refine x_extendZ (pre := [(gB, .lst gvs)]) (a := lA) (xs := lvs) (post := ls) h4 (ev_name (loc hE h4 (by decide +kernel) v4l)) (fun _ => rfl) (ev_tab1 (b := true) hA.handled W N hE h4 hn4 hl.cons.cons hi hj ho hp tx_plus.symm (hcc _ rfl (by decide +kernel) (by decide +kernel)) (by decide +kernel) (by decide +kernel) (by decide +kernel) (by decide +kernel)) (fun ys hy => by have := hy.len; lia) (fun ys5 s5 hz5 h5 => ?_) h4.quiet
  refine x_extendZ (pre := []) (a := gB) (xs := gvs) (post := (lA, .lst (lvs ++ ys5)) :: ls) h5 (ev_name (loc hE h5 (by decide +kernel) v4r)) (fun _ => rfl) (ev_tab1 (b := false) hA.handled W N hE h5 hn4 hl.cons.cons hi hj ho hp tx_minus.symm (hcc _ rfl (by decide +kernel) (by decide +kernel)) (by decide +kernel) (by decide +kernel) (by decide +kernel) (by decide +kernel)) (fun ys hy => by have := hy.len; lia) (fun ys6 s6 hz6 h6 => ?_) h5.quiet
  have l5 := hz5.len
  have l6 := hz6.len
  refine x_extendZ (pre := [(gB, .lst (gvs ++ ys6))]) (a := lA) (xs := lvs ++ ys5) (post := ls) h6 (ev_name (loc hE h6 (by decide +kernel) v4l)) (fun _ => rfl) (ev_tab2 (b := true) hA.handled W N hE h6 hn4 hl.cons.cons htv hi hj ho hp tx_plus.symm (hcc _ rfl (by decide +kernel) (by decide +kernel)) (by decide +kernel) (by decide +kernel) (by decide +kernel) (by decide +kernel)) (fun ys hy => by have := hy.len; rw [List.length_append]; lia) (fun ys7 s7 hz7 h7 => ?_) h6.quiet
  refine x_extendZ (pre := []) (a := gB) (xs := gvs ++ ys6) (post := (lA, .lst (lvs ++ ys5 ++ ys7)) :: ls) h7 (ev_name (loc hE h7 (by decide +kernel) v4r)) (fun _ => rfl) (ev_tab2 (b := false) hA.handled W N hE h7 hn4 hl.cons.cons htv hi hj ho hp tx_minus.symm (hcc _ rfl (by decide +kernel) (by decide +kernel)) (by decide +kernel) (by decide +kernel) (by decide +kernel) (by decide +kernel)) (fun ys hy => by have := hy.len; rw [List.length_append]; lia) (fun ys8 s8 hz8 h8 => ?_) h7.quiet
  refine k v4 s8 lA gB _ _ td h8 hn4 v4d v4l v4r ?_ ?_
  · rw [opp_parts, ← List.append_assoc]; exact (al3.append hz5).append hz7
  · rw [opp_parts, ← List.append_assoc]; exact (al4.append hz6).append hz8
end

theorem side_len : ∀ (bs : List (List Bool)), (∀ b ∈ bs, b.length ≤ 5) → (sideC bs).length ≤ 6 * bs.length
  | [], _ => by simp [sideC]
  | b :: bs, h => by
    have e : sideC (b :: bs) = kb b ++ sideC bs := rfl
    have h1 := h b (.head _)
    have h2 := side_len bs fun x hx => h x (.tail _ hx)
    rw [e, List.length_append]
    simp only [kb, List.length_append, List.length_map, List.length_cons, List.length_nil]
    lia
theorem text_len {L R : List (List Bool)} (hL : ∀ b ∈ L, b.length ≤ 5) (hR : ∀ b ∈ R, b.length ≤ 5) : (textC L R).length ≤ 6 * L.length + 6 * R.length + 3 := by
  have h1 := side_len L hL
  have h2 := side_len R hR
  unfold textC bodyC
  simp only [List.length_append, List.length_cons, List.length_nil]
  lia
theorem slice_two {x : Str} {i c d : Nat} (hc : x.cps.toList[i]? = some c) (hd : x.cps.toList[i + 1]? = some d) : Txt.slice x (some (i : Int)) (some ((i + 2 : Nat) : Int)) = ⟨#[c, d]⟩ := by
  have hl : i + 1 < x.cps.toList.length := by
    rcases Nat.lt_or_ge (i + 1) x.cps.toList.length with h | h
    · exact h
    · rw [List.getElem?_eq_none h] at hd; cases hd
  refine str_ext ?_
  rw [slice_list x i (i + 2) (by lia) (by lia)]
  have e1 : x.cps.toList.drop i = c :: d :: x.cps.toList.drop (i + 2) := by
    rw [List.drop_eq_getElem_cons (by lia), List.drop_eq_getElem_cons hl]
    rw [List.getElem?_eq_getElem (by lia)] at hc
    rw [List.getElem?_eq_getElem hl] at hd
    cases hc; cases hd; rfl
  rw [e1, show i + 2 - i = 2 by lia]
  rfl

section
variable {prog : Program} {w : World} {A : Around} {E : Value → Shared → Prop} {s₀ s : Shared} {env : Env} {mg mb tokf : Str → Option Value} {v : Str → Option Value} {ls pre post : List (Addr × Ent)} {Q : Flow → Shared → Prop} {rest : List Stmt} {P : VP}
variable {rA gA fA tA tI : Addr} {rvs fvs tr tv : List Value} {gs : List Gf} {o p : List Bool} {n i j : Nat} {t2 t3 t4 ti tj : Tok}

theorem pJ2 {L R : List (List Bool)} {lA gB : Addr} {lvs gvs : List Value} {wd : Int} {td : Tok} (hA : AOk 8 A) (W : Wd prog w mg mb tokf s₀.heap) (N : Nm mg mb) (T : Tk tokf) (hE : EnvIs 64 env) (h : St s₀ env v ((gB, .lst gvs) :: (lA, .lst lvs) :: ls) s) (hn : Nv rA gA fA tA n i j o p t2 t3 t4 ti tj v)
    (vd : v "due" = some (.int wd td)) (vl : v "lefts" = some (.ref lA)) (vr : v "rights" = some (.ref gB)) (alL : Al TV L lvs) (alR : Al TV R gvs) (hL : ∀ b ∈ L, b.length ≤ 5) (hR : ∀ b ∈ R, b.length ≤ 5) (hLn : L.length ≤ 20) (hRn : R.length ≤ 20)
    (k : ∀ v' s' tt, St s₀ env v' ls s' → Nv rA gA fA tA n i j o p t2 t3 t4 ti tj v' → v' "due" = some (.int wd td) → v' "text" = some (.str (textS L R) tt) → wpAny (model prog w) A (execs (jr 10) env) Q E s') :
    wpAny (model prog w) A (execs (jr 7) env) Q E s := by
  have hcc : ∀ sc : Scope, sc.kind = .function → (sc.names.all fun y => y.2 != .cell && (y.2 != .free || (fs 64).names.lookup y.1 == some .cell)) = true → (sc.names.map (·.1)).Nodup → CompOk sc env := fun _ a b c => CompOk.of hE a b c
  have hcomma : (Str.ofString ",").length = 1 := by decide +kernel
  refine x_made (Z := Al (fun k u => ∀ bs, [L, R][k]? = some bs → SV ⟨(sideC bs).toArray⟩ u) ((List.range 2).filter fun _ => true)) h (made1 (n := 2) (Pi := fun k u => [Value.ref lA, .ref gB][k]? = some u) (Pa := fun u s' => ∃ a, u = .ref a ∧ PyProof.Rows.IsTup s'.heap a [Value.ref lA, .ref gB].toArray) h (hcc _ rfl (by decide +kernel) (by decide +kernel)) (by decide +kernel) (sz (by lia))
    ((ev_tuple (Ps := [IsV (.ref lA), IsV (.ref gB)]) (.cons (fun _ => rfl) (ev_name (loc hE h (by decide +kernel) vl)) (monoV _) (.cons (fun _ => rfl) (ev_name (loc hE h (by decide +kernel) vr)) (monoV _) .nil)) (sz (by simp))).mono fun u s' k' p => by
      obtain ⟨a, ws, rfl, hw, _, pw⟩ := p
      obtain ⟨x, y, rfl, e1, e2⟩ := allP2 pw
      subst e1; subst e2
      exact ⟨a, rfl, hw⟩)
    (fun u s' k' pu => by obtain ⟨a, rfl, ha⟩ := pu; exact src_tuple hA.handled ha) (fun _ _ _ _ _ _ _ _ _ _ => evTests_nil) (fun C m u k' s4 hk _ hPi hm k4 h4 => ?_)) (hE.kind (by decide +kernel)) rfl (by decide +kernel) fun zs sA s5 hz h5 => ?_
  · obtain ⟨bs, a, vals, rfl, hbs, hmem, hal, hb5, hbn⟩ : ∃ bs a vals, u = .ref a ∧ [L, R][k']? = some bs ∧ (a, Ent.lst vals) ∈ (gB, Ent.lst gvs) :: (lA, .lst lvs) :: ls ∧ Al TV bs vals ∧ (∀ b ∈ bs, b.length ≤ 5) ∧ bs.length ≤ 20 := by
      match k', hPi with
      | 0, hPi => simp at hPi; exact ⟨L, lA, lvs, hPi.symm, rfl, .tail _ (.head _), alL, hL, hLn⟩
      | 1, hPi => simp at hPi; exact ⟨R, gB, gvs, hPi.symm, rfl, .head _, alR, hR, hRn⟩
      | k' + 2, hPi => lia
    refine (ev_of_eqS (ev_join (sep := "") (ss := bs.map fun b => keyS (tx b)) (B := 6) ev_str (fun _ => rfl)
      ((ev_made (Z := Al (fun i u => ∀ b, bs[i]? = some b → SV (keyS (tx b)) u) ((List.range vals.length).filter fun _ => true)) (made1 (n := vals.length) (Pi := fun i u => vals[i]? = some u) (Pa := IsV (.ref a)) h4 (CompOk.nofree rfl (by decide +kernel) (by decide +kernel)) (by decide +kernel) (sz (by rw [hal.len]; lia))
        (ev_name (cloc h4 (by decide +kernel) hm)) (fun u s' k pu => by subst pu; exact src_list hA.handled (isList_keeps (h4.list hmem) (kOld k)) (.inl fun _ _ => rfl)) (fun _ _ _ _ _ _ _ _ _ _ => evTests_nil)
        (fun C2 m2 u2 i2 s6 hi2 _ hPi2 hm2 k6 h6 => ?_))).mono fun u s' k' p => ?_) (fun y hy => ?_) (by
          have e0 : (Str.ofString "").length = 0 := by decide +kernel
          rw [List.length_map, e0]; lia)) (join_keys bs)).mono fun u s7 k7 e => ?_
    · obtain ⟨b, hb, t, rfl⟩ := hal.get' hPi2
      have hb5' := hb5 b (List.mem_of_getElem? hb)
      refine (ev_addS (ev_nameS (cloc h6 (by decide +kernel) hm2)) ev_str (by rw [tx_len, hcomma]; exact sz (by lia))).mono fun u s7 k7 e => ?_
      intro b' hb'
      rw [hb] at hb'; cases hb'
      exact e
    · obtain ⟨zs, hnew, hz⟩ := p
      exact ⟨zs, hnew.isL, al_map (R := SV) (f := fun b => keyS (tx b)) (al_idx hal.len hz)⟩
    · obtain ⟨b, hb, rfl⟩ := List.mem_map.mp hy
      have := hb5 b hb
      show (keyS (tx b)).cps.size ≤ 6
      rw [← Array.length_toList, keyS_list]
      simp only [kb, List.length_append, List.length_map, List.length_cons, List.length_nil]
      lia
    · intro bs' hbs'
      rw [hbs] at hbs'; cases hbs'
      exact e
  have hz' := al_idx (xs := [L, R]) (S := fun bs u => SV ⟨(sideC bs).toArray⟩ u) rfl hz
  obtain ⟨ta, tb, rfl⟩ : ∃ ta tb, zs = [.str ⟨(sideC L).toArray⟩ ta, .str ⟨(sideC R).toArray⟩ tb] := by
    cases hz' with
    | cons r1 hz' => cases hz' with
      | cons r2 hz' =>
        cases hz'
        obtain ⟨t1, rfl⟩ := r1
        obtain ⟨t2, rfl⟩ := r2
        exact ⟨t1, t2, rfl⟩
  have hn5 := hn.upd (x := "sides") (u := .ref sA) (by decide +kernel)
  have hsL := side_len L hL
  have hsR := side_len R hR
  -- text
  have lenc : ∀ (l : List Nat), (⟨l.toArray⟩ : Str).length = l.length := fun l => by show l.toArray.size = _; simp
  have one : (Str.ofString "{").length = 1 ∧ (Str.ofString "|").length = 1 ∧ (Str.ofString "}").length = 1 := by decide +kernel
  obtain ⟨o1, o2, o3⟩ := one
  have lapp : ∀ x y : Str, (x ++ y).length = x.length + y.length := PySem.Str.length_append
  have lL : (⟨(sideC L).toArray⟩ : Str).length ≤ 120 := by rw [lenc]; lia
  have lR : (⟨(sideC R).toArray⟩ : Str).length ≤ 120 := by rw [lenc]; lia
  refine x_assignS (i := textS L R) h5 (ev_of_eqS (ev_addS (ev_addS (ev_addS (ev_addS ev_str (ev_itemSt (k := 0) (ev_nameL (loc hE h5 (by decide +kernel) (by walk_at "lk")) (h5.list (.head _))) ev_int (by decide) (by decide) rfl) (by rw [o1]; exact sz (by lia))) ev_str (by rw [lapp, o1, o2]; exact sz (by lia)))
    (ev_itemSt (k := 1) (ev_nameL (loc hE h5 (by decide +kernel) (by walk_at "lk")) (h5.list (.head _))) ev_int (by decide) (by decide) rfl) (by rw [lapp, lapp, o1, o2]; exact sz (by lia))) ev_str (by rw [lapp, lapp, lapp, o1, o2, o3]; exact sz (by lia))) (str_ext ?_)) (isC hE (by decide +kernel)) fun tt s6 h6 => ?_
  · rw [str_append_list, str_append_list, str_append_list, str_append_list]
    have e1 : (Str.ofString "{").cps.toList = [123] := by decide +kernel
    have e2 : (Str.ofString "|").cps.toList = [124] := by decide +kernel
    have e3 : (Str.ofString "}").cps.toList = [125] := by decide +kernel
    rw [e1, e2, e3]
    show _ = (textC L R).toArray.toList
    unfold textC bodyC
    simp
  have hn6 := hn5.upd (x := "text") (u := .str (textS L R) tt) (by decide +kernel)
  have hlen : (textC L R).length ≤ 243 := by have := text_len hL hR; lia
  have hge : 3 ≤ (textC L R).length := by unfold textC bodyC; simp; lia
  have htl : (textS L R).length = (textC L R).length := lenc _
  have W6 := W.st h6
  -- no operator of two signs
  refine x_skip h6 (evB_cmp (Pa := NewZ s6 (Al (fun _ _ => True) ((List.range ((textC L R).length - 1)).filter fun _ => false))) (Pb := NewL s6 [])
    (ev_made (made1 (n := (textC L R).length - 1) (Pi := fun i u => ∃ t, u = .int (1 + i) t) (Pa := IsRng 1 ((textC L R).length - 1)) h6 (hcc _ rfl (by decide +kernel) (by decide +kernel)) (by decide +kernel) (sz (by lia))
      (ev_range2 (W6.varB hE rfl (by decide +kernel) N.range) ev_int (ev_lenS (W6.varB hE rfl (by decide +kernel) N.len) (ev_nameS (cel hE h6 (by decide +kernel) (by walk_at "lk"))) (by lia)) (by lia) (by decide) (by lia)) (fun u s' k pu => src_range hA.handled pu) (fun C m u i s7 hi hPi hm k7 h7 => ?_) (fun C m u i s4 hi hf hPi hm k4 h4 => by cases hf)))
    monoNZ ev_nil fun x y s' k' hx hy => ?_) fun s7 h7 => ?_
  · obtain ⟨t, rfl⟩ := hPi
    have W7 := W.st h7
    have hc : (textC L R)[i]? = some ((textC L R)[i]'(by lia)) := List.getElem?_eq_getElem _
    have hd : (textC L R)[i + 1]? = some ((textC L R)[i + 1]'(by lia)) := List.getElem?_eq_getElem _
    have htok := T.two _ _ (text_codes L R _ (List.getElem_mem (show i < (textC L R).length by lia))) (text_codes L R _ (List.getElem_mem (show i + 1 < (textC L R).length by lia)))
    refine evTests_one (evB_of_eq (evB_inD (x := ⟨#[(textC L R)[i]'(by lia), (textC L R)[i + 1]'(by lia)]⟩) (d := 56) (ev_of_eqS (ev_sliceS (lo := some (i : Int)) (hi := some ((i + 2 : Nat) : Int)) (ev_nameS (cfree h6.fn (hcc _ rfl (by decide +kernel) (by decide +kernel)) h7 (by decide +kernel) (by walk_at "lk")))
      (evP_int (ev_of_eqI (ev_subI (ev_nameI (cloc h7 (by decide +kernel) hm)) ev_int) (by lia))) (evP_int (ev_of_eqI (ev_add (ev_nameI (cloc h7 (by decide +kernel) hm)) ev_int) (by lia))) (by rw [htl]; exact sz (by lia))) (slice_two (by show (textC L R).toArray.toList[i]? = _; simpa using hc) (by show (textC L R).toArray.toList[i + 1]? = _; simpa using hd)))
      (ev_name (cglob W7 (hcc _ rfl (by decide +kernel) (by decide +kernel)) hE.gen (by decide +kernel) N.tokens)) W7.tok (by decide)) (by rw [htok]; rfl))
  · obtain ⟨zs, ⟨a, rfl, ha, _⟩, hz⟩ := hx
    obtain ⟨b, rfl, hb, _⟩ := hy
    have e : (List.range ((textC L R).length - 1)).filter (fun _ => false) = [] := List.filter_eq_nil_iff.mpr fun _ _ => by simp
    rw [e] at hz
    cases hz
    exact op_neL (by have := hA.units; lia) ha.isList hb.isList rfl fun j x y hx => by simp at hx
  · exact k _ s7 tt (h7.sub (.cons _ (.cons _ (.cons _ (List.Sublist.refl _))))) hn6 (by walk_at "lk") (by walk_at "lk")
end

theorem worth_at {ix : Nat} (h : ix < 31) : worth (rowL.getD ix []) = wsL.getD ix 0 := by
  rw [← ws_lit, getD_map (d := []) (by rw [rowL_len]; exact h)]
theorem neg_at {j : Nat} (h : j < 31) : (wsL.map fun x : Int => -x).getD j 0 = -wsL.getD j 0 := getD_map (d := 0) (by rw [wsL_len]; exact h)
theorem sameTV {b : List Bool} {x y : Value} (hx : TV b x) (hy : TV b y) : SameV x y := by
  obtain ⟨t, rfl⟩ := hx; obtain ⟨u, rfl⟩ := hy; exact .inr ⟨_, _, _, rfl, rfl⟩
theorem sameIV {b : Int} {x y : Value} (hx : IV b x) (hy : IV b y) : SameV x y := by
  obtain ⟨t, rfl⟩ := hx; obtain ⟨u, rfl⟩ := hy; exact .inl ⟨_, _, _, rfl, rfl⟩

section
variable {prog : Program} {w : World} {A : Around} {E : Value → Shared → Prop} {s₀ s : Shared} {env : Env} {mg mb tokf : Str → Option Value} {v : Str → Option Value} {ls pre post : List (Addr × Ent)} {Q : Flow → Shared → Prop} {rest : List Stmt} {P : VP}
variable {rA gA fA tA tI : Addr} {rvs fvs tr tv : List Value} {gs : List Gf} {o p : List Bool} {n i j : Nat} {t2 t3 t4 ti tj : Tok}

theorem ev_made_z {Z Z' : List Value → Prop} {elt : Expr} {gens : List Comprehension} {scope : Scope} {pos : Pos} (h : Made prog w A env s (.ListComp elt gens scope pos) gens scope pos Z) (hz : ∀ zs, Z zs → Z' zs) : Ev prog w A (eval (.ListComp elt gens scope pos) env) s (NewZ s Z') :=
  (ev_made h).mono fun _ _ _ ⟨zs, a, b⟩ => ⟨zs, a, hz zs b⟩
theorem pJ3 {L R : List (List Bool)} {wd : Int} {td tt : Tok} {ix lo hi : Nat} (hA : AOk 8 A) (W : Wd prog w mg mb tokf s₀.heap) (N : Nm mg mb) (T : Tk tokf) (hE : EnvIs 64 env) (h : St s₀ env v (pre ++ (tI, .lst tv) :: post) s) (hn : Nv rA gA fA tA n i j o p t2 t3 t4 ti tj v)
    (hl : Lg rA gA fA tA tI rvs fvs tr tv gs o p i j (pre ++ (tI, .lst tv) :: post)) (vd : v "due" = some (.int wd td)) (vt : v "text" = some (.str (textS L R) tt)) (alr : Al TV rowL rvs) (alf : Al IV (wsL.map fun x => -x) fvs)
    (hL : ∀ x ∈ L, x.length ≤ 100 ∧ CutsAt rowL x) (hR : ∀ x ∈ R, x.length ≤ 100 ∧ CutsAt rowL x) (hLn : L.length ≤ 20) (hRn : R.length ≤ 20) (htl : (textC L R).length ≤ 1000)
    (elo : lo = lowOf rowL R) (ehi : hi = highOf rowL L) (h1 : lo ≤ ix) (h2 : ix < hi) (h3 : hi ≤ 31) (hwd : wsL.getD ix 0 = wd) (B : Btw lo hi ix) (hi' : i ≤ 4) (hj' : j ≤ 4) (hn' : n ≤ 4) (htvl : tv.length ≤ 100)
    (k : ∀ v' s' z, St s₀ env v' (pre ++ (tI, .lst (tv ++ [z])) :: post) s' → Nv rA gA fA tA n i j o p t2 t3 t4 ti tj v' → TV (rowL.getD ix []) z → Q .next s') :
    wpAny (model prog w) A (execs (jr 10) env) Q E s := by
  have hcc : ∀ sc : Scope, sc.kind = .function → (sc.names.all fun y => y.2 != .cell && (y.2 != .free || (fs 64).names.lookup y.1 == some .cell)) = true → (sc.names.map (·.1)).Nodup → CompOk sc env := fun _ a b c => CompOk.of hE a b c
  have hrl : rvs.length = 31 := alr.len
  have r100 : ∀ y ∈ rowL, y.length ≤ 100 := fun y hy => Nat.le_trans (rowL_short y hy) (by lia)
  have W0 := W.st h
  -- low, high
  obtain ⟨o1, fd1, ho1, hd1⟩ := W0.f62.some
  refine x_unpackT (P := Pair2 lo hi) hA.handled h (ev_call (W0.var hE rfl (by decide +kernel) N.between) ho1 hd1 (.cons (fun _ => rfl) (ev_nameS (cel hE h (by decide +kernel) vt)) (monoS _) (.cons (fun _ => rfl) (ev_name (loc hE h (by decide +kernel) hn.row)) (monoV _) .nil)) .nil fun us kv s' k' ps qs => ?_) (isL hE (by decide +kernel)) (isL hE (by decide +kernel)) fun u s2 k2 p2 => ?_
  · obtain ⟨x, y, rfl, ⟨tx', rfl⟩, e2⟩ := allP2 ps
    have := allP0 qs; subst this
    subst e2
    rw [elo, ehi]
    exact Ct.op (n := 6) (hA.down (by lia)) (ct_between (W0.keeps (kOld k')) N T htl (isList_keeps (h.list hl.row) (kOld k')) alr r100 (by rw [rowL_len]; lia) hL hR (by lia) (by lia))
  obtain ⟨a2, tlo, thi, rfl, hT2⟩ := p2
  refine ⟨a2, _, _, _, rfl, hT2, h.keeps k2, fun s3 h3' => ?_⟩
  have hn3 := (hn.upd (x := "low") (u := .int lo tlo) (by decide +kernel)).upd (x := "high") (u := .int hi thi) (by decide +kernel)
  have W3 := W.st h3'
  -- the ends
  refine x_skip h3' (evB_and ?ends) fun s4 h4 => ?_
  case ends =>
    by_cases hij : i + j = n
    · obtain ⟨o5, fd5, ho5, hd5⟩ := W3.f63.some
      refine evB_andTrue (evB_of_eq (evB_cmpI (ev_add (ev_nameI (cel hE h3' (by decide +kernel) hn3.i)) (ev_nameI (cel hE h3' (by decide +kernel) hn3.j))) (ev_nameI (loc hE h3' (by decide +kernel) hn3.count)) fun _ _ _ => op_eq) (by rw [← hij]; simp)) (evB_andFalse ?_)
      refine evB_cmp (Pa := fun u s' => ∃ vs, IsL vs u s' ∧ Al IV [(lo : Int), lo, hi, hi] vs) (ev_call (Ps := [IsV (.ref rA), IsV (.int lo tlo), IsV (.int hi thi)]) (W3.var hE rfl (by decide +kernel) N.ends) ho5 hd5 (.cons (fun _ => rfl) (ev_name (loc hE h3' (by decide +kernel) hn3.row)) (monoV _) (.cons (fun _ => rfl) (ev_name (loc hE h3' (by decide +kernel) (by walk_at "lk"))) (monoV _) (.cons (fun _ => rfl) (ev_name (loc hE h3' (by decide +kernel) (by walk_at "lk"))) (monoV _) .nil))) .nil fun us kv s' k' ps qs => ?_)
        (fun u s1 s2 kk ⟨zs, q1, q2⟩ => ⟨zs, monoL _ _ _ _ kk q1, q2⟩)
        (ev_list (Ps := [IsI lo, IsI lo, IsI hi, IsI hi]) (.cons (fun _ => rfl) (ev_nameI (loc hE h3' (by decide +kernel) (by walk_at "lk"))) (monoI _) (.cons (fun _ => rfl) (ev_nameI (loc hE h3' (by decide +kernel) (by walk_at "lk"))) (monoI _) (.cons (fun _ => rfl) (ev_nameI (loc hE h3' (by decide +kernel) (by walk_at "lk"))) (monoI _) (.cons (fun _ => rfl) (ev_nameI (loc hE h3' (by decide +kernel) (by walk_at "lk"))) (monoI _) .nil)))) (sz (by simp)))
        fun x y s' k' hx hy => ?_
      · obtain ⟨x, y, z, rfl, e1, e2, e3⟩ := allP3 ps
        have := allP0 qs; subst this
        subst e1; subst e2; subst e3
        refine (Ct.op (n := 6) (hA.down (by lia)) (ct_ends (W3.keeps (kOld k')) N (isList_keeps (h3'.list hl.row) (kOld k')) alr r100 (by rw [rowL_len]; lia) (by lia) (by rw [rowL_len]; exact h3))).mono fun u s'' kk ⟨vs, q1, q2⟩ => ⟨vs, q1.isL, q2⟩
      · obtain ⟨vs, ⟨a, rfl, ha⟩, al⟩ := hx
        obtain ⟨b, ys, rfl, hb, _, pb⟩ := hy
        obtain ⟨y1, y2, y3, y4, rfl, ⟨u1, rfl⟩, ⟨u2, rfl⟩, ⟨u3, rfl⟩, u4, rfl⟩ := allP4 pb
        have al2 : Al IV [(lo : Int), lo, hi, hi] [.int lo u1, .int lo u2, .int hi u3, .int hi u4] := .cons ⟨_, rfl⟩ (.cons ⟨_, rfl⟩ (.cons ⟨_, rfl⟩ (.cons ⟨_, rfl⟩ .nil)))
        exact op_neL (by have := hA.units; lia) ha hb.isList (by rw [al.len, al2.len]) fun j x y hx hy => by
          obtain ⟨b1, q1, q2⟩ := al.get' hx
          obtain ⟨b2, q3, q4⟩ := al2.get' hy
          rw [q1] at q3; cases q3
          exact sameIV q2 q4
    · exact evB_andFalse (evB_of_eq (evB_cmpI (ev_add (ev_nameI (cel hE h3' (by decide +kernel) hn3.i)) (ev_nameI (cel hE h3' (by decide +kernel) hn3.j))) (ev_nameI (loc hE h3' (by decide +kernel) hn3.count)) fun _ _ _ => op_eq) (by
        rw [beq_eq_false_iff_ne]; lia))
  have v3lo : upd (upd v "low" (.int lo tlo)) "high" (.int hi thi) "low" = some (.int lo tlo) := by walk_at "lk"
  have v3hi : upd (upd v "low" (.int lo tlo)) "high" (.int hi thi) "high" = some (.int hi thi) := by walk_at "lk"
  have v3d : upd (upd v "low" (.int lo tlo)) "high" (.int hi thi) "due" = some (.int wd td) := by walk_at "lk"
  clear ho1 hd1 W0 W3 vd vt hn h h3'
  generalize upd (upd v "low" (.int lo tlo)) "high" (.int hi thi) = v3 at *
  -- between
  have epick : (slicePick rvs.toArray (some (lo : Int)) (some (hi : Int)) none).toList = (rvs.drop lo).take (hi - lo) := by
    rw [slicePick_run rvs.toArray lo hi (by simp; lia) (by lia)]
  refine x_assignN (xs := (rvs.drop lo).take (hi - lo)) h4 ?btw (isL hE (by decide +kernel)) fun bA s5 h5 => ?_
  case btw =>
    rw [← epick]
    exact ev_sliceL (ev_nameL (loc hE h4 (by decide +kernel) hn3.row) (h4.list hl.row)) (evP_name (loc hE h4 (by decide +kernel) v3lo)) (evP_name (loc hE h4 (by decide +kernel) v3hi)) (sz (by lia))
  have hn5 := hn3.upd (x := "between") (u := .ref bA) (by decide +kernel)
  have alb : Al TV ((rowL.drop lo).take (hi - lo)) ((rvs.drop lo).take (hi - lo)) := (alr.drop lo).take _
  have hbl : ((rvs.drop lo).take (hi - lo)).length ≤ 31 := by rw [List.length_take, List.length_drop]; lia
  generalize (rvs.drop lo).take (hi - lo) = bvs at *
  have bshort : ∀ b ∈ (rowL.drop lo).take (hi - lo), b.length ≤ 4 := fun b hb => rowL_short b (List.mem_of_mem_drop (List.mem_of_mem_take hb))
  have W5 := W.st h5
  have hm4 : (rowL.getD ix []).length ≤ 4 := bshort _ (List.mem_of_getElem? B.at')
  obtain ⟨m, hm⟩ : ∃ m, m = (rowL.getD ix []).length := ⟨_, rfl⟩
  have B1 := B.at'
  have B2 := B.least
  have B3 := B.only
  rw [← hm] at hm4 B2 B3
  have hx31 : ix < 31 := by lia
  have hworth := worth_at hx31
  obtain ⟨zr, hzr, hzrT⟩ := alr.get (i := ix) (x := rowL.getD ix []) (by
    have : ix < rowL.length := by rw [rowL_len]; exact hx31
    simp [List.getD, this])
  generalize hxb : rowL.getD ix [] = xb at *
  generalize hBB : (rowL.drop lo).take (hi - lo) = BB at *
  -- least
  have v5b : upd v3 "between" (.ref bA) "between" = some (.ref bA) := upd_same
  have v5lo : upd v3 "between" (.ref bA) "low" = some (.int lo tlo) := by walk_at "lk"
  have v5hi : upd v3 "between" (.ref bA) "high" = some (.int hi thi) := by walk_at "lk"
  have v5d : upd v3 "between" (.ref bA) "due" = some (.int wd td) := by walk_at "lk"
  generalize upd v3 "between" (.ref bA) = v5 at *
  have hleast : ((m : Nat) : Int) ∈ ((5 : Int) :: BB.map fun b => ((b.length : Nat) : Int)) ∧ ∀ a ∈ ((5 : Int) :: BB.map fun b => ((b.length : Nat) : Int)), ((m : Nat) : Int) ≤ a := by
    refine ⟨.tail _ (List.mem_map.mpr ⟨xb, List.mem_of_getElem? B1, by rw [hm]⟩), fun a ha => ?_⟩
    rcases List.mem_cons.mp ha with rfl | ha
    · lia
    · obtain ⟨b, hb, rfl⟩ := List.mem_map.mp ha
      exact Int.ofNat_le.mpr (B2 b hb)
  refine x_assignI (i := ((m : Nat) : Int)) h5 (ev_callB (Ps := [fun u s' => ∃ zs, IsL zs u s' ∧ Al IV ((5 : Int) :: BB.map fun b => ((b.length : Nat) : Int)) zs]) (W5.varB hE rfl (by decide +kernel) N.min)
    (.cons (fun _ => rfl) (ev_bin (ev_list (Ps := [IsI 5]) (.cons (fun _ => rfl) ev_int (monoI _) .nil) (sz (by simp))) (monoList (monoP1 (monoI 5)))
      (ev_made (Z := Al (fun i u => ∀ b, BB[i]? = some b → IV ((b.length : Nat) : Int) u) ((List.range bvs.length).filter fun _ => true)) (made1 (n := bvs.length) (Pi := fun i u => bvs[i]? = some u) (Pa := IsV (.ref bA)) h5 (hcc _ rfl (by decide +kernel) (by decide +kernel)) (by decide +kernel) (sz (by lia))
        (ev_name (loc hE h5 (by decide +kernel) v5b)) (fun u s' k pu => by subst pu; exact src_list hA.handled (isList_keeps (h5.list (.head _)) (kOld k)) (.inl fun _ _ => rfl)) (fun _ _ _ _ _ _ _ _ _ _ => evTests_nil)
        (fun C m' u i s6 hi _ hPi hmm k6 h6 => by
          obtain ⟨b, hb, t, rfl⟩ := alb.get' hPi
          have W6 := W.st h6
          have hb4 := bshort b (List.mem_of_getElem? hb)
          refine (ev_lenS (cglobB W6 (hcc _ rfl (by decide +kernel) (by decide +kernel)) hE.gen (by decide +kernel) N.len) (ev_nameS (cloc h6 (by decide +kernel) hmm)) (by rw [tx_len]; lia)).mono fun u s7 k7 e => ?_
          intro b' hb'
          rw [hb] at hb'; cases hb'
          rw [tx_len] at e
          exact e)))
      (fun x y s' k hx hy => by
        obtain ⟨b1, ws1, rfl, hw1, _, pw1⟩ := hx
        obtain ⟨q1, rfl, t1, rfl⟩ := allP1 pw1
        obtain ⟨zs, ⟨b2, rfl, hw2, _⟩, hz⟩ := hy
        have hz' := al_map (f := fun b : List Bool => ((b.length : Nat) : Int)) (R := IV) (al_idx alb.len hz)
        have hzl := hz'.len
        rw [List.length_map, ← alb.len] at hzl
        refine (op_concat hw1 hw2 (sz (by simp; lia))).mono fun u s6 k6 p6 => ⟨_, p6.isL, .cons ⟨t1, rfl⟩ hz'⟩))
      (fun u s1 s2 kk ⟨zs, h1, h2⟩ => ⟨zs, monoL _ _ _ _ kk h1, h2⟩) .nil)
    fun us s' k ps => by
      obtain ⟨u, rfl, zs, ⟨b, rfl, hb⟩, hz⟩ := allP1 ps
      exact op_min hA.handled hb hz hleast.1 hleast.2) (isC hE (by decide +kernel)) fun tm s6 h6 => ?_
  have hn6 := hn5.upd (x := "least") (u := .int (m : Nat) tm) (by decide +kernel)
  -- found
  refine x_assignZ (Z := fun ys => ∃ xs, Al TV [xb] xs ∧ ys = (slicePick xs.toArray none (some 1) none).toList) h6 (ev_sliceZ (Z := Al TV [xb]) ((ev_made (made1 (n := bvs.length) (Pi := fun i u => bvs[i]? = some u) (p := fun i => decide ((((BB.getD i []).length : Nat) : Int) = ((m : Nat) : Int))) (R := fun i u => ∀ b, BB[i]? = some b → TV b u) (Pa := IsV (.ref bA)) h6 (hcc _ rfl (by decide +kernel) (by decide +kernel)) (by decide +kernel) (sz (by lia))
        (ev_name (loc hE h6 (by decide +kernel) (by walk_at "lk"))) (fun u s' k pu => by subst pu; exact src_list hA.handled (isList_keeps (h6.list (.head _)) (kOld k)) (.inl fun _ _ => rfl))
        (fun C m' u i s7 hi hPi hmm k7 h7 => ?f1) (fun C m' u i s7 hi _ hPi hmm k7 h7 => ?f2))).mono fun u s' k' ⟨zs, q1, q2⟩ => ⟨zs, q1, ?f3⟩) evP_none (evP_int ev_int) (fun xs hxs => sz (by rw [hxs.len]; simp))) (isL hE (by decide +kernel)) fun fd ys s7 hys h7 => ?_
  case f1 =>
    obtain ⟨b, hb, t, rfl⟩ := alb.get' hPi
    have W7 := W.st h7
    have hb4 := bshort b (List.mem_of_getElem? hb)
    simp only [getD_some hb]
    exact evTests_one (evB_of_eq (evB_cmpI (ev_of_eqI (ev_lenS (cglobB W7 (hcc _ rfl (by decide +kernel) (by decide +kernel)) hE.gen (by decide +kernel) N.len) (ev_nameS (cloc h7 (by decide +kernel) hmm)) (by rw [tx_len]; lia)) (by rw [tx_len])) (ev_nameI (cfree h6.fn (hcc _ rfl (by decide +kernel) (by decide +kernel)) h7 (by decide +kernel) upd_same)) fun _ _ _ => op_eq) rfl)
  case f2 =>
    obtain ⟨b, hb, t, rfl⟩ := alb.get' hPi
    refine (ev_name (cloc h7 (by decide +kernel) hmm)).mono fun u s8 k8 e => ?_
    intro b' hb'
    rw [hb] at hb'; cases hb'
    exact ⟨t, e⟩
  case f3 =>
    have := al_pick' (q := fun b : List Bool => decide (((b.length : Nat) : Int) = ((m : Nat) : Int))) alb.len (fun i x hx => by simp only [getD_some hx]) q2
    rwa [B3] at this
  obtain ⟨xs, hxs, rfl⟩ := hys
  obtain ⟨z, rfl, hzT⟩ : ∃ z, xs = [z] ∧ TV xb z := by
    cases hxs with
    | cons r hx => cases hx; exact ⟨_, rfl, r⟩
  have eone : (slicePick [z].toArray none (some 1) none).toList = [z] := by
    have := slicePick_upto' [z].toArray 1
    rw [show ((1 : Nat) : Int) = 1 from rfl] at this
    rw [this]; rfl
  rw [eone] at h7
  have hn7 := hn6.upd (x := "found") (u := .ref fd) (by decide +kernel)
  have v7lo : upd (upd v5 "least" (.int (m : Nat) tm)) "found" (.ref fd) "low" = some (.int lo tlo) := by walk_at "lk"
  have v7hi : upd (upd v5 "least" (.int (m : Nat) tm)) "found" (.ref fd) "high" = some (.int hi thi) := by walk_at "lk"
  have v7d : upd (upd v5 "least" (.int (m : Nat) tm)) "found" (.ref fd) "due" = some (.int wd td) := by walk_at "lk"
  have v7f : upd (upd v5 "least" (.int (m : Nat) tm)) "found" (.ref fd) "found" = some (.ref fd) := by walk_at "lk"
  generalize upd (upd v5 "least" (.int (m : Nat) tm)) "found" (.ref fd) = v7 at *
  have W7 := W.st h7
  have hg0 := hl.mono (ls' := (fd, .lst [z]) :: (bA, .lst bvs) :: (pre ++ (tI, .lst tv) :: post)) fun _ hx => .tail _ (.tail _ hx)
  -- the worth of what is found
  obtain ⟨o2, fd2, ho2, hd2⟩ := W7.f59.some
  refine x_skip h7 (evB_cmp (Pa := NewZ s7 (Al (fun (b : List Bool) u => IV wd u) [xb])) (ev_made_z (Z := Al (fun k u => ∀ b, [xb][k]? = some b → IV wd u) ((List.range 1).filter fun _ => true)) (made1 (n := 1) (Pi := fun i u => [z][i]? = some u) (Pa := IsV (.ref fd)) h7 (hcc _ rfl (by decide +kernel) (by decide +kernel)) (by decide +kernel) (sz (by lia))
        (ev_name (loc hE h7 (by decide +kernel) v7f)) (fun u s' k pu => by subst pu; exact src_list hA.handled (isList_keeps (h7.list (.head _)) (kOld k)) (.inl fun _ _ => rfl)) (fun _ _ _ _ _ _ _ _ _ _ => evTests_nil)
        (fun C m' u i s8 hi _ hPi hmm k8 h8 => ?g1)) fun zs hz => al_idx rfl hz) monoNZ
      (ev_list (Ps := [IsI wd]) (.cons (fun _ => rfl) (ev_nameI (cel hE h7 (by decide +kernel) v7d)) (monoI _) .nil) (sz (by simp))) fun x y s' k' hx hy => ?g2) fun s8 h8 => ?_
  case g1 =>
    have hi0 : i = 0 := by lia
    subst hi0
    simp at hPi
    subst hPi
    obtain ⟨tz, rfl⟩ := hzT
    have W8 := W.st h8
    refine (ev_call (P := IsI (worth xb)) (cglob W8 (hcc _ rfl (by decide +kernel) (by decide +kernel)) hE.gen (by decide +kernel) N.worth) (kOld k8 _ _ ho2) hd2 (.cons (fun _ => rfl) (ev_nameS (cloc h8 (by decide +kernel) hmm)) (monoS _) .nil) .nil fun us kv s' k' ps qs => ?_).mono fun u s9 k9 p9 => ?_
    · obtain ⟨u, rfl, t', rfl⟩ := allP1 ps
      have := allP0 qs; subst this
      exact Ct.op (n := 1) (hA.down (by lia)) (ct_worth (W8.keeps (kOld k')) N (by lia))
    · intro b' hb'
      rw [hworth, hwd] at p9
      exact p9
  case g2 =>
    obtain ⟨zs, ⟨a, rfl, ha, _⟩, hz⟩ := hx
    obtain ⟨b, ys, rfl, hb, _, pb⟩ := hy
    obtain ⟨y1, rfl, t1, rfl⟩ := allP1 pb
    cases hz with
    | cons r hz =>
      cases hz
      exact op_neL (by have := hA.units; lia) ha.isList hb.isList rfl fun j x y hx hy => by
        match j, hx, hy with
        | 0, hx, hy => simp at hx hy; subst hx; subst hy; exact sameIV r ⟨_, rfl⟩
        | j + 1, hx, hy => simp at hx
  -- spot
  have W8 := W.st h8
  obtain ⟨o9, fd9, ho9, hd9⟩ := W8.f3.some
  have wfall : ∀ j, j < 31 → decide (wd < wsL.getD j 0) = decide (j < ix) := fun j hj => by rw [← hwd]; exact fall ix hx31 j hj
  have wfall2 : ∀ j, j < 31 → decide (wsL.getD j 0 < wd) = decide (ix < j) := fun j hj => by rw [← hwd]; exact fall j hj ix hx31
  have hfl : fvs.length = 31 := alf.len
  have hwl31 : (wsL.map fun x : Int => -x).length = 31 := by rw [List.length_map, wsL_len]
  refine x_assignI (i := (ix : Int)) h8 (ev_call (Ps := [IsV (.ref fA), IsI (-wd), IsV (.int lo tlo), IsV (.int hi thi)]) (W8.var hE rfl (by decide +kernel) N.bisect_left) ho9 hd9 (.cons (fun _ => rfl) (ev_name (loc hE h8 (by decide +kernel) hn7.fallen)) (monoV _) (.cons (fun _ => rfl) (ev_neg (ev_nameI (cel hE h8 (by decide +kernel) v7d))) (monoI _) (.cons (fun _ => rfl) (ev_name (loc hE h8 (by decide +kernel) v7lo)) (monoV _) (.cons (fun _ => rfl) (ev_name (loc hE h8 (by decide +kernel) v7hi)) (monoV _) .nil)))) .nil fun us kv s' k' ps qs => ?_) (isL hE (by decide +kernel)) fun ts s9 h9 => ?_
  · obtain ⟨x1, x2, x3, x4, rfl, e1, ⟨tn, rfl⟩, e3, e4⟩ := allP4 ps
    have := allP0 qs; subst this
    subst e1; subst e3; subst e4
    refine Ct.op (n := 5) (hA.down (by lia)) (ct_Ln (r := ix) (hi := hi) (W8.keeps (kOld k')) N (isList_keeps (h8.list hg0.fal) (kOld k')) alf (by lia) (.int (by lia)) ⟨h1, by lia, fun j a b => ?_, fun j a b => ?_⟩)
    · simp only [neg_at (show j < 31 by lia)]
      have := wfall j (by lia)
      have hlt : wd < wsL.getD j 0 := by simpa [b] using this
      generalize wsL.getD j 0 = q at hlt ⊢
      simp; lia
    · simp only [neg_at (show j < 31 by lia)]
      have := wfall j (by lia)
      have hlt : ¬ wd < wsL.getD j 0 := by
        have e : decide (j < ix) = false := decide_eq_false (by lia)
        rw [e] at this; simpa using this
      generalize wsL.getD j 0 = q at hlt ⊢
      simp; lia
  have hn9 := hn7.upd (x := "spot") (u := .int ix ts) (by decide +kernel)
  have W9 := W.st h9
  -- both searches
  have epick2 : (slicePick rvs.toArray (some (ix : Int)) (some ((ix + 1 : Nat) : Int)) none).toList = [zr] := by
    rw [slicePick_run rvs.toArray ix (ix + 1) (by simp; lia) (by lia)]
    rw [List.getElem?_eq_getElem (by lia)] at hzr
    have hd : rvs.drop ix = zr :: rvs.drop (ix + 1) := by rw [List.drop_eq_getElem_cons (by lia)]; cases hzr; rfl
    show (rvs.drop ix).take (ix + 1 - ix) = _
    rw [hd, show ix + 1 - ix = 1 by lia]; rfl
  refine x_skip h9 (evB_or (evB_orCons ?r1 (evB_orCons ?r2 evB_orNil))) fun s10 h10 => ?_
  case r1 =>
    refine evB_cmp (Pa := NewL s9 [zr]) (Pb := IsV (.ref fd)) ?sl (monoN _ _) (ev_name (loc hE h9 (by decide +kernel) (by walk_at "lk"))) fun x y s' k' hx hy => ?_
    case sl =>
      rw [← epick2]
      exact ev_sliceL (ev_nameL (loc hE h9 (by decide +kernel) hn9.row) (h9.list hg0.row)) (evP_name (loc hE h9 (by decide +kernel) upd_same)) (evP_int (ev_of_eqI (ev_add (ev_nameI (i := (ix : Int)) (loc hE h9 (by decide +kernel) upd_same)) ev_int) (by lia))) (sz (by lia))
    obtain ⟨a, rfl, ha, _⟩ := hx
    have hy' : y = .ref fd := hy
    subst hy'
    exact op_neL (by have := hA.units; lia) ha.isList (isList_keeps (h9.list (.head _)) (kOld k')) rfl fun j x y hx hy => by
      match j, hx, hy with
      | 0, hx, hy => simp at hx hy; subst hx; subst hy; exact sameTV hzrT hzT
      | j + 1, hx, hy => simp at hx
  case r2 =>
    obtain ⟨o10, fd10, ho10, hd10⟩ := W9.f2.some
    refine evB_of_eq (evB_cmpI (a := ((ix + 1 : Nat) : Int)) (b := (ix : Int) + 1) (ev_call (Ps := [IsV (.ref fA), IsI (-wd), IsV (.int lo tlo), IsV (.int hi thi)]) (W9.var hE rfl (by decide +kernel) N.bisect_right) ho10 hd10 (.cons (fun _ => rfl) (ev_name (loc hE h9 (by decide +kernel) hn9.fallen)) (monoV _) (.cons (fun _ => rfl) (ev_neg (ev_nameI (cel hE h9 (by decide +kernel) (by walk_at "lk")))) (monoI _) (.cons (fun _ => rfl) (ev_name (loc hE h9 (by decide +kernel) (by walk_at "lk"))) (monoV _) (.cons (fun _ => rfl) (ev_name (loc hE h9 (by decide +kernel) (by walk_at "lk"))) (monoV _) .nil)))) .nil fun us kv s' k' ps qs => ?_)
      (ev_add (ev_nameI (loc hE h9 (by decide +kernel) upd_same)) ev_int) fun _ _ _ => op_ne) (by simp)
    obtain ⟨x1, x2, x3, x4, rfl, e1, ⟨tn, rfl⟩, e3, e4⟩ := allP4 ps
    have := allP0 qs; subst this
    subst e1; subst e3; subst e4
    refine Ct.op (n := 5) (hA.down (by lia)) (ct_Rn (r := ix + 1) (hi := hi) (W9.keeps (kOld k')) N (isList_keeps (h9.list hg0.fal) (kOld k')) alf (by lia) (.int (by lia)) ⟨by lia, by lia, fun j a b => ?_, fun j a b => ?_⟩)
    · simp only [neg_at (show j < 31 by lia)]
      have := wfall2 j (by lia)
      have hlt : ¬ wsL.getD j 0 < wd := by
        have e : decide (ix < j) = false := decide_eq_false (by lia)
        rw [e] at this; simpa using this
      generalize wsL.getD j 0 = q at hlt ⊢
      simp; lia
    · simp only [neg_at (show j < 31 by lia)]
      have := wfall2 j (by lia)
      have hlt : wsL.getD j 0 < wd := by
        have e : decide (ix < j) = true := decide_eq_true (by lia)
        rw [e] at this; simpa using this
      generalize wsL.getD j 0 = q at hlt ⊢
      simp; lia
  -- table[i].extend(found)
  refine x_extend (pre := (fd, .lst [z]) :: (bA, .lst bvs) :: pre) (a := tI) (xs := tv) (ys := [z]) (post := post) h10 (ev_item (k := (i : Int)) (xs := tr) (ev_nameL (cel hE h10 (by decide +kernel) hn9.table) (h10.list hg0.tab)) (ev_nameI (cel hE h10 (by decide +kernel) hn9.i)) (by lia) (by lia) (by rw [Int.toNat_natCast]; exact hl.this))
    (fun _ => rfl) ((ev_name (loc hE h10 (by decide +kernel) (by walk_at "lk"))).mono fun u s' k' e => ⟨fd, e, ((h10.keeps k').get (.head _))⟩) (sz (by simp; lia)) (fun s11 h11 => ?_) h10.quiet
  exact x_nil (k _ s11 z (h11.sub (.cons _ (.cons _ (List.Sublist.refl _)))) hn9 hzT)
end

structure Nv0 (rA gA fA tA : Addr) (n : Nat) (o p : List Bool) (t2 t3 t4 : Tok) (v : Str → Option Value) : Prop where
  row : v "row" = some (.ref rA)
  gifts : v "gifts" = some (.ref gA)
  fallen : v "fallen" = some (.ref fA)
  table : v "table" = some (.ref tA)
  count : v "count" = some (.int n t2)
  one : v "one" = some (.str (tx o) t3)
  other : v "other" = some (.str (tx p) t4)
theorem Nv0.upd {rA gA fA tA n o p t2 t3 t4 v} {x : Str} {u : Value} (h : Nv0 rA gA fA tA n o p t2 t3 t4 v) (hx : ((nvNames.take 7).all fun y => y != x) = true) : Nv0 rA gA fA tA n o p t2 t3 t4 (Mine.upd v x u) := by
  have ne : ∀ y ∈ nvNames.take 7, y ≠ x := fun y hy => by have := List.all_eq_true.mp hx y hy; simpa using this
  exact ⟨upd_to (ne _ (by decide +kernel)) h.row, upd_to (ne _ (by decide +kernel)) h.gifts, upd_to (ne _ (by decide +kernel)) h.fallen, upd_to (ne _ (by decide +kernel)) h.table, upd_to (ne _ (by decide +kernel)) h.count,
    upd_to (ne _ (by decide +kernel)) h.one, upd_to (ne _ (by decide +kernel)) h.other⟩
theorem Nv.to0 {rA gA fA tA n i j o p t2 t3 t4 ti tj v} (h : Nv rA gA fA tA n i j o p t2 t3 t4 ti tj v) : Nv0 rA gA fA tA n o p t2 t3 t4 v := ⟨h.row, h.gifts, h.fallen, h.table, h.count, h.one, h.other⟩
theorem sumB_len (u q : List Bool) : (sumB u q).length ≤ 4 := by
  unfold sumB
  rcases Nat.lt_or_ge (plc (worth u + worth q)) rowL.length with h | h
  · rw [List.getD_eq_getElem?_getD, List.getElem?_eq_getElem h]; exact rowL_short _ (List.getElem_mem h)
  · rw [List.getD_eq_getElem?_getD, List.getElem?_eq_none h]; simp
theorem opp_len5 (s : Bool) (u q : List Bool) : ∀ b ∈ opp s u q, b.length ≤ 5 := fun b hb => by
  rcases List.mem_append.mp hb with h | h
  · obtain ⟨k, _, rfl⟩ := List.mem_map.mp h; exact Nat.le_trans (sumB_len _ _) (by lia)
  · obtain ⟨k, _, rfl⟩ := List.mem_map.mp h; exact Nat.le_trans (sumB_len _ _) (by lia)
theorem opp_len (s : Bool) (u q : List Bool) : (opp s u q).length ≤ u.length + q.length := by
  rw [opp_parts, List.length_append]
  have := part1_len s u q
  have := part2_len s u q
  lia
theorem rowT_succ (o p : List Bool) (i j : Nat) : rowT o p i (j + 1) = rowT o p i j ++ [sumB (o.take i) (p.take j)] := by
  unfold rowT; rw [List.range_succ]; simp

section
variable {prog : Program} {w : World} {A : Around} {E : Value → Shared → Prop} {s₀ s : Shared} {env : Env} {mg mb tokf : Str → Option Value} {v : Str → Option Value} {ls pre post : List (Addr × Ent)} {Q : Flow → Shared → Prop} {rest : List Stmt} {P : VP}
variable {rA gA fA tA tI : Addr} {rvs fvs tr tv : List Value} {gs : List Gf} {o p : List Bool} {n i j : Nat} {t2 t3 t4 ti tj : Tok}

theorem giftsBy_mem {qq : Int → Bool} {b : List Bool} (h : b ∈ giftsBy qq gs) : ∃ g ∈ gs, g.b = b ∧ qq (worth b) = true := by
  obtain ⟨g, hg, rfl⟩ := List.mem_map.mp h
  obtain ⟨h1, h2⟩ := List.mem_filter.mp hg
  exact ⟨g, h1, rfl, h2⟩
theorem pJ (hA : AOk 8 A) (W : Wd prog w mg mb tokf s₀.heap) (N : Nm mg mb) (T : Tk tokf) (hE : EnvIs 64 env) (h : St s₀ env v (pre ++ (tI, .lst tv) :: post) s) (hn : Nv rA gA fA tA n i j o p t2 t3 t4 ti tj v)
    (hl : Lg rA gA fA tA tI rvs fvs tr tv gs o p i j (pre ++ (tI, .lst tv) :: post)) (alr : Al TV rowL rvs) (alf : Al IV (wsL.map fun x => -x) fvs)
    (htv : Al TV (rowT o p i j) tv) (hi : i ≤ o.length) (hj : j ≤ p.length) (hop : o.length + p.length = n) (hn4 : n ≤ 4) (hgl : gs.length = 2) (hgb : ∀ g ∈ gs, g.b.length ≤ 5)
    (k : ∀ v' s' tv', St s₀ env v' (pre ++ (tI, .lst tv') :: post) s' → Nv rA gA fA tA n i j o p t2 t3 t4 ti tj v' → Al TV (rowT o p i (j + 1)) tv' → Q .next s') :
    wpAny (model prog w) A (execs (jr 0) env) Q E s := by
  refine pJ1 hA W N hE h hn hl htv hi hj (by lia) (by lia) (by lia) fun v1 s1 lA gB lvs gvs td h1 hn1 vd vl vr alL alR => ?_
  have hul : (o.take i).length = i := by rw [List.length_take]; lia
  have hql : (p.take j).length = j := by rw [List.length_take]; lia
  have U := uv_at (u := o.take i) (q := p.take j) (by lia)
  have hsum : sumB (o.take i) (p.take j) = rowL.getD (plc (worth (o.take i) + worth (p.take j))) [] := rfl
  generalize plc (worth (o.take i) + worth (p.take j)) = ix at U hsum
  have hwd := U.is
  generalize hw : worth (o.take i) + worth (p.take j) = wd at *
  obtain ⟨L, hLe⟩ : ∃ L, L = giftsBy (fun x => decide (x < wd)) gs ++ opp true (o.take i) (p.take j) := ⟨_, rfl⟩
  obtain ⟨R, hRe⟩ : ∃ R, R = giftsBy (fun x => decide (x > wd)) gs ++ opp false (o.take i) (p.take j) := ⟨_, rfl⟩
  rw [← hLe] at alL
  rw [← hRe] at alR
  have hL5 : ∀ b ∈ L, b.length ≤ 5 := fun b hb => by
    rw [hLe] at hb
    rcases List.mem_append.mp hb with h | h
    · obtain ⟨g, hg, rfl, _⟩ := giftsBy_mem h; exact hgb g hg
    · exact opp_len5 _ _ _ b h
  have hR5 : ∀ b ∈ R, b.length ≤ 5 := fun b hb => by
    rw [hRe] at hb
    rcases List.mem_append.mp hb with h | h
    · obtain ⟨g, hg, rfl, _⟩ := giftsBy_mem h; exact hgb g hg
    · exact opp_len5 _ _ _ b h
  have hLn : L.length ≤ 20 := by
    rw [hLe, List.length_append]
    have := giftsBy_len (gs := gs) (fun x => decide (x < wd))
    have := opp_len true (o.take i) (p.take j)
    lia
  have hRn : R.length ≤ 20 := by
    rw [hRe, List.length_append]
    have := giftsBy_len (gs := gs) (fun x => decide (x > wd))
    have := opp_len false (o.take i) (p.take j)
    lia
  obtain ⟨l1, l2⟩ := low_app (giftsBy (fun x => decide (x > wd)) gs) (opp false (o.take i) (p.take j)) ix (fun b hb => by
    obtain ⟨g, hg, e, hq⟩ := giftsBy_mem hb
    have hq' : worth b > wd := by simpa using hq
    exact (gf_at (e ▸ hgb g hg)).le ix U.lt (by lia)) U.lo
  obtain ⟨q1, q2⟩ := high_app (giftsBy (fun x => decide (x < wd)) gs) (opp true (o.take i) (p.take j)) ix (fun b hb => by
    obtain ⟨g, hg, e, hq⟩ := giftsBy_mem hb
    have hq' : worth b < wd := by simpa using hq
    exact (gf_at (e ▸ hgb g hg)).gt ix U.lt (by lia)) U.hi
  rw [← hRe] at l1 l2
  rw [← hLe] at q1 q2
  refine pJ2 hA W N T hE h1 hn1 vd vl vr alL alR hL5 hR5 hLn hRn fun v2 s2 tt h2 hn2 vd2 vt2 => ?_
  have htl := text_len hL5 hR5
  have htvl := htv.len
  have hrl : (rowT o p i j).length = j := by unfold rowT; simp
  refine pJ3 (lo := lowOf rowL R) (hi := highOf rowL L) hA W N T hE h2 hn2 hl vd2 vt2 alr alf (fun x hx => ⟨Nat.le_trans (hL5 x hx) (by lia), (gf_at (hL5 x hx)).cuts⟩) (fun x hx => ⟨Nat.le_trans (hR5 x hx) (by lia), (gf_at (hR5 x hx)).cuts⟩) hLn hRn (by lia) rfl rfl l1 q1 (Nat.le_trans q2 U.hi31) hwd
    (btw_at U l1 q1 l2 q2) (by lia) (by lia) (by lia) (by lia) fun v3 s3 z h3 hn3 hz => ?_
  refine k v3 s3 (tv ++ [z]) h3 hn3 ?_
  rw [rowT_succ]
  exact htv.snoc (by rw [hsum]; exact hz)

noncomputable abbrev tEnt (tA : Addr) (rows : List (Addr × List Value)) : List (Addr × Ent) := (tA, .lst (rows.map fun r => .ref r.1)) :: rows.map fun r => (r.1, .lst r.2)
theorem pK {cA wA : Addr} {wvs : List Value} {c0 c1 : Int} {t0 t1 : Tok} (hA : AOk 8 A) (W : Wd prog w mg mb tokf s₀.heap) (N : Nm mg mb) (T : Tk tokf) (hE : EnvIs 64 env) (h : St s₀ env v ((tA, .lst []) :: (fA, .lst fvs) :: (gEnt gA gs ++ [(wA, .lst wvs), (rA, .lst rvs), CellsE cA c0 c1 t0 t1])) s) (hn : Nv0 rA gA fA tA n o p t2 t3 t4 v)
    (alr : Al TV rowL rvs) (alf : Al IV (wsL.map fun x => -x) fvs) (hop : o.length + p.length = n) (hn4 : n ≤ 4) (hgl : gs.length = 2) (hgb : ∀ g ∈ gs, g.b.length ≤ 5)
    (k : ∀ s', Keeps s₀ s' → Q (.ret (.bool true)) s') : wpAny (model prog w) A (execs (lr 16) env) Q E s := by
  have W0 := W.st h
  obtain ⟨B, hB⟩ : ∃ B, B = (fA, Ent.lst fvs) :: (gEnt gA gs ++ [(wA, .lst wvs), (rA, .lst rvs), CellsE cA c0 c1 t0 t1]) := ⟨_, rfl⟩
  rw [← hB] at h
  have b1 : (rA, Ent.lst rvs) ∈ B := by rw [hB]; exact .tail _ (List.mem_append_right _ (.tail _ (.head _)))
  have b2 : (fA, Ent.lst fvs) ∈ B := by rw [hB]; exact .head _
  have b3 : (gA, Ent.lst (gs.map fun g => .ref g.a)) ∈ B := by rw [hB]; exact .tail _ (List.mem_append_left _ (.head _))
  have b4 : ∀ g ∈ gs, (g.a, Ent.tup g.val) ∈ B := fun g hg => by rw [hB]; exact .tail _ (List.mem_append_left _ (.tail _ (List.mem_map.mpr ⟨g, hg, rfl⟩)))
  clear hB
  refine x_forR (n := o.length + 1) (a := 0) hA.handled h (ev_range1 (W0.varB hE rfl (by decide +kernel) N.range) (ev_of_eqI (b := ((o.length + 1 : Nat) : Int)) (ev_add (ev_lenS (W0.varB hE rfl (by decide +kernel) N.len) (ev_nameS (cel hE h (by decide +kernel) hn.one)) (by rw [tx_len]; lia)) ev_int) (by rw [tx_len]; lia)) (by lia)) (isC hE (by decide +kernel))
    (fun i v ls => Nv0 rA gA fA tA n o p t2 t3 t4 v ∧ ∃ rows, ls = tEnt tA rows ++ B ∧ rows.length = i ∧ ∀ k r, rows[k]? = some r → Al TV (rowT o p k (p.length + 1)) r.2)
    ⟨hn, [], rfl, rfl, fun k r hr => by simp at hr⟩ ?_ ?_
  · rintro i v ls it tk s2 hi ⟨hn2, rows, rfl, hrl, hrows⟩ h2 E
    have hn3 := hn2.upd (x := "i") (u := .int (0 + i) tk) (by decide +kernel)
    have vi : upd v "i" (.int (0 + i) tk) "i" = some (.int (i : Nat) tk) := by rw [upd_same, Int.zero_add]
    generalize upd v "i" (.int (0 + i) tk) = v2 at *
    -- table.append([])
    refine x_append (pre := [(it, .rit (0 + i + 1) (((o.length + 1 : Nat) : Int) - i - 1))]) (a := tA) (xs := rows.map fun r => .ref r.1) (post := (rows.map fun r => (r.1, Ent.lst r.2)) ++ B) (P := NewL s2 []) h2 (ev_name (cel hE h2 (by decide +kernel) hn3.table)) (fun _ => rfl) ev_nil (monoN _ _) (sz (by simp; lia)) (fun u s3 k3 pu => ?_) h2.quiet
    obtain ⟨tI, rfl, hlI, hnI⟩ := pu
    refine ⟨(tI, .lst []) :: [(it, .rit (0 + i + 1) (((o.length + 1 : Nat) : Int) - i - 1))], h2.add (e := .lst []) k3 hnI hlI, fun s4 h4 => ?_⟩
    have W4 := W.st h4
    refine x_forR (n := p.length + 1) (a := 0) hA.handled h4 (ev_range1 (W4.varB hE rfl (by decide +kernel) N.range) (ev_of_eqI (b := ((p.length + 1 : Nat) : Int)) (ev_add (ev_lenS (W4.varB hE rfl (by decide +kernel) N.len) (ev_nameS (cel hE h4 (by decide +kernel) hn3.other)) (by rw [tx_len]; lia)) ev_int) (by rw [tx_len]; lia)) (by lia)) (isC hE (by decide +kernel))
      (fun j v ls => Nv0 rA gA fA tA n o p t2 t3 t4 v ∧ v "i" = some (.int (i : Nat) tk) ∧ ∃ tv, ls = (tI, .lst tv) :: (it, .rit (0 + i + 1) (((o.length + 1 : Nat) : Int) - i - 1)) :: (tA, .lst ((rows.map fun r => .ref r.1) ++ [.ref tI])) :: ((rows.map fun r => (r.1, Ent.lst r.2)) ++ B) ∧ Al TV (rowT o p i j) tv)
      ⟨hn3, vi, [], rfl, .nil⟩ ?_ ?_
    · rintro j v ls it2 tk2 s5 hj ⟨hn5, vi5, tv, rfl, altv⟩ h5 E
      have hn6 : Nv rA gA fA tA n i j o p t2 t3 t4 tk tk2 (upd v "j" (.int (0 + j) tk2)) := by
        have hn6 := hn5.upd (x := "j") (u := .int (0 + j) tk2) (by decide +kernel)
        exact ⟨hn6.row, hn6.gifts, hn6.fallen, hn6.table, hn6.count, hn6.one, hn6.other, (upd_ne (by decide +kernel)).trans vi5, by rw [upd_same, Int.zero_add]⟩
      refine pJ (pre := [(it2, .rit (0 + j + 1) (((p.length + 1 : Nat) : Int) - j - 1))]) (tr := (rows.map fun r => .ref r.1) ++ [.ref tI]) hA W N T hE h5 hn6
        ⟨.tail _ (.tail _ (.tail _ (.tail _ (List.mem_append_right _ b1)))), .tail _ (.tail _ (.tail _ (.tail _ (List.mem_append_right _ b2)))), .tail _ (.tail _ (.tail _ (.tail _ (List.mem_append_right _ b3)))), fun g hg => .tail _ (.tail _ (.tail _ (.tail _ (List.mem_append_right _ (b4 g hg))))), .tail _ (.tail _ (.tail _ (.head _))), fun k hk => ?_, ?_, .tail _ (.head _)⟩
        alr alf altv (by lia) (by lia) hop hn4 hgl hgb fun v' s' tv' h' hn' al' => ⟨rfl, v', _, h', hn'.to0, hn'.i, tv', rfl, al'⟩
      · have hr : rows[k]? = some (rows[k]'(by lia)) := List.getElem?_eq_getElem _
        refine ⟨(rows[k]'(by lia)).1, (rows[k]'(by lia)).2, ?_, .tail _ (.tail _ (.tail _ (.tail _ (List.mem_append_left _ (List.mem_map.mpr ⟨_, List.getElem_mem _, rfl⟩))))), hrows k _ hr⟩
        rw [List.getElem?_append_left (by simp; lia), List.getElem?_map, hr]; rfl
      · rw [List.getElem?_append_right (by simp; lia)]; simp [hrl]
    · rintro v ls s5 ⟨hn5, vi5, tv, rfl, altv⟩ h5
      refine x_nil ⟨rfl, v, tEnt tA (rows ++ [(tI, tv)]) ++ B, h5.perm ?_, hn5, rows ++ [(tI, tv)], rfl, by simp [hrl], fun k r hr => ?_⟩
      · simp only [tEnt, List.map_append, List.map_cons, List.map_nil, List.cons_append, List.nil_append, List.append_assoc]
        refine (List.Perm.swap _ _ _).trans (List.Perm.cons _ ?_)
        refine (List.Perm.swap _ _ _).trans (List.Perm.cons _ ?_)
        exact (List.perm_middle (a := (tI, Ent.lst tv))).symm
      · rcases Nat.lt_or_ge k rows.length with hk | hk
        · rw [List.getElem?_append_left hk] at hr; exact hrows k r hr
        · rw [List.getElem?_append_right hk] at hr
          have : k - rows.length = 0 := by
            rcases Nat.lt_or_ge (k - rows.length) 1 with h | h
            · lia
            · rw [List.getElem?_eq_none (by simpa using h)] at hr; cases hr
          rw [this] at hr
          simp at hr; subst hr
          have : k = i := by lia
          subst this; exact altv
  · rintro v ls s2 ⟨hn2, rows, rfl, hrl, hrows⟩ h2
    exact x_return (P := IsB true) ev_bool fun u s3 k3 e => by
      have e' : u = .bool true := e
      subst e'
      exact k s3 (kTrans h2.base k3)

theorem ct_law {sc : Addr} {ns : List Int} {svs : List Value} (W : Wd prog w mg mb tokf s.heap) (N : Nm mg mb) (T : Tk tokf) (hf : FnAt s.heap 106 64 .none .none) (hl : s.heap.IsList sc svs.toArray) (hv : Al IV ns svs) (hn : ns.length ≤ 63) : Ct prog w 9 106 ⟨[.ref sc], []⟩ s (IsB true) := fun A hA R hR => by
  refine enter (by have := hA.depth; lia) hf W.lim (binds := [("script", .ref sc)]) (fun nm qn cd pm doc ct an => BindsTo.of_eq rfl) rfl rfl rfl rfl fun env s₁ hE hS E => ?_
  have hA' : AOk 8 (A.deeper env) := hA.deeper env
  show wpAny _ _ (execs (lr 0) env) _ _ _
  refine pA hA' W N hE hS hl hv hn fun v1 s1 cA c0 c1 t0 t1 h1 vc1 => ?_
  refine pB hA' W N hE h1 vc1 fun v2 s2 rA wA rvs wvs h2 vc2 vr2 vw2 alr alw => ?_
  refine pC hA' W N hE h2 vc2 vr2 vw2 alr alw fun v3 s3 h3 vc3 vr3 vw3 => ?_
  refine pD hA' W N hE h3 vc3 vr3 vw3 alr alw fun v4 s4 gA gs h4 vc4 vr4 vw4 vg4 hgl hgb => ?_
  refine pE hA' W N hE h4 vc4 vr4 vw4 vg4 alw fun v5 s5 fA fvs tA o p n t2 t3 t4 h5 vr5 vg5 vf5 vt5 vn5 vo5 vp5 hop hn4 alf => ?_
  exact pK hA' W N T hE h5 ⟨vr5, vg5, vf5, vt5, vn5, vo5, vp5⟩ alr alf hop hn4 hgl hgb fun s6 k6 => hR _ _ k6 rfl
end
end Mine
namespace Mine
open PySem PySem.W PyProof.Rows PySem.Calls

noncomputable def tokRaw : List (String × Nat × Nat × Nat) := [("!", 343, 54, 341), ("!=", 345, 28, 289), ("%", 347, 24, 281), ("%=", 349, 40, 313), ("&", 351, 19, 271), ("&=", 353, 41, 315), ("(", 355, 7, 247), (")", 357, 8, 249), ("*", 359, 16, 265), ("**", 361, 35, 303), ("**=", 363, 46, 325), ("*=", 365, 38, 309), ("+", 367, 14, 261), ("+=", 369, 36, 305), (",", 371, 12, 257), ("-", 373, 15, 263), ("-=", 375, 37, 307), ("->", 377, 51, 335), (".", 379, 23, 279), ("...", 381, 52, 337), ("/", 383, 17, 267), ("//", 385, 47, 327), ("//=", 387, 48, 329), ("/=", 389, 39, 311), (":", 391, 11, 255), (":=", 393, 53, 339), (";", 395, 13, 259), ("<", 397, 20, 273), ("<<", 399, 33, 299), ("<<=", 401, 44, 321), ("<=", 403, 29, 291), ("=", 405, 22, 277), ("==", 407, 27, 287), (">", 409, 21, 275), (">=", 411, 30, 293), (">>", 412, 34, 301), (">>=", 413, 45, 323), ("@", 414, 49, 331), ("@=", 415, 50, 333), ("[", 416, 9, 251), ("]", 417, 10, 253), ("^", 418, 32, 297), ("^=", 419, 43, 319), ("{", 420, 25, 283), ("|", 421, 18, 269), ("|=", 422, 42, 317), ("}", 423, 26, 285), ("~", 424, 31, 295)]
noncomputable def tokE (P : Params) (x : String × Nat × Nat × Nat) : DictEntry := { hash := PyData.keyHash P (Str.ofString x.1), key := .str (Str.ofString x.1) x.2.1, val := .int (Int.ofNat x.2.2.1) x.2.2.2 }
theorem lit_map {P : Params} : ∀ l : List (String × Nat × Nat × Nat), KeysLit P (l.map (tokE P))
  | [] => trivial
  | _ :: r => ⟨⟨_, _, rfl, rfl⟩, lit_map r⟩
noncomputable def kAs : List Addr := [3, 15, 16, 22, 23, 24, 25, 31, 32, 33, 34, 40, 41, 47, 48, 54, 55, 56, 64, 65, 71, 72, 78, 79, 83, 84, 88, 89, 93, 94, 100, 101, 105, 106]
noncomputable def kMine (P : Params) : Frag := [
  (3, { cls := .type "dict", data := .dict #[{ hash := PyData.keyHash P "__name__", key := .str "__name__" 165, val := .str "law_uc0014_01" 440 }, { hash := PyData.keyHash P "__doc__", key := .str "__doc__" 166, val := .none }, { hash := PyData.keyHash P "__package__", key := .str "__package__" 167, val := .none }, { hash := PyData.keyHash P "__loader__", key := .str "__loader__" 168, val := .builtin "__main__.__loader__#opaque" }, { hash := PyData.keyHash P "__spec__", key := .str "__spec__" 169, val := .none }, { hash := PyData.keyHash P "__annotations__", key := .str "__annotations__" 170, val := .ref 6 }, { hash := PyData.keyHash P "__builtins__", key := .str "__builtins__" 171, val := .ref 4 }, { hash := PyData.keyHash P "__file__", key := .str "__file__" 173, val := .str "/claim/cut.py" 172 }, { hash := PyData.keyHash P "__cached__", key := .str "__cached__" 174, val := .none }, { hash := PyData.keyHash P "insort_right", key := .str "insort_right" 201, val := .ref 23 }, { hash := PyData.keyHash P "bisect_right", key := .str "bisect_right" 215, val := .ref 32 }, { hash := PyData.keyHash P "bisect_left", key := .str "bisect_left" 229, val := .ref 41 }, { hash := PyData.keyHash P "_strcoll", key := .str "_strcoll" 239, val := .ref 48 }, { hash := PyData.keyHash P "_strxfrm", key := .str "_strxfrm" 246, val := .ref 55 }, { hash := PyData.keyHash P "LPAR", key := .str "LPAR" 248, val := .int 7 247 }, { hash := PyData.keyHash P "RPAR", key := .str "RPAR" 250, val := .int 8 249 }, { hash := PyData.keyHash P "LSQB", key := .str "LSQB" 252, val := .int 9 251 }, { hash := PyData.keyHash P "RSQB", key := .str "RSQB" 254, val := .int 10 253 }, { hash := PyData.keyHash P "COLON", key := .str "COLON" 256, val := .int 11 255 }, { hash := PyData.keyHash P "COMMA", key := .str "COMMA" 258, val := .int 12 257 }, { hash := PyData.keyHash P "SEMI", key := .str "SEMI" 260, val := .int 13 259 }, { hash := PyData.keyHash P "PLUS", key := .str "PLUS" 262, val := .int 14 261 }, { hash := PyData.keyHash P "MINUS", key := .str "MINUS" 264, val := .int 15 263 }, { hash := PyData.keyHash P "STAR", key := .str "STAR" 266, val := .int 16 265 }, { hash := PyData.keyHash P "SLASH", key := .str "SLASH" 268, val := .int 17 267 }, { hash := PyData.keyHash P "VBAR", key := .str "VBAR" 270, val := .int 18 269 }, { hash := PyData.keyHash P "AMPER", key := .str "AMPER" 272, val := .int 19 271 }, { hash := PyData.keyHash P "LESS", key := .str "LESS" 274, val := .int 20 273 }, { hash := PyData.keyHash P "GREATER", key := .str "GREATER" 276, val := .int 21 275 }, { hash := PyData.keyHash P "EQUAL", key := .str "EQUAL" 278, val := .int 22 277 }, { hash := PyData.keyHash P "DOT", key := .str "DOT" 280, val := .int 23 279 }, { hash := PyData.keyHash P "PERCENT", key := .str "PERCENT" 282, val := .int 24 281 }, { hash := PyData.keyHash P "LBRACE", key := .str "LBRACE" 284, val := .int 25 283 }, { hash := PyData.keyHash P "RBRACE", key := .str "RBRACE" 286, val := .int 26 285 }, { hash := PyData.keyHash P "EQEQUAL", key := .str "EQEQUAL" 288, val := .int 27 287 }, { hash := PyData.keyHash P "NOTEQUAL", key := .str "NOTEQUAL" 290, val := .int 28 289 }, { hash := PyData.keyHash P "LESSEQUAL", key := .str "LESSEQUAL" 292, val := .int 29 291 }, { hash := PyData.keyHash P "GREATEREQUAL", key := .str "GREATEREQUAL" 294, val := .int 30 293 }, { hash := PyData.keyHash P "TILDE", key := .str "TILDE" 296, val := .int 31 295 }, { hash := PyData.keyHash P "CIRCUMFLEX", key := .str "CIRCUMFLEX" 298, val := .int 32 297 }, { hash := PyData.keyHash P "LEFTSHIFT", key := .str "LEFTSHIFT" 300, val := .int 33 299 }, { hash := PyData.keyHash P "RIGHTSHIFT", key := .str "RIGHTSHIFT" 302, val := .int 34 301 }, { hash := PyData.keyHash P "DOUBLESTAR", key := .str "DOUBLESTAR" 304, val := .int 35 303 }, { hash := PyData.keyHash P "PLUSEQUAL", key := .str "PLUSEQUAL" 306, val := .int 36 305 }, { hash := PyData.keyHash P "MINEQUAL", key := .str "MINEQUAL" 308, val := .int 37 307 }, { hash := PyData.keyHash P "STAREQUAL", key := .str "STAREQUAL" 310, val := .int 38 309 }, { hash := PyData.keyHash P "SLASHEQUAL", key := .str "SLASHEQUAL" 312, val := .int 39 311 }, { hash := PyData.keyHash P "PERCENTEQUAL", key := .str "PERCENTEQUAL" 314, val := .int 40 313 }, { hash := PyData.keyHash P "AMPEREQUAL", key := .str "AMPEREQUAL" 316, val := .int 41 315 }, { hash := PyData.keyHash P "VBAREQUAL", key := .str "VBAREQUAL" 318, val := .int 42 317 }, { hash := PyData.keyHash P "CIRCUMFLEXEQUAL", key := .str "CIRCUMFLEXEQUAL" 320, val := .int 43 319 }, { hash := PyData.keyHash P "LEFTSHIFTEQUAL", key := .str "LEFTSHIFTEQUAL" 322, val := .int 44 321 }, { hash := PyData.keyHash P "RIGHTSHIFTEQUAL", key := .str "RIGHTSHIFTEQUAL" 324, val := .int 45 323 }, { hash := PyData.keyHash P "DOUBLESTAREQUAL", key := .str "DOUBLESTAREQUAL" 326, val := .int 46 325 }, { hash := PyData.keyHash P "DOUBLESLASH", key := .str "DOUBLESLASH" 328, val := .int 47 327 }, { hash := PyData.keyHash P "DOUBLESLASHEQUAL", key := .str "DOUBLESLASHEQUAL" 330, val := .int 48 329 }, { hash := PyData.keyHash P "AT", key := .str "AT" 332, val := .int 49 331 }, { hash := PyData.keyHash P "ATEQUAL", key := .str "ATEQUAL" 334, val := .int 50 333 }, { hash := PyData.keyHash P "RARROW", key := .str "RARROW" 336, val := .int 51 335 }, { hash := PyData.keyHash P "ELLIPSIS", key := .str "ELLIPSIS" 338, val := .int 52 337 }, { hash := PyData.keyHash P "COLONEQUAL", key := .str "COLONEQUAL" 340, val := .int 53 339 }, { hash := PyData.keyHash P "EXCLAMATION", key := .str "EXCLAMATION" 342, val := .int 54 341 }, { hash := PyData.keyHash P "EXACT_TOKEN_TYPES", key := .str "EXACT_TOKEN_TYPES" 439, val := .ref 56 }, { hash := PyData.keyHash P "_law_figure", key := .str "_law_figure" 449, val := .ref 65 }, { hash := PyData.keyHash P "_law_key", key := .str "_law_key" 456, val := .ref 72 }, { hash := PyData.keyHash P "_law_worth", key := .str "_law_worth" 466, val := .ref 79 }, { hash := PyData.keyHash P "_law_row", key := .str "_law_row" 472, val := .ref 84 }, { hash := PyData.keyHash P "_law_read", key := .str "_law_read" 478, val := .ref 89 }, { hash := PyData.keyHash P "_law_between", key := .str "_law_between" 484, val := .ref 94 }, { hash := PyData.keyHash P "_law_ends", key := .str "_law_ends" 495, val := .ref 101 }, { hash := PyData.keyHash P "law", key := .str "law" 501, val := .ref 106 }] 71 }),
  (15, { cls := .type "tuple", data := .seq #[.int 0 189, .none] }),
  (16, { cls := .type "dict", data := .dict #[{ hash := PyData.keyHash P "key", key := .str "key" 190, val := .none }] 1 }),
  (22, { cls := .type "code", data := .fields #[.str "insort_right" 191, .str "insort_right" 192, .str "/claim/cut.py" 193, .int 2 0, .int 4 0, .int 0 0, .int 1 0, .int 3 0, .ref 17, .bool true, .int 181 0, .ref 18, .none, .ref 19, .ref 20, .ref 21, .int 199 0, .int 2 0, .str "/claim/cut.py" 200] }),
  (23, { cls := .type "function", data := .func (mkFd 1 "insort_right" "insort_right" (.ref 22) (.str "cpy313.bisect" 187) .none .none (.ref 15) (.ref 16) none) }),
  (24, { cls := .type "tuple", data := .seq #[.int 0 202, .none] }),
  (25, { cls := .type "dict", data := .dict #[{ hash := PyData.keyHash P "key", key := .str "key" 203, val := .none }] 1 }),
  (31, { cls := .type "code", data := .fields #[.str "bisect_right" 204, .str "bisect_right" 205, .str "/claim/cut.py" 206, .int 8 0, .int 4 0, .int 0 0, .int 1 0, .int 3 0, .ref 26, .bool true, .int 181 0, .ref 27, .none, .ref 28, .ref 29, .ref 30, .int 213 0, .int 8 0, .str "/claim/cut.py" 214] }),
  (32, { cls := .type "function", data := .func (mkFd 2 "bisect_right" "bisect_right" (.ref 31) (.str "cpy313.bisect" 187) .none .none (.ref 24) (.ref 25) none) }),
  (33, { cls := .type "tuple", data := .seq #[.int 0 216, .none] }),
  (34, { cls := .type "dict", data := .dict #[{ hash := PyData.keyHash P "key", key := .str "key" 217, val := .none }] 1 }),
  (40, { cls := .type "code", data := .fields #[.str "bisect_left" 218, .str "bisect_left" 219, .str "/claim/cut.py" 220, .int 28 0, .int 4 0, .int 0 0, .int 1 0, .int 3 0, .ref 35, .bool true, .int 181 0, .ref 36, .none, .ref 37, .ref 38, .ref 39, .int 227 0, .int 28 0, .str "/claim/cut.py" 228] }),
  (41, { cls := .type "function", data := .func (mkFd 3 "bisect_left" "bisect_left" (.ref 40) (.str "cpy313.bisect" 187) .none .none (.ref 33) (.ref 34) none) }),
  (47, { cls := .type "code", data := .fields #[.str "_strcoll" 232, .str "_strcoll" 233, .str "/claim/cut.py" 234, .int 49 0, .int 2 0, .int 0 0, .int 0 0, .int 3 0, .ref 42, .bool true, .int 181 0, .ref 43, .none, .ref 44, .ref 45, .ref 46, .int 237 0, .int 49 0, .str "/claim/cut.py" 238] }),
  (48, { cls := .type "function", data := .func (mkFd 5 "_strcoll" "_strcoll" (.ref 47) (.str "cpy313.locale" 230) .none .none (.none) (.none) none) }),
  (54, { cls := .type "code", data := .fields #[.str "_strxfrm" 240, .str "_strxfrm" 241, .str "/claim/cut.py" 242, .int 51 0, .int 1 0, .int 0 0, .int 0 0, .int 3 0, .ref 49, .bool true, .int 181 0, .ref 50, .none, .ref 51, .ref 52, .ref 53, .int 244 0, .int 51 0, .str "/claim/cut.py" 245] }),
  (55, { cls := .type "function", data := .func (mkFd 6 "_strxfrm" "_strxfrm" (.ref 54) (.str "cpy313.locale" 230) .none .none (.none) (.none) none) }),
  (56, { cls := .type "dict", data := .dict (tokRaw.map (tokE P)).toArray 48 }),
  (64, { cls := .type "code", data := .fields #[.str "_law_figure" 442, .str "_law_figure" 443, .str "/claim/cut.py" 444, .int 103 0, .int 2 0, .int 0 0, .int 0 0, .int 3 0, .ref 59, .bool true, .int 181 0, .ref 60, .none, .ref 61, .ref 62, .ref 63, .int 447 0, .int 103 0, .str "/claim/cut.py" 448] }),
  (65, { cls := .type "function", data := .func (mkFd 57 "_law_figure" "_law_figure" (.ref 64) (.str "law_uc0014_01" 440) .none .none (.none) (.none) none) }),
  (71, { cls := .type "code", data := .fields #[.str "_law_key" 450, .str "_law_key" 451, .str "/claim/cut.py" 452, .int 105 0, .int 1 0, .int 0 0, .int 0 0, .int 3 0, .ref 66, .bool true, .int 181 0, .ref 67, .none, .ref 68, .ref 69, .ref 70, .int 454 0, .int 105 0, .str "/claim/cut.py" 455] }),
  (72, { cls := .type "function", data := .func (mkFd 58 "_law_key" "_law_key" (.ref 71) (.str "law_uc0014_01" 440) .none .none (.none) (.none) none) }),
  (78, { cls := .type "code", data := .fields #[.str "_law_worth" 457, .str "_law_worth" 458, .str "/claim/cut.py" 459, .int 107 0, .int 1 0, .int 0 0, .int 0 0, .int 3 0, .ref 73, .bool true, .int 181 0, .ref 74, .none, .ref 75, .ref 76, .ref 77, .int 464 0, .int 107 0, .str "/claim/cut.py" 465] }),
  (79, { cls := .type "function", data := .func (mkFd 59 "_law_worth" "_law_worth" (.ref 78) (.str "law_uc0014_01" 440) .none .none (.none) (.none) none) }),
  (83, { cls := .type "code", data := .fields #[.str "_law_row" 467, .str "_law_row" 468, .str "/claim/cut.py" 469, .int 115 0, .int 0 0, .int 0 0, .int 0 0, .int 3 0, .ref 80, .bool true, .int 181 0, .ref 81, .none, .none, .none, .ref 82, .int 470 0, .int 115 0, .str "/claim/cut.py" 471] }),
  (84, { cls := .type "function", data := .func (mkFd 60 "_law_row" "_law_row" (.ref 83) (.str "law_uc0014_01" 440) .none .none (.none) (.none) none) }),
  (88, { cls := .type "code", data := .fields #[.str "_law_read" 473, .str "_law_read" 474, .str "/claim/cut.py" 475, .int 125 0, .int 1 0, .int 0 0, .int 0 0, .int 3 0, .ref 85, .bool true, .int 181 0, .ref 86, .none, .none, .none, .ref 87, .int 476 0, .int 125 0, .str "/claim/cut.py" 477] }),
  (89, { cls := .type "function", data := .func (mkFd 61 "_law_read" "_law_read" (.ref 88) (.str "law_uc0014_01" 440) .none .none (.none) (.none) none) }),
  (93, { cls := .type "code", data := .fields #[.str "_law_between" 479, .str "_law_between" 480, .str "/claim/cut.py" 481, .int 139 0, .int 2 0, .int 0 0, .int 0 0, .int 3 0, .ref 90, .bool true, .int 181 0, .ref 91, .none, .none, .none, .ref 92, .int 482 0, .int 139 0, .str "/claim/cut.py" 483] }),
  (94, { cls := .type "function", data := .func (mkFd 62 "_law_between" "_law_between" (.ref 93) (.str "law_uc0014_01" 440) .none .none (.none) (.none) none) }),
  (100, { cls := .type "code", data := .fields #[.str "_law_ends" 485, .str "_law_ends" 486, .str "/claim/cut.py" 487, .int 144 0, .int 3 0, .int 0 0, .int 0 0, .int 3 0, .ref 95, .bool true, .int 181 0, .ref 96, .none, .ref 97, .ref 98, .ref 99, .int 493 0, .int 144 0, .str "/claim/cut.py" 494] }),
  (101, { cls := .type "function", data := .func (mkFd 63 "_law_ends" "_law_ends" (.ref 100) (.str "law_uc0014_01" 440) .none .none (.none) (.none) none) }),
  (105, { cls := .type "code", data := .fields #[.str "law" 496, .str "law" 497, .str "/claim/cut.py" 498, .int 150 0, .int 1 0, .int 0 0, .int 0 0, .int 3 0, .ref 102, .bool true, .int 181 0, .ref 103, .none, .none, .none, .ref 104, .int 499 0, .int 150 0, .str "/claim/cut.py" 500] }),
  (106, { cls := .type "function", data := .func (mkFd 64 "law" "law" (.ref 105) (.str "law_uc0014_01" 440) .none .none (.none) (.none) none) })]
theorem fnAt_of {K : Frag} {h : Heap} (X : K.In h) {a : Addr} {i : Nat} {dV kV : Value} {nm qn : Str} {cd pm doc ct oc : Value} {an od : Option Addr} {osl : Array (Option Value)}
    (e : K.lookup a = some ⟨oc, od, .func (mkFd i nm qn cd pm doc ct dV kV an), osl⟩) (hc : codeIn K cd qn = true) : FnAt h a i dV kV :=
  ⟨nm, qn, cd, pm, doc, ct, an, _, X _ _ e, rfl, codeRec_of X hc⟩
theorem intsAl : ∀ {vs : List Value} {ns : List Int}, IntsAre vs ns → Al IV ns vs := fun h => by
  induction h with
  | nil => exact .nil
  | cons n t _ ih => exact .cons ⟨t, rfl⟩ ih
section
variable {w : World} {h : Heap} {mg mb : Str → Option Value}
theorem k_nm (X : (kMine w.params).In h) (G : h.Ns mainGlobals mg) (bb : ∀ x : Str, x ≠ "__name__" → mb x = bootBuiltins x) : Nm mg mb where
  insort_right := mg_of X G rfl
  bisect_right := mg_of X G rfl
  bisect_left := mg_of X G rfl
  strcoll := mg_of X G rfl
  strxfrm := mg_of X G rfl
  tokens := mg_of X G rfl
  figure := mg_of X G rfl
  key := mg_of X G rfl
  worth := mg_of X G rfl
  row := mg_of X G rfl
  read := mg_of X G rfl
  between := mg_of X G rfl
  ends := mg_of X G rfl
  len := ⟨mg_none_of X G rfl, (bb _ (by decide +kernel)).trans (by decide +kernel)⟩
  max := ⟨mg_none_of X G rfl, (bb _ (by decide +kernel)).trans (by decide +kernel)⟩
  min := ⟨mg_none_of X G rfl, (bb _ (by decide +kernel)).trans (by decide +kernel)⟩
  isinstance := ⟨mg_none_of X G rfl, (bb _ (by decide +kernel)).trans (by decide +kernel)⟩
  range := ⟨mg_none_of X G rfl, (bb _ (by decide +kernel)).trans (by decide +kernel)⟩
  bool := ⟨mg_none_of X G rfl, (bb _ (by decide +kernel)).trans (by decide +kernel)⟩
noncomputable def six : List Nat := [43, 45, 44, 123, 124, 125]
theorem mem_six {c : Nat} (h : IsSign c) : c ∈ six := by
  rcases h with rfl | rfl | rfl | rfl | rfl | rfl <;> decide
theorem none_of {o : Option (Option Value)} (h : (match o with | some none => true | _ => false) = true) : o = some none := by
  cases o with
  | none => cases h
  | some v => cases v with
    | none => rfl
    | some u => cases h
theorem tok_two (P : Params) : (six.all fun c => six.all fun d => match nsIn (kMine P) 56 ⟨#[c, d]⟩ with | some none => true | _ => false) = true := by kernel_rfl
theorem k_tok (prog : Program) (X : (kMine w.params).In h) : ∃ tokf, h.MapOf (strKind prog w) 56 tokf ∧ Tk tokf := by
  have hl : List.lookup 56 (kMine w.params) = some ⟨.type "dict", none, .dict (tokRaw.map (tokE w.params)).toArray _, #[]⟩ := rfl
  refine ⟨_, mapOf_K X hl (lit_map _), fun c hc => ?_, fun c d hc hd => find_K hl (none_of (List.all_eq_true.mp (List.all_eq_true.mp (tok_two w.params) c (mem_six hc)) d (mem_six hd)))⟩
  rcases hc with rfl | rfl | rfl | rfl | rfl | rfl
  · exact ⟨261, find_K hl (r := some (.int (kd 43) 261)) (by kernel_rfl)⟩
  · exact ⟨263, find_K hl (r := some (.int (kd 45) 263)) (by kernel_rfl)⟩
  · exact ⟨257, find_K hl (r := some (.int (kd 44) 257)) (by kernel_rfl)⟩
  · exact ⟨283, find_K hl (r := some (.int (kd 123) 283)) (by kernel_rfl)⟩
  · exact ⟨269, find_K hl (r := some (.int (kd 124) 269)) (by kernel_rfl)⟩
  · exact ⟨285, find_K hl (r := some (.int (kd 125) 285)) (by kernel_rfl)⟩
end
end Mine
namespace Mine
open PySem PySem.W PyProof.Rows PySem.Calls

theorem k_wd (prog : Program) {w : World} {h : Heap} {mg mb tokf : Str → Option Value} (X : (kMine w.params).In h) (G : h.Ns mainGlobals mg) (B : h.Ns builtinsNs mb) (lim : h.NoLimit) (T : h.MapOf (strKind prog w) 56 tokf) : Wd prog w mg mb tokf h where
  g := G
  b := B
  lim := lim
  f1 := fnAt_of X rfl rfl
  f2 := fnAt_of X rfl rfl
  f3 := fnAt_of X rfl rfl
  f5 := fnAt_of X rfl rfl
  f6 := fnAt_of X rfl rfl
  f57 := fnAt_of X rfl rfl
  f58 := fnAt_of X rfl rfl
  f59 := fnAt_of X rfl rfl
  f60 := fnAt_of X rfl rfl
  f61 := fnAt_of X rfl rfl
  f62 := fnAt_of X rfl rfl
  f63 := fnAt_of X rfl rfl
  d15 := ⟨_, X 15 _ rfl⟩
  d24 := ⟨_, X 24 _ rfl⟩
  d33 := ⟨_, X 33 _ rfl⟩
  k25 := ⟨_, _, _, X 25 _ rfl⟩
  k34 := ⟨_, _, _, X 34 _ rfl⟩
  tok := T
theorem k_law {w : World} {h : Heap} (X : (kMine w.params).In h) : FnAt h 106 64 .none .none := fnAt_of X rfl rfl
theorem caller_ok : AOk 9 callerA := ⟨rfl, by decide +kernel, by decide +kernel⟩
end Mine
open PySem PySem.W PyProof.Rows PySem.Calls in
set_option maxRecDepth 100000 in
set_option maxHeartbeats 8000000 in
theorem PySem.Challenge.cw_uc0014_01_holds : PySem.Challenge.rw_uc0014_01.Holds := by
  w_on
  o_law
  o_head (kHook Mine.kMine Mine.kAs (fun _ => by kernel_rfl))
  (case hw => w_witness2)
  intro w s₀ s₁ mg mb G Y fa o pm cd doc dV kV ho hd' hcd hD hmg hg args vals as hpre hlay hrd hwl hlo
  have KX := kIn_of Y
  clear Y
  refine Ground.open G ?_
  intro T B D TE TW
  clear G hd' hcd hD ho
  have hm2 := mg_of (n := "law") (v := .ref 106) KX T.g rfl
  have hfa : fa = 106 := by
    have hmg' : mg "law" = some (.ref fa) := hmg
    rw [hm2] at hmg'
    cases hmg'; rfl
  subst hfa
  clear hmg
  wrow_args hpre hlay hrd hwl hlo
  rename_i ns _ _ _ _ _ _ _ sc svs _ hL _ _ _ hI _ hlen _
  obtain ⟨tokf, hT, TK⟩ := Mine.k_tok PySem.Challenge.rw_uc0014_01.row.prog KX
  refine enter_call (Mine.ct_law (Mine.k_wd _ KX T.g T.b T.nolimit hT) (Mine.k_nm KX T.g T.builtins) TK (Mine.k_law KX) hL (Mine.intsAl hI) (by omega) callerA Mine.caller_ok _ fun v s' k hv => ?_)
  have hv' : v = .bool true := hv
  subst hv'
  obtain ⟨h', t', rfl, kk⟩ := k
  exact ⟨.inl ⟨_, _, [], rfl, fun _ => rfl, ReadsW.bool true, (by first | rfl | wrow_post | decide), fun _ => ⟨List.nodup_nil, fun _ hm => (nomatch hm)⟩⟩, .of_keep kk, rfl, .of_eq hg⟩
