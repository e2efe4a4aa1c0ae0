import PyProof.Rows.All
import Wide.All
import OpenK.AllK
import Wide.FinOn
import PySem.Challenge.RW_pk0015_01
section
open PySem PySem.W PyProof.Rows
set_option Elab.async false
set_option linter.unusedVariables false
namespace Mine

/-- what stood stands -/
abbrev Keep (h h' : Heap) : Prop := ∀ b o, h.get? b = some o → h'.get? b = some o
theorem Keep.refl (h : Heap) : Keep h h := fun _ _ e => e
theorem Keep.trans {a b c : Heap} (x : Keep a b) (y : Keep b c) : Keep a c := fun i o e => y i o (x i o e)
theorem Keep.push (h : Heap) (o : Obj) : Keep h (h.push o) := fun _ _ e => Heap.get?_push_of_some _ e

abbrev S (s : Shared) (h : Heap) (tk : Nat) : Shared := { s with heap := h, toks := tk }

structure Cx where
  prog : Program
  w : World
  s : Shared

/-- no exception; the state differs by heap and tokens alone -/
def W {α : Type} (X : Cx) (A : Around) (t : Sem α) (Q : α → Heap → Nat → Prop) (h : Heap) (tk : Nat) : Prop :=
  wpAny (model X.prog X.w) A t (fun v s' => ∃ h' tk', s' = S X.s h' tk' ∧ Q v h' tk') (fun _ _ => False) (S X.s h tk)

section
variable {α β : Type} {X : Cx} {A : Around} {h : Heap} {tk : Nat} {env : Env}

theorem W.run {t : Sem α} {Q : α → Heap → Nat → Prop} {Q' : α → Shared → Prop} {E' : Value → Shared → Prop} (H : W X A t Q h tk)
    (k : ∀ v h' tk', Q v h' tk' → Q' v (S X.s h' tk')) : wpAny (model X.prog X.w) A t Q' E' (S X.s h tk) :=
  wpAny_mono H (fun v s' ⟨h', tk', e, q⟩ => by subst e; exact k v h' tk' q) (fun _ _ f => f.elim)
theorem W.mono {t : Sem α} {Q Q' : α → Heap → Nat → Prop} (H : W X A t Q h tk) (k : ∀ v h' tk', Q v h' tk' → Q' v h' tk') : W X A t Q' h tk :=
  W.run H fun v h' tk' q => ⟨h', tk', rfl, k v h' tk' q⟩
theorem W_pure {a : α} {Q : α → Heap → Nat → Prop} (q : Q a h tk) : W X A (pure a) Q h tk := wpAny_pure ⟨h, tk, rfl, q⟩
theorem W_bind {t : Sem α} {f : α → Sem β} {Q : β → Heap → Nat → Prop} (H : W X A t (fun a h' tk' => W X A (f a) Q h' tk') h tk) : W X A (t >>= f) Q h tk :=
  wpAny_bind (W.run H fun _ _ _ q => q)
theorem W_holding {vs : List Value} {t : Sem α} {Q : α → Heap → Nat → Prop} (H : W X A t Q h tk) : W X A (holding vs t) Q h tk := wpAny_holding H
theorem W_eq {t t' : Sem α} {Q : α → Heap → Nat → Prop} (e : t = t') (H : W X A t' Q h tk) : W X A t Q h tk := e ▸ H

theorem W_execs_nil {Q : Flow → Heap → Nat → Prop} (q : Q .next h tk) : W X A (execs [] env) Q h tk := wpAny_execs_nil ⟨h, tk, rfl, q⟩
theorem W_execs_cons {st rest} {Q : Flow → Heap → Nat → Prop}
    (H : W X A (exec st env) (fun f h' tk' => match f with | .next => W X A (execs rest env) Q h' tk' | f => Q f h' tk') h tk) :
    W X A (execs (st :: rest) env) Q h tk :=
  wpAny_execs_cons (W.run H fun f h' tk' q => by cases f <;> first | exact q | exact ⟨h', tk', rfl, q⟩)
theorem W_Return {e pos} {Q : Flow → Heap → Nat → Prop} (H : W X A (eval e env) (fun v h' tk' => Q (.ret v) h' tk') h tk) :
    W X A (exec (.Return (some e) pos) env) Q h tk := wpAny_Return_some (W.run H fun v h' tk' q => ⟨h', tk', rfl, q⟩)
theorem W_If {test body orelse pos} {Q : Flow → Heap → Nat → Prop}
    (H : W X A (isTrue test env (eval test env)) (fun b h' tk' => if b = true then W X A (execs body env) Q h' tk' else W X A (execs orelse env) Q h' tk') h tk) :
    W X A (exec (.If test body orelse pos) env) Q h tk :=
  wpAny_If (W.run H fun b h' tk' q => by cases b <;> exact q)
theorem W_Assign_Name {x pos' value pos} {Q : Flow → Heap → Nat → Prop}
    (H : W X A (eval value env) (fun v h' tk' => W X A (storeName env x v) (fun _ => Q .next) h' tk') h tk)
    (hs : swapsWith value (some (.Name x pos')) pos.line env = pure false := by rfl) :
    W X A (exec (.Assign [.Name x pos'] value pos) env) Q h tk :=
  wpAny_Assign_Name (W.run H fun _ _ _ q => q) hs
theorem W_BinOp {l op r pos} {Q : Value → Heap → Nat → Prop}
    (H : W X A (eval l env) (fun a h₁ t₁ => W X A (eval r env) (fun b h₂ t₂ => W X A (binaryOp op a b) Q h₂ t₂) h₁ t₁) h tk) :
    W X A (eval (.BinOp l op r pos) env) Q h tk :=
  wpAny_BinOp (W.run H fun _ _ _ q => W.run q fun _ _ _ q => q)
theorem W_Compare1 {l op r pos} {Q : Value → Heap → Nat → Prop}
    (H : W X A (eval l env) (fun a h₁ t₁ => W X A (eval r env) (fun b h₂ t₂ => W X A (compareOp op a b) Q h₂ t₂) h₁ t₁) h tk)
    (hm : behindInMarks op r = false := by with_unfolding_all rfl) :
    W X A (eval (.Compare l [op] [r] pos) env) Q h tk :=
  wpAny_Compare1 (W.run H fun _ _ _ q => W.run q fun _ _ _ q => q) hm
theorem W_isTrue_Compare1 {l op r pos whole} {Q : Bool → Heap → Nat → Prop}
    (H : W X A (eval l env) (fun a h₁ t₁ => W X A (eval r env) (fun b h₂ t₂ => W X A (compareOp op a b) (fun c h₃ t₃ => W X A (truthy c) Q h₃ t₃) h₂ t₂) h₁ t₁) h tk)
    (hm : behindInMarks op r = false := by with_unfolding_all rfl) :
    W X A (isTrue (.Compare l [op] [r] pos) env whole) Q h tk :=
  wpAny_isTrue_Compare1 (W.run H fun _ _ _ q => W.run q fun _ _ _ q => W.run q fun _ _ _ q => q) hm
theorem W_truthy_bool {b : Bool} {Q : Bool → Heap → Nat → Prop} (q : Q b h tk) : W X A (truthy (.bool b)) Q h tk := wpAny_truthy_bool ⟨h, tk, rfl, q⟩
theorem W_int {i k pos} {Q : Value → Heap → Nat → Prop} (q : Q (.int i tk) h (tk + 1)) : W X A (eval (.Constant (.int i) k pos) env) Q h tk :=
  wpAny_Constant_int ⟨h, tk + 1, rfl, q⟩
theorem W_str {x k pos} {Q : Value → Heap → Nat → Prop} (q : Q (.str x tk) h (tk + 1)) : W X A (eval (.Constant (.str x) k pos) env) Q h tk :=
  wpAny_Constant_str ⟨h, tk + 1, rfl, q⟩
theorem W_bool {x k pos} {Q : Value → Heap → Nat → Prop} (q : Q (.bool x) h tk) : W X A (eval (.Constant (.bool x) k pos) env) Q h tk :=
  wpAny_Constant_bool ⟨h, tk, rfl, q⟩

/-! names -/
theorem W_local {x pos m v} {Q : Value → Heap → Nat → Prop} (hn : h.Ns env.locals m) (hv : m x = some v) (q : Q v h tk)
    (hk : env.scope.kind = .function := by rfl) (hl : env.kindOf x = some .local := by rfl) (hd : (x == ("__debug__" : Str)) = false := by decide) :
    W X A (eval (.Name x pos) env) Q h tk := wpAny_Name (wpAny_loadName_local hk hl hn hv ⟨h, tk, rfl, q⟩) hd
theorem W_cell {x pos c v} {Q : Value → Heap → Nat → Prop} (hc : env.cells.lookup x = some c) (hv : h.IsCell c (some v)) (q : Q v h tk)
    (hk : env.scope.kind = .function := by rfl) (hl : env.kindOf x = some .cell := by rfl) (hd : (x == ("__debug__" : Str)) = false := by decide) :
    W X A (eval (.Name x pos) env) Q h tk := wpAny_Name (wpAny_loadName_cell hk hl hc hv ⟨h, tk, rfl, q⟩) hd
theorem W_free {x pos c v} {Q : Value → Heap → Nat → Prop} (hc : env.cells.lookup x = some c) (hv : h.IsCell c (some v)) (q : Q v h tk)
    (hk : env.scope.kind = .function := by rfl) (hl : env.kindOf x = some .free := by rfl) (hd : (x == ("__debug__" : Str)) = false := by decide) (hn : (x == ("__classdict__" : Str)) = false := by decide) :
    W X A (eval (.Name x pos) env) Q h tk := wpAny_Name (wpAny_loadName_free hk hl hc hv ⟨h, tk, rfl, q⟩ hn) hd
theorem W_global {x pos mg v} {Q : Value → Heap → Nat → Prop} (hg : h.Ns env.globals mg) (hv : mg x = some v) (q : Q v h tk)
    (hk : env.scope.kind = .function := by rfl) (hl : env.kindOf x = some .globalImplicit := by rfl) (hd : (x == ("__debug__" : Str)) = false := by decide) :
    W X A (eval (.Name x pos) env) Q h tk := Calls.Name_function_global hk hl (Calls.loadGlobal_global hg hv ⟨h, tk, rfl, q⟩) hd
theorem W_builtin {x pos mg mb v} {Q : Value → Heap → Nat → Prop} (hg : h.Ns env.globals mg) (hm : mg x = none) (hb : h.Ns env.builtins mb) (hv : mb x = some v) (q : Q v h tk)
    (hk : env.scope.kind = .function := by rfl) (hl : env.kindOf x = some .globalImplicit := by rfl) (hd : (x == ("__debug__" : Str)) = false := by decide) :
    W X A (eval (.Name x pos) env) Q h tk := Calls.Name_function_global hk hl (Calls.loadGlobal_builtin hg hm hb hv ⟨h, tk, rfl, q⟩) hd
theorem W_store_local {x v m} {Q : Unit → Heap → Nat → Prop} (hn : h.Ns env.locals m)
    (q : ∀ h', h'.Ns env.locals (fun y => if y = x then some v else m y) → Heap.SameBut env.locals h h' → Q () h' (tk + 1))
    (hl : env.kindOf x = some .local := by rfl)
    (hp : (env.scope.kind == .class || (env.scope.kind == .module && env.locals != env.globals)) = false := by rfl) : W X A (storeName env x v) Q h tk :=
  wpAny_storeName_local hl hn (fun h' hn' hs' => ⟨h', tk + 1, rfl, q h' hn' hs'⟩) hp
theorem W_store_cell {x v c v₀} {Q : Unit → Heap → Nat → Prop} (hc : env.cells.lookup x = some c) (hv : h.IsCell c v₀)
    (q : ∀ h', h'.IsCell c (some v) → Heap.SameBut c h h' → Q () h' tk)
    (hk : env.scope.kind = .function := by rfl) (hl : env.kindOf x = some .cell := by rfl) : W X A (storeName env x v) Q h tk :=
  wpAny_storeName_cell hk hl hc hv (fun h' hn' hs' => ⟨h', tk, rfl, q h' hn' hs'⟩)

/-! calls -/
theorem W_items_nil {pos} {Q : List Value → Heap → Nat → Prop} (q : Q [] h tk) : W X A (spliced (backTo pos (starEach [] env))) Q h tk := wpAny_items_nil ⟨h, tk, rfl, q⟩
theorem W_items_cons {pos} {e : Expr} {rest : List Expr} {Q : List Value → Heap → Nat → Prop}
    (H : W X A (eval e env) (fun v h₁ t₁ => W X A (spliced (backTo pos (starEach rest env))) (fun vs => Q (v :: vs)) h₁ t₁) h tk)
    (he : starEach (e :: rest) env = (false, eval e env) :: starEach rest env := by rfl) : W X A (spliced (backTo pos (starEach (e :: rest) env))) Q h tk :=
  wpAny_items_cons (W.run H fun _ _ _ q => W.run q fun _ h' tk' q => ⟨h', tk', rfl, q⟩) he
theorem W_Call_builtin {f e rest pos id} {Q : Value → Heap → Nat → Prop}
    (H : W X A (eval (.Name f p) env) (fun v h₁ t₁ => v = .builtin id ∧ W X A (spliced (backTo pos (starEach (e :: rest) env))) (fun vs h₂ t₂ => W X A (call (.builtin id) vs) Q h₂ t₂) h₁ t₁) h tk)
    (he : starEach (e :: rest) env = (false, eval e env) :: starEach rest env := by rfl)
    (hplain : (backTo pos (starEach rest env)).any (·.1) = false := by rfl) :
    W X A (eval (.Call (.Name f p) (e :: rest) [] pos) env) Q h tk := by
  refine wpAny_Call_NameR (W.run H fun v h₁ t₁ q => ?_)
  obtain ⟨rfl, q⟩ := q
  rw [he] at q ⊢
  exact Calls.callWith_builtin (by show (false || (backTo pos (starEach rest env)).any (·.1)) = false; rw [hplain]; rfl) (Calls.evalArgs_plain (W.run q fun _ _ _ q => q))
theorem W_Call_type {f e rest pos T} {Q : Value → Heap → Nat → Prop}
    (H : W X A (eval (.Name f p) env) (fun v h₁ t₁ => v = .type T ∧ W X A (spliced (backTo pos (starEach (e :: rest) env))) (fun vs h₂ t₂ => W X A (call (.type T) vs) Q h₂ t₂) h₁ t₁) h tk)
    (he : starEach (e :: rest) env = (false, eval e env) :: starEach rest env := by rfl)
    (hplain : (backTo pos (starEach rest env)).any (·.1) = false := by rfl) :
    W X A (eval (.Call (.Name f p) (e :: rest) [] pos) env) Q h tk := by
  refine wpAny_Call_NameR (W.run H fun v h₁ t₁ q => ?_)
  obtain ⟨rfl, q⟩ := q
  rw [he] at q ⊢
  exact PySem.callWith_type (by show (false || (backTo pos (starEach rest env)).any (·.1)) = false; rw [hplain]; rfl) (Calls.evalArgs_plain (W.run q fun _ _ _ q => q))
theorem W_Call_def {f e rest pos a} {fd : FuncData} {o : Obj} {Q : Value → Heap → Nat → Prop}
    (H : W X A (eval (.Name f p) env) (fun v h₁ t₁ => v = .ref a ∧ W X A (spliced (backTo pos (starEach (e :: rest) env))) (fun vs h₂ t₂ => (h₂.get? a = some o ∧ o.data = .func fd) ∧ W X A (call (.ref a) vs) Q h₂ t₂) h₁ t₁) h tk)
    (he : starEach (e :: rest) env = (false, eval e env) :: starEach rest env := by rfl) :
    W X A (eval (.Call (.Name f p) (e :: rest) [] pos) env) Q h tk := by
  refine wpAny_Call_NameR (W.run H fun v h₁ t₁ q => ?_)
  obtain ⟨rfl, q⟩ := q
  rw [he] at q ⊢
  exact Calls.callWith_function (Calls.evalArgs_plain (W.run q fun _ _ _ q => ⟨q.1, q.2⟩))
end
end Mine

end
section
open PySem PySem.W PyProof.Rows
set_option Elab.async false
set_option linter.unusedVariables false
namespace Mine

/-- a text by its signs -/
abbrev T (l : List Nat) : Str := ⟨l.toArray⟩
theorem T_len (l : List Nat) : (T l).length = l.length := by show l.toArray.size = _; simp

theorem size_none' (h : Heap) : h.get? h.objs.size = none := by
  cases e : h.get? h.objs.size with
  | none => rfl
  | some o => exact absurd (Heap.lt_size e) (Nat.lt_irrefl _)
theorem none_of_keep' {h h' : Heap} {b : Addr} (k : Keep h h') (e : h'.get? b = none) : h.get? b = none := by
  cases q : h.get? b with
  | none => rfl
  | some o => rw [k b o q] at e; cases e
/-- a list of these values stands at a -/
def Ls (h : Heap) (a : Addr) (vs : List Value) : Prop := h.IsList a vs.toArray
theorem Ls.isList {h : Heap} {a : Addr} {vs : List Value} (x : Ls h a vs) : h.IsList a vs.toArray := x
theorem Ls.keeps {h h' : Heap} {a : Addr} {vs : List Value} (x : Ls h a vs) (k : Keep h h') : Ls h' a vs := let ⟨o, ho, r⟩ := x; ⟨o, k a o ho, r⟩
theorem Ls.extBut {h h' : Heap} {a b : Addr} {vs : List Value} (x : Ls h a vs) (hs : Heap.ExtBut b h h') (hab : a ≠ b) : Ls h' a vs := Heap.IsList.extBut x hs hab
theorem Ls.live {h : Heap} {a : Addr} {vs : List Value} (x : Ls h a vs) : ∃ o, h.get? a = some o := let ⟨o, ho, _⟩ := x; ⟨o, ho⟩
theorem Ls.typeIs {s : Shared} {a : Addr} {vs : List Value} (x : Ls s.heap a vs) : s.TypeIs (.ref a) "list" := Heap.IsList.typeIs x
theorem ls_of {h : Heap} {a : Addr} {vs : List Value} (x : PlainL h a vs.toArray) : Ls h a vs := x.isList

section
variable {α β : Type} {X : Cx} {A : Around} {h : Heap} {tk : Nat} {env : Env}

/-! ints -/
section
variable {a b : Int} {t u : Tok} {Q : Value → Heap → Nat → Prop}
theorem W_add (q : Q (.int (a + b) tk) h (tk + 1)) : W X A (binaryOp .Add (.int a t) (.int b u)) Q h tk := PySem.P.add_int ⟨h, tk + 1, rfl, q⟩
theorem W_sub (q : Q (.int (a - b) tk) h (tk + 1)) : W X A (binaryOp .Sub (.int a t) (.int b u)) Q h tk := PySem.P.sub_int ⟨h, tk + 1, rfl, q⟩
theorem W_mul (q : Q (.int (a * b) tk) h (tk + 1)) (hm : IntMulOk a b := by mul_fits) : W X A (binaryOp .Mult (.int a t) (.int b u)) Q h tk := PySem.P.mul_int ⟨h, tk + 1, rfl, q⟩ hm
theorem W_mod (hb : b ≠ 0) (q : Q (.int (a.fmod b) tk) h (tk + 1)) : W X A (binaryOp .Mod (.int a t) (.int b u)) Q h tk := mod_int' hb ⟨h, tk + 1, rfl, q⟩
theorem W_div (hb : b ≠ 0) (hp : Builtin.divisionGoesByPylong a b = false) (q : Q (.int (a.fdiv b) tk) h (tk + 1)) : W X A (binaryOp .FloorDiv (.int a t) (.int b u)) Q h tk :=
  floordiv_int hb ⟨h, tk + 1, rfl, q⟩ (.inl hp)
theorem W_pow (hn : 0 ≤ b) (hn2 : b ≤ 1000000) (ha : a.natAbs < 2 ^ 64) (q : Q (.int (a ^ b.toNat) tk) h (tk + 1)) : W X A (binaryOp .Pow (.int a t) (.int b u)) Q h tk :=
  pow_int_small hn hn2 ha ⟨h, tk + 1, rfl, q⟩
theorem W_gt (q : Q (.bool (decide (a > b))) h tk) : W X A (compareOp .Gt (.int a t) (.int b u)) Q h tk := PySem.P.gt_int ⟨h, tk, rfl, q⟩
theorem W_max (hh : A.handled = none) (q : ∀ h' tk' v, Keep h h' → Q (.int (max a b) v) h' tk') : W X A (call (.builtin "max") [.int a t, .int b u]) Q h tk := by
  refine max_two_ints hh fun h' tk' k => ⟨h', tk', rfl, ?_⟩
  by_cases c : b > a
  · rw [if_pos c]; have := q h' tk' u k; rwa [show max a b = b by omega] at this
  · rw [if_neg c]; have := q h' tk' t k; rwa [show max a b = a by omega] at this
theorem W_min (hh : A.handled = none) (q : ∀ h' tk' v, Keep h h' → Q (.int (min a b) v) h' tk') : W X A (call (.builtin "min") [.int a t, .int b u]) Q h tk := by
  refine min_two_ints hh fun h' tk' k => ⟨h', tk', rfl, ?_⟩
  by_cases c : b < a
  · rw [if_pos c]; have := q h' tk' u k; rwa [show min a b = b by omega] at this
  · rw [if_neg c]; have := q h' tk' t k; rwa [show min a b = a by omega] at this
end

/-! subscripts -/
theorem W_Subscript {value slice pos} {T id : String} {Q : Value → Heap → Nat → Prop} (hl : typeLookup (.type T) "__getitem__" = pure (some (.builtin id)))
    (H : W X A (eval value env) (fun o h₁ t₁ => W X A (eval slice env) (fun i h₂ t₂ => (S X.s h₂ t₂).TypeIs o T ∧ W X A (getItem o i) Q h₂ t₂) h₁ t₁) h tk)
    (hs : ∀ o i, ∃ vs, subscripted slice false o i = operate vs (getItem o i) := by intro _ _; exact ⟨_, rfl⟩) :
    W X A (eval (.Subscript value slice pos) env) Q h tk := by
  show wpAny _ _ _ _ _ _
  rw [eval_Subscript]
  refine wpAny_bind (W.run H fun o h₁ t₁ h₁' => wpAny_bind (wpAny_holding (W.run h₁' fun i h₂ t₂ h₂' => wpAny_bind (wpAny_standAt ?_))))
  refine wpAny_bind ?_
  rw [getitemInPython_of_ne h₂'.1.not_modules]
  refine wpAny_bind (wpAny_specialOf h₂'.1 hl ?_)
  have fin : wpAny (model X.prog X.w) A (subscripted slice false o i) (fun r s₃ => wpAny (model X.prog X.w) A (letTemporaryGo value o r >>= fun _ => pure r) (fun v s' => ∃ h' tk', s' = S X.s h' tk' ∧ Q v h' tk') (fun _ _ => False) s₃) (fun _ _ => False) (S X.s h₂ t₂) := by
    obtain ⟨vs, e⟩ := hs o i
    rw [e]
    exact wpAny_operating (wpAny_mono h₂'.2 (fun r s₃ h₃ => wpAny_bind (wpAny_letTemporaryGo (wpAny_pure h₃))) fun _ _ x => x)
  first
    | exact wpAny_pure (wpAny_bind fin)
    | exact wpAny_bind (wpAny_pure (wpAny_bind fin))
    | exact wpAny_bind fin

theorem W_Slice {lower upper p} {Q : Value → Heap → Nat → Prop}
    (H : W X A (evalPart lower env) (fun l h₁ t₁ => W X A (evalPart upper env) (fun u h₂ t₂ =>
      Q (.ref h₂.objs.size) (h₂.push { cls := .type "slice", data := .fields #[l, u, .none] }) t₂) h₁ t₁) h tk) :
    W X A (eval (.Slice lower upper none p) env) Q h tk := by
  refine wpAny_Slice (W.run H fun l h₁ t₁ q => W.run q fun u h₂ t₂ q => ?_)
  rw [evalPart_none]
  exact wpAny_pure ⟨_, t₂, rfl, q⟩
theorem W_part_none {Q : Value → Heap → Nat → Prop} (q : Q .none h tk) : W X A (evalPart none env) Q h tk := W_pure q
theorem W_part_some {e} {Q : Value → Heap → Nat → Prop} (H : W X A (eval e env) Q h tk) : W X A (evalPart (some e) env) Q h tk := H

theorem W_list_item {l : Addr} {vs : List Value} {k : Int} {t : Tok} {x : Value} {Q : Value → Heap → Nat → Prop} (hl : Ls h l vs) (h0 : 0 ≤ k) (hk : k < 2 ^ 63) (hx : vs[k.toNat]? = some x) (q : Q x h tk) :
    W X A (getItem (.ref l) (.int k t)) Q h tk := wpAny_getItem_list hl.isList h0 hk (by simpa using hx) ⟨h, tk, rfl, q⟩

theorem W_list_slice {l : Addr} {vs : List Value} {vl vu : Value} {lo hi : Option Int} {Q : Value → Heap → Nat → Prop} (hl : Ls h l vs) (hz : vs.length ≤ sizeLine) (pl : IsPart vl lo) (pu : IsPart vu hi)
    (q : ∀ h' D, Keep h h' → h.get? D = none → Ls h' D (slicePick vs.toArray lo hi none).toList → Q (.ref D) h' tk) :
    W X A (getItem (.ref l) (.ref h.objs.size)) Q (h.push { cls := .type "slice", data := .fields #[vl, vu, .none] }) tk := by
  refine wpAny_getItem_list_slice (hl.keeps (Keep.push h _)).isList (Heap.IsSliceOf.new ..) pl pu .none (by simp) ⟨_, tk, rfl, ?_⟩ (by simpa using hz)
  exact q _ _ ((Keep.push h _).trans (Keep.push _ _)) (none_of_keep' (Keep.push h _) (size_none' _)) ⟨_, Heap.get?_push_size _ rfl, rfl, 0, rfl⟩

theorem sliceMade_post {l : List Nat} {t : Tok} {lo hi : Option (Int × Tok)} {a b : Nat} {Q : Value → Shared → Prop} {s : Shared} (hz : l.length ≤ sizeLine) (hab : a ≤ b) (hb : b ≤ l.length)
    (e : Builtin.Str.strSliceIndices (lo.map (·.1)) (hi.map (·.1)) 1 l.length = Builtin.Str.strSliceIndices (some (a : Int)) (some (b : Int)) 1 l.length)
    (q : ∀ t' tk', Q (.str (T ((l.drop a).take (b - a))) t') { s with toks := tk' }) : (sliceMade (T l) t lo hi none).post Q s := by
  unfold sliceMade
  have e1 : slicePicked (T l) lo hi none = Builtin.Str.strSliceIndices (some (a : Int)) (some (b : Int)) 1 l.length := by
    unfold slicePicked; rw [T_len]; exact e
  have e2 := StrLaws.sliced_plain (T l) (a := a) (b := b) hab (by rw [T_len]; exact hb)
  rw [T_len] at e2
  have e3 : (Builtin.Str.strSliceIndices (some (a : Int)) (some (b : Int)) 1 l.length).length = b - a := by rw [StrLaws.strSliceIndices_plain hab hb]; simp
  rw [e1]
  by_cases c : (((((none : Option (Int × Tok)).map (·.1)).getD 1 == 1) && ((Builtin.Str.strSliceIndices (some (a : Int)) (some (b : Int)) 1 l.length).length == (T l).length))) = true
  · rw [if_pos c]
    have c2 : b - a = l.length := by
      simp only [Bool.and_eq_true, beq_iff_eq] at c
      rw [T_len, e3] at c; exact c.2
    have ha : a = 0 := by omega
    have hb' : b = l.length := by omega
    subst ha hb'
    have := q t s.toks
    rw [List.drop_zero, Nat.sub_zero, List.take_of_length_le (Nat.le_refl _)] at this
    exact this
  · rw [if_neg c, e2]
    refine ⟨?_, by simpa using q _ _⟩
    show (((T l).cps.toList.drop a).take (b - a)).toArray.size ≤ sizeLine
    simp; omega

theorem W_str_upto {l : List Nat} {t u : Tok} {j : Nat} {Q : Value → Heap → Nat → Prop} (hz : l.length ≤ sizeLine)
    (q : ∀ h' t' tk', Keep h h' → Q (.str (T (l.take j)) t') h' tk') :
    W X A (getItem (.str (T l) t) (.ref h.objs.size)) Q (h.push { cls := .type "slice", data := .fields #[.none, .int j u, .none] }) tk := by
  refine wpAny_getItem_str_slice (l := none) (u := some ((j : Int), u)) (st := none) ⟨_, Heap.get?_push_size _ rfl, rfl, rfl⟩ rfl ?_
  refine sliceMade_post (a := 0) (b := min j l.length) hz (Nat.zero_le _) (by omega) ?_ fun t' tk' => ⟨_, tk', rfl, ?_⟩
  · simp only [Builtin.Str.strSliceIndices]
    congr 1 <;> simp <;> omega
  · have e : (l.drop 0).take (min j l.length - 0) = l.take j := by
      rw [List.drop_zero, Nat.sub_zero]
      by_cases c : j ≤ l.length
      · rw [Nat.min_eq_left c]
      · rw [Nat.min_eq_right (by omega), List.take_of_length_le (Nat.le_refl _), List.take_of_length_le (by omega)]
    rw [e]; exact q _ t' tk' (Keep.push h _)
theorem W_str_from {l : List Nat} {t u : Tok} {i : Nat} {Q : Value → Heap → Nat → Prop} (hz : l.length ≤ sizeLine)
    (q : ∀ h' t' tk', Keep h h' → Q (.str (T (l.drop i)) t') h' tk') :
    W X A (getItem (.str (T l) t) (.ref h.objs.size)) Q (h.push { cls := .type "slice", data := .fields #[.int i u, .none, .none] }) tk := by
  refine wpAny_getItem_str_slice (l := some ((i : Int), u)) (u := none) (st := none) ⟨_, Heap.get?_push_size _ rfl, rfl, rfl⟩ rfl ?_
  refine sliceMade_post (a := min i l.length) (b := l.length) hz (by omega) (by omega) ?_ fun t' tk' => ⟨_, tk', rfl, ?_⟩
  · simp only [Builtin.Str.strSliceIndices]
    congr 1 <;> simp <;> omega
  · have e : (l.drop (min i l.length)).take (l.length - min i l.length) = l.drop i := by
      by_cases c : i ≤ l.length
      · rw [Nat.min_eq_left c, List.take_of_length_le (by simp)]
      · rw [Nat.min_eq_right (by omega), List.take_of_length_le (by simp), List.drop_of_length_le (Nat.le_refl _), List.drop_of_length_le (by omega)]
    rw [e]; exact q _ t' tk' (Keep.push h _)

theorem T_app (a b : List Nat) : T a ++ T b = T (a ++ b) := by
  show (⟨a.toArray ++ b.toArray⟩ : Str) = _
  simp
theorem W_add_str {a b : List Nat} {t u : Tok} {Q : Value → Heap → Nat → Prop} (hz : a.length + b.length ≤ sizeLine)
    (q : ∀ t' tk', Q (.str (T (a ++ b)) t') h tk') : W X A (binaryOp .Add (.str (T a) t) (.str (T b) u)) Q h tk := by
  refine PySem.P.add_str ?_
  rw [T_len, T_len]
  by_cases c : a.length = 0
  · have : a = [] := List.eq_nil_of_length_eq_zero c
    subst this
    exact ⟨h, tk, rfl, q u tk⟩
  · rw [if_neg (by simpa using c)]
    by_cases d : b.length = 0
    · have : b = [] := List.eq_nil_of_length_eq_zero d
      subst this
      have := q t tk
      rw [List.append_nil] at this
      exact ⟨h, tk, rfl, this⟩
    · rw [if_neg (by simpa using d), T_app]
      exact ⟨by rw [T_len, List.length_append]; exact hz, h, _, rfl, q _ _⟩
theorem W_ne_str {a b : List Nat} {t u : Tok} {Q : Value → Heap → Nat → Prop} (q : Q (.bool (a != b)) h tk) : W X A (compareOp .NotEq (.str (T a) t) (.str (T b) u)) Q h tk :=
  PySem.P.ne_str ⟨h, tk, rfl, by simpa using q⟩
theorem W_len_str {l : List Nat} {t : Tok} {Q : Value → Heap → Nat → Prop} (hz : l.length ≤ sizeLine) (q : Q (.int l.length (tk + 1)) h (tk + 1 + 1)) : W X A (call (.builtin "len") [.str (T l) t]) Q h tk := by
  refine PySem.P.len_str (by rw [T_len]; have := sizeLine_eq; omega) ⟨h, _, rfl, ?_⟩
  rw [T_len]; exact q
theorem W_len_list {l : Addr} {vs : List Value} {Q : Value → Heap → Nat → Prop} (hl : Ls h l vs) (hz : vs.length ≤ sizeLine) (q : Q (.int vs.length (tk + 1)) h (tk + 1 + 1)) : W X A (call (.builtin "len") [.ref l]) Q h tk := by
  refine PyProof.Rows.len_list hl.isList (by simp; have := sizeLine_eq; omega) ⟨h, _, rfl, ?_⟩
  simpa using q
theorem W_chr {i : Int} {t : Tok} {Q : Value → Heap → Nat → Prop} (h0 : 0 ≤ i) (h1 : i ≤ 1114111) (q : Q (.str (T [i.toNat]) tk) h (tk + 1)) : W X A (call (.builtin "chr") [.int i t]) Q h tk :=
  chr_of_range h0 h1 ⟨h, _, rfl, q⟩
theorem W_list_copy {l : Addr} {vs : List Value} {Q : Value → Heap → Nat → Prop} (hl : Ls h l vs) (hz : vs.length ≤ sizeLine) (q : ∀ h' D, Keep h h' → h.get? D = none → Ls h' D vs → Q (.ref D) h' tk) :
    W X A (call (.type "list") [.ref l]) Q h tk := by
  obtain ⟨o, ho, hc, n, hd⟩ := hl.isList
  exact call_list_seq (hsz := by simpa using hz) l (.inl rfl) ho hc hd fun h' c' hk hD => ⟨h', tk, rfl, q h' _ hk (size_none' h) ⟨_, hD, rfl, c', rfl⟩⟩
end
end Mine

end
section
open PySem PySem.W PyProof.Rows
set_option Elab.async false
set_option linter.unusedVariables false
set_option maxRecDepth 100000
namespace Mine

/-! the defs of the text, read off the row -/
def stAt : List Stmt → Nat → Stmt
  | [], _ => .Pass ⟨0, 0, 0, 0⟩
  | s :: _, 0 => s
  | _ :: r, n + 1 => stAt r n
def bodyOf : Stmt → List Stmt
  | .FunctionDef _ _ body _ _ _ _ _ _ _ => body
  | .For _ _ body _ _ => body
  | .If _ body _ _ => body
  | _ => []
def argsOf : Stmt → Arguments
  | .FunctionDef _ args _ _ _ _ _ _ _ _ => args
  | _ => ⟨[], [], none, [], [], none, []⟩
def scopeOf : Stmt → Scope
  | .FunctionDef _ _ _ _ _ _ scope _ _ _ => scope
  | _ => { kind := .function, names := [], isGenerator := false, isCoroutine := false, more := [] }
abbrev txt : List Stmt := Challenge.pw_pk0015_01.main.body

abbrev cramB : List Stmt := bodyOf (stAt txt 1)
abbrev splitB : List Stmt := bodyOf (stAt txt 2)
abbrev swapB : List Stmt := bodyOf (stAt txt 4)
abbrev dealtB : List Stmt := bodyOf (stAt txt 6)
abbrev signsB : List Stmt := bodyOf (stAt txt 7)
abbrev pageB : List Stmt := bodyOf (stAt txt 8)
abbrev lawB : List Stmt := bodyOf (stAt txt 9)

/-- a def of the text stands under its name -/
def FnAt (mg : Str → Option Value) (h : Heap) (x : Str) (st : Stmt) : Prop :=
  ∃ a o doc pm cd ct, mg x = some (.ref a) ∧ h.get? a = some o ∧ o.data = .func (fnOf x x (argsOf st) (bodyOf st) (scopeOf st) .none .none doc pm none cd ct) ∧ h.CodeRec cd x
theorem FnAt.keeps {mg : Str → Option Value} {h h' : Heap} {x : Str} {st : Stmt} (f : FnAt mg h x st) (k : Keep h h') : FnAt mg h' x st := by
  obtain ⟨a, o, doc, pm, cd, ct, e1, e2, e3, e4⟩ := f
  exact ⟨a, o, doc, pm, cd, ct, e1, k _ _ e2, e3, e4.keeps k⟩

structure PF (mg mb : Str → Option Value) (h : Heap) : Prop where
  g : h.Ns mainGlobals mg
  b : h.Ns builtinsNs mb
  lim : h.NoLimit
  no : ∀ x : Str, x ∈ ([ "len", "max", "min", "range", "chr", "list", "bytes", "bytearray", "isinstance", "sum" ] : List Str) → mg x = none
  bi : ∀ x : Str, x ≠ "__name__" → mb x = bootBuiltins x
  cram : FnAt mg h "cram" (stAt txt 1)
  split : FnAt mg h "_split_list" (stAt txt 2)
  swap : FnAt mg h "_byteswap" (stAt txt 4)
  dealt : FnAt mg h "_law_dealt" (stAt txt 6)
  signs : FnAt mg h "_law_signs" (stAt txt 7)
  page : FnAt mg h "_law_page" (stAt txt 8)
theorem PF.keeps {mg mb : Str → Option Value} {h h' : Heap} (p : PF mg mb h) (k : Keep h h') : PF mg mb h' :=
  ⟨p.g.keeps k, p.b.keeps k, p.lim.keeps k, p.no, p.bi, p.cram.keeps k, p.split.keeps k, p.swap.keeps k, p.dealt.keeps k, p.signs.keeps k, p.page.keeps k⟩

theorem boot_len : bootBuiltins "len" = some (.builtin "len") := by decide +kernel
theorem boot_max : bootBuiltins "max" = some (.builtin "max") := by decide +kernel
theorem boot_min : bootBuiltins "min" = some (.builtin "min") := by decide +kernel
theorem boot_chr : bootBuiltins "chr" = some (.builtin "chr") := by decide +kernel
theorem boot_isi : bootBuiltins "isinstance" = some (.builtin "isinstance") := by decide +kernel
theorem boot_sum : bootBuiltins "sum" = some (.builtin "sum") := by decide +kernel
theorem boot_range : bootBuiltins "range" = some (.type "range") := by decide +kernel
theorem boot_list : bootBuiltins "list" = some (.type "list") := by decide +kernel
theorem boot_bytes : bootBuiltins "bytes" = some (.type "bytes") := by decide +kernel
theorem boot_bytearray : bootBuiltins "bytearray" = some (.type "bytearray") := by decide +kernel

section
variable {X : Cx} {A : Around} {h : Heap} {tk : Nat} {env : Env} {mg mb : Str → Option Value}
theorem W_call {a : Addr} {o : Obj} {fd : FuncData} {body : List Stmt} {args : List Value} {binds : List (Str × Value)} {Q : Value → Heap → Nat → Prop}
    (hroom : A.depth < recursionLimit) (hlim : h.NoLimit) (ho : h.get? a = some o) (hd : o.data = .func fd) (hcd : h.CodeRec fd.code fd.qualname)
    (hbody : fd.body = .stmts body) (hbind : bindArgs fd ⟨args, []⟩ = pure binds) (hcell : (fd.scope.names.all fun x => decide (x.2 ≠ .cell)) = true) (hloc : (binds.all fun x => decide (fd.scope.names.lookup x.1 = some .local)) = true)
    (H : ∀ h₀, h₀.Ns h.objs.size (fun x => binds.reverse.lookup x) → Keep h h₀ →
      W X (A.deeper (callEnv fd h.objs.size a)) (execs body (callEnv fd h.objs.size a)) (fun f h' tk' => Q (match f with | .ret v => v | _ => .none) h' tk') h₀ (tk + binds.length))
    (hco : fd.scope.isCoroutine = false := by rfl) (hgen : fd.scope.isGenerator = false := by rfl) (hk : fd.scope.kind = .function := by rfl) :
    W X A (call (.ref a) args) Q h tk := by
  refine wpAny_call ?_
  refine codeAny_call_def (fd := fd) (body := body) (binds := binds) hroom ho hd hlim hcd hbody (BindsTo.of_eq hbind) (fun x hx => of_decide_eq_true (List.all_eq_true.mp hcell x hx)) (locs hloc) (fun h₀ hn hkp => ?_) hco hgen hk
  exact W.run (H h₀ hn hkp) fun f h' tk' q => ⟨h', tk', rfl, q⟩

theorem W_fn {x : Str} {st : Stmt} {e rest p pos} {Q : Value → Heap → Nat → Prop} (P : PF mg mb h) (f : FnAt mg h x st)
    (hg : env.globals = mainGlobals)
    (H : ∀ a, mg x = some (.ref a) → W X A (spliced (backTo pos (starEach (e :: rest) env))) (fun vs h₂ t₂ => Keep h h₂ ∧ W X A (call (.ref a) vs) Q h₂ t₂) h tk)
    (hk : env.scope.kind = .function := by rfl) (hl : env.kindOf x = some .globalImplicit := by rfl) (hd : (x == ("__debug__" : Str)) = false := by decide)
    (he : starEach (e :: rest) env = (false, eval e env) :: starEach rest env := by rfl) :
    W X A (eval (.Call (.Name x p) (e :: rest) [] pos) env) Q h tk := by
  obtain ⟨a, o, doc, pm, cd, ct, e1, e2, e3, e4⟩ := f
  refine W_Call_def (a := a) (o := o) (W_global (mg := mg) (by rw [hg]; exact P.g) e1 ⟨rfl, W.mono (H a e1) fun vs h₂ t₂ q => ⟨⟨q.1 _ _ e2, e3⟩, q.2⟩⟩ hk hl hd) he
theorem W_bi {x : Str} {id : String} {e rest p pos} {Q : Value → Heap → Nat → Prop} (P : PF mg mb h) (hb : bootBuiltins x = some (.builtin id))
    (hx : x ∈ ([ "len", "max", "min", "range", "chr", "list", "bytes", "bytearray", "isinstance", "sum" ] : List Str)) (hn : x ≠ "__name__") (hg : env.globals = mainGlobals) (hbn : env.builtins = builtinsNs)
    (H : W X A (spliced (backTo pos (starEach (e :: rest) env))) (fun vs h₂ t₂ => W X A (call (.builtin id) vs) Q h₂ t₂) h tk)
    (hk : env.scope.kind = .function := by rfl) (hl : env.kindOf x = some .globalImplicit := by rfl) (hd : (x == ("__debug__" : Str)) = false := by decide)
    (he : starEach (e :: rest) env = (false, eval e env) :: starEach rest env := by rfl) (hplain : (backTo pos (starEach rest env)).any (·.1) = false := by rfl) :
    W X A (eval (.Call (.Name x p) (e :: rest) [] pos) env) Q h tk :=
  W_Call_builtin (W_builtin (mg := mg) (mb := mb) (by rw [hg]; exact P.g) (P.no x hx) (by rw [hbn]; exact P.b) ((P.bi x hn).trans hb) ⟨rfl, H⟩ hk hl hd) he hplain
theorem W_ty {x : Str} {T : String} {e rest p pos} {Q : Value → Heap → Nat → Prop} (P : PF mg mb h) (hb : bootBuiltins x = some (.type T))
    (hx : x ∈ ([ "len", "max", "min", "range", "chr", "list", "bytes", "bytearray", "isinstance", "sum" ] : List Str)) (hn : x ≠ "__name__") (hg : env.globals = mainGlobals) (hbn : env.builtins = builtinsNs)
    (H : W X A (spliced (backTo pos (starEach (e :: rest) env))) (fun vs h₂ t₂ => W X A (call (.type T) vs) Q h₂ t₂) h tk)
    (hk : env.scope.kind = .function := by rfl) (hl : env.kindOf x = some .globalImplicit := by rfl) (hd : (x == ("__debug__" : Str)) = false := by decide)
    (he : starEach (e :: rest) env = (false, eval e env) :: starEach rest env := by rfl) (hplain : (backTo pos (starEach rest env)).any (·.1) = false := by rfl) :
    W X A (eval (.Call (.Name x p) (e :: rest) [] pos) env) Q h tk :=
  W_Call_type (W_builtin (mg := mg) (mb := mb) (by rw [hg]; exact P.g) (P.no x hx) (by rw [hbn]; exact P.b) ((P.bi x hn).trans hb) ⟨rfl, H⟩ hk hl hd) he hplain
end

/-! cram -/
/-- what cram leaves of a text of these signs -/
def cramL (l : List Nat) (k : Int) : List Nat :=
  if (l.length : Int) > k then l.take (max 0 ((k - 3).fdiv 2)).toNat ++ ([46, 46, 46] ++ l.drop ((l.length : Int) - max 0 (k - 3 - max 0 ((k - 3).fdiv 2))).toNat) else l

/-- a frame's own names at L, over what the caller has -/
structure Fx (hc : Heap) (L : Addr) (h : Heap) (m : Str → Option Value) : Prop where
  ns : h.Ns L m
  keep : Keep hc h
  out : hc.get? L = none
theorem Fx.keeps {hc h h' : Heap} {L : Addr} {m : Str → Option Value} (F : Fx hc L h m) (k : Keep h h') : Fx hc L h' m := ⟨F.ns.keeps k, F.keep.trans k, F.out⟩
theorem Fx.set {hc h h' : Heap} {L : Addr} {m m' : Str → Option Value} (F : Fx hc L h m) (hn : h'.Ns L m') (hs : Heap.SameBut L h h') : Fx hc L h' m' :=
  ⟨hn, fun b o e => hs.extBut b o (fun q => by rw [q, F.out] at e; cases e) (F.keep b o e), F.out⟩
theorem size_none (h : Heap) : h.get? h.objs.size = none := by
  cases e : h.get? h.objs.size with
  | none => rfl
  | some o => exact absurd (Heap.lt_size e) (Nat.lt_irrefl _)
theorem Fx.new {h h₀ : Heap} {m : Str → Option Value} (hn : h₀.Ns h.objs.size m) (k : Keep h h₀) : Fx h h.objs.size h₀ m := ⟨hn, k, size_none h⟩

section
variable {X : Cx} {A : Around} {h : Heap} {tk : Nat} {mg mb : Str → Option Value}
theorem W_cram {a : Addr} {l : List Nat} {k : Int} {t u : Tok} {Q : Value → Heap → Nat → Prop}
    (P : PF mg mb h) (ha : mg "cram" = some (.ref a)) (hh : A.handled = none) (hr : A.depth < recursionLimit) (hz : l.length ≤ 1000) (hk1 : -1000 ≤ k) (hk2 : k ≤ 1000)
    (q : ∀ h' v tk', Keep h h' → Q (.str (T (cramL l k)) v) h' tk') :
    W X A (call (.ref a) [.str (T l) t, .int k u]) Q h tk := by
  obtain ⟨a', o, doc, pm, cd, ct, e1, e2, e3, e4⟩ := P.cram
  rw [e1] at ha
  cases ha
  refine W_call (binds := [("text", .str (T l) t), ("maxlen", .int k u)]) hr P.lim e2 e3 e4 rfl rfl (by rfl) (by rfl) fun h₀ hn kp => ?_
  have hzL := sizeLine_eq
  have F := Fx.new hn kp
  have hP := P.keeps F.keep
  refine W_execs_cons (W_If (W_isTrue_Compare1 (W_bi hP boot_len (by decide) (by decide) rfl rfl (W_items_cons (W_local F.ns rfl (W_items_nil (W_len_str (by omega) (W_local F.ns rfl (W_gt (W_truthy_bool ?_))))))))))
  by_cases c : (l.length : Int) > k
  · rw [if_pos (decide_eq_true c)]
    refine W_execs_cons (W_Assign_Name ?_)
    refine W_bi hP boot_max (by decide) (by decide) rfl rfl ?_
    refine W_items_cons (W_int (W_items_cons (W_BinOp (W_BinOp (W_local F.ns rfl (W_int (W_sub (W_int ?_))))))))
    refine W_div (by decide) (PyProof.noPylong_small (by omega)) (W_items_nil (W_max hh fun h₁ tk₁ v₁ k₁ => ?_))
    refine W_store_local (F.keeps k₁).ns fun h₂ hn₂ hs₂ => ?_
    have F₂ := (F.keeps k₁).set hn₂ hs₂
    refine W_execs_cons (W_Assign_Name ?_)
    refine W_bi (P.keeps F₂.keep) boot_max (by decide) (by decide) rfl rfl ?_
    refine W_items_cons (W_int (W_items_cons (W_BinOp (W_BinOp (W_local F₂.ns rfl (W_int (W_sub (W_local F₂.ns rfl (W_sub ?_)))))))))
    refine W_items_nil (W_max hh fun h₃ tk₃ v₃ k₃ => ?_)
    refine W_store_local (F₂.keeps k₃).ns fun h₄ hn₄ hs₄ => ?_
    have F₄ := (F₂.keeps k₃).set hn₄ hs₄
    have N0 : 0 ≤ max 0 ((k - 3).fdiv 2) := by omega
    have N1 : 0 ≤ (l.length : Int) - max 0 (k - 3 - max 0 ((k - 3).fdiv 2)) := by
      have : (k - 3).fdiv 2 = (k - 3) / 2 := Int.fdiv_eq_ediv_of_nonneg _ (by decide)
      omega
    refine W_execs_cons (W_Return ?_)
    refine W_BinOp (W_BinOp (W_Subscript PySem.F.slot_str_getitem.lookup ?_))
    refine W_local F₄.ns rfl (W_Slice (W_part_none (W_part_some (W_local F₄.ns rfl ⟨typeIs_str _ _ _, ?_⟩))))
    obtain ⟨j, ej⟩ := Int.eq_ofNat_of_zero_le N0
    obtain ⟨i, ei⟩ := Int.eq_ofNat_of_zero_le N1
    rw [ej]
    refine W_str_upto (by omega) fun h₅ t₅ tk₅ k₅ => ?_
    have F₅ := F₄.keeps k₅
    refine W_str (W_add_str (b := [46, 46, 46]) ?_ fun t₆ tk₆ => ?_)
    · have : (l.take j).length ≤ l.length := by simp; omega
      show _ + 3 ≤ _
      omega
    refine W_Subscript PySem.F.slot_str_getitem.lookup ?_
    refine W_local F₅.ns rfl (W_Slice (W_part_some (W_BinOp (W_bi (P.keeps F₅.keep) boot_len (by decide) (by decide) rfl rfl ?_))))
    refine W_items_cons (W_local F₅.ns rfl (W_items_nil (W_len_str (by omega) (W_local F₅.ns rfl (W_sub (W_part_none ⟨typeIs_str _ _ _, ?_⟩))))))
    rw [ei]
    refine W_str_from (by omega) fun h₇ t₇ tk₇ k₇ => ?_
    refine W_add_str ?_ fun t₈ tk₈ => ?_
    · have : (l.take j).length ≤ l.length := by simp; omega
      have : (l.drop i).length ≤ l.length := by simp
      simp only [List.length_append, List.length_cons, List.length_nil]
      omega
    have e : cramL l k = (l.take j ++ [46, 46, 46]) ++ l.drop i := by
      unfold cramL
      rw [if_pos c, ei, ej]
      simp
    rw [← e]
    exact q _ _ _ ((F₅.keeps k₇).keep)
  · rw [if_neg (by simpa using c)]
    refine W_execs_nil ?_
    refine W_execs_cons (W_Return (W_local F.ns rfl ?_))
    have e : cramL l k = l := by unfold cramL; rw [if_neg c]
    have := q h₀ t (tk + 2 + 1 + 1) F.keep
    rw [e] at this
    exact this
end
end Mine

end
section
open PySem PySem.W PyProof.Rows
set_option Elab.async false
set_option linter.unusedVariables false
set_option maxRecDepth 100000
namespace Mine

/-- what is new in h' over h lies in x -/
def Fresh (h h' x : Heap) : Prop := ∀ b o, h.get? b = none → h'.get? b = some o → x.get? b = some o
theorem Fresh.self (h h' : Heap) : Fresh h h' h' := fun _ _ _ e => e
theorem none_of_keep {h h' : Heap} {b : Addr} (k : Keep h h') (e : h'.get? b = none) : h.get? b = none := by
  cases q : h.get? b with
  | none => rfl
  | some o => rw [k b o q] at e; cases e
theorem Fresh.tail {h h₁ h₂ x : Heap} (f : Fresh h h₂ x) (k : Keep h h₁) : Fresh h₁ h₂ x := fun b o e => f b o (none_of_keep k e)
theorem Fresh.init {h h₁ h₂ x : Heap} (f : Fresh h h₂ x) (k : Keep h₁ h₂) : Fresh h h₁ x := fun b o e q => f b o e (k b o q)
theorem fresh_of_le {h : Heap} {b : Addr} (e : h.objs.size ≤ b) : h.get? b = none := Heap.get?_none_of_le e

section
variable {X : Cx} {A : Around}
/-- an iterator at I that hands out n values -/
structure Itr (X : Cx) (A : Around) (hb : Heap) (I : Addr) (n : Nat) (V : Nat → Value → Prop) (St : Nat → Heap → Prop) : Prop where
  item : ∀ i h tk (Q : Option Value → Heap → Nat → Prop), i < n → Keep hb h → St i h → (∀ v h' tk', V i v → St (i + 1) h' → Heap.ExtBut I h h' → Q (some v) h' tk') → W X A (pyNext (.ref I)) Q h tk
  done : ∀ h tk (Q : Option Value → Heap → Nat → Prop), Keep hb h → St n h → (∀ h' tk', Heap.ExtBut I h h' → Q none h' tk') → W X A (pyNext (.ref I)) Q h tk
  self : ∀ i h tk (Q : Value → Heap → Nat → Prop), St i h → Q (.ref I) h tk → W X A (pyIter (.ref I)) Q h tk
  frame : ∀ i h h', St i h → (∀ o, h.get? I = some o → h'.get? I = some o) → St i h'
  lives : ∀ i h, St i h → ∃ o, h.get? I = some o
  out : hb.get? I = none

/-- a value over which one may go -/
def Src (X : Cx) (A : Around) (hb : Heap) (xv : Value) (h : Heap) (n : Nat) (V : Nat → Value → Prop) : Prop :=
  ∀ tk (Q : Value → Heap → Nat → Prop), (∀ I St h₂ tk₂, Itr X A hb I n V St → St 0 h₂ → Keep h h₂ → h.get? I = none → Q (.ref I) h₂ tk₂) → W X A (pyIter xv) Q h tk

theorem Src.list {hb h : Heap} {a : Addr} {vs : List Value} (hh : A.handled = none) (hl : Ls hb a vs) (k : Keep hb h) : Src X A hb (.ref a) h vs.length (fun i v => vs[i]? = some v) := by
  intro tk Q q
  have hn : hb.get? h.objs.size = none := none_of_keep k (size_none h)
  have hne : a ≠ h.objs.size := by
    rintro rfl
    obtain ⟨o, e⟩ := hl.live
    rw [hn] at e; cases e
  refine wpAny_pyIter_list (hl.keeps k).isList ⟨_, tk, rfl, ?_⟩
  refine q h.objs.size (fun i h' => h'.IsListIter h.objs.size a i) _ tk ⟨?_, ?_, ?_, ?_, ?_, hn⟩ ⟨_, Heap.get?_push_size _ rfl, rfl, rfl⟩ (Keep.push _ _) (size_none h)
  · intro i h₁ tk₁ Q₁ hi k₁ st q₁
    refine wpAny_pyNext_list_item st (hl.keeps k₁).isList (x := vs[i]) (by simp [hi]) fun h' hit' hs' => ⟨h', tk₁, rfl, ?_⟩
    exact q₁ _ h' tk₁ (by simp [hi]) hit' hs'.extBut
  · intro h₁ tk₁ Q₁ k₁ st q₁
    exact wpAny_pyNext_list_end hh st (hl.keeps k₁).isList (by simp) fun h' he' => ⟨h', tk₁, rfl, q₁ h' tk₁ he'⟩
  · intro i h₁ tk₁ Q₁ st q₁
    exact wpAny_pyIter_listiter st ⟨h₁, tk₁, rfl, q₁⟩
  · intro i h₁ h₂ st e
    obtain ⟨o, ho, r⟩ := st
    exact ⟨o, e o ho, r⟩
  · intro i h₁ st
    obtain ⟨o, ho, r⟩ := st
    exact ⟨o, ho⟩

theorem Src.rangeObj {hb h : Heap} {r : Addr} {a b c : Int} {t u v : Tok} {n : Nat} (hh : A.handled = none) (hr : IsRange h r a b c t u v) (k : Keep hb h) (hs : Builtin.Range.small a b c = true) (hn : Builtin.Range.rangeSize a b c = n) :
    Src X A hb (.ref r) h n (fun i v => ∃ t, v = .int (a + i * c) t) := by
  intro tk Q q
  have hno : hb.get? h.objs.size = none := none_of_keep k (size_none h)
  refine wpAny_pyIter_range hr hs ⟨_, tk, rfl, ?_⟩
  rw [hn]
  refine q h.objs.size (fun i h' => IsRangeIter h' h.objs.size (a + (i : Nat) * c) ((n : Int) - (i : Nat)) c) _ tk ⟨?_, ?_, ?_, ?_, ?_, hno⟩ ?_ (Keep.push _ _) (size_none h)
  · intro i h₁ tk₁ Q₁ hi k₁ st q₁
    refine wpAny_pyNext_range_item st (by omega) fun h' hit' hs' => ⟨h', _, rfl, ?_⟩
    refine q₁ _ h' _ ⟨_, rfl⟩ ?_ hs'.extBut
    have e1 : a + ((i : Nat) : Int) * c + c = a + ((i + 1 : Nat) : Int) * c := by rw [Int.natCast_add, Int.add_mul]; simp; omega
    have e2 : (n : Int) - (i : Nat) - 1 = (n : Int) - ((i + 1 : Nat) : Int) := by omega
    rw [e1, e2] at hit'
    exact hit'
  · intro h₁ tk₁ Q₁ k₁ st q₁
    exact wpAny_pyNext_range_end hh st (by omega) fun h' he' => ⟨h', tk₁, rfl, q₁ h' tk₁ he'⟩
  · intro i h₁ tk₁ Q₁ st q₁
    exact wpAny_pyIter_rangeiter st ⟨h₁, tk₁, rfl, q₁⟩
  · intro i h₁ h₂ st e
    exact e _ st
  · intro i h₁ st
    exact ⟨_, st⟩
  · have : IsRangeIter (h.push { cls := .type "range_iterator", data := .fields #[rawInt a, rawInt n, rawInt c] }) h.objs.size a n c := Heap.get?_push_size _ rfl
    simpa using this

/-- range(k) -/
theorem W_range {h : Heap} {tk : Nat} {k : Int} {t : Tok} {Q : Value → Heap → Nat → Prop} (hh : A.handled = none) (h0 : 0 ≤ k) (h1 : k ≤ 1000000)
    (q : ∀ r h' tk', Keep h h' → (∀ hb, Keep hb h' → Src X A hb (.ref r) h' k.toNat (fun i v => ∃ t, v = .int i t)) → Q (.ref r) h' tk') : W X A (call (.type "range") [.int k t]) Q h tk := by
  refine call_range_1 ⟨_, _, rfl, ?_⟩
  refine q _ _ _ (Keep.push _ _) fun hb kb => ?_
  have hsz : Builtin.Range.rangeSize 0 k 1 = (k.toNat : Int) := by rw [rangeSize_one]; split <;> omega
  have := Src.rangeObj (X := X) (A := A) (hb := hb) (n := k.toNat) hh (IsRange.new h 0 k 1 tk t (tk + 1)) kb (small_one (by decide) (by decide) (by omega) (by omega)) hsz
  intro tk₁ Q₁ q₁
  refine this tk₁ Q₁ fun I St h₂ tk₂ it st kk f => ?_
  have e : (fun (i : Nat) (v : Value) => ∃ t, v = Value.int (0 + (i : Int) * 1) t) = (fun (i : Nat) (v : Value) => ∃ t, v = Value.int (i : Int) t) := by
    funext i v; simp
  rw [e] at it
  exact q₁ I St h₂ tk₂ it st kk f
end
end Mine

end
section
open PySem PySem.W PyProof.Rows
set_option Elab.async false
set_option linter.unusedVariables false
set_option maxRecDepth 100000
namespace Mine
section
variable {X : Cx} {A : Around} {h : Heap} {tk : Nat} {env : Env}

theorem W_assign_Name {x pos v} {Q : Unit → Heap → Nat → Prop} (H : W X A (storeName env x v) Q h tk) : W X A (assign (.Name x pos) env v) Q h tk := wpAny_assign_Name H

theorem W_For {x px iter body pos} {Q : Flow → Heap → Nat → Prop}
    (H : W X A (eval iter env) (fun xv h₁ t₁ => ∃ hb n V, Src X A hb xv h₁ n V ∧ ∀ I St h₂, Itr X A hb I n V St → St 0 h₂ → Keep h₁ h₂ → h₁.get? I = none →
      ∃ J : Nat → Heap → Prop, (∀ i h h', J i h → Heap.ExtBut I h h' → J i h') ∧ (∀ i h, J i h → Keep hb h) ∧ J 0 h₂ ∧
        (∀ i v h tk, i < n → V i v → J i h → (∃ o, h.get? I = some o) → W X A (storeName env x v) (fun _ h' t' => W X A (execs body env) (fun f h'' t'' => match f with
          | .next => J (i + 1) h'' ∧ (∀ o, h.get? I = some o → h''.get? I = some o)
          | .cont => J (i + 1) h'' ∧ (∀ o, h.get? I = some o → h''.get? I = some o)
          | .brk => Q .next h'' t''
          | .ret v => Q (.ret v) h'' t'') h' t') h tk) ∧
        (∀ h' tk', J n h' → Q .next h' tk')) h tk)
    (hs : ∀ x, foldedSetIterable iter env x = pure x := by intro _; rfl) :
    W X A (exec (.For (.Name x px) iter body [] pos) env) Q h tk := by
  refine wpAny_For (W.run H fun xv h₁ t₁ q => ?_) hs
  obtain ⟨hb, n, V, src, q⟩ := q
  refine W.run (src t₁ (fun v h₂ t₂ => ∃ I St, v = .ref I ∧ Itr X A hb I n V St ∧ St 0 h₂ ∧ Keep h₁ h₂ ∧ h₁.get? I = none) fun I St h₂ t₂ it st k f => ⟨I, St, rfl, it, st, k, f⟩) fun v h₂ t₂ q₂ => ?_
  obtain ⟨I, St, rfl, it, st, k, f⟩ := q₂
  obtain ⟨J, jx, jk, j0, turn, fin⟩ := q I St h₂ it st k f
  refine codeAny_forLoop (fun k s' => ∃ i h' tk', s' = S X.s h' tk' ∧ k = n - i ∧ i ≤ n ∧ J i h' ∧ St i h') ?_ n ⟨0, h₂, t₂, rfl, by omega, by omega, j0, st⟩
  rintro k s' ⟨i, h', tk', rfl, rfl, hi, j, st'⟩
  by_cases hlt : i < n
  · refine W.run (it.item i h' tk' (fun r h₃ t₃ => ∃ v, r = some v ∧ V i v ∧ St (i + 1) h₃ ∧ J i h₃) hlt (jk _ _ j) st' fun v h₃ t₃ hv st₃ ex => ⟨v, rfl, hv, st₃, jx _ _ _ j ex⟩) fun r h₃ t₃ q₃ => ?_
    obtain ⟨v, rfl, hv, st₃, j₃⟩ := q₃
    refine wpAny_assign_Name (W.run (turn i v h₃ t₃ hlt hv j₃ (it.lives _ _ st₃)) fun _ h₄ t₄ q₄ => W.run q₄ fun fl h₅ t₅ q₅ => ?_)
    cases fl with
    | next => exact ⟨n - (i + 1), by omega, i + 1, h₅, t₅, rfl, rfl, hlt, q₅.1, it.frame _ _ _ st₃ q₅.2⟩
    | cont => exact ⟨n - (i + 1), by omega, i + 1, h₅, t₅, rfl, rfl, hlt, q₅.1, it.frame _ _ _ st₃ q₅.2⟩
    | brk => exact ⟨h₅, t₅, rfl, q₅⟩
    | ret v => exact ⟨h₅, t₅, rfl, q₅⟩
  · have : i = n := by omega
    subst this
    refine W.run (it.done h' tk' (fun r h₃ t₃ => r = none ∧ J i h₃) (jk _ _ j) st' fun h₃ t₃ ex => ⟨rfl, jx _ _ _ j ex⟩) fun r h₃ t₃ q₃ => ?_
    obtain ⟨rfl, j₃⟩ := q₃
    exact wpAny_execs_nil ⟨h₃, t₃, rfl, fin h₃ t₃ j₃⟩

/-! comprehensions with one for -/
theorem comp1_loop {elt iter : Expr} {x : Str} {px : Pos} {scope : Scope} {pos : Pos} {cl : List (Str × Addr)} {R : Result → Shared → Prop} {hb hk h₀ : Heap} {I D C : Addr} {n : Nat} {V : Nat → Value → Prop} {St : Nat → Heap → Prop} {G : Nat → Value → Heap → Prop}
    (it : Itr X A hb I n V St) (hz : n ≤ 1000000) (hx : scope.names.lookup x = some .local) (hkind : scope.kind = .function)
    (hD : h₀.get? D = none) (hC : h₀.get? C = none) (hI₀ : ∃ o, h₀.get? I = some o) (hDC : D ≠ C) (kbk : Keep hb hk) (hkI : hk.get? I = none) (kb : Keep hk h₀)
    (helt : ∀ i v h₁ tk₁ m, i < n → V i v → Keep hk h₁ → h₁.Ns C m → m x = some v →
      W X A (eval elt (compEnvC scope cl C env)) (fun y h₂ _ => Keep h₁ h₂ ∧ ∀ hx, Keep hb hx → Fresh h₁ h₂ hx → G i y hx) h₁ tk₁)
    (hR : ∀ h' tk' (ys : List Value) m, ys.length = n → (∀ b o, b ≠ I → h₀.get? b = some o → h'.get? b = some o) → h'.Ns C m → PlainL h' D ys.toArray →
      (∀ hx, Keep hb hx → (∀ b o, h₀.get? b = none → b ≠ C → b ≠ D → h'.get? b = some o → hx.get? b = some o) → ∀ i y, ys[i]? = some y → G i y hx) → R (.ok .next) (S X.s h' tk'))
    {h : Heap} {tk : Nat} {m : Str → Option Value} (st : St 0 h) (k0 : Keep h₀ h) (hn : h.Ns C m) (hl : PlainL h D #[]) :
    codeAny (model X.prog X.w) A (.compLoop (.ListComp elt [⟨.Name x px, iter, [], 0⟩] scope pos) 0 (.ref I) (.ref D) (compEnvC scope cl C env)) R (S X.s h tk) := by
  have hzL := sizeLine_eq
  have hIC : I ≠ C := by rintro rfl; obtain ⟨o, e⟩ := hI₀; rw [hC] at e; cases e
  have hID : I ≠ D := by rintro rfl; obtain ⟨o, e⟩ := hI₀; rw [hD] at e; cases e
  have bI : ∀ b o, hk.get? b = some o → b ≠ I := fun b o e q => by rw [q, hkI] at e; cases e
  have bC : ∀ b o, hk.get? b = some o → b ≠ C := fun b o e q => by rw [q, none_of_keep kb hC] at e; cases e
  have bD : ∀ b o, hk.get? b = some o → b ≠ D := fun b o e q => by rw [q, none_of_keep kb hD] at e; cases e
  have zC : ∀ b o, h₀.get? b = some o → b ≠ C := fun b o e q => by rw [q, hC] at e; cases e
  have zD : ∀ b o, h₀.get? b = some o → b ≠ D := fun b o e q => by rw [q, hD] at e; cases e
  refine codeAny_compLoop_list
    (fun k s' => ∃ i h' tk', ∃ ys : List Value, ∃ m, s' = S X.s h' tk' ∧ k = n + 1 - i ∧ i ≤ n ∧ ys.length = i ∧ St i h' ∧ Keep hk h' ∧ h'.Ns C m ∧ PlainL h' D ys.toArray ∧ (∀ b o, b ≠ I → h₀.get? b = some o → h'.get? b = some o) ∧ (∃ o, h'.get? I = some o) ∧
      (∀ hx, Keep hb hx → (∀ b o, h₀.get? b = none → b ≠ C → b ≠ D → h'.get? b = some o → hx.get? b = some o) → ∀ i y, ys[i]? = some y → G i y hx)) ?_ (n + 1)
    ⟨0, h, tk, [], m, rfl, rfl, Nat.zero_le _, rfl, st, kb.trans k0, hn, hl, fun b o _ e => k0 b o e, it.lives _ _ st, fun _ _ _ i y e => by simp at e⟩
  rintro k s' ⟨i, h', tk', ys, m', rfl, rfl, hi, hlen, st', kb', hn', hl', old, live, hg⟩
  by_cases hlt : i < n
  · refine W.run (it.item i h' tk' (fun r h₃ t₃ => ∃ v, r = some v ∧ V i v ∧ St (i + 1) h₃ ∧ Heap.ExtBut I h' h₃) hlt (kbk.trans kb') st' fun v h₃ t₃ hv st₃ ex => ⟨v, rfl, hv, st₃, ex⟩) fun r h₃ t₃ q₃ => ?_
    obtain ⟨v, rfl, hv, st₃, ex⟩ := q₃
    have hn₃ : h₃.Ns C m' := hn'.extBut ex (Ne.symm hIC)
    refine wpAny_assign_Name (wpAny_storeName_local (env := compEnvC scope cl C env) (lookup_relabel_local hx) hn₃ (fun h₄ hn₄ hs₄ => ?_) (by show (scope.kind == .class || (scope.kind == .module && _)) = false; rw [hkind]; rfl))
    have kb₄ : Keep hk h₄ := fun b o e => hs₄.extBut b o (bC b o e) (ex b o (bI b o e) (kb' b o e))
    refine W.run (helt i v h₄ (t₃ + 1) _ hlt hv kb₄ hn₄ (by simp)) fun y h₅ t₅ q₅ => ?_
    obtain ⟨k₅, hy⟩ := q₅
    have hl₃ : PlainL h₃ D ys.toArray := hl'.extBut ex (Ne.symm hID)
    have hl₄ : PlainL h₄ D ys.toArray := hl₃.extBut hs₄.extBut hDC
    have hl₅ : PlainL h₅ D ys.toArray := hl₄.keeps k₅
    refine list_append_plainL hl₅ (fun h₆ hl₆ hs₆ => ?_) (by simp; omega)
    have hn₆ := (hn₄.keeps k₅).sameBut hs₆ (Ne.symm hDC)
    have live₃ := it.lives _ _ st₃
    have st₆ : St (i + 1) h₆ := it.frame _ _ _ st₃ fun o e => hs₆.extBut I o hID (k₅ _ _ (hs₄.extBut I o hIC e))
    refine ⟨n + 1 - (i + 1), by omega, i + 1, h₆, t₅, ys ++ [y], _, rfl, rfl, hlt, by simp [hlen], st₆, ?_, hn₆, by simpa using hl₆, ?_, it.lives _ _ st₆, ?_⟩
    · exact fun b o e => hs₆.extBut b o (bD b o e) (k₅ b o (kb₄ b o e))
    · exact fun b o hbI e => hs₆.extBut b o (zD b o e) (k₅ b o (hs₄.extBut b o (zC b o e) (ex b o hbI (old b o hbI e))))
    · intro hx kx fx j z ez
      have up : ∀ b o, b ≠ I → b ≠ C → b ≠ D → h'.get? b = some o → h₆.get? b = some o := fun b o b1 b2 b3 e => hs₆.extBut b o b3 (k₅ b o (hs₄.extBut b o b2 (ex b o b1 e)))
      by_cases hj : j < ys.length
      · rw [List.getElem?_append_left hj] at ez
        refine hg hx kx (fun b o e1 e2 e3 e4 => fx b o e1 e2 e3 (up b o ?_ e2 e3 e4)) j z ez
        rintro rfl
        obtain ⟨o', e'⟩ := hI₀
        rw [e'] at e1; cases e1
      · have hj' : j = ys.length := by
          have : j < (ys ++ [y]).length := by
            apply Nat.lt_of_not_le
            intro c
            rw [List.getElem?_eq_none c] at ez; cases ez
          simp at this; omega
        subst hj'
        simp at ez
        subst ez
        rw [hlen]
        refine hy hx kx fun b o e1 e2 => ?_
        have b1 : b ≠ I := by rintro rfl; obtain ⟨o', e'⟩ := live₃; rw [hs₄.extBut _ o' hIC e'] at e1; cases e1
        have b2 : b ≠ C := by rintro rfl; obtain ⟨o', _, _, e', _⟩ := hn₄; exact nomatch e1.symm.trans e'
        have b3 : b ≠ D := by rintro rfl; obtain ⟨o', _, e', _⟩ := hl₄; rw [e'] at e1; cases e1
        refine fx b o ?_ b2 b3 (hs₆.extBut b o b3 e2)
        cases q : h₀.get? b with
        | none => rfl
        | some o' => rw [hs₄.extBut b o' b2 (ex b o' b1 (old b o' b1 q))] at e1; cases e1
  · have : i = n := by omega
    subst this
    refine W.run (it.done h' tk' (fun r h₃ t₃ => r = none ∧ Heap.ExtBut I h' h₃) (kbk.trans kb') st' fun h₃ t₃ ex => ⟨rfl, ex⟩) fun r h₃ t₃ q₃ => ?_
    obtain ⟨rfl, ex⟩ := q₃
    refine hR h₃ t₃ ys m' hlen (fun b o hbI e => ex b o hbI (old b o hbI e)) (hn'.extBut ex (Ne.symm hIC)) (hl'.extBut ex (Ne.symm hID)) fun hx kx fx => hg hx kx fun b o e1 e2 e3 e4 => fx b o e1 e2 e3 (ex b o ?_ e4)
    rintro rfl
    obtain ⟨o', e'⟩ := hI₀
    rw [e'] at e1; cases e1

/-- the comprehension's list and names are made; then its loop -/
theorem comp_block {elt target iter : Expr} {ifs : List Expr} {rest : List Comprehension} {scope : Scope} {pos : Pos} {cl : List (Str × Addr)} {RR : Value → Addr → Result → Shared → Prop} {E : Value → Shared → Prop} {I : Addr} {h₂ : Heap} {tk : Nat}
    (hcell : (scope.names.all fun x => decide (x.2 ≠ .cell)) = true) (hkind : scope.kind = .function)
    (self : ∀ h₁ tk (Q : Value → Heap → Nat → Prop), Keep h₂ h₁ → Q (.ref I) h₁ tk → W X A (pyIter (.ref I)) Q h₁ tk)
    (loop : ∀ D C h₁ tk₁ m, h₂.get? D = none → h₂.get? C = none → D ≠ C → Keep h₂ h₁ → h₁.Ns C m → PlainL h₁ D #[] →
      codeAny (model X.prog X.w) A (.compLoop (.ListComp elt (⟨target, iter, ifs, 0⟩ :: rest) scope pos) 0 (.ref I) (.ref D) (compEnvC scope cl C env)) (RR (.ref D) C) (S X.s h₁ tk₁)) :
    wpAny (model X.prog X.w) A (newList []) (fun acc s₃ => wpAny (model X.prog X.w) A (newFunctionEnv scope env.globals cl [] env.qual none .none (some env)) (fun cenv s₄ =>
      codeAny (model X.prog X.w) A (.compStart (.ListComp elt (⟨target, iter, ifs, 0⟩ :: rest) scope pos) 0 (.ref I) acc { cenv with scope := relabel scope env }) (RR acc cenv.locals) s₄) E s₃) E (S X.s h₂ tk) := by
  refine wpAny_newObj_type (wpAny_newFunctionEnv (fun x hx => of_decide_eq_true (List.all_eq_true.mp hcell x hx)) (by intro y hy; simp at hy) (fun h₁ hns₁ hsb₁ => ?_) hkind)
  dsimp only at hns₁ hsb₁ ⊢
  generalize hH2 : h₂.push { cls := .type "list", dict := none, data := .seq ([] : List Value).toArray } = H2 at hns₁ hsb₁ ⊢
  have hC : H2.objs.size = h₂.objs.size + 1 := by rw [← hH2, Heap.size_push]
  have hDC : h₂.objs.size ≠ H2.objs.size := by rw [hC]; exact Nat.ne_of_lt (Nat.lt_succ_self _)
  have below : ∀ b, b < h₂.objs.size → b ≠ H2.objs.size ∧ b ≠ h₂.objs.size := fun b hb => ⟨by rw [hC]; exact Nat.ne_of_lt (Nat.lt_succ_of_lt hb), Nat.ne_of_lt hb⟩
  have old : Keep h₂ h₁ := fun b o e => hsb₁.extBut b o (below b (Heap.lt_size e)).1 (Heap.get?_push_of_some _ (hH2 ▸ Heap.get?_push_of_some _ e))
  have hacc : PlainL h₁ h₂.objs.size #[] := ⟨_, 0, hsb₁.extBut _ _ hDC (Heap.get?_push_of_some _ (hH2 ▸ Heap.get?_push_size _ rfl)), rfl, rfl, rfl⟩
  have lp := loop h₂.objs.size H2.objs.size h₁ (tk + 0) _ (size_none h₂) (fresh_of_le (by rw [hC]; exact Nat.le_succ _)) hDC old hns₁ hacc
  exact codeAny_compStart_list lp (W.run (self h₁ (tk + 0) (fun v h' t' => v = .ref I ∧ h' = h₁ ∧ t' = tk + 0) old ⟨rfl, rfl, rfl⟩) fun v h' t' q => by obtain ⟨rfl, rfl, rfl⟩ := q; exact lp)

/-- [elt for x in iter] -/
theorem W_ListComp1 {elt iter : Expr} {x : Str} {px : Pos} {scope : Scope} {pos : Pos} {cl : List (Str × Addr)} {Q : Value → Heap → Nat → Prop}
    (hclos : closureFor scope env = pure cl)
    (H : W X A (eval iter env) (fun xv h₁ t₁ => ∃ hb n V, ∃ G : Nat → Value → Heap → Prop, Keep hb h₁ ∧ Src X A hb xv h₁ n V ∧ n ≤ 1000000 ∧
      (∀ C i v h₂ t₂ m, i < n → V i v → Keep h₁ h₂ → h₁.get? C = none → h₂.Ns C m → m x = some v →
        W X A (eval elt (compEnvC scope cl C env)) (fun y h₃ _ => Keep h₂ h₃ ∧ ∀ hx, Keep hb hx → Fresh h₂ h₃ hx → G i y hx) h₂ t₂) ∧
      (∀ D h' t' (ys : List Value), ys.length = n → Keep h₁ h' → h₁.get? D = none → Ls h' D ys → (∀ hx, Keep hb hx → Fresh h₁ h' hx → ∀ i y, ys[i]? = some y → G i y hx) → Q (.ref D) h' t')) h tk)
    (hcell : (scope.names.all fun x => decide (x.2 ≠ .cell)) = true := by rfl) (hkind : scope.kind = .function := by rfl)
    (hnames : (scope.names.all fun x => decide (x.2 = .local → scope.names.lookup x.1 = some .local)) = true := by rfl) (hx : scope.names.lookup x = some .local := by rfl)
    (hs : ∀ x, foldedSetIterable iter env x = pure x := by intro _; rfl) :
    W X A (eval (.ListComp elt [⟨.Name x px, iter, [], 0⟩] scope pos) env) Q h tk := by
  show wpAny _ _ _ _ _ _
  rw [eval_ListComp]
  refine wpAny_comprehension_free (use := none) (g := ⟨.Name x px, iter, [], 0⟩) (gs := []) rfl hs hclos hkind (fun z hz => of_decide_eq_true (List.all_eq_true.mp hnames z hz)) (W.run H fun xv h₁ t₁ q => ?_)
  obtain ⟨hb, n, V, G, kb, src, hz, helt, fin⟩ := q
  refine W.run (src t₁ (fun v h₂ t₂ => ∃ I St, v = .ref I ∧ Itr X A hb I n V St ∧ St 0 h₂ ∧ Keep h₁ h₂ ∧ h₁.get? I = none) fun I St h₂ t₂ it st k f => ⟨I, St, rfl, it, st, k, f⟩) fun v h₂ t₂ q₂ => ?_
  obtain ⟨I, St, rfl, it, st, k, f⟩ := q₂
  refine comp_block hcell hkind (fun h₃ tk₃ Q₃ k₃ q₃ => it.self 0 h₃ tk₃ Q₃ (it.frame _ _ _ st fun o e => k₃ _ _ e) q₃) fun D C h₃ tk₃ m hD hC hDC k₃ hn hl => ?_
  refine comp1_loop (h₀ := h₂) (hk := h₁) (G := G) it hz hx hkind hD hC (it.lives _ _ st) hDC kb f k (fun i v h₄ tk₄ m₄ hi hv k₄ hn₄ hm₄ => helt C i v h₄ tk₄ m₄ hi hv k₄ (none_of_keep k hC) hn₄ hm₄) ?_ (it.frame _ _ _ st fun o e => k₃ _ _ e) k₃ hn hl
  intro h' tk' ys m' hlen old hn' hl' hg
  refine ⟨m', hn', fun h'' hs'' => ⟨h'', tk', rfl, ?_⟩⟩
  have kk : Keep h₁ h'' := fun b o e => hs''.extBut b o (fun q => by rw [q, none_of_keep k hC] at e; cases e) (old b o (fun q => by rw [q, f] at e; cases e) (k b o e))
  refine fin D h'' tk' ys hlen kk (none_of_keep k hD) (ls_of (hl'.extBut hs''.extBut hDC)) fun hx kx fx i y ey => hg hx kx (fun b o e1 e2 e3 e4 => fx b o (none_of_keep k e1) (hs''.extBut b o e2 e4)) i y ey
end
end Mine

end
section
open PySem PySem.W PyProof.Rows
set_option Elab.async false
set_option linter.unusedVariables false
set_option maxRecDepth 100000
namespace Mine

/-- values that are these numbers -/
def Nums (vs : List Value) (os : List Nat) : Prop := vs.length = os.length ∧ ∀ (i : Nat) (o : Nat), os[i]? = some o → ∃ t, vs[i]? = some (.int (o : Nat) t)
theorem Nums.ints : ∀ {vs : List Value} {os : List Nat}, Nums vs os → IntsAre vs (os.map Int.ofNat)
  | [], [], _ => .nil
  | [], _ :: _, h => by simp [Nums] at h
  | _ :: _, [], h => by simp [Nums] at h
  | v :: vs, o :: os, h => by
    obtain ⟨t, e⟩ := h.2 0 o rfl
    simp at e; subst e
    refine IntsAre.cons _ _ (Nums.ints ⟨by simpa using h.1, fun i o' e => ?_⟩)
    obtain ⟨t', e'⟩ := h.2 (i + 1) o' (by simpa using e)
    exact ⟨t', by simpa using e'⟩
theorem Nums.take {vs : List Value} {os : List Nat} (h : Nums vs os) (k : Nat) : Nums (vs.take k) (os.take k) := by
  refine ⟨by simp [h.1], fun i o e => ?_⟩
  rw [List.getElem?_take] at e ⊢
  split at e
  · rename_i c; obtain ⟨t, q⟩ := h.2 i o e; exact ⟨t, by rw [if_pos c]; exact q⟩
  · cases e
theorem Nums.drop {vs : List Value} {os : List Nat} (h : Nums vs os) (k : Nat) : Nums (vs.drop k) (os.drop k) := by
  refine ⟨by simp [h.1], fun i o e => ?_⟩
  rw [List.getElem?_drop] at e ⊢
  exact h.2 _ o e

section
variable {X : Cx} {A : Around}
/-- going over it gives these numbers -/
def NumSrc (X : Cx) (hb : Heap) (xv : Value) (os : List Nat) : Prop :=
  ∀ A h, A.handled = none → Keep hb h → Src X A hb xv h os.length (fun i v => ∃ (o : Nat) (t : Tok), os[i]? = some o ∧ v = .int (o : Nat) t)
theorem Src.imp {hb h : Heap} {xv : Value} {n : Nat} {V V' : Nat → Value → Prop} (s : Src X A hb xv h n V) (e : ∀ i v, i < n → V i v → V' i v) : Src X A hb xv h n V' := by
  intro tk Q q
  refine s tk Q fun I St h₂ tk₂ it st k f => q I St h₂ tk₂ ⟨fun i h tk Q hi k st q => it.item i h tk Q hi k st fun v h' tk' hv => q v h' tk' (e i v hi hv), it.done, it.self, it.frame, it.lives, it.out⟩ st k f
theorem NumSrc.list {hb : Heap} {a : Addr} {vs : List Value} {os : List Nat} (hl : Ls hb a vs) (hn : Nums vs os) : NumSrc X hb (.ref a) os := by
  intro A h hh k
  have := Src.list (X := X) hh hl k
  rw [hn.1] at this
  refine this.imp fun i v hi hv => ?_
  obtain ⟨t, e⟩ := hn.2 i os[i] (by simp [hi])
  rw [e] at hv
  cases hv
  exact ⟨_, t, by simp [hi], rfl⟩
/-- octets as bytes -/
def bytesOf (os : List Nat) : Array UInt8 := (os.map fun o => o.toUInt8).toArray
theorem NumSrc.bytes {hb : Heap} {os : List Nat} {t : Tok} (ho : ∀ o ∈ os, o < 256) : NumSrc X hb (.bytes (bytesOf os) t) os := by
  intro A h hh k tk Q q
  have hno : hb.get? h.objs.size = none := none_of_keep k (size_none h)
  refine KBw.pyIter_bytes ⟨_, tk, rfl, ?_⟩
  have hsz : (bytesOf os).size = os.length := by simp [bytesOf]
  refine q h.objs.size (fun i h' => KBw.IsBytesIter h' h.objs.size (bytesOf os) t i) _ tk ⟨?_, ?_, ?_, ?_, ?_, hno⟩ ⟨_, Heap.get?_push_size _ rfl, rfl, rfl⟩ (Keep.push _ _) (size_none h)
  · intro i h₁ tk₁ Q₁ hi k₁ st q₁
    have hx : (bytesOf os)[i]? = some (os[i].toUInt8) := by simp [bytesOf, hi]
    refine KBw.next_item st hx fun h' hit' hs' => ⟨h', _, rfl, ?_⟩
    have e : os[i].toUInt8.toNat = os[i] := by
      have := ho os[i] (List.getElem_mem hi)
      simp [Nat.toUInt8]; omega
    exact q₁ _ h' _ ⟨os[i], tk₁, by simp [hi], by rw [e]⟩ hit' hs'.extBut
  · intro h₁ tk₁ Q₁ k₁ st q₁
    exact KBw.next_end hh st (by simp [bytesOf]) fun h' he' => ⟨h', tk₁, rfl, q₁ h' tk₁ he'⟩
  · intro i h₁ tk₁ Q₁ st q₁
    exact KBw.pyIter_self st ⟨h₁, tk₁, rfl, q₁⟩
  · intro i h₁ h₂ st e
    obtain ⟨o, ho, r⟩ := st
    exact ⟨o, e o ho, r⟩
  · intro i h₁ st
    obtain ⟨o, ho, r⟩ := st
    exact ⟨o, ho⟩

/-! methods -/
theorem W_Call_method {h : Heap} {tk : Nat} {env : Env} {o e : Expr} {name : Str} {apos pos : Pos} {T id : String} {Q : Value → Heap → Nat → Prop}
    (pa : PlainAttrs T) (slot : Slot T name id) (hty : typeOf (.builtin id) = pure (.type "method_descriptor"))
    (H : W X A (eval o env) (fun ov h₁ t₁ => (S X.s h₁ t₁).TypeIs ov T ∧ (∀ a, ov = .ref a → ∃ ob, h₁.get? a = some ob ∧ ob.dict = none) ∧
      W X A (eval e env) (fun y h₂ t₂ => W X A (call (.builtin id) [ov, y]) Q h₂ t₂) h₁ t₁) h tk)
    (hbase : attributeBase o name env (eval o env) = eval o env := by rfl)
    (hfew : ((backTo pos (starEach [e] env)).all (fun x => !x.1) && (backToKw pos (keywordEach [] env)).all (fun x => x.1.isSome)
      && decide (([e] : List Expr).length + ([] : List Keyword).length + (if ([] : List Keyword).isEmpty then 0 else 1) < 30)) = true := by rfl)
    (hline : (apos.endLine == pos.line) = true := by rfl)
    (he : starEach [e] env = [(false, eval e env)] := by rfl) :
    W X A (eval (.Call (.Attribute o name apos) [e] [] pos) env) Q h tk := by
  refine wpAny_Call_method hbase hfew hline pa slot hty (W.run H fun ov h₁ t₁ q => ⟨q.1, q.2.1, ?_⟩)
  rw [he]
  exact Calls.callWith_builtin rfl (Calls.evalArgs_plain (Calls.spliced_cons (W.run q.2.2 fun y h₂ t₂ q₂ => Calls.spliced_nil q₂)))

theorem join_T' : ∀ os : List Nat, Str.join (T []) (os.map fun o => T [o]) = T os
  | [] => rfl
  | [o] => rfl
  | o :: o' :: r => by
    have ih := join_T' (o' :: r)
    rw [List.map_cons] at *
    show T [o] ++ T [] ++ Str.join (T []) _ = _
    rw [List.map_cons, ih, T_app, T_app]
    rfl
theorem join_T (os : List Nat) : Txt.join (Str.ofString "") (os.map fun o => T [o]) = T os := by
  show Builtin.Str.glued (Str.ofString "") (os.map fun o => T [o]) = _
  rw [StrLaws.glued_eq_join, show Str.ofString "" = T [] from by decide +kernel, join_T']
theorem strs_of {ys : List Value} {os : List Nat} (hl : ys.length = os.length) (hy : ∀ (i : Nat) y, ys[i]? = some y → ∃ (o : Nat) (t : Tok), os[i]? = some o ∧ y = .str (T [o]) t) : StrsAre ys (os.map fun o => T [o]) := by
  induction ys generalizing os with
  | nil => cases os with
    | nil => exact .nil
    | cons => simp at hl
  | cons y ys ih => cases os with
    | nil => simp at hl
    | cons o os =>
      obtain ⟨o', t, e, rfl⟩ := hy 0 y rfl
      simp at e; subst e
      refine StrsAre.cons _ _ (ih (by simpa using hl) fun i z ez => ?_)
      obtain ⟨o', t', e', q⟩ := hy (i + 1) z (by simpa using ez)
      exact ⟨o', t', by simpa using e', q⟩

theorem W_signs {h : Heap} {tk : Nat} {mg mb : Str → Option Value} {a : Addr} {xv : Value} {os : List Nat} {Q : Value → Heap → Nat → Prop}
    (P : PF mg mb h) (ha : mg "_law_signs" = some (.ref a)) (hh : A.handled = none) (hr : A.depth < recursionLimit) (hz : os.length ≤ 1000) (ho : ∀ o ∈ os, o < 256) (src : NumSrc X h xv os)
    (q : ∀ h' v tk', Keep h h' → Q (.str (T os) v) h' tk') :
    W X A (call (.ref a) [xv]) Q h tk := by
  obtain ⟨a', o, doc, pm, cd, ct, e1, e2, e3, e4⟩ := P.signs
  rw [e1] at ha
  cases ha
  refine W_call (binds := [("octets", xv)]) hr P.lim e2 e3 e4 rfl rfl (by rfl) (by rfl) fun h₀ hn kp => ?_
  have hzL := sizeLine_eq
  have F := Fx.new hn kp
  refine W_execs_cons (W_Return ?_)
  refine W_Call_method PySem.F.plainAttrs_str PySem.F.slot_str_join PySem.F.type_str_join ?_
  refine W_str ⟨typeIs_str _ _ _, (fun _ e => nomatch e), ?_⟩
  refine W_ListComp1 (cl := []) rfl ?_
  refine W_local F.ns rfl ⟨h, os.length, _, fun i y hx => ∃ (o : Nat) (t : Tok), os[i]? = some o ∧ y = .str (T [o]) t, F.keep, src _ _ hh F.keep, by omega, ?_, ?_⟩
  · rintro C i v h₂ t₂ m hi ⟨o, t, eo, rfl⟩ k₂ hC hn₂ hm
    have hP := P.keeps (F.keep.trans k₂)
    refine W_bi hP boot_chr (by decide) (by decide) rfl rfl ?_
    refine W_items_cons (W_local hn₂ hm (W_items_nil (W_chr (by omega) ?_ ⟨fun _ _ e => e, fun hx _ _ => ⟨o, _, eo, by simp; rfl⟩⟩)))
    have := ho o (List.mem_of_getElem? eo)
    omega
  · intro D h' t' ys hlen k' hD hl hg
    have hs := strs_of hlen (fun i y e => hg h' (F.keep.trans k') (Fresh.self _ _) i y e)
    refine join_list hl.isList (by simpa using hs) ?_ fun t'' k'' => ⟨h', k'', rfl, ?_⟩
    · have e1 : (Str.ofString "").length = 0 := by decide +kernel
      rw [e1]
      have e2 : ((os.map fun o => T [o]).map (·.length)).sum = os.length := by
        clear hg hs src ho hlen q
        induction os with
        | nil => rfl
        | cons o os ih =>
          have ih := ih (by simp at hz; omega)
          simp only [List.map_cons, List.sum_cons, List.length_cons] at ih ⊢
          rw [ih, T_len]; simp; omega
      rw [e2]; omega
    · rw [join_T]
      exact q _ _ _ (F.keep.trans k')
end
end Mine

end
section
open PySem PySem.W PyProof.Rows
set_option Elab.async false
set_option linter.unusedVariables false
set_option maxRecDepth 100000
namespace Mine
section
variable {X : Cx} {A : Around}
/-- the page of a stage -/
def pageL (os : List Nat) : List Nat := os.take (os.length / 2) ++ ([45, 45, 45, 45] ++ os.drop (os.length / 2))

theorem slice_upto {vs : List Value} {j : Nat} (hj : j ≤ vs.length) : slicePick vs.toArray none (some (j : Int)) none = (vs.take j).toArray := by
  rw [slicePick_upto _ _ (by simpa using hj)]
theorem slice_from {vs : List Value} {j : Nat} (hj : j ≤ vs.length) : slicePick vs.toArray (some (j : Int)) none none = (vs.drop j).toArray := by
  rw [slicePick_from _ _ (by simpa using hj)]

theorem W_page {h : Heap} {tk : Nat} {mg mb : Str → Option Value} {a l : Addr} {vs : List Value} {os : List Nat} {Q : Value → Heap → Nat → Prop}
    (P : PF mg mb h) (ha : mg "_law_page" = some (.ref a)) (hh : A.handled = none) (hr : A.depth + 1 < recursionLimit) (hz : os.length ≤ 100) (ho : ∀ o ∈ os, o < 256) (hl : Ls h l vs) (hv : Nums vs os)
    (q : ∀ h' v tk', Keep h h' → Q (.str (T (pageL os)) v) h' tk') :
    W X A (call (.ref a) [.ref l]) Q h tk := by
  obtain ⟨a', o, doc, pm, cd, ct, e1, e2, e3, e4⟩ := P.page
  rw [e1] at ha
  cases ha
  refine W_call (binds := [("stage", .ref l)]) (by omega) P.lim e2 e3 e4 rfl rfl (by rfl) (by rfl) fun h₀ hn kp => ?_
  have hzL := sizeLine_eq
  have F := Fx.new hn kp
  have hlen := hv.1
  have hP := P.keeps F.keep
  refine W_execs_cons (W_Assign_Name (W_BinOp (W_bi hP boot_len (by decide) (by decide) rfl rfl ?_)))
  refine W_items_cons (W_local F.ns rfl (W_items_nil (W_len_list (hl.keeps F.keep) (by omega) (W_int ?_))))
  refine W_div (by decide) (PyProof.noPylong_small (by omega)) ?_
  have eh : ((vs.length : Nat) : Int).fdiv 2 = ((os.length / 2 : Nat) : Int) := by
    rw [hlen, Int.fdiv_eq_ediv_of_nonneg _ (by decide)]; omega
  rw [eh]
  refine W_store_local F.ns fun h₂ hn₂ hs₂ => ?_
  have F₂ := F.set hn₂ hs₂
  have hP₂ := P.keeps F₂.keep
  have hj : os.length / 2 ≤ vs.length := by omega
  refine W_execs_cons (W_Return (W_BinOp (W_BinOp ?_)))
  refine W_fn hP₂ hP₂.signs rfl fun a₁ ha₁ => ?_
  refine W_items_cons (W_Subscript list_getitem_lookup ?_)
  refine W_local F₂.ns rfl (W_Slice (W_part_none (W_part_some (W_local F₂.ns rfl ⟨((hl.keeps F₂.keep).keeps (Keep.push _ _)).typeIs, ?_⟩))))
  refine W_list_slice (hl.keeps F₂.keep) (by omega) .none (.int _ _) fun h₃ D k₃ _ hD => W_items_nil ⟨k₃, ?_⟩
  rw [slice_upto hj] at hD
  have F₃ := F₂.keeps k₃
  refine W_signs (os := os.take (os.length / 2)) (P.keeps F₃.keep) ha₁ hh (by exact hr) (by simp; omega) (fun o hm => ho o (List.mem_of_mem_take hm)) (NumSrc.list hD (hv.take _)) fun h₄ t₄ tk₄ k₄ => ?_
  have F₄ := F₃.keeps k₄
  refine W_str (W_add_str (b := [45, 45, 45, 45]) ?_ fun t₅ tk₅ => ?_)
  · simp; omega
  have hP₄ := P.keeps F₄.keep
  refine W_fn hP₄ hP₄.signs rfl fun a₂ ha₂ => ?_
  refine W_items_cons (W_Subscript list_getitem_lookup ?_)
  refine W_local F₄.ns rfl (W_Slice (W_part_some (W_local F₄.ns rfl (W_part_none ⟨((hl.keeps F₄.keep).keeps (Keep.push _ _)).typeIs, ?_⟩))))
  refine W_list_slice (hl.keeps F₄.keep) (by omega) (.int _ _) .none fun h₅ D₂ k₅ _ hD₂ => W_items_nil ⟨k₅, ?_⟩
  rw [slice_from hj] at hD₂
  have F₅ := F₄.keeps k₅
  refine W_signs (os := os.drop (os.length / 2)) (P.keeps F₅.keep) ha₂ hh (by exact hr) (by simp; omega) (fun o hm => ho o (List.mem_of_mem_drop hm)) (NumSrc.list hD₂ (hv.drop _)) fun h₆ t₆ tk₆ k₆ => ?_
  refine W_add_str ?_ fun t₇ tk₇ => ?_
  · simp; omega
  have e : os.take (os.length / 2) ++ [45, 45, 45, 45] ++ os.drop (os.length / 2) = pageL os := by simp [pageL]
  rw [e]
  exact q _ _ _ (F₅.keeps k₆).keep
end
end Mine

end
section
open PySem PySem.W PyProof.Rows
set_option Elab.async false
set_option linter.unusedVariables false
set_option maxRecDepth 100000
namespace Mine

theorem Fx.extBut {hc h h' : Heap} {L I : Addr} {m : Str → Option Value} (F : Fx hc L h m) (ex : Heap.ExtBut I h h') (hL : L ≠ I) (hI : hc.get? I = none) : Fx hc L h' m :=
  ⟨F.ns.extBut ex hL, fun b o e => ex b o (fun q => by rw [q, hI] at e; cases e) (F.keep b o e), F.out⟩
theorem Fx.live {hc h : Heap} {L : Addr} {m : Str → Option Value} (F : Fx hc L h m) : ∃ o, h.get? L = some o := let ⟨o, _, _, e, _⟩ := F.ns; ⟨o, e⟩
theorem plainL_live {h : Heap} {a : Addr} {vs : Array Value} (F : PlainL h a vs) : ∃ o, h.get? a = some o := let ⟨o, _, e, _⟩ := F; ⟨o, e⟩
theorem ne_of_live {h : Heap} {a b : Addr} (l : ∃ o, h.get? a = some o) (n : h.get? b = none) : a ≠ b := by
  rintro rfl; obtain ⟨o, e⟩ := l; rw [n] at e; cases e
theorem m_set {m : Str → Option Value} {x y : Str} {v : Value} {w : Option Value} (e : m y = w) (h : y ≠ x) : (fun z => if z = x then some v else m z) y = w := by
  show (if y = x then some v else m y) = w
  rw [if_neg h]; exact e

section
variable {X : Cx} {A : Around} {env : Env} {h : Heap} {tk : Nat}
theorem W_Assign_Subscript {o i pos' value pos} {Q : Flow → Heap → Nat → Prop}
    (H : W X A (eval value env) (fun v h₁ t₁ => W X A (eval o env) (fun ov h₂ t₂ => W X A (eval i env) (fun iv h₃ t₃ =>
      W X A (setItem ov iv v) (fun _ => Q .next) h₃ t₃) h₂ t₂) h₁ t₁) h tk)
    (hs : swapsWith value (some (.Subscript o i pos')) pos.line env = pure false := by rfl) :
    W X A (exec (.Assign [.Subscript o i pos'] value pos) env) Q h tk :=
  wpAny_Assign_Subscript (W.run H fun _ _ _ q => W.run q fun _ _ _ q => W.run q fun _ _ _ q => q) hs
theorem W_setItem_list {l : Addr} {vs : List Value} {k : Int} {t : Tok} {v : Value} {Q : Unit → Heap → Nat → Prop} (hl : Ls h l vs) (h0 : 0 ≤ k) (hn : k < vs.length) (hz : vs.length ≤ 1000000)
    (q : ∀ h', Ls h' l (vs.set k.toNat v) → Heap.SameBut l h h' → Q () h' tk) : W X A (setItem (.ref l) (.int k t) v) Q h tk := by
  refine wpAny_setItem_list hl.isList h0 (by omega) (by simpa using hn) fun h' hl' hs' => ⟨h', tk, rfl, q h' ?_ hs'⟩
  show h'.IsList l _
  simpa using hl'
end

/-- where the card of place i (counted from 0) lies after k deals -/
def place (n k i : Nat) : Nat := min ((i + 1) * 2 ^ k % (2 * n + 1)) (2 * n + 1 - (i + 1) * 2 ^ k % (2 * n + 1)) - 1
def dealStep (os : List Nat) (k : Nat) (st : List Nat) (i : Nat) : List Nat := st.set (place os.length k i) (os.getD i 0)
def dealtN (os : List Nat) (k : Nat) : Nat → List Nat
  | 0 => os
  | i + 1 => dealStep os k (dealtN os k i) i
/-- the pack k deals on -/
def dealtL (os : List Nat) (k : Nat) : List Nat := dealtN os k os.length
theorem dealtN_length (os : List Nat) (k : Nat) : ∀ i, (dealtN os k i).length = os.length
  | 0 => rfl
  | i + 1 => by simp [dealtN, dealStep, dealtN_length os k i]
theorem Nums.set {vs : List Value} {os : List Nat} (h : Nums vs os) (j : Nat) (o : Nat) (t : Tok) : Nums (vs.set j (.int (o : Nat) t)) (os.set j o) := by
  refine ⟨by simp [h.1], fun i o' e => ?_⟩
  rw [List.getElem?_set] at e ⊢
  by_cases c : j = i
  · rw [if_pos c] at e ⊢
    rw [h.1]
    by_cases c2 : j < os.length
    · rw [if_pos c2] at e ⊢; cases e; exact ⟨t, rfl⟩
    · rw [if_neg c2] at e; cases e
  · rw [if_neg c] at e ⊢
    exact h.2 i o' e

theorem rest_cast (n k i : Nat) : (((i : Nat) : Int) + 1) * 2 ^ ((k : Nat) : Int).toNat = (((i + 1) * 2 ^ k : Nat) : Int) := by
  simp
theorem rest_mod (n k i : Nat) : Int.fmod ((((i : Nat) : Int) + 1) * 2 ^ ((k : Nat) : Int).toNat) (2 * ((n : Nat) : Int) + 1) = (((i + 1) * 2 ^ k % (2 * n + 1) : Nat) : Int) := by
  rw [rest_cast n k i, show (2 * ((n : Nat) : Int) + 1) = ((2 * n + 1 : Nat) : Int) by simp, Int.fmod_eq_emod_of_nonneg _ (by omega), Int.natCast_emod]
theorem place_cast {n k i : Nat} (h : (i + 1) * 2 ^ k % (2 * n + 1) ≠ 0) :
    min (((i + 1) * 2 ^ k % (2 * n + 1) : Nat) : Int) (2 * ((n : Nat) : Int) + 1 - (((i + 1) * 2 ^ k % (2 * n + 1) : Nat) : Int)) - 1 = ((place n k i : Nat) : Int) ∧ place n k i < n := by
  have := Nat.mod_lt ((i + 1) * 2 ^ k) (show 0 < 2 * n + 1 by omega)
  unfold place
  generalize (i + 1) * 2 ^ k % (2 * n + 1) = r at *
  omega

section
variable {X : Cx} {A : Around}
theorem W_dealt {h : Heap} {tk : Nat} {mg mb : Str → Option Value} {a l : Addr} {vs : List Value} {os : List Nat} {k : Nat} {t : Tok} {Q : Value → Heap → Nat → Prop}
    (P : PF mg mb h) (ha : mg "_law_dealt" = some (.ref a)) (hh : A.handled = none) (hr : A.depth < recursionLimit) (hz : os.length ≤ 8) (hk : k ≤ 100)
    (hrest : ∀ i, i < os.length → (i + 1) * 2 ^ k % (2 * os.length + 1) ≠ 0) (hl : Ls h l vs) (hv : Nums vs os)
    (q : ∀ h' D ws tk', Keep h h' → h.get? D = none → Ls h' D ws → Nums ws (dealtL os k) → Q (.ref D) h' tk') :
    W X A (call (.ref a) [.ref l, .int (k : Nat) t]) Q h tk := by
  obtain ⟨a', o, doc, pm, cd, ct, e1, e2, e3, e4⟩ := P.dealt
  rw [e1] at ha
  cases ha
  refine W_call (binds := [("pack", .ref l), ("deals", .int (k : Nat) t)]) hr P.lim e2 e3 e4 rfl rfl (by rfl) (by rfl) fun h₀ hn kp => ?_
  have hzL := sizeLine_eq
  have F := Fx.new hn kp
  have hlen := hv.1
  have hP := P.keeps F.keep
  refine W_execs_cons (W_Assign_Name (W_bi hP boot_len (by decide) (by decide) rfl rfl ?_))
  refine W_items_cons (W_local F.ns rfl (W_items_nil (W_len_list (hl.keeps F.keep) (by omega) ?_)))
  refine W_store_local F.ns fun h₂ hn₂ hs₂ => ?_
  have F₂ := F.set hn₂ hs₂
  refine W_execs_cons (W_Assign_Name (W_ty (P.keeps F₂.keep) boot_list (by decide) (by decide) rfl rfl ?_))
  refine W_items_cons (W_local F₂.ns rfl (W_items_nil (W_list_copy (hl.keeps F₂.keep) (by omega) fun h₃ D k₃ fD hD => ?_)))
  have F₃ := F₂.keeps k₃
  refine W_store_local F₃.ns fun h₄ hn₄ hs₄ => ?_
  have F₄ := F₃.set hn₄ hs₄
  have hD0 : h.get? D = none := none_of_keep F₂.keep fD
  have hDL : D ≠ h.objs.size := (ne_of_live F₂.live fD).symm
  have hD₄ : Ls h₄ D vs := hD.extBut hs₄.extBut hDL
  refine W_execs_cons (W_For (W_ty (P.keeps F₄.keep) boot_range (by decide) (by decide) rfl rfl ?_))
  refine W_items_cons (W_local F₄.ns rfl (W_items_nil (W_range hh (by omega) (by omega) fun r h₅ t₅ k₅ src => ?_)))
  have F₅ := F₄.keeps k₅
  refine ⟨h, _, _, src h F₅.keep, fun I St h₆ it st k₆ fI => ?_⟩
  have hLI : h.objs.size ≠ I := ne_of_live F₅.live fI
  have hDI : D ≠ I := ne_of_live (hD₄.keeps k₅).live fI
  refine ⟨fun i h' => ∃ m ws, Fx h h.objs.size h' m ∧ m "pack" = some (.ref l) ∧ (∃ t, m "deals" = some (.int (k : Nat) t)) ∧ (∃ t, m "size" = some (.int (os.length : Nat) t)) ∧ m "stage" = some (.ref D) ∧ Ls h' D ws ∧ Nums ws (dealtN os k i), ?_, ?_, ?_, ?_, ?_⟩
  · rintro i h₇ h₈ ⟨m, ws, F, a1, a2, a3, a4, a5, a6⟩ ex
    exact ⟨m, ws, F.extBut ex hLI it.out, a1, a2, a3, a4, a5.extBut ex hDI, a6⟩
  · rintro i h₇ ⟨m, ws, F, _⟩
    exact F.keep
  · exact ⟨_, vs, F₅.keeps k₆, rfl, ⟨_, rfl⟩, ⟨_, by rw [← hlen]; rfl⟩, rfl, (hD₄.keeps k₅).keeps k₆, hv⟩
  · rintro i v h₇ t₇ hi ⟨ti, rfl⟩ ⟨m, ws, F₇, a1, ⟨td, a2⟩, ⟨tz, a3⟩, a4, a5, a6⟩ live
    have hi' : i < os.length := by simp [hlen] at hi; exact hi
    refine W_store_local F₇.ns fun h₈ hn₈ hs₈ => ?_
    have F₈ := F₇.set hn₈ hs₈
    refine W_execs_cons (W_Assign_Name (W_BinOp (W_BinOp (W_BinOp (W_local F₈.ns rfl (W_int (W_add ?_)))))))
    refine W_BinOp (W_int (W_local F₈.ns a2 (W_pow (by omega) (by omega) (by decide) ?_)))
    refine W_mul ?_ (IntMulOk.of_left (intBits_le_64 (by omega) (by omega)))
    refine W_BinOp (W_BinOp (W_int (W_local F₈.ns a3 (W_mul (W_int (W_add ?_)) (IntMulOk.of_left (intBits_le_64 (by omega) (by omega)))))))
    refine W_mod (by omega) ?_
    rw [rest_mod]
    refine W_store_local F₈.ns fun h₉ hn₉ hs₉ => ?_
    have F₉ := F₈.set hn₉ hs₉
    obtain ⟨hp, hlt⟩ := place_cast (hrest i hi')
    obtain ⟨tv, ev⟩ := hv.2 i (os[i]) (by simp [hi'])
    refine W_execs_cons (W_Assign_Subscript (W_Subscript list_getitem_lookup ?_))
    refine W_local F₉.ns a1 (W_local F₉.ns rfl ⟨(hl.keeps F₉.keep).typeIs, ?_⟩)
    refine W_list_item (hl.keeps F₉.keep) (by omega) (by omega) (by simpa using ev) ?_
    refine W_local F₉.ns a4 ?_
    refine W_BinOp (W_bi (P.keeps F₉.keep) boot_min (by decide) (by decide) rfl rfl ?_)
    refine W_items_cons (W_local F₉.ns rfl (W_items_cons (W_BinOp (W_BinOp (W_BinOp (W_int (W_local F₉.ns a3 (W_mul ?_ (IntMulOk.of_left (intBits_le_64 (by omega) (by omega)))))))))))
    refine W_int (W_add (W_local F₉.ns rfl (W_sub (W_items_nil (W_min hh fun hA tA vA kA => W_int (W_sub ?_))))))
    rw [hp]
    have F₁ := F₉.keeps kA
    have dL : D ≠ h.objs.size := hDL
    have d₉ : Ls h₉ D ws := (a5.extBut hs₈.extBut dL).extBut hs₉.extBut dL
    refine W_setItem_list (d₉.keeps kA) (by omega) ?_ ?_ fun hB lB sB => ?_
    · rw [a6.1, dealtN_length]; omega
    · rw [a6.1, dealtN_length]; omega
    refine W_execs_nil ⟨⟨_, _, ⟨F₁.ns.sameBut sB dL.symm, fun b o e => sB.extBut b o (fun q => by rw [q, hD0] at e; cases e) (F₁.keep b o e), F₁.out⟩, m_set a1 (by decide), ⟨_, m_set a2 (by decide)⟩, ⟨_, m_set a3 (by decide)⟩, m_set a4 (by decide), lB, ?_⟩, ?_⟩
    · have := a6.set (place os.length k i) os[i] tv
      have e : os.getD i 0 = os[i] := by simp [hi']
      show Nums _ (dealStep os k (dealtN os k i) i)
      unfold dealStep
      rw [e]
      simpa using this
    · exact fun o e => sB.extBut I o hDI.symm (kA _ _ (hs₉.extBut I o hLI.symm (hs₈.extBut I o hLI.symm e)))
  · rintro h' tk' ⟨m, ws, F', a1, a2, a3, a4, a5, a6⟩
    refine W_execs_cons (W_Return (W_local F'.ns a4 ?_))
    have e : (((vs.length : Nat) : Int)).toNat = os.length := by rw [hlen]; simp
    rw [e] at a6
    exact q _ _ _ _ F'.keep hD0 a5 a6
end
end Mine

end
section
open PySem PySem.W PyProof.Rows
set_option Elab.async false
set_option linter.unusedVariables false
set_option maxRecDepth 100000
namespace Mine

/-- the items at the places that p tells, of the first i -/
def sel {α : Type} (vs : List α) (p : Nat → Bool) : Nat → List α
  | 0 => []
  | i + 1 => sel vs p i ++ (if p i = true then vs[i]?.toList else [])
theorem sel_length_le {α : Type} (vs : List α) (p : Nat → Bool) : ∀ i, (sel vs p i).length ≤ i
  | 0 => Nat.le_refl _
  | i + 1 => by
    have := sel_length_le vs p i
    simp only [sel, List.length_append]
    split
    · cases vs[i]? <;> simp <;> omega
    · simp; omega

/-- a pair of these two -/
def Tp (h : Heap) (a : Addr) (vs : List Value) : Prop := IsTup h a vs.toArray
theorem Tp.keeps {h h' : Heap} {a : Addr} {vs : List Value} (x : Tp h a vs) (k : Keep h h') : Tp h' a vs := let ⟨o, ho, r⟩ := x; ⟨o, k a o ho, r⟩

section
variable {X : Cx} {A : Around} {env : Env} {h : Heap} {tk : Nat}
theorem W_isTrue {e : Expr} {whole : Sem Value} {Q : Bool → Heap → Nat → Prop} (H : W X A whole (fun v h₁ t₁ => W X A (truthy v) Q h₁ t₁) h tk)
    (he : isTrue e env whole = (do let v ← whole; standAt e.pos; holding [v] (truthy v)) := by rfl) : W X A (isTrue e env whole) Q h tk :=
  wpAny_isTrue_value (W.run H fun _ _ _ q => q) he
theorem W_Expr {e pos} {Q : Flow → Heap → Nat → Prop} (H : W X A (eval e env) (fun v h₁ t₁ => v = .none ∧ Q .next h₁ t₁) h tk)
    (hi : interactive env = false := by rfl) (hs : swapsWith e none pos.line env = pure false := by rfl) : W X A (exec (.Expr e pos) env) Q h tk :=
  wpAny_Expr (W.run H fun v h₁ t₁ q => by obtain ⟨rfl, q⟩ := q; exact ⟨h₁, t₁, rfl, q⟩) hi hs
theorem W_List {elts pos} {Q : Value → Heap → Nat → Prop} (H : W X A (spliced (backTo pos (starEach elts env))) (fun vs h₁ t₁ => vs.length ≤ sizeLine ∧ ∀ h' D, Keep h₁ h' → h₁.get? D = none → PlainL h' D vs.toArray → Q (.ref D) h' t₁) h tk) :
    W X A (eval (.List elts pos) env) Q h tk :=
  wpAny_List (W.run H fun vs h₁ t₁ q => ⟨q.1, _, t₁, rfl, q.2 _ _ (Keep.push _ _) (size_none _) ⟨_, 0, Heap.get?_push_size _ rfl, rfl, rfl, rfl⟩⟩)
theorem W_Tuple {elts k pos} {Q : Value → Heap → Nat → Prop} (H : W X A (spliced (backTo pos (starEach elts env))) (fun vs h₁ t₁ => vs.length ≤ sizeLine ∧ ∀ h' D, Keep h₁ h' → h₁.get? D = none → Tp h' D vs → Q (.ref D) h' t₁) h tk) :
    W X A (eval (.Tuple elts k pos) env) Q h tk :=
  wpAny_Tuple (W.run H fun vs h₁ t₁ q => ⟨q.1, _, t₁, rfl, q.2 _ _ (Keep.push _ _) (size_none _) ⟨_, Heap.get?_push_size _ rfl, rfl, 0, rfl⟩⟩)
theorem W_truthy_list {l : Addr} {vs : List Value} {Q : Bool → Heap → Nat → Prop} (hl : Ls h l vs) (hz : vs.length ≤ sizeLine) (q : Q (!vs.isEmpty) h (tk + 1 + 1)) : W X A (truthy (.ref l)) Q h tk :=
  wpAny_truthy_list hl.isList (by simp; have := sizeLine_eq; omega) ⟨h, _, rfl, by simpa using q⟩
theorem W_append {o e : Expr} {apos pos : Pos} {Q : Value → Heap → Nat → Prop}
    (H : W X A (eval o env) (fun ov h₁ t₁ => ∃ D vs, ov = .ref D ∧ PlainL h₁ D vs ∧ W X A (eval e env) (fun y h₂ t₂ => PlainL h₂ D vs ∧ vs.size ≤ 1000000 ∧ ∀ h', PlainL h' D (vs.push y) → Heap.SameBut D h₂ h' → Q .none h' t₂) h₁ t₁) h tk)
    (hbase : attributeBase o "append" env (eval o env) = eval o env := by rfl)
    (hfew : ((backTo pos (starEach [e] env)).all (fun x => !x.1) && (backToKw pos (keywordEach [] env)).all (fun x => x.1.isSome)
      && decide (([e] : List Expr).length + ([] : List Keyword).length + (if ([] : List Keyword).isEmpty then 0 else 1) < 30)) = true := by rfl)
    (hline : (apos.endLine == pos.line) = true := by rfl)
    (he : backTo pos (starEach [e] env) = [(false, eval e env)] := by rfl) :
    W X A (eval (.Call (.Attribute o "append" apos) [e] [] pos) env) Q h tk := by
  refine wpAny_Call_append hbase hfew hline he (W.run H fun ov h₁ t₁ q => ?_)
  obtain ⟨D, vs, rfl, hD, q⟩ := q
  refine ⟨D, vs, rfl, hD, W.run q fun y h₂ t₂ q₂ => ?_⟩
  exact list_append_plainL q₂.1 (fun h' hl' hs' => ⟨h', t₂, rfl, q₂.2.2 h' hl' hs'⟩) (by have := sizeLine_eq; have := q₂.2.1; omega)

theorem W_split {mg mb : Str → Option Value} {a l f : Addr} {vs : List Value} {of : Obj} {fd : FuncData} {p : Nat → Bool} {Q : Value → Heap → Nat → Prop}
    (P : PF mg mb h) (ha : mg "_split_list" = some (.ref a)) (hh : A.handled = none) (hr : A.depth < recursionLimit) (hz : vs.length ≤ 1000000)
    (hl : Ls h l vs) (hf : h.get? f = some of) (hfd : of.data = .func fd)
    (hp : ∀ A' h' tk' i v, A'.handled = none → A'.depth = A.depth + 1 → Keep h h' → vs[i]? = some v →
      W X A' (call (.ref f) [v]) (fun r h₂ t₂ => Keep h' h₂ ∧ W X A' (truthy r) (fun b h₃ t₃ => b = p i ∧ Keep h₂ h₃) h₂ t₂) h' tk')
    (q : ∀ h' T Y N tk', Keep h h' → h.get? T = none → h.get? Y = none → h.get? N = none → Tp h' T [.ref Y, .ref N] → Ls h' Y (sel vs p vs.length) → Ls h' N (sel vs (fun i => !p i) vs.length) → Q (.ref T) h' tk') :
    W X A (call (.ref a) [.ref l, .ref f]) Q h tk := by
  obtain ⟨a', o, doc, pm, cd, ct, e1, e2, e3, e4⟩ := P.split
  rw [e1] at ha
  cases ha
  refine W_call (binds := [("s", .ref l), ("predicate", .ref f)]) hr P.lim e2 e3 e4 rfl rfl (by rfl) (by rfl) fun h₀ hn kp => ?_
  have hzL := sizeLine_eq
  have F := Fx.new hn kp
  refine W_execs_cons (W_Assign_Name (W_List (W_items_nil ⟨by simp, fun h₁ Y k₁ fY lY => ?_⟩)))
  have F₁ := F.keeps k₁
  refine W_store_local F₁.ns fun h₂ hn₂ hs₂ => ?_
  have F₂ := F₁.set hn₂ hs₂
  have hYL : Y ≠ h.objs.size := (ne_of_live F.live fY).symm
  have lY₂ : PlainL h₂ Y #[] := lY.extBut hs₂.extBut hYL
  refine W_execs_cons (W_Assign_Name (W_List (W_items_nil ⟨by simp, fun h₃ N k₃ fN lN => ?_⟩)))
  have F₃ := F₂.keeps k₃
  refine W_store_local F₃.ns fun h₄ hn₄ hs₄ => ?_
  have F₄ := F₃.set hn₄ hs₄
  have hNL : N ≠ h.objs.size := (ne_of_live F₂.live fN).symm
  have hYN : Y ≠ N := ne_of_live (plainL_live lY₂) fN
  have lN₄ : PlainL h₄ N #[] := lN.extBut hs₄.extBut hNL
  have lY₄ : PlainL h₄ Y #[] := (lY₂.keeps k₃).extBut hs₄.extBut hYL
  have fY0 : h.get? Y = none := none_of_keep F.keep fY
  have fN0 : h.get? N = none := none_of_keep F₂.keep fN
  refine W_execs_cons (W_For (W_local F₄.ns rfl ?_))
  refine ⟨h, _, _, Src.list hh hl F₄.keep, fun I St h₆ it st k₆ fI => ?_⟩
  have hLI : h.objs.size ≠ I := ne_of_live F₄.live fI
  have hYI : Y ≠ I := ne_of_live (plainL_live lY₄) fI
  have hNI : N ≠ I := ne_of_live (plainL_live lN₄) fI
  refine ⟨fun i h' => ∃ m, Fx h h.objs.size h' m ∧ m "predicate" = some (.ref f) ∧ m "yes" = some (.ref Y) ∧ m "no" = some (.ref N) ∧ PlainL h' Y (sel vs p i).toArray ∧ PlainL h' N (sel vs (fun i => !p i) i).toArray, ?_, ?_, ?_, ?_, ?_⟩
  · rintro i h₇ h₈ ⟨m, F, a1, a2, a3, a4, a5⟩ ex
    exact ⟨m, F.extBut ex hLI it.out, a1, a2, a3, a4.extBut ex hYI, a5.extBut ex hNI⟩
  · rintro i h₇ ⟨m, F, _⟩
    exact F.keep
  · exact ⟨_, F₄.keeps k₆, rfl, rfl, rfl, lY₄.keeps k₆, lN₄.keeps k₆⟩
  · rintro i v h₇ t₇ hi hv ⟨m, F₇, a1, a2, a3, a4, a5⟩ live
    refine W_store_local F₇.ns fun h₈ hn₈ hs₈ => ?_
    have F₈ := F₇.set hn₈ hs₈
    have lY₈ := a4.extBut hs₈.extBut hYL
    have lN₈ := a5.extBut hs₈.extBut hNL
    have z1 := sel_length_le vs p i
    have z2 := sel_length_le vs (fun i => !p i) i
    refine W_execs_cons (W_If (W_isTrue (W_Call_def (a := f) (o := of) (fd := fd) (W_local F₈.ns a1 ⟨rfl, ?_⟩))))
    refine W_items_cons (W_local F₈.ns rfl (W_items_nil ⟨⟨F₈.keep _ _ hf, hfd⟩, ?_⟩))
    refine W.mono (hp _ h₈ _ i v hh rfl F₈.keep hv) fun r h₉ t₉ q₉ => W.mono q₉.2 fun b hA tA qA => ?_
    obtain ⟨rfl, kA⟩ := qA
    have kk := q₉.1.trans kA
    have FA := F₈.keeps kk
    have lYA := lY₈.keeps kk
    have lNA := lN₈.keeps kk
    have hI8 : ∀ o, h₇.get? I = some o → hA.get? I = some o := fun o e => kk _ _ (hs₈.extBut I o hLI.symm e)
    cases hpi : p i with
    | true =>
      rw [if_pos rfl]
      refine W_execs_cons (W_Expr (W_append (W_local FA.ns a2 ⟨Y, _, rfl, lYA, W_local FA.ns rfl ⟨lYA, by simp; omega, fun hB lB sB => ⟨rfl, ?_⟩⟩⟩)))
      refine W_execs_nil (W_execs_nil ⟨⟨_, ⟨FA.ns.sameBut sB hYL.symm, fun b o e => sB.extBut b o (fun q => by rw [q, fY0] at e; cases e) (FA.keep b o e), FA.out⟩, a1, a2, a3, ?_, ?_⟩, ?_⟩)
      · have e : sel vs p (i + 1) = sel vs p i ++ [v] := by simp [sel, hpi, hv]
        rw [e]; simpa using lB
      · have e : sel vs (fun i => !p i) (i + 1) = sel vs (fun i => !p i) i := by simp [sel, hpi]
        rw [e]; exact lNA.extBut sB.extBut hYN.symm
      · exact fun o e => sB.extBut I o hYI.symm (hI8 o e)
    | false =>
      rw [if_neg (by decide)]
      refine W_execs_cons (W_Expr (W_append (W_local FA.ns a3 ⟨N, _, rfl, lNA, W_local FA.ns rfl ⟨lNA, by simp; omega, fun hB lB sB => ⟨rfl, ?_⟩⟩⟩)))
      refine W_execs_nil (W_execs_nil ⟨⟨_, ⟨FA.ns.sameBut sB hNL.symm, fun b o e => sB.extBut b o (fun q => by rw [q, fN0] at e; cases e) (FA.keep b o e), FA.out⟩, a1, a2, a3, ?_, ?_⟩, ?_⟩)
      · have e : sel vs p (i + 1) = sel vs p i := by simp [sel, hpi]
        rw [e]; exact lYA.extBut sB.extBut hYN
      · have e : sel vs (fun i => !p i) (i + 1) = sel vs (fun i => !p i) i ++ [v] := by simp [sel, hpi, hv]
        rw [e]; simpa using lB
      · exact fun o e => sB.extBut I o hNI.symm (hI8 o e)
  · rintro h' tk' ⟨m, F', a1, a2, a3, a4, a5⟩
    refine W_execs_cons (W_Return (W_Tuple (W_items_cons (W_local F'.ns a2 (W_items_cons (W_local F'.ns a3 (W_items_nil ⟨by simp; omega, fun h'' T k'' fT hT => ?_⟩)))))))
    exact q _ _ _ _ _ (F'.keep.trans k'') (none_of_keep F'.keep fT) fY0 fN0 hT ((ls_of a4).keeps k'') ((ls_of a5).keeps k'')
end
end Mine

end
section
open PySem PySem.W PyProof.Rows
set_option Elab.async false
set_option linter.unusedVariables false
set_option maxRecDepth 100000
namespace Mine

/-- a decoder that holds what it decodes -/
def decodes : Code → Bool
  | .builtin id _ => Builtin.Bytes.decodersThatHold.contains id
  | _ => false
/-- no decoder is at work -/
def Clean (Γ : Ctx) : Prop := decodes Γ.code = false ∧ ∀ c ∈ Γ.below, decodes c.1 = false

def wpC {α : Type} (M : Model) (A : Around) (t : Sem α) (Q : α → Shared → Prop) (E : Value → Shared → Prop) (s : Shared) : Prop :=
  ∀ Γ p, Γ.In A → Clean Γ → Sem.wp M Γ t (fun a _ s' => Q a s') (fun e _ s' => E e s') p s
def codeC (M : Model) (A : Around) (c : Code) (R : Result → Shared → Prop) (s : Shared) : Prop :=
  ∀ Γ p, Γ.code = c → Γ.Below A → Clean Γ → wpCode M Γ R p s

section
variable {α β : Type} {M : Model} {A : Around} {E : Value → Shared → Prop} {s : Shared}
theorem wpC_of {t : Sem α} {Q : α → Shared → Prop} (h : wpAny M A t Q E s) : wpC M A t Q E s := fun Γ p hΓ _ => h Γ p hΓ
theorem codeC_of {c : Code} {R : Result → Shared → Prop} (h : codeAny M A c R s) : codeC M A c R s := fun Γ p hc hΓ _ => h Γ p hc hΓ
theorem wpC_mono {t : Sem α} {Q Q' : α → Shared → Prop} {E' : Value → Shared → Prop} (h : wpC M A t Q E s)
    (hQ : ∀ a s, Q a s → Q' a s) (hE : ∀ e s, E e s → E' e s) : wpC M A t Q' E' s :=
  fun Γ p hΓ hc => Sem.wp_mono M Γ t (fun a _ s => hQ a s) (fun e _ s => hE e s) p s (h Γ p hΓ hc)
theorem wpC_bind {m : Sem α} {f : α → Sem β} {Q : β → Shared → Prop} (h : wpC M A m (fun a s' => wpC M A (f a) Q E s') E s) : wpC M A (m >>= f) Q E s := fun Γ p hΓ hc => by
  rw [Sem.wp_bind']
  exact Sem.wp_mono M Γ m (fun a p' s' h' => h' Γ p' hΓ hc) (fun _ _ _ h' => h') p s (h Γ p hΓ hc)
/-- a part that asks nothing of the stack, then the rest -/
theorem wpC_seq {m : Sem α} {f : α → Sem β} {Q : β → Shared → Prop} (h : wpAny M A m (fun a s' => wpC M A (f a) Q E s') E s) : wpC M A (m >>= f) Q E s := wpC_bind (wpC_of h)
theorem wpC_onRaise {m : Sem α} {k : Value → Sem Unit} {Q : α → Shared → Prop}
    (h : wpC M A m Q (fun e s' => wpC M A (k e) (fun _ s'' => E e s'') E s') s) : wpC M A (m.onRaise k) Q E s := fun Γ p hΓ hc => by
  rw [Sem.wp_onRaise]
  exact Sem.wp_mono M Γ m (fun _ _ _ h' => h') (fun e p' s' h' => h' Γ p' hΓ hc) p s (h Γ p hΓ hc)
theorem wpC_holding {vs : List Value} {m : Sem α} {Q : α → Shared → Prop} (h : wpC M A m Q E s) : wpC M A (holding vs m) Q E s :=
  fun Γ p hΓ hc => by rw [Sem.wp_holding]; exact h Γ p hΓ hc
theorem wpC_keep {vs : List Value} {m : Sem α} {Q : α → Shared → Prop} (h : wpC M A m Q E s) : wpC M A (m.keep vs) Q E s :=
  fun Γ p hΓ hc => by rw [Sem.wp_keep]; exact h Γ p hΓ hc
theorem wpC_run {c : Code} {h : Option Value} {Q : Flow → Shared → Prop} (hd : decodes c = false)
    (hc : codeC M (A.mark h) c (fun r s' => match r with | .ok f => Q f s' | .error e => E e s') s) (hnb : h ≠ some byPass := by intro x; cases x) : wpC M A (run c h) Q E s :=
  fun Γ p hΓ hcl => by rw [Sem.wp_run]; exact hc _ p rfl (hΓ.enter c h p hnb) ⟨hd, fun x hx => by rcases List.mem_cons.mp hx with rfl | hx <;> first | exact hcl.1 | exact hcl.2 x hx⟩
theorem wpC_call {f : Value} {pos : List Value} {kw : List (Str × Value)} {Q : Value → Shared → Prop}
    (hc : codeC M A (.call f ⟨pos, kw⟩) (fun r s' => match r with | .ok (.ret v) => Q v s' | .ok _ => False | .error e => E e s') s) : wpC M A (call f pos kw) Q E s :=
  fun Γ p hΓ hcl => by
    show Sem.wp M Γ (runValue _) _ _ p s
    rw [Sem.wp_runValue]
    exact hc _ p rfl (hΓ.enter _ none p (by intro x; cases x)) ⟨rfl, fun x hx => by rcases List.mem_cons.mp hx with rfl | hx <;> first | exact hcl.1 | exact hcl.2 x hx⟩
theorem codeC_mono {c : Code} {R R' : Result → Shared → Prop} (h : codeC M A c R s) (hR : ∀ r s, R r s → R' r s) : codeC M A c R' s :=
  fun Γ p hc hΓ hcl => wpCode_mono hR (h Γ p hc hΓ hcl)
theorem codeC_of_tree {c : Code} {R : Result → Shared → Prop}
    (h : wpC M (A.under c) (M.den c) (fun fin s' => match fin with | .done f => R (.ok f) s' | .again c' => c'.quiet = true ∧ decodes c' = false ∧ codeC M A c' R s') (fun e s' => R (.error e) s') s) : codeC M A c R s := fun Γ p hc hΓ hcl => by
  rw [wpCode_iff_wp, hc]
  refine Sem.wp_mono M Γ _ (fun fin p' s' h' => ?_) (fun _ _ _ h' => h') p s (h Γ p (hc ▸ hΓ.in) hcl)
  cases fin with
  | done f => exact h'
  | again c' => exact ⟨h'.1, h'.2.2 (Γ.goto c') p' rfl (hΓ.goto c') ⟨h'.2.1, hcl.2⟩⟩
theorem codeC_loop {c : Code} {R : Result → Shared → Prop} (hq : c.quiet = true) (hd : decodes c = false) (I : Nat → Shared → Prop)
    (turn : ∀ n s, I n s → wpC M (A.under c) (M.den c)
      (fun fin s' => match fin with
        | .done f => R (.ok f) s'
        | .again c' => (c' = c ∧ ∃ m, m < n ∧ I m s') ∨ (c'.quiet = true ∧ decodes c' = false ∧ codeC M A c' R s')) (fun e s' => R (.error e) s') s)
    (n : Nat) (h : I n s) : codeC M A c R s := by
  induction n using Nat.strongRecOn generalizing s with
  | ind n ih =>
    refine codeC_of_tree (wpC_mono (turn n s h) (fun fin s' hf => ?_) fun _ _ h' => h')
    cases fin with
    | done f => exact hf
    | again c' =>
      rcases hf with ⟨rfl, m, hm, hI⟩ | hf
      · exact ⟨hq, hd, ih m hm hI⟩
      · exact hf
end

/-- as W, where no decoder is at work -/
def V {α : Type} (X : Cx) (A : Around) (t : Sem α) (Q : α → Heap → Nat → Prop) (h : Heap) (tk : Nat) : Prop :=
  wpC (model X.prog X.w) A t (fun v s' => ∃ h' tk', s' = S X.s h' tk' ∧ Q v h' tk') (fun _ _ => False) (S X.s h tk)

section
variable {α β : Type} {X : Cx} {A : Around} {h : Heap} {tk : Nat} {env : Env}
theorem W.v {t : Sem α} {Q : α → Heap → Nat → Prop} (H : W X A t Q h tk) : V X A t Q h tk := wpC_of H
theorem V.run {t : Sem α} {Q : α → Heap → Nat → Prop} {Q' : α → Shared → Prop} {E' : Value → Shared → Prop} (H : V X A t Q h tk)
    (k : ∀ v h' tk', Q v h' tk' → Q' v (S X.s h' tk')) : wpC (model X.prog X.w) A t Q' E' (S X.s h tk) :=
  wpC_mono H (fun v s' ⟨h', tk', e, q⟩ => by subst e; exact k v h' tk' q) (fun _ _ f => f.elim)
theorem V.mono {t : Sem α} {Q Q' : α → Heap → Nat → Prop} (H : V X A t Q h tk) (k : ∀ v h' tk', Q v h' tk' → Q' v h' tk') : V X A t Q' h tk :=
  V.run H fun v h' tk' q => ⟨h', tk', rfl, k v h' tk' q⟩
/-- what W gives, in the place of V -/
theorem W.thenV {t : Sem α} {Q : α → Heap → Nat → Prop} {Q' : α → Shared → Prop} {E' : Value → Shared → Prop} (H : W X A t Q h tk)
    (k : ∀ v h' tk', Q v h' tk' → Q' v (S X.s h' tk')) : wpC (model X.prog X.w) A t Q' E' (S X.s h tk) := V.run H.v k

theorem V_execs_cons {st rest} {Q : Flow → Heap → Nat → Prop}
    (H : V X A (exec st env) (fun f h' tk' => match f with | .next => V X A (execs rest env) Q h' tk' | f => Q f h' tk') h tk) :
    V X A (execs (st :: rest) env) Q h tk := by
  show wpC _ _ (do match ← exec st env with | .next => execs rest env | f => pure f) _ _ _
  refine wpC_bind (V.run H fun f h' tk' q => ?_)
  cases f <;> first | exact q | exact wpC_of (wpAny_pure ⟨h', tk', rfl, q⟩)
theorem V_execs_nil {Q : Flow → Heap → Nat → Prop} (q : Q .next h tk) : V X A (execs [] env) Q h tk := (W_execs_nil q).v
theorem V_If {test body orelse pos} {Q : Flow → Heap → Nat → Prop}
    (H : W X A (isTrue test env (eval test env)) (fun b h' tk' => if b = true then V X A (execs body env) Q h' tk' else V X A (execs orelse env) Q h' tk') h tk) :
    V X A (exec (.If test body orelse pos) env) Q h tk := by
  show wpC _ _ (exec _ env) _ _ _
  rw [exec_If]
  refine wpC_seq (wpAny_standAt (wpC_bind (W.thenV H fun b h' tk' q => ?_)))
  cases b <;> exact q
theorem V_Assign_Name {x pos' value pos} {Q : Flow → Heap → Nat → Prop}
    (H : V X A (eval value env) (fun v h' tk' => W X A (storeName env x v) (fun _ => Q .next) h' tk') h tk)
    (hs : swapsWith value (some (.Name x pos')) pos.line env = pure false := by rfl) :
    V X A (exec (.Assign [.Name x pos'] value pos) env) Q h tk := by
  show wpC _ _ (exec _ env) _ _ _
  rw [exec_Assign_Name env x pos' value pos hs]
  refine wpC_seq (wpAny_standAt (wpC_bind (V.run H fun v h' tk' q => ?_)))
  refine wpC_seq (wpAny_standAt (wpC_seq (wpAny_bindName (W.run q fun _ h₂ t₂ q₂ => ?_))))
  exact wpC_of (wpAny_pure ⟨h₂, t₂, rfl, q₂⟩)

theorem V_For {x px iter body pos} {Q : Flow → Heap → Nat → Prop}
    (H : W X A (eval iter env) (fun xv h₁ t₁ => ∃ hb n V', Src X A hb xv h₁ n V' ∧ ∀ I St h₂, Itr X A hb I n V' St → St 0 h₂ → Keep h₁ h₂ → h₁.get? I = none →
      ∃ J : Nat → Heap → Prop, (∀ i h h', J i h → Heap.ExtBut I h h' → J i h') ∧ (∀ i h, J i h → Keep hb h) ∧ J 0 h₂ ∧
        (∀ i v h tk, i < n → V' i v → J i h → (∃ o, h.get? I = some o) → W X A (storeName env x v) (fun _ h' t' => V X A (execs body env) (fun f h'' t'' => match f with
          | .next => J (i + 1) h'' ∧ (∀ o, h.get? I = some o → h''.get? I = some o)
          | .cont => J (i + 1) h'' ∧ (∀ o, h.get? I = some o → h''.get? I = some o)
          | .brk => Q .next h'' t''
          | .ret v => Q (.ret v) h'' t'') h' t') h tk) ∧
        (∀ h' tk', J n h' → Q .next h' tk')) h tk)
    (hs : ∀ x, foldedSetIterable iter env x = pure x := by intro _; rfl) :
    V X A (exec (.For (.Name x px) iter body [] pos) env) Q h tk := by
  show wpC _ _ (exec _ env) _ _ _
  rw [exec_For]
  refine wpC_seq (wpAny_standAt (wpC_bind (W.thenV H fun xv h₁ t₁ q => ?_)))
  refine wpC_seq (wpAny_of_eq (hs xv) (wpC_seq (wpAny_standAt (wpC_bind (wpC_holding ?_)))))
  obtain ⟨hb, n, V', src, q⟩ := q
  refine W.thenV (src t₁ (fun v h₂ t₂ => ∃ I St, v = .ref I ∧ Itr X A hb I n V' St ∧ St 0 h₂ ∧ Keep h₁ h₂ ∧ h₁.get? I = none) fun I St h₂ t₂ it st k f => ⟨I, St, rfl, it, st, k, f⟩) fun v h₂ t₂ q₂ => ?_
  obtain ⟨I, St, rfl, it, st, k, f⟩ := q₂
  obtain ⟨J, jx, jk, j0, turn, fin⟩ := q I St h₂ it st k f
  unfold runOwn
  refine wpC_onRaise (wpC_run rfl ?_)
  refine codeC_loop rfl rfl (fun k s' => ∃ i h' tk', s' = S X.s h' tk' ∧ k = n - i ∧ i ≤ n ∧ J i h' ∧ St i h') ?_ n ⟨0, h₂, t₂, rfl, by omega, by omega, j0, st⟩
  rintro k s' ⟨i, h', tk', rfl, rfl, hi, j, st'⟩
  show wpC _ _ ((forTurn (.Name x px) (.ref I) body [] env).onRaise (fun x => do noteFrame x env; theTreesLotGoes x)) _ _ _
  refine wpC_onRaise ?_
  simp only [forTurn]
  refine wpC_seq (wpAny_standAt (wpC_bind (wpC_onRaise ?_)))
  by_cases hlt : i < n
  · refine W.thenV (it.item i h' tk' (fun r h₃ t₃ => ∃ v, r = some v ∧ V' i v ∧ St (i + 1) h₃ ∧ J i h₃) hlt (jk _ _ j) st' fun v h₃ t₃ hv st₃ ex => ⟨v, rfl, hv, st₃, jx _ _ _ j ex⟩) fun r h₃ t₃ q₃ => ?_
    obtain ⟨v, rfl, hv, st₃, j₃⟩ := q₃
    refine wpC_seq (wpAny_of_eq (a := ()) rfl (wpC_bind (wpC_of (wpAny_assign_Name (W.run (turn i v h₃ t₃ hlt hv j₃ (it.lives _ _ st₃)) fun _ h₄ t₄ q₄ => ?_)))))
    refine wpC_bind (V.run q₄ fun fl h₅ t₅ q₅ => ?_)
    cases fl with
    | next => exact wpC_of (wpAny_pure (.inl ⟨rfl, n - (i + 1), by omega, i + 1, h₅, t₅, rfl, rfl, hlt, q₅.1, it.frame _ _ _ st₃ q₅.2⟩))
    | cont => exact wpC_of (wpAny_pure (.inl ⟨rfl, n - (i + 1), by omega, i + 1, h₅, t₅, rfl, rfl, hlt, q₅.1, it.frame _ _ _ st₃ q₅.2⟩))
    | brk => exact wpC_of (wpAny_pure ⟨h₅, t₅, rfl, q₅⟩)
    | ret v => exact wpC_of (wpAny_pure ⟨h₅, t₅, rfl, q₅⟩)
  · have : i = n := by omega
    subst this
    refine W.thenV (it.done h' tk' (fun r h₃ t₃ => r = none ∧ J i h₃) (jk _ _ j) st' fun h₃ t₃ ex => ⟨rfl, jx _ _ _ j ex⟩) fun r h₃ t₃ q₃ => ?_
    obtain ⟨rfl, j₃⟩ := q₃
    refine wpC_of (wpAny_pure (.inr ⟨rfl, rfl, codeC_of (codeAny_block (wpAny_execs_nil ⟨h₃, t₃, rfl, fin h₃ t₃ j₃⟩))⟩))
end
end Mine

end
section
open PySem PySem.W PyProof.Rows
set_option Elab.async false
set_option linter.unusedVariables false
set_option maxRecDepth 100000
namespace Mine
section
variable {α β : Type} {X : Cx} {A : Around} {h : Heap} {tk : Nat} {env : Env}
theorem codeC_func {R : Result → Shared → Prop} {body : List Stmt} (H : V X (A.deeper env) (execs body env) (fun f h' tk' => R (.ok (.ret (match f with | .ret v => v | _ => .none))) (S X.s h' tk')) h tk) :
    codeC (model X.prog X.w) A (.func body env) R (S X.s h tk) := by
  refine codeC_of_tree ?_
  show wpC _ (A.deeper env) (do point; match ← (execs body env).onRaise (leaving env) with | .ret v => ret v | _ => ret .none) _ _ _
  refine wpC_seq (wpAny_point (wpC_bind (wpC_onRaise (V.run H fun f h' tk' q => ?_))))
  cases f <;> exact wpC_of (wpAny_pure q)

theorem V_call {a : Addr} {o : Obj} {fd : FuncData} {body : List Stmt} {args : List Value} {binds : List (Str × Value)} {Q : Value → Heap → Nat → Prop}
    (hroom : A.depth < recursionLimit) (hlim : h.NoLimit) (ho : h.get? a = some o) (hd : o.data = .func fd) (hcd : h.CodeRec fd.code fd.qualname)
    (hbody : fd.body = .stmts body) (hbind : bindArgs fd ⟨args, []⟩ = pure binds) (hcell : (fd.scope.names.all fun x => decide (x.2 ≠ .cell)) = true) (hloc : (binds.all fun x => decide (fd.scope.names.lookup x.1 = some .local)) = true)
    (H : ∀ h₀, h₀.Ns h.objs.size (fun x => binds.reverse.lookup x) → Keep h h₀ →
      V X (A.deeper (callEnv fd h.objs.size a)) (execs body (callEnv fd h.objs.size a)) (fun f h' tk' => Q (match f with | .ret v => v | _ => .none) h' tk') h₀ (tk + binds.length))
    (hco : fd.scope.isCoroutine = false := by rfl) (hgen : fd.scope.isGenerator = false := by rfl) (hk : fd.scope.kind = .function := by rfl) :
    V X A (call (.ref a) args) Q h tk := by
  refine wpC_call (codeC_of_tree ?_)
  show wpC _ A.in1 (callAny (.ref a) ⟨args, []⟩) _ _ _
  simp only [callAny]
  refine wpC_seq (wpAny_load ho ?_)
  obtain ⟨c, oc, vs, tq, hc, hoc, hdc, hq⟩ := id hcd
  simp only [hd, callFunction, hco, hgen, hbody, hc]
  refine wpC_seq (m := field (.ref c) 1) (wpAny_field hoc hdc hq ?_)
  refine wpC_seq (wpAny_pure ?_)
  rw [hbind]
  refine wpC_seq (wpAny_pure ?_)
  rw [← hc]
  refine wpC_seq (wpAny_newFunctionEnv (fun x hx => of_decide_eq_true (List.all_eq_true.mp hcell x hx)) (locs hloc) (fun h₀ hns₀ hsb₀ => ?_) hk)
  refine wpC_seq (wpAny_enterFrame (hlim.fresh _ hsb₀) hroom ?_)
  refine wpC_of (wpAny_pure ⟨rfl, rfl, ?_⟩)
  refine codeC_func (X := X) (V.mono (H h₀ hns₀ fun b o e => hsb₀.extBut b o (Nat.ne_of_lt (Heap.lt_size e)) (Heap.get?_push_of_some _ e)) fun f h' tk' q => ⟨h', tk', rfl, q⟩)

theorem V_Call_def {f : Str} {p : Pos} {e : Expr} {rest : List Expr} {pos : Pos} {a : Addr} {fd : FuncData} {o : Obj} {Q : Value → Heap → Nat → Prop}
    (H : W X A (eval (.Name f p) env) (fun v h₁ t₁ => v = .ref a ∧ W X A (spliced (backTo pos (starEach (e :: rest) env))) (fun vs h₂ t₂ => (h₂.get? a = some o ∧ o.data = .func fd) ∧ V X A (call (.ref a) vs) Q h₂ t₂) h₁ t₁) h tk)
    (he : starEach (e :: rest) env = (false, eval e env) :: starEach rest env := by rfl)
    (hplain : (backTo pos (starEach rest env)).any (·.1) = false := by rfl) (hlen : (backTo pos ((false, eval e env) :: starEach rest env)).length ≤ 30 := by decide) :
    V X A (eval (.Call (.Name f p) (e :: rest) [] pos) env) Q h tk := by
  show wpC _ _ (do callWith pos (← eval (.Name f p) env) [] (backTo pos (starEach (e :: rest) env)) (backToKw pos (keywordEach [] env))) _ _ _
  refine wpC_bind (W.thenV H fun v h₁ t₁ q => ?_)
  obtain ⟨rfl, q⟩ := q
  rw [he] at q ⊢
  unfold callWith
  refine wpC_seq (wpAny_holding (Calls.evalArgs_plain (W.run q fun vs h₂ t₂ q₂ => ?_)))
  refine wpC_seq (wpAny_standAt ?_)
  refine wpC_seq (m := keeperOf (.ref a)) ?_
  unfold keeperOf
  refine wpAny_bind (wpAny_load q₂.1.1 ?_)
  rw [q₂.1.2]
  refine wpAny_pure ?_
  have hs : ((backTo pos ((false, eval e env) :: starEach rest env)).any (·.1) || (backToKw pos (keywordEach [] env)).any (·.1.isNone)) = false := by
    show ((false || (backTo pos (starEach rest env)).any (·.1)) || false) = false
    rw [hplain]; rfl
  rw [hs]
  have tail : ∀ {t : Sem Value}, V X A t Q h₂ t₂ → wpC (model X.prog X.w) A (t >>= fun r => holding [r] point >>= fun _ => pure r) (fun v s' => ∃ h' tk', s' = S X.s h' tk' ∧ Q v h' tk') (fun _ _ => False) (S X.s h₂ t₂) :=
    fun ht => wpC_bind (V.run ht fun r h₃ t₃ hr => wpC_of (wpAny_bind (wpAny_holding (wpAny_point (wpAny_pure ⟨h₃, t₃, rfl, hr⟩)))))
  have hn : ¬ ((backTo pos ((false, eval e env) :: starEach rest env)).length + 2 * (backToKw pos (keywordEach [] env)).length > 30) := by
    show ¬ (_ + 2 * 0 > 30)
    omega
  dsimp only
  rw [if_neg hn]
  refine tail ?_
  unfold callMarked
  exact wpC_keep q₂.2
theorem V_Call_type {f : Str} {p : Pos} {e : Expr} {rest : List Expr} {pos : Pos} {T : String} {Q : Value → Heap → Nat → Prop}
    (H : W X A (eval (.Name f p) env) (fun v h₁ t₁ => v = .type T ∧ W X A (spliced (backTo pos (starEach (e :: rest) env))) (fun vs h₂ t₂ => V X A (call (.type T) vs) Q h₂ t₂) h₁ t₁) h tk)
    (he : starEach (e :: rest) env = (false, eval e env) :: starEach rest env := by rfl)
    (hplain : (backTo pos (starEach rest env)).any (·.1) = false := by rfl) :
    V X A (eval (.Call (.Name f p) (e :: rest) [] pos) env) Q h tk := by
  show wpC _ _ (do callWith pos (← eval (.Name f p) env) [] (backTo pos (starEach (e :: rest) env)) (backToKw pos (keywordEach [] env))) _ _ _
  refine wpC_bind (W.thenV H fun v h₁ t₁ q => ?_)
  obtain ⟨rfl, q⟩ := q
  rw [he] at q ⊢
  unfold callWith
  refine wpC_seq (wpAny_holding (Calls.evalArgs_plain (W.run q fun vs h₂ t₂ q₂ => ?_)))
  refine wpC_seq (wpAny_standAt ?_)
  refine wpC_seq (m := keeperOf (.type T)) (wpAny_pure ?_)
  have hs : ((backTo pos ((false, eval e env) :: starEach rest env)).any (·.1) || (backToKw pos (keywordEach [] env)).any (·.1.isNone)) = false := by
    show ((false || (backTo pos (starEach rest env)).any (·.1)) || false) = false
    rw [hplain]; rfl
  rw [hs]
  exact wpC_bind (V.run q₂ fun r h₃ t₃ hr => wpC_of (wpAny_bind (wpAny_holding (wpAny_point (wpAny_pure ⟨h₃, t₃, rfl, hr⟩)))))
end
end Mine

end
section
open PySem PySem.W PyProof.Rows
set_option Elab.async false
set_option linter.unusedVariables false
set_option maxRecDepth 100000
namespace Mine
open PySem.Builtin

theorem ba_mro : mroOf (.type "bytearray") = pure [.type "bytearray", .type "object"] := by rw [mroOf_type]; kernel_rfl
theorem ba_lookup_new : typeLookup (.type "bytearray") "__new__" = pure (some (.builtin "bytearray.__new__")) := by rw [typeLookup_type, builtinLookup_eq_fast]; kernel_rfl
theorem ba_slot_init : Slot "bytearray" "__init__" "bytearray.__init__" :=
  .of (owner := "bytearray") (n := "__init__") (by rw [typeLookup_type, builtinLookup_eq_fast]; kernel_rfl) (by decide +kernel) (by decide +kernel) (by decide +kernel)
    (by first | exact .inl (by decide +kernel) | exact .inr (by decide +kernel)) (by rw [isSubtype_type]; kernel_rfl)
theorem ba_sub : isSubtype (.type "bytearray") (.type "bytearray") = pure true := by rw [isSubtype_type]; kernel_rfl
theorem ba_called : TypeCalled "bytearray" "bytearray.__new__" "bytearray.__init__" :=
  ⟨by decide +kernel, by decide +kernel, ⟨_, _, ba_mro⟩, madeBy_type ba_mro ba_lookup_new (by decide +kernel), by decide +kernel, ba_sub, ba_slot_init⟩
theorem ba_typeCall (a : Value) : checkTypeCall "bytearray" ⟨[a], []⟩ = pure () := by kernel_rfl
theorem ba_newCall (a : Value) : checkBuiltinCall "bytearray.__new__" ⟨[.type "bytearray", a], []⟩ = pure () := by kernel_rfl
theorem ba_entry_new : entryFor table "bytearray.__new__" = some Builtin.«list.__new__» := entryFor_alias (id' := "list.__new__") (by kernel_rfl) rfl (by decide +kernel) (by kernel_rfl)
theorem ba_plain_new : plainId "bytearray.__new__" = true := by decide +kernel
theorem ba_entry_init : entryFor table "bytearray.__init__" = some Builtin.«bytearray.__init__» := by first | exact entryFor_of_fast (by kernel_rfl) | exact entryFor_of_tree (by kernel_rfl)
theorem ba_args_init (a b : Value) : argsOk "bytearray.__init__" ⟨[a, b], []⟩ := by unfold argsOk; kernel_rfl
theorem ba_release : typeLookup (.type "bytearray") "__release_buffer__" = pure (some (.builtin "bytearray.__release_buffer__")) := by rw [typeLookup_type, builtinLookup_eq_fast]; kernel_rfl
theorem ba_bind (v : Value) : Bytes.bindOptional "bytearray.__init__" "bytearray" ["source", "encoding", "errors"] [v] [] = pure [some v, none, none] := by kernel_rfl
set_option maxRecDepth 1000000 in
set_option maxHeartbeats 4000000 in
theorem ba_owner : ("bytearray.__new__".splitOn ".__new__").headD "" = "bytearray" := by simp +decide [String.splitOn, String.splitOnAux]
end Mine

end
section
open PySem PySem.W PyProof.Rows
set_option Elab.async false
set_option linter.unusedVariables false
set_option maxRecDepth 100000
namespace Mine
open PySem.Builtin

/-- a bytearray of these octets -/
def Ba (h : Heap) (a : Addr) (b : Array UInt8) : Prop := h.get? a = some { cls := .type "bytearray", data := .bytearray b }
theorem Ba.keeps {h h' : Heap} {a : Addr} {b : Array UInt8} (x : Ba h a b) (k : Keep h h') : Ba h' a b := k _ _ x
theorem Ba.typeIs {s : Shared} {a : Addr} {b : Array UInt8} (x : Ba s.heap a b) : s.TypeIs (.ref a) "bytearray" := ⟨_, x, rfl⟩

section
variable {prog : Program} {w : World} {A : Around} {E : Value → Shared → Prop} {s : Shared}

theorem ba_code_new (a : Value) {Q₁ : Value → Shared → Prop}
    (h : Q₁ (.ref s.heap.objs.size) { s with heap := s.heap.push { cls := .type "bytearray", data := .bytearray #[] } }) :
    codeAny (model prog w) A (.call (.builtin "bytearray.__new__") ⟨[.type "bytearray", a], []⟩) (wants Q₁ E) s := by
  refine codeAny_of_tree ?_
  show wpAny _ A.in1 (do checkBuiltinCall "bytearray.__new__" ⟨[.type "bytearray", a], []⟩; again (.builtin "bytearray.__new__" ⟨[.type "bytearray", a], []⟩)) _ _ s
  refine wpAny_bind (wpAny_of_eq (ba_newCall a) (wpAny_pure ⟨plainId_quiet ba_plain_new _, codeAny_builtin_stack ba_entry_new rfl fun p st => ?_⟩))
  rw [Around.under_plainId ba_plain_new _]
  have hsub := ba_sub
  have hown := ba_owner
  obtain ⟨hp, g, d, tk, os⟩ := s
  simp only [hown]
  wp_walk
  exact h

theorem notGuard_of {st : List (Code × Pos)} (hg : guardsOf st = []) : ∀ x ∈ st, x.1.isGuard = false := by
  intro x hx
  cases q : x.1.isGuard with
  | false => rfl
  | true =>
    have : x.1 ∈ guardsOf st := List.mem_filter.mpr ⟨List.mem_map_of_mem hx, q⟩
    rw [hg] at this; cases this
theorem wpC_exported {M : Model} {v : Value} {Q : Bool → Shared → Prop} (hg : A.guards = some []) (q : Q false s) : wpC M A (Bytes.exported v) Q E s := by
  intro Γ p hΓ hcl
  have hgs : guardsOf ((Γ.code, p) :: Γ.below) = [] := by rw [guardsOf_cons]; exact hΓ.2.2.2.1 _ hg
  have hng := notGuard_of hgs
  have hdc : ∀ x ∈ (Γ.code, p) :: Γ.below, decodes x.1 = false := by
    intro x hx
    rcases List.mem_cons.mp hx with rfl | hx
    · exact hcl.1
    · exact hcl.2 x hx
  unfold Bytes.exported
  show Q (List.any ((Γ.code, p) :: Γ.below) _) s
  have key : ∀ (f : Code × Pos → Bool), (∀ x, x.1.isGuard = false → decodes x.1 = false → f x = false) → List.any ((Γ.code, p) :: Γ.below) f = false := fun f hf =>
    List.any_eq_false.mpr fun x hx => by rw [hf x (hng x hx) (hdc x hx)]; exact Bool.false_ne_true
  rw [key _ ?_]
  · exact q
  · rintro ⟨c, p'⟩ hgd hdd
    dsimp only at hgd hdd ⊢
    split
    · rename_i h; cases h; exact absurd hgd (by simp [Code.isGuard, guardIds])
    · rename_i h; cases h; exact absurd hgd (by simp [Code.isGuard, guardIds])
    · rename_i h; cases h; exact absurd hgd (by simp [Code.isGuard, guardIds])
    · rename_i h; cases h; exact absurd hgd (by simp [Code.isGuard, guardIds])
    · rename_i h; cases h; exact absurd hgd (by simp [Code.isGuard, guardIds])
    · rename_i h
      cases h
      rw [show Bytes.decodersThatHold.contains _ = false from hdd, Bool.and_false]
    · rfl
end
end Mine

end
section
open PySem PySem.W PyProof.Rows
set_option Elab.async false
set_option linter.unusedVariables false
set_option maxRecDepth 100000
namespace Mine
open PySem.Builtin
section
variable {prog : Program} {w : World} {A : Around} {E : Value → Shared → Prop} {s : Shared}

theorem wpC_ite_false {α : Type} {M : Model} {c : Prop} [Decidable c] {a b : Sem α} {Q : α → Shared → Prop} (hc : ¬ c) (h : wpC M A b Q E s) : wpC M A (if c then a else b) Q E s := by rw [if_neg hc]; exact h
theorem asStr_int (n : Int) (t : Tok) : asStr? (.int n t) = pure none := rfl
theorem special_int (n : Int) (t : Tok) : specialOf (.int n t) "__index__" = pure (some (.builtin "int.__index__")) := by
  have e : specialOf (.int n t) "__index__" = typeLookup (.type "int") "__index__" := rfl
  rw [e, int_index]
theorem attempt_int (n : Int) (t : Tok) : (asIndex (.int n t)).attempt = pure (Except.ok n) := rfl
theorem codeC_builtin {id : String} {args : Args} {b : Builtin} {R : Result → Shared → Prop} (hb : entryFor table id = some b)
    (h : wpC (model prog w) (A.under (.builtin id args)) (b args)
      (fun fin s' => match fin with | .done f => R (.ok f) s' | .again c' => c'.quiet = true ∧ decodes c' = false ∧ codeC (model prog w) A c' R s') (fun e s' => R (.error e) s') s) :
    codeC (model prog w) A (.builtin id args) R s := by
  refine codeC_of_tree ?_
  show wpC _ _ (match entryFor table id with | some b => b args | none => unsupported ((withoutEnding? id "#data").getD id)) _ _ s
  rw [hb]; exact h
theorem codeC_call_builtin {id : String} {args : Args} {b : Builtin} {R : Result → Shared → Prop} (hq : plainId id = true) (hd : decodes (.builtin id args) = false) (hb : entryFor table id = some b)
    (h : wpAny (model prog w) A.in1 (checkBuiltinCall id args) (fun _ s₁ => wpC (model prog w) A.in1 (b args)
      (fun fin s' => match fin with | .done f => R (.ok f) s' | .again c' => c'.quiet = true ∧ decodes c' = false ∧ codeC (model prog w) A c' R s') (fun e s' => R (.error e) s') s₁)
      (fun e s' => R (.error e) s') s) : codeC (model prog w) A (.call (.builtin id) args) R s := by
  refine codeC_of_tree ?_
  show wpC _ A.in1 (do checkBuiltinCall id args; again (.builtin id args)) _ _ s
  refine wpC_seq (wpAny_mono h (fun _ s₁ h₁ => wpC_of (wpAny_pure ⟨plainId_quiet hq args, hd, codeC_builtin hb ?_⟩)) fun _ _ h' => h')
  rw [Around.under_plainId hq args]
  exact h₁

theorem ba_ownRelease {M : Model} {D : Addr} {b : Array UInt8} {Q : Bool → Shared → Prop} (hD : Ba s.heap D b) (q : Q false s) : wpAny M A (Bytes.ownRelease (.ref D)) Q E s := by
  have key : ∀ x : String, x = "bytearray" → wpAny M A (isInstance (.ref D) (.type x)) (fun r s' => r = true ∧ s' = s) E s := fun x hx => by
    subst hx
    exact wpAny_isInstance hD.typeIs ba_sub ⟨rfl, rfl⟩
  unfold Bytes.ownRelease Bytes.slotIsOwn
  refine wpAny_bind (wpAny_bind (wpAny_specialOf hD.typeIs ba_release ?_))
  dsimp only
  split
  · rename_i hx
    exact absurd hx (by decide +kernel)
  · refine wpAny_mono (key _ (by decide +kernel)) (fun r s' h => ?_) fun _ _ x => x
    obtain ⟨rfl, rfl⟩ := h
    exact wpAny_pure q

theorem ba_write {M : Model} {D : Addr} {b : Array UInt8} {f : Array UInt8 → Array UInt8} {Q : Unit → Shared → Prop} (hD : Ba s.heap D b) (hz : (f b).size ≤ sizeLine)
    (q : ∀ h', Ba h' D (f b) → Heap.SameBut D s.heap h' → Q () { s with heap := h' }) : wpAny M A (Bytes.write (.ref D) f) Q E s := by
  show wpAny M A (updateBytearray D f) Q E s
  unfold updateBytearray
  refine wpAny_bind (wpAny_load hD ?_)
  show wpAny _ _ (update D (Obj.mapBytearray f) >>= fun _ => lookBehind D) _ _ _
  refine wpAny_bind (wpAny_update hD ?_)
  have hD₂ : (s.heap.update D (Obj.mapBytearray f)).get? D = some { cls := .type "bytearray", data := .bytearray (f b) } := Heap.get?_update_self (Obj.mapBytearray f) hD rfl
  refine wpAny_lookBehind hD₂ ?_ (q _ hD₂ (Heap.SameBut.update ..))
  show (if (f b).size > sizeLine then some "bytearray:memory" else none) = none
  rw [if_neg (by omega)]

theorem ba_init {D : Addr} {n : Nat} {t : Tok} {Q : Shared → Prop} (hg : A.guards = some []) (hD : Ba s.heap D #[]) (hn : n ≤ 1000000)
    (q : ∀ h', Ba h' D (Array.replicate n 0) → Heap.SameBut D s.heap h' → Q { s with heap := h' }) :
    wpC (model prog w) A (Builtin.«bytearray.__init__» ⟨[.ref D, .int (n : Nat) t], []⟩) (fun fin s' => fin = .done (.ret .none) ∧ Q s') E s := by
  have hzL := sizeLine_eq
  show wpC _ _ (Bytes.ownRelease (.ref D) >>= _) _ _ _
  refine wpC_seq (ba_ownRelease hD ?_)
  dsimp only
  show wpC _ _ (Bytes.bindOptional "bytearray.__init__" "bytearray" ["source", "encoding", "errors"] [.int (n : Nat) t] [] >>= _) _ _ _
  refine wpC_seq (wpAny_of_eq (ba_bind _) ?_)
  dsimp only
  refine wpC_seq (wpAny_of_eq (a := ()) rfl ?_)
  refine wpC_seq (wpAny_of_eq (a := ()) rfl ?_)
  refine wpC_bind (wpC_bind (wpC_exported hg ?_))
  show wpC _ _ (Bytes.exportsOf (.ref D) >>= fun k => pure (decide (k > 0))) _ _ _
  refine wpC_seq (wpAny_bind (wpAny_load hD (wpAny_pure ?_)))
  refine wpC_of (wpAny_pure (wpC_of ?_))
  refine bm_if_false (c := decide ((0 : Nat) > 0)) (by decide) ?_
  refine wpAny_bind (ba_write hD (by simp) fun h₁ hD₁ hs₁ => ?_)
  show wpAny _ _ (asStr? (.int ((n : Nat) : Int) t) >>= _) _ _ _
  rw [asStr_int]
  simp only [pure_bind, Option.isSome_none, Bool.false_eq_true, if_false]
  rw [special_int, pure_bind, if_pos (show (some (Value.builtin "int.__index__")).isSome = true from rfl), attempt_int, pure_bind]
  dsimp only
  have c1 : ¬ ((!Bytes.fitsIndex ((n : Nat) : Int)) = true) := by
    unfold Bytes.fitsIndex
    simp only [Bool.not_eq_true', Bool.and_eq_false_iff, decide_eq_false_iff_not]
    omega
  have c2 : ¬ (((n : Nat) : Int) < 0) := by omega
  have c3 : ¬ ((((n : Nat) : Int) == 2 ^ 63 - 1) = true) := by rw [beq_iff_eq]; omega
  have c4 : ¬ (Bytes.tooLong ((n : Nat) : Int).toNat = true) := by
    unfold Bytes.tooLong
    rw [decide_eq_true_eq]
    simp only [Int.toNat_natCast]
    omega
  rw [if_neg c1, if_neg c2, if_neg c3, if_neg c4]
  refine wpAny_bind (wpAny_rule ?_)
  by_cases c : ((n : Nat) : Int) > 0
  · rw [if_pos c]
    refine wpAny_bind (ba_write hD₁ (by simp; omega) fun h₂ hD₂ hs₂ => ?_)
    exact wpAny_pure ⟨rfl, q h₂ (by simpa using hD₂) (hs₁.trans hs₂)⟩
  · rw [if_neg c]
    have : n = 0 := by omega
    subst this
    exact wpAny_pure ⟨rfl, q h₁ hD₁ hs₁⟩

/-- bytearray(n) -/
theorem ba_make {n : Nat} {t : Tok} {Q : Value → Shared → Prop} (hg : A.guards = some []) (hn : n ≤ 1000000)
    (q : ∀ h', Keep s.heap h' → Ba h' s.heap.objs.size (Array.replicate n 0) → Q (.ref s.heap.objs.size) { s with heap := h' }) :
    wpC (model prog w) A (call (.type "bytearray") [.int (n : Nat) t]) Q E s := by
  refine wpC_call (codeC_of_tree ?_)
  show wpC _ _ (callAny (.type "bytearray") _) _ _ _
  refine wpC_of (wpAny_pure ⟨Code.quiet_builtin _ (by decide +kernel), (show Builtin.Bytes.decodersThatHold.contains "type.__call__" = false by decide +kernel), codeC_builtin PySem.F.entry_type_call ?_⟩)
  rw [Around.under_plain (weight_type_call_type "bytearray" _ []) rfl]
  obtain ⟨c, tl, hmro⟩ := ba_called.mro
  have hmade := ba_called.made
  have h2 := ba_called.canCreate
  unfold Builtin.«type.__call__»
  dsimp only
  rw [if_neg (by decide)]
  refine wpC_ite_false (by rw [h2]; decide) ?_
  refine wpC_seq (wpAny_of_eq (ba_typeCall _) ?_)
  refine wpC_seq (wpAny_of_eq hmro ?_)
  refine wpC_ite_false (by simp) ?_
  refine wpC_seq (wpAny_of_eq hmade ?_)
  dsimp only
  refine wpC_seq (wpAny_pure ?_)
  refine wpC_seq (wpAny_holding (wpAny_call (codeAny_mono (ba_code_new (E := fun _ _ => False) (Q₁ := fun v s₁ => v = .ref s.heap.objs.size ∧ s₁ = { s with heap := s.heap.push { cls := .type "bytearray", data := .bytearray #[] } }) _ ⟨rfl, rfl⟩) fun r s₁ hr => ?_)))
  cases r with
  | error e => exact hr.elim
  | ok fl =>
    cases fl with
    | ret obj =>
      obtain ⟨rfl, rfl⟩ := hr
      have hD : Ba (s.heap.push { cls := .type "bytearray", data := .bytearray #[] }) s.heap.objs.size #[] := Heap.get?_push_size _ rfl
      refine wpC_seq (wpAny_isInstance (T := "bytearray") ⟨_, hD, rfl⟩ ba_sub ?_)
      refine wpC_ite_false (by decide) ?_
      refine wpC_bind (wpC_holding ?_)
      simp only [callSpecial?]
      refine wpC_seq (wpAny_specialOf (T := "bytearray") ⟨_, hD, rfl⟩ ba_slot_init.lookup ?_)
      dsimp only
      refine wpC_holding ?_
      refine wpC_seq (wpAny_of_eq (ba_slot_init.bind _) ?_)
      dsimp only
      refine wpC_bind (wpC_call (codeC_call_builtin ba_slot_init.plain (show Builtin.Bytes.decodersThatHold.contains "bytearray.__init__" = false by decide +kernel) ba_entry_init ?_))
      refine ba_slot_init.check _ _ _ _ _ _ _ _ ⟨_, hD, rfl⟩ (ba_args_init _ _) ?_
      refine wpC_mono (ba_init (E := fun _ _ => False) (Q := fun s' => ∃ h', s' = { s with heap := h' } ∧ Keep s.heap h' ∧ Ba h' s.heap.objs.size (Array.replicate n 0)) hg hD hn fun h' hD' hs' => ⟨h', rfl, ?_, hD'⟩) (fun fin s' h' => ?_) fun _ _ f => f.elim
      · exact fun b o e => hs'.extBut b o (Nat.ne_of_lt (Heap.lt_size e)) (Heap.get?_push_of_some _ e)
      · obtain ⟨rfl, h'', rfl, kp, hb⟩ := h'
        refine wpC_of (wpAny_pure (wpC_of ?_))
        exact wpAny_pure (q h'' kp hb)
    | _ => exact hr.elim
end
end Mine

end
section
open PySem PySem.W PyProof.Rows
set_option Elab.async false
set_option linter.unusedVariables false
set_option maxRecDepth 100000
namespace Mine
open PySem.Builtin
theorem ba_slot_set : Slot "bytearray" "__setitem__" "bytearray.__setitem__" :=
  .of (owner := "bytearray") (n := "__setitem__") (by rw [typeLookup_type, builtinLookup_eq_fast]; kernel_rfl) (by decide +kernel) (by decide +kernel) (by decide +kernel)
    (by first | exact .inl (by decide +kernel) | exact .inr (by decide +kernel)) (by rw [isSubtype_type]; kernel_rfl)
theorem ba_entry_set : entryFor table "bytearray.__setitem__" = some Builtin.«bytearray.__setitem__» := by first | exact entryFor_of_fast (by kernel_rfl) | exact entryFor_of_tree (by kernel_rfl)
theorem ba_args_set (a b c : Value) : argsOk "bytearray.__setitem__" ⟨[a, b, c], []⟩ := by unfold argsOk; kernel_rfl
theorem ba_no_bytes : typeLookup (.type "bytearray") "__bytes__" = pure none := by rw [typeLookup_type, builtinLookup_eq_fast]; kernel_rfl
theorem ba_no_index : typeLookup (.type "bytearray") "__index__" = pure none := by rw [typeLookup_type, builtinLookup_eq_fast]; kernel_rfl
theorem ba_buffer : typeLookup (.type "bytearray") "__buffer__" = pure (some (.builtin "bytearray.__buffer__")) := by rw [typeLookup_type, builtinLookup_eq_fast]; kernel_rfl

section
variable {prog : Program} {w : World} {A : Around} {E : Value → Shared → Prop} {s : Shared}
theorem ba_setItem {D : Addr} {b : Array UInt8} {k o : Nat} {t u : Tok} {Q : Unit → Shared → Prop} (hD : Ba s.heap D b) (hk : k < b.size) (hz : b.size ≤ 1000000) (ho : o < 256)
    (q : ∀ h', Ba h' D (b.setIfInBounds k o.toUInt8) → Heap.SameBut D s.heap h' → Q () { s with heap := h' }) :
    wpAny (model prog w) A (setItem (.ref D) (.int (k : Nat) t) (.int (o : Nat) u)) Q E s := by
  have hzL := sizeLine_eq
  unfold setItem
  try with_reducible refine wpAny_holding ?_
  first | refine wpAny_bind (wpAny_pure ?_) | skip
  refine wpAny_bind (wpAny_sequenceKey hD.typeIs (by decide) ?_)
  refine wpAny_bind (wpAny_callSpecial?_slot (name := Str.ofString "__setitem__") hD.typeIs ba_slot_set
    (wpAny_call_entry ba_slot_set hD.typeIs ba_entry_set ?_ (ba_args_set _ _ _)))
  show wpAny _ _ (Bytes.subscript? (.int ((k : Nat) : Int) t) >>= _) _ _ s
  have c1 : ¬ ((!Bytes.fitsIndex ((k : Nat) : Int)) = true) := by
    unfold Bytes.fitsIndex
    simp only [Bool.not_eq_true', Bool.and_eq_false_iff, decide_eq_false_iff_not]
    omega
  have e1 : Bytes.subscript? (.int ((k : Nat) : Int) t) = pure (some ((k : Nat) : Int)) := by
    unfold Bytes.subscript?
    rw [special_int, pure_bind]
    show (asIndex (.int ((k : Nat) : Int) t) >>= _) = _
    rw [show asIndex (.int ((k : Nat) : Int) t) = pure ((k : Nat) : Int) from rfl, pure_bind, if_neg c1]
  have e2 : Bytes.byteValue (.int ((o : Nat) : Int) u) = pure o.toUInt8 := by
    unfold Bytes.byteValue
    rw [show asIndex (.int ((o : Nat) : Int) u) = pure ((o : Nat) : Int) from rfl, pure_bind, if_neg (by simp only [Bool.or_eq_true, decide_eq_true_eq]; omega)]
    rfl
  rw [e1, pure_bind]
  dsimp only
  rw [e2, pure_bind]
  unfold Bytes.payload Bytes.payload?
  refine wpAny_bind (wpAny_bind (wpAny_bind (wpAny_load hD (wpAny_pure (wpAny_pure ?_)))))
  rw [seqIndex_of (by omega) (by omega)]
  dsimp only
  refine wpAny_bind (ba_write hD (by simp; omega) fun h' hD' hs' => ?_)
  exact wpAny_pure ⟨.none, rfl, wpAny_pure (q h' (by simpa using hD') hs')⟩

theorem asStr_ba {M : Model} {D : Addr} {b : Array UInt8} {Q : Option Str → Shared → Prop} (hD : Ba s.heap D b) (q : Q none s) : wpAny M A (asStr? (.ref D)) Q E s := by
  show wpAny _ _ (load D >>= _) _ _ _
  refine wpAny_bind (wpAny_load hD ?_)
  exact wpAny_pure q
theorem ba_slotIsOwn {M : Model} {D : Addr} {b : Array UInt8} {Q : Bool → Shared → Prop} (hD : Ba s.heap D b) (q : Q true s) : wpAny M A (Bytes.slotIsOwn (.ref D) "__buffer__") Q E s := by
  have key : ∀ x : String, x = "bytearray" → wpAny M A (isInstance (.ref D) (.type x)) (fun r s' => r = true ∧ s' = s) E s := fun x hx => by
    subst hx
    exact wpAny_isInstance hD.typeIs ba_sub ⟨rfl, rfl⟩
  unfold Bytes.slotIsOwn
  refine wpAny_bind (wpAny_specialOf hD.typeIs ba_buffer ?_)
  try dsimp only
  split
  · rename_i hx
    exact absurd hx (by decide +kernel)
  · refine wpAny_mono (key _ (by decide +kernel)) (fun r s' h => ?_) fun _ _ x => x
    obtain ⟨rfl, rfl⟩ := h
    exact q
theorem ba_buffer? {M : Model} {D : Addr} {b : Array UInt8} {id : String} {full : Bool} {Q : Option (Array UInt8) → Shared → Prop} (hD : Ba s.heap D b) (q : Q (some b) s) : wpAny M A (Bytes.buffer? id (.ref D) full) Q E s := by
  unfold Bytes.buffer?
  refine wpAny_bind (wpAny_specialOf hD.typeIs ba_buffer ?_)
  try dsimp only
  refine wpAny_bind (ba_slotIsOwn hD ?_)
  refine bm_if_false (by decide) ?_
  refine wpAny_bind (wpAny_specialOf hD.typeIs ba_buffer ?_)
  try dsimp only
  refine wpAny_bind (ba_ownRelease hD ?_)
  refine bm_if_false (by decide) ?_
  unfold Bytes.payload Bytes.payload?
  exact wpAny_bind (wpAny_bind (wpAny_bind (wpAny_load hD (wpAny_pure (wpAny_pure (wpAny_pure q))))))
theorem ba_bytes_new {D : Addr} {b : Array UInt8} {Q : Value → Shared → Prop} (hD : Ba s.heap D b) (hz : b.size ≤ sizeLine) (q : ∀ t k, Q (.bytes b t) { s with toks := k }) :
    codeAny (model prog w) A (.call (.builtin "bytes.__new__") ⟨[.type "bytes", .ref D], []⟩) (wants Q E) s := by
  refine codeAny_of_tree ?_
  show wpAny _ A.in1 (do checkBuiltinCall "bytes.__new__" ⟨[.type "bytes", .ref D], []⟩; again (.builtin "bytes.__new__" ⟨[.type "bytes", .ref D], []⟩)) _ _ s
  refine wpAny_bind (wpAny_of_eq (PySem.F.bm_newCall _) (wpAny_pure ⟨plainId_quiet PySem.F.bm_plain _, codeAny_builtin PySem.F.bm_entry ?_⟩))
  rw [Around.under_plainId PySem.F.bm_plain _]
  unfold Builtin.«bytes.__new__»
  refine wpAny_bind (wpAny_of_eq (a := true) rfl ?_)
  refine bm_if_false rfl ?_
  refine wpAny_bind (wpAny_of_eq PySem.F.bm_sub ?_)
  refine bm_if_false rfl ?_
  refine wpAny_bind (wpAny_of_eq (PySem.F.bm_bind _) ?_)
  refine wpAny_bind (wpAny_of_eq (a := ()) rfl ?_)
  refine wpAny_bind (wpAny_of_eq (a := ()) rfl ?_)
  refine bm_if_false rfl ?_
  refine wpAny_bind (wpAny_specialOf hD.typeIs ba_no_bytes ?_)
  dsimp only
  refine wpAny_bind (wpAny_bind (asStr_ba hD (wpAny_pure ?_)))
  refine bm_if_false rfl ?_
  refine wpAny_bind (wpAny_specialOf hD.typeIs ba_no_index ?_)
  refine bm_if_true rfl ?_
  refine wpAny_bind (ba_buffer? hD ?_)
  dsimp only
  refine wpAny_bind (wpAny_rule ?_)
  refine wpAny_bind (wpAny_mkBytes ?_ hz)
  show wpAny _ _ (if (Value.type "bytes" == Value.type "bytes") = true then _ else _) _ _ _
  refine bm_if_true (by decide) ?_
  first
    | exact wpAny_pure (q _ _)
    | exact wpAny_bind (wpAny_pure (wpAny_pure (q _ _)))
theorem ba_bytes {D : Addr} {b : Array UInt8} {Q : Value → Shared → Prop} (hD : Ba s.heap D b) (hz : b.size ≤ sizeLine) (q : ∀ t k, Q (.bytes b t) { s with toks := k }) :
    wpAny (model prog w) A (call (.type "bytes") [.ref D]) Q E s := by
  refine callType_codes (Q₁ := fun obj s₁ => s₁.TypeIs obj "bytes" ∧ Q obj s₁) PySem.F.bm_called (PySem.F.bm_typeCall _) PySem.F.entry_object_init
    (ba_bytes_new hD hz fun t k => ⟨PySem.W.typeIs_bytes _ _ _, q t k⟩) fun obj s₁ h₁ => ?_
  exact ⟨h₁.1, PySem.F.args_object_init_2 obj _, object_init_meets PySem.F.bm_called.init.lookup PySem.F.bm_called.made (by decide) prog w A.in1 _ s₁ ⟨h₁.1, rfl, h₁.2⟩⟩
end
end Mine

end
section
open PySem PySem.W PyProof.Rows
set_option Elab.async false
set_option linter.unusedVariables false
set_option maxRecDepth 100000
namespace Mine

/-! the words turned about -/
def swF (os : List Nat) (w i j k : Nat) : Nat := if k / w < i ∨ (k / w = i ∧ w - j ≤ k % w) then os.getD (k / w * w + (w - 1 - k % w)) 0 else 0
def swA (os : List Nat) (w i j : Nat) : List Nat := (List.range os.length).map (swF os w i j)
/-- each word of w octets turned about -/
def swapL (os : List Nat) (w : Nat) : List Nat := (List.range os.length).map fun k => os.getD (k / w * w + (w - 1 - k % w)) 0
theorem swA_length (os : List Nat) (w i j : Nat) : (swA os w i j).length = os.length := by simp [swA]
theorem swA_start (os : List Nat) {w : Nat} (hw : 0 < w) : swA os w 0 0 = List.replicate os.length 0 := by
  apply List.ext_getElem
  · simp [swA]
  · intro k h1 h2
    simp [swA, swF]
    intro h
    have := Nat.mod_lt k hw
    omega
theorem swA_next (os : List Nat) {w : Nat} (hw : 0 < w) (i : Nat) : swA os w i w = swA os w (i + 1) 0 := by
  unfold swA
  apply List.map_congr_left
  intro k _
  unfold swF
  have := Nat.mod_lt k hw
  congr 1
  apply propext
  constructor
  · rintro (h | ⟨h, _⟩) <;> exact .inl (by omega)
  · rintro (h | ⟨h, h2⟩)
    · rcases Nat.lt_or_eq_of_le (Nat.lt_succ_iff.mp h) with h | h
      · exact .inl h
      · exact .inr ⟨h, by omega⟩
    · omega
theorem swA_end (os : List Nat) {w g : Nat} (hw : 0 < w) (hg : os.length = g * w) : swA os w g 0 = swapL os w := by
  unfold swA swapL
  apply List.map_congr_left
  intro k hk
  rw [List.mem_range, hg] at hk
  unfold swF
  rw [if_pos (.inl ((Nat.div_lt_iff_lt_mul hw).mpr hk))]
theorem swA_step (os : List Nat) {w i j : Nat} (hj : j < w) (hi : i * w + w ≤ os.length) :
    swA os w i (j + 1) = (swA os w i j).set (i * w + (w - 1 - j)) (os.getD (i * w + j) 0) := by
  have hw : 0 < w := by omega
  apply List.ext_getElem
  · simp [swA]
  · intro k h1 h2
    simp [swA] at h1
    rw [List.getElem_set]
    by_cases c : i * w + (w - 1 - j) = k
    · rw [if_pos c]
      have e1 : k / w = i := by
        rw [← c, Nat.add_comm, Nat.add_mul_div_right _ _ hw, Nat.div_eq_of_lt (by omega)]; omega
      have e2 : k % w = w - 1 - j := by
        rw [← c, Nat.add_comm, Nat.add_mul_mod_self_right, Nat.mod_eq_of_lt (by omega)]
      simp only [swA, swF, List.getElem_map, List.getElem_range]
      rw [if_pos (.inr ⟨e1, by omega⟩), e1, e2]
      congr 1
      omega
    · rw [if_neg c]
      simp only [swA, swF, List.getElem_map, List.getElem_range]
      have hm := Nat.mod_lt k hw
      have hd := Nat.div_add_mod k w
      congr 1
      apply propext
      constructor
      · rintro (h | ⟨h, h2⟩)
        · exact .inl h
        · refine .inr ⟨h, ?_⟩
          rw [h] at hd
          have : w * i = i * w := Nat.mul_comm _ _
          omega
      · rintro (h | ⟨h, h2⟩)
        · exact .inl h
        · exact .inr ⟨h, by omega⟩
theorem bytesOf_set (os : List Nat) (k o : Nat) : (bytesOf os).setIfInBounds k o.toUInt8 = bytesOf (os.set k o) := by
  unfold bytesOf
  simp [List.map_set]
theorem bytesOf_zero (n : Nat) : bytesOf (List.replicate n 0) = Array.replicate n 0 := by
  unfold bytesOf
  simp
theorem bytesOf_size (os : List Nat) : (bytesOf os).size = os.length := by simp [bytesOf]

section
variable {X : Cx} {A : Around}
theorem W_range3 {h : Heap} {tk : Nat} {g w : Nat} {t u v : Tok} {Q : Value → Heap → Nat → Prop} (hh : A.handled = none) (hw : 0 < w) (hgw : w ≤ 1000000) (hg : g * w ≤ 1000000)
    (q : ∀ r h' tk', Keep h h' → (∀ hb, Keep hb h' → Src X A hb (.ref r) h' g (fun i v => ∃ t, v = .int ((i * w : Nat) : Int) t)) → Q (.ref r) h' tk') :
    W X A (call (.type "range") [.int 0 t, .int ((g * w : Nat) : Int) u, .int ((w : Nat) : Int) v]) Q h tk := by
  have hw' : (w : Int) ≠ 0 := by omega
  · refine call_range_3 hw' ⟨_, _, rfl, ?_⟩ (.inl (PyProof.noPylong_small (by omega)))
    refine q _ _ _ (Keep.push _ _) fun hb kb => ?_
    have hsz : Builtin.Range.rangeSize 0 ((g * w : Nat) : Int) ((w : Nat) : Int) = (g : Int) := by
      unfold Builtin.Range.rangeSize
      rw [if_pos (by omega)]
      rcases Nat.eq_zero_or_pos g with e | e
      · subst e; simp
      · have hpos : 0 < g * w := Nat.mul_pos e hw
        rw [if_pos (by omega)]
        have : (((g * w : Nat) : Int) - 0 - 1) / (w : Int) = (g : Int) - 1 := by
          have e1 : (((g * w : Nat) : Int) - 0 - 1) = ((w : Int) - 1) + ((g : Int) - 1) * (w : Int) := by
            rw [Int.natCast_mul, Int.sub_mul]; omega
          rw [e1, Int.add_mul_ediv_right _ _ hw', Int.ediv_eq_zero_of_lt (by omega) (by omega)]; omega
        rw [this]; omega
    have hsm : Builtin.Range.small 0 ((g * w : Nat) : Int) ((w : Nat) : Int) = true := by
      unfold Builtin.Range.small
      rw [hsz]
      have hgl : g ≤ 1000000 := Nat.le_trans (Nat.le_mul_of_pos_right g hw) hg
      simp only [Builtin.Range.rangeFitsLong, Bool.and_eq_true, Bool.or_eq_true, decide_eq_true_eq, beq_iff_eq]
      rw [if_pos (by omega)]
      simp only [Bool.and_eq_true, decide_eq_true_eq]
      omega
    have := Src.rangeObj (X := X) (A := A) (hb := hb) (n := g) hh (IsRange.new h 0 ((g * w : Nat) : Int) ((w : Nat) : Int) t u v) kb hsm hsz
    refine this.imp fun i x _ hx => ?_
    obtain ⟨t', rfl⟩ := hx
    exact ⟨t', by simp⟩
theorem W_len_bytes {h : Heap} {tk : Nat} {os : List Nat} {t : Tok} {Q : Value → Heap → Nat → Prop} (hz : os.length ≤ 1000000) (q : Q (.int os.length (tk + 1)) h (tk + 1 + 1)) : W X A (call (.builtin "len") [.bytes (bytesOf os) t]) Q h tk := by
  refine PySem.W.len_bytes (by rw [bytesOf_size]; omega) ⟨h, _, rfl, ?_⟩
  rw [bytesOf_size]; exact q
theorem W_bytes_item {h : Heap} {tk : Nat} {os : List Nat} {k : Nat} {t u : Tok} {Q : Value → Heap → Nat → Prop} (hz : os.length ≤ 1000000) (hk : k < os.length) (ho : ∀ o ∈ os, o < 256) (q : Q (.int ((os.getD k 0 : Nat) : Int) tk) h (tk + 1)) :
    W X A (getItem (.bytes (bytesOf os) t) (.int (k : Nat) u)) Q h tk := by
  have e : ((os.map (fun (o : Nat) => o.toUInt8)).getD ((k : Nat) : Int).toNat 0).toNat = os.getD k 0 := by
    have := ho os[k] (List.getElem_mem hk)
    rw [Int.toNat_natCast, List.getD_eq_getElem?_getD, List.getElem?_map, List.getElem?_eq_getElem hk, List.getD_eq_getElem?_getD, List.getElem?_eq_getElem hk]
    simp only [Option.map_some, Option.getD_some, Nat.toUInt8, UInt8.toNat_ofNat']
    omega
  have key := PySem.W.getItem_bytes (prog := X.prog) (w := X.w) (A := A) (E := fun _ _ => False) (s := S X.s h tk) (t := t) (u := u) (l := os.map (fun (o : Nat) => o.toUInt8)) (i := ((k : Nat) : Int)) (Q := fun v s' => ∃ h' tk', s' = S X.s h' tk' ∧ Q v h' tk')
    (by rw [List.length_map]; omega) (by omega) (by rw [List.length_map]; omega) ⟨h, tk + 1, rfl, by rw [e]; exact q⟩
  exact key
end
end Mine

end
section
open PySem PySem.W PyProof.Rows
set_option Elab.async false
set_option linter.unusedVariables false
set_option maxRecDepth 100000
namespace Mine
section
variable {X : Cx} {A : Around}
theorem Ba.extBut {h h' : Heap} {a b : Addr} {v : Array UInt8} (x : Ba h a v) (hs : Heap.ExtBut b h h') (hab : a ≠ b) : Ba h' a v := hs a _ hab x
theorem Ba.live {h : Heap} {a : Addr} {v : Array UInt8} (x : Ba h a v) : ∃ o, h.get? a = some o := ⟨_, x⟩

theorem V_swap {h : Heap} {tk : Nat} {mg mb : Str → Option Value} {a : Addr} {os : List Nat} {g w : Nat} {t u : Tok} {Q : Value → Heap → Nat → Prop}
    (P : PF mg mb h) (ha : mg "_byteswap" = some (.ref a)) (hh : A.handled = none) (hg : A.guards = some []) (hr : A.depth < recursionLimit) (hw : 0 < w) (hw2 : w ≤ 1000) (hlen : os.length = g * w) (hz : os.length ≤ 100000) (ho : ∀ o ∈ os, o < 256)
    (q : ∀ h' v tk', Keep h h' → Q (.bytes (bytesOf (swapL os w)) v) h' tk') :
    V X A (call (.ref a) [.bytes (bytesOf os) t, .int (w : Nat) u]) Q h tk := by
  obtain ⟨a', o, doc, pm, cd, ct, e1, e2, e3, e4⟩ := P.swap
  rw [e1] at ha
  cases ha
  refine V_call (binds := [("data", .bytes (bytesOf os) t), ("width", .int (w : Nat) u)]) hr P.lim e2 e3 e4 rfl rfl (by rfl) (by rfl) fun h₀ hn kp => ?_
  have hzL := sizeLine_eq
  have F := Fx.new hn kp
  have hP := P.keeps F.keep
  refine V_execs_cons (V_Assign_Name (V_Call_type (T := "bytearray") ?_))
  refine W_builtin (mg := mg) (mb := mb) hP.g (hP.no "bytearray" (by decide)) hP.b ((hP.bi "bytearray" (by decide)).trans boot_bytearray) ⟨rfl, ?_⟩
  refine W_items_cons (W_bi hP boot_len (by decide) (by decide) rfl rfl (W_items_cons (W_local F.ns rfl (W_items_nil (W_len_bytes (by omega) (W_items_nil ?_))))))
  refine ba_make hg (by omega) fun h₁ k₁ b₁ => ⟨h₁, _, rfl, ?_⟩
  have fD : h₀.get? h₀.objs.size = none := size_none h₀
  generalize hDe : h₀.objs.size = D at b₁ fD
  have F₁ := F.keeps k₁
  refine W_store_local F₁.ns fun h₂ hn₂ hs₂ => ?_
  have F₂ := F₁.set hn₂ hs₂
  have hDL : D ≠ h.objs.size := (ne_of_live F.live fD).symm
  have fD0 : h.get? D = none := none_of_keep F.keep fD
  have b₂ : Ba h₂ D (bytesOf (swA os w 0 0)) := by
    rw [swA_start os hw, bytesOf_zero]
    exact b₁.extBut hs₂.extBut hDL
  -- the loops and the end ask nothing of the stack
  refine W.v ?_
  refine W_execs_cons (W_For (W_ty (P.keeps F₂.keep) boot_range (by decide) (by decide) rfl rfl ?_))
  refine W_items_cons (W_int (W_items_cons (W_bi (P.keeps F₂.keep) boot_len (by decide) (by decide) rfl rfl (W_items_cons (W_local F₂.ns rfl (W_items_nil (W_len_bytes (by omega) ?_)))))))
  rw [hlen]
  refine W_items_cons (W_local F₂.ns rfl (W_items_nil (W_range3 hh hw (by omega) (by omega) fun r h₃ t₃ k₃ src => ?_)))
  have F₃ := F₂.keeps k₃
  refine ⟨h, _, _, src h F₃.keep, fun I St h₄ it st k₄ fI => ?_⟩
  have hLI : h.objs.size ≠ I := ne_of_live F₃.live fI
  have hDI : D ≠ I := ne_of_live (b₂.keeps k₃).live fI
  refine ⟨fun i h' => ∃ m, Fx h h.objs.size h' m ∧ (∃ t, m "data" = some (.bytes (bytesOf os) t)) ∧ (∃ t, m "width" = some (.int (w : Nat) t)) ∧ m "swapped_data" = some (.ref D) ∧ Ba h' D (bytesOf (swA os w i 0)), ?_, ?_, ?_, ?_, ?_⟩
  · rintro i h₇ h₈ ⟨m, F, a1, a2, a3, a4⟩ ex
    exact ⟨m, F.extBut ex hLI it.out, a1, a2, a3, a4.extBut ex hDI⟩
  · rintro i h₇ ⟨m, F, _⟩
    exact F.keep
  · exact ⟨_, F₃.keeps k₄, ⟨_, rfl⟩, ⟨_, rfl⟩, rfl, (b₂.keeps k₃).keeps k₄⟩
  · rintro i v h₅ t₅ hi ⟨ti, rfl⟩ ⟨m, F₅, ⟨td, a1⟩, ⟨tw, a2⟩, a3, a4⟩ live
    refine W_store_local F₅.ns fun h₆ hn₆ hs₆ => ?_
    have F₆ := F₅.set hn₆ hs₆
    have b₆ := a4.extBut hs₆.extBut hDL
    have hI₆ : ∀ o, h₅.get? I = some o → h₆.get? I = some o := fun o e => hs₆.extBut I o hLI.symm e
    have hiw : i * w + w ≤ os.length := by
      rw [hlen]
      have := Nat.mul_le_mul_right w hi
      rw [Nat.succ_mul] at this
      exact this
    refine W_execs_cons (W_For (W_ty (P.keeps F₆.keep) boot_range (by decide) (by decide) rfl rfl ?_))
    refine W_items_cons (W_local F₆.ns a2 (W_items_nil (W_range hh (by omega) (by omega) fun r h₇ t₇ k₇ src₂ => ?_)))
    have F₇ := F₆.keeps k₇
    refine ⟨h, _, _, src₂ h F₇.keep, fun I₂ St₂ h₈ it₂ st₂ k₈ fI₂ => ?_⟩
    have hLI₂ : h.objs.size ≠ I₂ := ne_of_live F₇.live fI₂
    have hDI₂ : D ≠ I₂ := ne_of_live (b₆.keeps k₇).live fI₂
    have hII : I ≠ I₂ := by
      obtain ⟨o, e⟩ := live
      exact ne_of_live ⟨o, k₇ _ _ (hI₆ o e)⟩ fI₂
    refine ⟨fun j h' => ∃ m, Fx h h.objs.size h' m ∧ (∃ t, m "data" = some (.bytes (bytesOf os) t)) ∧ (∃ t, m "width" = some (.int (w : Nat) t)) ∧ m "swapped_data" = some (.ref D) ∧ (∃ t, m "i" = some (.int ((i * w : Nat) : Int) t)) ∧ Ba h' D (bytesOf (swA os w i j)) ∧ ∀ o, h₅.get? I = some o → h'.get? I = some o, ?_, ?_, ?_, ?_, ?_⟩
    · rintro j hA hB ⟨m, F, c1, c2, c3, c4, c5, c6⟩ ex
      exact ⟨m, F.extBut ex hLI₂ it₂.out, c1, c2, c3, c4, c5.extBut ex hDI₂, fun o e => ex _ _ hII (c6 o e)⟩
    · rintro j hA ⟨m, F, _⟩
      exact F.keep
    · exact ⟨_, F₇.keeps k₈, ⟨_, a1⟩, ⟨_, a2⟩, a3, ⟨_, rfl⟩, (b₆.keeps k₇).keeps k₈, fun o e => k₈ _ _ (k₇ _ _ (hI₆ o e))⟩
    · rintro j v hA tA hj ⟨tj, rfl⟩ ⟨m', FA, ⟨td', c1⟩, ⟨tw', c2⟩, c3, ⟨ti', c4⟩, c5, c6⟩ live₂
      have hjw : j < w := by simp at hj; exact hj
      refine W_store_local FA.ns fun hB hnB hsB => ?_
      have FB := FA.set hnB hsB
      have bB := c5.extBut hsB.extBut hDL
      have hkk : i * w + j < os.length := by omega
      refine W_execs_cons (W_Assign_Subscript (W_Subscript PySem.W.FB.slot_bytes_getitem.lookup ?_))
      refine W_local FB.ns c1 (W_BinOp (W_local FB.ns c4 (W_local FB.ns rfl (W_add ⟨PySem.W.typeIs_bytes _ _ _, ?_⟩))))
      rw [show ((i * w : Nat) : Int) + ((j : Nat) : Int) = ((i * w + j : Nat) : Int) by omega]
      refine W_bytes_item (by omega) hkk ho ?_
      refine W_local FB.ns c3 (W_BinOp (W_BinOp (W_BinOp (W_local FB.ns c4 (W_local FB.ns c2 (W_add (W_int (W_sub (W_local FB.ns rfl (W_sub ?_)))))))))) 
      rw [show ((i * w : Nat) : Int) + ((w : Nat) : Int) - 1 - ((j : Nat) : Int) = ((i * w + (w - 1 - j) : Nat) : Int) by omega]
      refine ba_setItem bB (by rw [bytesOf_size, swA_length]; omega) (by rw [bytesOf_size, swA_length]; omega) ?_ fun hC bC sC => ⟨hC, _, rfl, ?_⟩
      · rw [List.getD_eq_getElem?_getD, List.getElem?_eq_getElem hkk]
        exact ho _ (List.getElem_mem hkk)
      rw [bytesOf_set, ← swA_step os hjw hiw] at bC
      refine W_execs_nil ⟨⟨_, ⟨FB.ns.sameBut sC hDL.symm, fun b o e => sC.extBut b o (fun q => by rw [q, fD0] at e; cases e) (FB.keep b o e), FB.out⟩, ⟨_, c1⟩, ⟨_, c2⟩, c3, ⟨_, c4⟩, bC, ?_⟩, ?_⟩
      · exact fun o e => sC.extBut I o hDI.symm (hsB.extBut I o hLI.symm (c6 o e))
      · exact fun o e => sC.extBut I₂ o hDI₂.symm (hsB.extBut I₂ o hLI₂.symm e)
    · rintro hA tA ⟨m', FA, c1, c2, c3, c4, c5, c6⟩
      refine W_execs_nil ⟨⟨m', FA, c1, c2, c3, ?_⟩, c6⟩
      rw [← swA_next os hw i]
      simpa using c5
  · rintro h' tk' ⟨m, F', ⟨td, a1⟩, a2, a3, a4⟩
    refine W_execs_cons (W_Return (W_ty (P.keeps F'.keep) boot_bytes (by decide) (by decide) rfl rfl (W_items_cons (W_local F'.ns a3 (W_items_nil ?_)))))
    rw [swA_end os hw hlen] at a4
    refine ba_bytes a4 (by rw [bytesOf_size]; simp [swapL]; omega) fun t k => ⟨h', k, rfl, q h' t k F'.keep⟩
end
end Mine

end
section
open PySem PySem.W PyProof.Rows PySem.Calls
set_option Elab.async false
set_option linter.unusedVariables false
set_option maxRecDepth 100000
namespace Mine

/-- the caller's own context is clean: what is shown of clean contexts holds of the run -/
theorem ends_clean {prog : Program} {w : World} {t : Sem Fin} {s : Shared} {R : Result → Shared → Prop} (hreg : s.asleep)
    (h : wpC (model prog w) callerA t (fun fin s' => ∃ f, fin = .done f ∧ (R (.ok f) s' ∧ leftWithCleanup s'.gens = false)) (fun e s' => R (.error e) s' ∧ leftWithCleanup s'.gens = false) s) :
    ∃ n r s' s'', runN (denote table) prog w n s ⟨t, .builtin "claim.caller" {}, default, []⟩ = .halted (outcomeOf r) s' ∧
      schedN (denote table) prog w n (.single s ⟨t, .builtin "claim.caller" {}, default, []⟩) = .halted (outcomeOf r) s' ∧ s'.forget = s''.forget ∧ R r s'' := by
  have hw := h _ default caller_in ⟨by decide +kernel, fun c hc => nomatch hc⟩
  have hw' := Sem.wp_mono (model prog w) ⟨.builtin "claim.caller" {}, none, none, [], none⟩ t
    (post' := Sem.finPost (model prog w) ⟨.builtin "claim.caller" {}, none, none, [], none⟩ fun r s' => R r s' ∧ leftWithCleanup s'.gens = false)
    (exc' := fun e _ s' => R (.error e) s' ∧ leftWithCleanup s'.gens = false)
    (fun fin p' s' q => by obtain ⟨f, rfl, hf⟩ := q; exact hf) (fun _ _ _ q => q) default s hw
  obtain ⟨n, r, s₁, s₂, hs, hn, hfo, hR⟩ := wp_halts_full (M := model prog w) (R := R) hreg hw'
  exact ⟨n, r, s₂, s₁, hn, hs, hfo, hR⟩

/-- the walk that is asked: of clean contexts alone -/
abbrev WalkC (q : Program) (loose : List Str) (XP : (Str → Option Value) → Heap → Prop) (YP : World → Heap → Prop) (r : RowW) (d : DefRec) (kwd : List (Str × Expr)) : Prop :=
  ∀ (w : World) (s₀ s₁ : Shared) (mg mb : Str → Option Value), Ground q loose r.records XP w s₀ mg mb s₁.heap → YP w s₁.heap → ∀ (a : Addr) (o : Obj) (pm cd doc dV kV : Value), s₁.heap.get? a = some o →
    o.data = .func { docDef d.name d.params d.body d.scope pm cd doc with defaults := dV, kwdefaults := kV } → s₁.heap.CodeRec cd d.name → Dflts mg s₁.heap d.params kwd dV kV → mg d.name = some (.ref a) → s₁.gens = #[] →
    ∀ (args : List WData) (vals : List Value) (as : List Addr), r.claim.pre args = true → WData.layableAll args = true → ReadsAllW r.records (classAt s₀.heap) s₁.heap vals args as → WellAll w.params s₁.heap vals args → (∀ a ∈ as, (a == sysModules) = false) →
      wpC (model r.prog w) callerA (call (.ref a) vals) (fun v s' => GoodWG r.claim (classAt s₀.heap) (ExcName.means s₀.heap) args s₁ (.ok (.ret v)) s') (fun _ _ => False) s₁

theorem head_clean {r : OpenRow} {q : Program} {loose : List Str} {Xt : Shared → Bool} {XP : (Str → Option Value) → Heap → Prop} {α : Type} {Yf : Shared → α} {Ya : World → α} {YP : World → Heap → Prop} {d : DefRec} {kwd : List (Str × Expr)} {N : Nat}
    (left : LeftO r.prog q loose Xt Yf Ya N) (hY : ∀ w s, Yf s = Ya w → YP w s.heap) (hYk : ∀ w h h', YP w h → (∀ b o, h.get? b = some o → h'.get? b = some o) → YP w h')
    (hX : ∀ s, Xt s = true → XP (s.heap.nsMap mainGlobals) s.heap) (hXk : ∀ mg h h', XP mg h → (∀ b o, h.get? b = some o → h'.get? b = some o) → XP mg h')
    (hdef : defOf q r.name = some (d, kwd)) (hp : r.prog.theDef r.name = some (d.params, d.body, d.scope)) (hk : kwWritten? d.params.kwonlyargs d.params.kw_defaults = some kwd) (hRf : ∀ s, Xt s = true → RecFacts r.records s.heap) (hwr : (!r.writes || r.records.isEmpty) = true)
    (k1 : r.wellSaid = true) (ok : (chainsOk q && opensWell r.prog && (frees r.toRowW && r.within.isEmpty)) = true) (hb : r.prog.bare) (hw : r.toRowW.promised)
    (call : WalkC q loose XP YP r.toRowW d kwd) : r.Holds := by
  refine ⟨k1, hw, ?_⟩
  obtain ⟨ok, k5⟩ := Bool.and_eq_true_iff.mp ok
  obtain ⟨hch, o1⟩ := Bool.and_eq_true_iff.mp ok
  obtain ⟨k5, k6⟩ := Bool.and_eq_true_iff.mp k5
  obtain ⟨hsame, hu, ha, hap, hm⟩ := frees_parts k5
  have hi := ident_freeW hu ha hap
  have hwi : r.toRowW.claim.within = [] := List.isEmpty_iff.mp k6
  refine ⟨⟨hb, o1, by show r.makers.map _ = []; rw [hm]; rfl⟩, hw.witness, fun w => ⟨(left.behind hX hch w).1, fun s' hs' => ?_⟩⟩
  obtain ⟨s₀, hf, hg0, s, hT, hz, hgens, hg, G00, y⟩ := (left.behind (XP := fun mg h => XP mg h ∧ RecFacts r.records h) (fun s hs => ⟨hX s hs, hRf s hs⟩) hch w).2 s' hs'
  have G0 : Ground q loose [] XP w s (s.heap.nsMap mainGlobals) (s.heap.nsMap builtinsNs) s.heap := ⟨G00.T, G00.B, G00.D, G00.TE, G00.TD, G00.W, G00.X.1, G00.cls, G00.has, G00.apart, G00.once, G00.K⟩
  have RF := G00.X.2
  refine ⟨s₀, hf, hg0, s, hT, fun n hn => ?_, RF.1, RF.2.1, ?_⟩
  · obtain rfl : n = r.name := by split at hn <;> simp_all
    exact pinned_of_view hg G0 hdef hp hk
  have hgens : s.gens = #[] := Array.eq_empty_of_size_eq_zero (beq_iff_eq.mp hgens)
  have G : Ground q loose r.records XP w s _ _ s.heap := RF.ground G0
  intro args hpre hlay ord hord
  obtain ⟨⟨vs, s₁⟩, hlaid⟩ := Option.isSome_iff_exists.mp (layAllW_isSome (P := w.params) (ord := ord) G.has args r.args s (pre_splitW hpre).1)
  have keeps := layAllW_keeps _ _ _ hlaid
  have hal := layAllW_rest _ _ _ hlaid
  obtain ⟨as, hrd, hin, hold⟩ := reads_layAllW hord _ _ _ hlaid hlay s₁.heap (fun _ _ e => e)
  have L : Laid r.records w s s₁ args vs as := ⟨⟨ord, hord, hlaid⟩, hrd, hin, hold, keeps, hal.1.trans hgens, hal.2.2.1⟩
  have G₁ := G.keeps hXk keeps
  obtain ⟨a, o, pm, cd, doc, dV, kV, h1, h2, h3, h4, h5⟩ := G₁.fn hdef
  have H := call w s s₁ _ _ G₁ (hYk _ _ _ (hY w s y) keeps) a o pm cd doc dV kV h2 h3 h4 h5 (defOf_name hdef ▸ h1) L.gens args vs as hpre hlay L.reads L.well (L.low G.low)
  have Ht : wpC (model r.prog w) callerA (do match ← nsGet mainNs r.name with
      | some f => do ret (← PySem.call f vs)
      | none => unsupported "claim.caller:no-such-global")
      (fun fin s' => ∃ f, fin = .done f ∧ ((∃ v, f = .ret v ∧ GoodWG r.toRowW.claim (classAt s.heap) (ExcName.means s.heap) args s₁ (.ok (.ret v)) s') ∧ leftWithCleanup s'.gens = false)) (fun _ _ => False ∧ False) s₁ := by
    refine wpC_seq (wpAny_nsGet G₁.T.g ?_)
    rw [h1]
    refine wpC_bind (wpC_mono H (fun v s' g => ?_) fun _ _ f => f.elim)
    exact wpC_of (wpAny_pure ⟨_, rfl, ⟨v, rfl, g⟩, leftWithCleanup_false_of_bare g.2.2.2⟩)
  obtain ⟨k, res, s', s'', hrun, hsched, hfo, hR⟩ := ends_clean (R := fun res s' => ∃ v, res = .ok (.ret v) ∧ GoodWG r.toRowW.claim (classAt s.heap) (ExcName.means s.heap) args s₁ res s') (Shared.asleep_of_life hal.2.2.2 hz)
    (wpC_mono Ht (fun fin s' ⟨f, e, ⟨v, e2, g⟩, c⟩ => ⟨f, e, ⟨v, by rw [e2], by rw [e2]; exact g⟩, c⟩) fun _ _ f => f.1.elim)
  obtain ⟨v, rfl, g⟩ := hR
  have z := g.laid (c := r.toRowW.claim) hsame hwi hi L
  obtain ⟨eh, _, _, eo, _⟩ := Shared.forget_eq hfo
  have hlife : s'.heap.life = s.heap.life := (runN_life _ _ _ hrun).trans hal.2.2.2
  have hos : s'.os = s.os := eo.trans z.2.1
  refine ⟨vs, s₁, hlaid, k, _, s', hsched, ?_, (fun _ i x hx => by rw [hgens] at hx; simp at hx), by rw [eh]; exact fun q => ⟨namesKept_of hT hg r.keeps keeps g.2.1.old, noTable hwr q⟩, by rw [hlife], Shared.rest_eq hos⟩
  rcases (z.1.congr eh) with ⟨v', e, d1, d2, d3, d4, d5⟩ | ⟨e, ob, cls, e', _⟩
  · cases e
    exact .inl ⟨v, rfl, d1, d2, d3, fun b o y _ => d4 b o y, d5⟩
  · cases e'
end Mine

namespace Own
open Mine
theorem PySem.W.holds_open {r : OpenRow} {q : Program} {loose : List Str} {Xt : Shared → Bool} {XP : (Str → Option Value) → Heap → Prop} {α : Type} {Yf : Shared → α} {Ya : World → α} {YP : World → Heap → Prop} {d : DefRec} {kwd : List (Str × Expr)} {N : Nat}
    (left : LeftO r.prog q loose Xt Yf Ya N) (hY : ∀ w s, Yf s = Ya w → YP w s.heap) (hYk : ∀ w h h', YP w h → (∀ b o, h.get? b = some o → h'.get? b = some o) → YP w h')
    (hX : ∀ s, Xt s = true → XP (s.heap.nsMap mainGlobals) s.heap) (hXk : ∀ mg h h', XP mg h → (∀ b o, h.get? b = some o → h'.get? b = some o) → XP mg h')
    (hdef : defOf q r.name = some (d, kwd)) (hp : r.prog.theDef r.name = some (d.params, d.body, d.scope)) (hk : kwWritten? d.params.kwonlyargs d.params.kw_defaults = some kwd) (hRf : ∀ s, Xt s = true → RecFacts r.records s.heap) (hwr : (!r.writes || r.records.isEmpty) = true)
    (k1 : r.wellSaid = true) (ok : (chainsOk q && opensWell r.prog && (frees r.toRowW && r.within.isEmpty)) = true) (hb : r.prog.bare) (hw : r.toRowW.promised)
    (call : WalkC q loose XP YP r.toRowW d kwd) : r.Holds := head_clean left hY hYk hX hXk hdef hp hk hRf hwr k1 ok hb hw call
end Own

end
section
open PySem PySem.W PyProof.Rows
set_option Elab.async false
set_option linter.unusedVariables false
set_option maxRecDepth 100000
namespace Mine
section
variable {X : Cx} {A : Around} {h : Heap} {tk : Nat} {env : Env}

theorem compTurn_in (g : Comprehension) (elt target iter : Expr) (scope : Scope) (pos : Pos) (it acc : Value) (env : Env) :
    compTurn (.ListComp elt [g, ⟨target, iter, [], 0⟩] scope pos) 1 it acc env = (standAt iter.pos >>= fun _ => pyNext it >>= fun r => match r with
      | none => pure (.done .next)
      | some v => letOwnedTupleGo target it v >>= fun _ => assign target env v >>= fun _ =>
        (eval elt env >>= fun x => call (.builtin "list.append") [acc, x] >>= fun _ => pure ()) >>= fun _ =>
          again (.compLoop (.ListComp elt [g, ⟨target, iter, [], 0⟩] scope pos) 1 it acc env)) := by rfl
theorem compTurn_out (elt t0 i0 t1 i1 : Expr) (scope : Scope) (pos : Pos) (it acc : Value) (env : Env) :
    compTurn (.ListComp elt [⟨t0, i0, [], 0⟩, ⟨t1, i1, [], 0⟩] scope pos) 0 it acc env = (standAt i0.pos >>= fun _ => pyNext it >>= fun r => match r with
      | none => pure (.done .next)
      | some v => letOwnedTupleGo t0 it v >>= fun _ => assign t0 env v >>= fun _ =>
        eval i1 env >>= fun x => standAt i1.pos >>= fun _ => foldedSetIterable i1 env x >>= fun x => holding [x] (pyIter x) >>= fun iv =>
          runOwn (.compStart (.ListComp elt [⟨t0, i0, [], 0⟩, ⟨t1, i1, [], 0⟩] scope pos) 1 iv acc env) env >>= fun _ =>
          again (.compLoop (.ListComp elt [⟨t0, i0, [], 0⟩, ⟨t1, i1, [], 0⟩] scope pos) 0 it acc env)) := by rfl

theorem codeAny_compLoop_in {prog : Program} {w : World} {R : Result → Shared → Prop} {s : Shared} {g : Comprehension} {elt target iter : Expr} {scope : Scope} {pos : Pos} {it acc : Value} {env : Env} (I : Nat → Shared → Prop)
    (turn : ∀ n s, I n s → wpAny (model prog w) A (pyNext it) (fun r s₁ => match r with
      | none => R (.ok .next) s₁
      | some v => wpAny (model prog w) A (assign target env v) (fun _ s₂ => wpAny (model prog w) A (eval elt env) (fun x s₃ =>
          wpAny (model prog w) A (call (.builtin "list.append") [acc, x]) (fun _ s₄ => ∃ m, m < n ∧ I m s₄) (notedBy (model prog w) A env fun e s' => R (.error e) s') s₃)
          (notedBy (model prog w) A env fun e s' => R (.error e) s') s₂) (notedBy (model prog w) A env fun e s' => R (.error e) s') s₁) (notedBy (model prog w) A env fun e s' => R (.error e) s') s)
    (n : Nat) (h : I n s) (ht : ∀ v, letOwnedTupleGo target it v = pure () := by intro _; rfl) :
    codeAny (model prog w) A (.compLoop (.ListComp elt [g, ⟨target, iter, [], 0⟩] scope pos) 1 it acc env) R s := by
  refine codeAny_loop rfl I (fun n s hI => ?_) n h
  show wpAny _ _ ((compTurn (.ListComp elt [g, ⟨target, iter, [], 0⟩] scope pos) 1 it acc env).onRaise (fun x => do noteFrame x env; theTreesLotGoes x)) _ _ s
  refine wpAny_noted ?_
  rw [compTurn_in]
  refine wpAny_bind (wpAny_standAt (wpAny_bind (wpAny_mono (turn n s hI) (fun r s₁ h₁ => ?_) fun _ _ h' => h')))
  cases r with
  | none => exact wpAny_pure h₁
  | some v =>
    refine wpAny_bind (wpAny_of_eq (ht v) ?_)
    exact wpAny_bind (wpAny_mono h₁ (fun _ s₂ h₂ => wpAny_bind (wpAny_bind (wpAny_mono h₂ (fun x s₃ h₃ => wpAny_bind (wpAny_mono h₃
      (fun _ s₄ h₄ => wpAny_pure (wpAny_pure ⟨rfl, h₄⟩)) fun _ _ h' => h')) fun _ _ h' => h'))) fun _ _ h' => h')

theorem codeAny_compStart_in {prog : Program} {w : World} {R : Result → Shared → Prop} {s : Shared} {g : Comprehension} {elt target iter ifs scope pos it acc env}
    (h0 : codeAny (model prog w) A (.compLoop (.ListComp elt [g, ⟨target, iter, ifs, 0⟩] scope pos) 1 it acc env) R s)
    (h : wpAny (model prog w) A (pyIter it) (fun it' s' => codeAny (model prog w) A (.compLoop (.ListComp elt [g, ⟨target, iter, ifs, 0⟩] scope pos) 1 it' acc env) R s')
      (notedBy (model prog w) A env fun x s' => R (.error x) s') s) :
    codeAny (model prog w) A (.compStart (.ListComp elt [g, ⟨target, iter, ifs, 0⟩] scope pos) 1 it acc env) R s := by
  refine codeAny_of_tree ?_
  show wpAny _ _ ((compStart (.ListComp elt [g, ⟨target, iter, ifs, 0⟩] scope pos) 1 it acc env).onRaise (fun x => do noteFrame x env; standAt theWindowsPlace)) _ _ s
  refine wpAny_notedAt ?_
  unfold compStart
  show wpAny _ _ (ask >>= _) _ _ s
  refine wpAny_bind (wpAny_askSetting (wpAny_ite ?_))
  split
  · first
      | exact wpAny_bind (wpAny_pure (wpAny_pure (And.intro rfl h0)))
      | exact wpAny_pure (And.intro rfl h0)
  · first
      | exact wpAny_bind (wpAny_rule (wpAny_bind (wpAny_standAt (wpAny_bind (wpAny_mono h (fun it' s' h' => wpAny_pure (And.intro rfl h')) fun _ _ x => x)))))
      | (refine wpAny_bind (wpAny_rule ?_); show wpAny _ _ (standAt iter.pos >>= _) _ _ s; exact wpAny_bind (wpAny_standAt (wpAny_bind (wpAny_mono h (fun it' s' h' => wpAny_pure (And.intro rfl h')) fun _ _ x => x))))

theorem comp_in {g : Comprehension} {elt iter : Expr} {x0 x : Str} {v0 : Value} {px : Pos} {scope : Scope} {pos : Pos} {cl : List (Str × Addr)} {R : Result → Shared → Prop} {hb hk h₀ : Heap} {I D C : Addr} {n : Nat} {V : Nat → Value → Prop} {St : Nat → Heap → Prop} {G : Nat → Value → Heap → Prop} {ys0 : List Value}
    (it : Itr X A hb I n V St) (hz : ys0.length + n ≤ 1000000) (hx : scope.names.lookup x = some .local) (hkind : scope.kind = .function) (hxx : x0 ≠ x)
    (hIC : I ≠ C) (hID : I ≠ D) (hDC : D ≠ C) (kbk : Keep hb hk) (hkI : hk.get? I = none) (hkC : hk.get? C = none) (hkD : hk.get? D = none) (kb : Keep hk h₀)
    (helt : ∀ i v h₁ tk₁ m, i < n → V i v → Keep hk h₁ → h₁.Ns C m → m x = some v → m x0 = some v0 →
      W X A (eval elt (compEnvC scope cl C env)) (fun y h₂ _ => Keep h₁ h₂ ∧ ∀ hx, Keep hb hx → Fresh h₁ h₂ hx → G i y hx) h₁ tk₁)
    (hR : ∀ h' tk' (ys : List Value) m, ys.length = n → (∀ b o, b ≠ I → b ≠ C → b ≠ D → h₀.get? b = some o → h'.get? b = some o) → h'.Ns C m → PlainL h' D (ys0 ++ ys).toArray →
      (∀ hx, Keep hb hx → Fresh h₀ h' hx → ∀ i y, ys[i]? = some y → G i y hx) → R (.ok .next) (S X.s h' tk'))
    {tk : Nat} {m : Str → Option Value} (st : St 0 h₀) (hn : h₀.Ns C m) (hm0 : m x0 = some v0) (hl : PlainL h₀ D ys0.toArray) :
    codeAny (model X.prog X.w) A (.compLoop (.ListComp elt [g, ⟨.Name x px, iter, [], 0⟩] scope pos) 1 (.ref I) (.ref D) (compEnvC scope cl C env)) R (S X.s h₀ tk) := by
  have hzL := sizeLine_eq
  have bI : ∀ b o, hk.get? b = some o → b ≠ I := fun b o e q => by rw [q, hkI] at e; cases e
  have bC : ∀ b o, hk.get? b = some o → b ≠ C := fun b o e q => by rw [q, hkC] at e; cases e
  have bD : ∀ b o, hk.get? b = some o → b ≠ D := fun b o e q => by rw [q, hkD] at e; cases e
  have lI : ∃ o, h₀.get? I = some o := it.lives _ _ st
  have lC : ∃ o, h₀.get? C = some o := by obtain ⟨o, _, _, e, _⟩ := hn; exact ⟨o, e⟩
  have lD : ∃ o, h₀.get? D = some o := by obtain ⟨o, _, e, _⟩ := hl; exact ⟨o, e⟩
  refine codeAny_compLoop_in
    (fun k s' => ∃ i h' tk', ∃ ys : List Value, ∃ m, s' = S X.s h' tk' ∧ k = n + 1 - i ∧ i ≤ n ∧ ys.length = i ∧ St i h' ∧ Keep hk h' ∧ h'.Ns C m ∧ m x0 = some v0 ∧ PlainL h' D (ys0 ++ ys).toArray ∧ (∀ b o, b ≠ I → b ≠ C → b ≠ D → h₀.get? b = some o → h'.get? b = some o) ∧ 
      (∀ hx, Keep hb hx → Fresh h₀ h' hx → ∀ i y, ys[i]? = some y → G i y hx)) ?_ (n + 1)
    ⟨0, h₀, tk, [], m, rfl, rfl, Nat.zero_le _, rfl, st, kb, hn, hm0, by simpa using hl, fun b o _ _ _ e => e, fun _ _ _ i y e => by simp at e⟩
  rintro k s' ⟨i, h', tk', ys, m', rfl, rfl, hi, hlen, st', kb', hn', hm', hl', old, hg⟩
  by_cases hlt : i < n
  · refine W.run (it.item i h' tk' (fun r h₃ t₃ => ∃ v, r = some v ∧ V i v ∧ St (i + 1) h₃ ∧ Heap.ExtBut I h' h₃) hlt (kbk.trans kb') st' fun v h₃ t₃ hv st₃ ex => ⟨v, rfl, hv, st₃, ex⟩) fun r h₃ t₃ q₃ => ?_
    obtain ⟨v, rfl, hv, st₃, ex⟩ := q₃
    have hn₃ : h₃.Ns C m' := hn'.extBut ex (Ne.symm hIC)
    refine wpAny_assign_Name (wpAny_storeName_local (env := compEnvC scope cl C env) (lookup_relabel_local hx) hn₃ (fun h₄ hn₄ hs₄ => ?_) (by show (scope.kind == .class || (scope.kind == .module && _)) = false; rw [hkind]; rfl))
    have kb₄ : Keep hk h₄ := fun b o e => hs₄.extBut b o (bC b o e) (ex b o (bI b o e) (kb' b o e))
    have hm₄ : (fun y => if y = x then some v else m' y) x0 = some v0 := by show (if x0 = x then some v else m' x0) = _; rw [if_neg hxx]; exact hm'
    refine W.run (helt i v h₄ (t₃ + 1) _ hlt hv kb₄ hn₄ (by simp) hm₄) fun y h₅ t₅ q₅ => ?_
    obtain ⟨k₅, hy⟩ := q₅
    have hl₃ : PlainL h₃ D (ys0 ++ ys).toArray := hl'.extBut ex (Ne.symm hID)
    have hl₄ : PlainL h₄ D (ys0 ++ ys).toArray := hl₃.extBut hs₄.extBut hDC
    have hl₅ : PlainL h₅ D (ys0 ++ ys).toArray := hl₄.keeps k₅
    refine list_append_plainL hl₅ (fun h₆ hl₆ hs₆ => ?_) (by simp; omega)
    have hn₆ := (hn₄.keeps k₅).sameBut hs₆ (Ne.symm hDC)
    have st₆ : St (i + 1) h₆ := it.frame _ _ _ st₃ fun o e => hs₆.extBut I o hID (k₅ _ _ (hs₄.extBut I o hIC e))
    have up : ∀ b o, b ≠ I → b ≠ C → b ≠ D → h'.get? b = some o → h₆.get? b = some o := fun b o b1 b2 b3 e => hs₆.extBut b o b3 (k₅ b o (hs₄.extBut b o b2 (ex b o b1 e)))
    refine ⟨n + 1 - (i + 1), by omega, i + 1, h₆, t₅, ys ++ [y], _, rfl, rfl, hlt, by simp [hlen], st₆, ?_, hn₆, hm₄, by simpa using hl₆, ?_, ?_⟩
    · exact fun b o e => hs₆.extBut b o (bD b o e) (k₅ b o (kb₄ b o e))
    · exact fun b o b1 b2 b3 e => up b o b1 b2 b3 (old b o b1 b2 b3 e)
    · intro hx kx fx j z ez
      by_cases hj : j < ys.length
      · rw [List.getElem?_append_left hj] at ez
        refine hg hx kx (fun b o e1 e4 => fx b o e1 (up b o ?_ ?_ ?_ e4)) j z ez
        · exact (ne_of_live lI e1).symm
        · exact (ne_of_live lC e1).symm
        · exact (ne_of_live lD e1).symm
      · have hj' : j = ys.length := by
          have : j < (ys ++ [y]).length := by
            apply Nat.lt_of_not_le
            intro c
            rw [List.getElem?_eq_none c] at ez; cases ez
          simp at this; omega
        subst hj'
        simp at ez
        subst ez
        rw [hlen]
        refine hy hx kx fun b o e1 e2 => ?_
        have b1 : b ≠ I := by rintro rfl; obtain ⟨o', e'⟩ := it.lives _ _ st₃; rw [hs₄.extBut _ o' hIC e'] at e1; cases e1
        have b2 : b ≠ C := by rintro rfl; obtain ⟨o', _, _, e', _⟩ := hn₄; exact nomatch e1.symm.trans e'
        have b3 : b ≠ D := by rintro rfl; obtain ⟨o', _, e', _⟩ := hl₄; rw [e'] at e1; cases e1
        refine fx b o ?_ (hs₆.extBut b o b3 e2)
        cases q : h₀.get? b with
        | none => rfl
        | some o' => rw [hs₄.extBut b o' b2 (ex b o' b1 (old b o' b1 b2 b3 q))] at e1; cases e1
  · have : i = n := by omega
    subst this
    refine W.run (it.done h' tk' (fun r h₃ t₃ => r = none ∧ Heap.ExtBut I h' h₃) (kbk.trans kb') st' fun h₃ t₃ ex => ⟨rfl, ex⟩) fun r h₃ t₃ q₃ => ?_
    obtain ⟨rfl, ex⟩ := q₃
    exact hR h₃ t₃ ys m' hlen (fun b o b1 b2 b3 e => ex b o b1 (old b o b1 b2 b3 e)) (hn'.extBut ex (Ne.symm hIC)) (hl'.extBut ex (Ne.symm hID)) fun hx kx fx => hg hx kx fun b o e1 e4 => fx b o e1 (ex b o (ne_of_live lI e1).symm e4)

theorem comp2_loop {elt iter iter1 : Expr} {x0 x1 : Str} {px p1 : Pos} {scope : Scope} {pos : Pos} {cl : List (Str × Addr)} {R : Result → Shared → Prop} {hb hk h₀ : Heap} {I D C : Addr} {n k : Nat} {V : Nat → Value → Prop} {V1 : Nat → Nat → Value → Prop} {St : Nat → Heap → Prop} {G : Nat → Value → Heap → Prop}
    (it : Itr X A hb I n V St) (hz : n * k ≤ 1000000) (hx0 : scope.names.lookup x0 = some .local) (hx1 : scope.names.lookup x1 = some .local) (hkind : scope.kind = .function) (hxx : x0 ≠ x1)
    (hIC : I ≠ C) (hID : I ≠ D) (hDC : D ≠ C) (kbk : Keep hb hk) (hkI : hk.get? I = none) (hkC : hk.get? C = none) (hkD : hk.get? D = none) (kb : Keep hk h₀)
    (hs : ∀ C x, foldedSetIterable iter1 (compEnvC scope cl C env) x = pure x)
    (hit : ∀ i v h₁ tk₁ m, i < n → V i v → Keep hk h₁ → h₁.Ns C m → m x0 = some v → W X A (eval iter1 (compEnvC scope cl C env)) (fun xv h₂ _ => Keep h₁ h₂ ∧ Src X A hb xv h₂ k (V1 i)) h₁ tk₁)
    (helt : ∀ i j v v1 h₁ tk₁ m, i < n → j < k → V i v → V1 i j v1 → Keep hk h₁ → h₁.Ns C m → m x0 = some v → m x1 = some v1 →
      W X A (eval elt (compEnvC scope cl C env)) (fun y h₂ _ => Keep h₁ h₂ ∧ ∀ hx, Keep hb hx → Fresh h₁ h₂ hx → G (i * k + j) y hx) h₁ tk₁)
    (hR : ∀ h' tk' (ys : List Value) m, ys.length = n * k → (∀ b o, b ≠ I → b ≠ C → b ≠ D → h₀.get? b = some o → h'.get? b = some o) → h'.Ns C m → PlainL h' D ys.toArray →
      (∀ hx, Keep hb hx → Fresh h₀ h' hx → ∀ i y, ys[i]? = some y → G i y hx) → R (.ok .next) (S X.s h' tk'))
    {tk : Nat} {m : Str → Option Value} (st : St 0 h₀) (hn : h₀.Ns C m) (hl : PlainL h₀ D #[]) :
    codeAny (model X.prog X.w) A (.compLoop (.ListComp elt [⟨.Name x0 px, iter, [], 0⟩, ⟨.Name x1 p1, iter1, [], 0⟩] scope pos) 0 (.ref I) (.ref D) (compEnvC scope cl C env)) R (S X.s h₀ tk) := by
  have bI : ∀ b o, hk.get? b = some o → b ≠ I := fun b o e q => by rw [q, hkI] at e; cases e
  have bC : ∀ b o, hk.get? b = some o → b ≠ C := fun b o e q => by rw [q, hkC] at e; cases e
  have bD : ∀ b o, hk.get? b = some o → b ≠ D := fun b o e q => by rw [q, hkD] at e; cases e
  have lI : ∃ o, h₀.get? I = some o := it.lives _ _ st
  have lC : ∃ o, h₀.get? C = some o := by obtain ⟨o, _, _, e, _⟩ := hn; exact ⟨o, e⟩
  have lD : ∃ o, h₀.get? D = some o := by obtain ⟨o, _, e, _⟩ := hl; exact ⟨o, e⟩
  refine codeAny_loop rfl
    (fun kk s' => ∃ i h' tk', ∃ ys : List Value, ∃ m, s' = S X.s h' tk' ∧ kk = n + 1 - i ∧ i ≤ n ∧ ys.length = i * k ∧ St i h' ∧ Keep hk h' ∧ h'.Ns C m ∧ PlainL h' D ys.toArray ∧ (∀ b o, b ≠ I → b ≠ C → b ≠ D → h₀.get? b = some o → h'.get? b = some o) ∧ 
      (∀ hx, Keep hb hx → Fresh h₀ h' hx → ∀ i y, ys[i]? = some y → G i y hx)) ?_ (n + 1)
    ⟨0, h₀, tk, [], m, rfl, rfl, Nat.zero_le _, by simp, st, kb, hn, by simpa using hl, fun b o _ _ _ e => e, fun _ _ _ i y e => by simp at e⟩
  rintro kk s' ⟨i, h', tk', ys, m', rfl, rfl, hi, hlen, st', kb', hn', hl', old, hg⟩
  show wpAny _ _ ((compTurn (.ListComp elt [⟨.Name x0 px, iter, [], 0⟩, ⟨.Name x1 p1, iter1, [], 0⟩] scope pos) 0 (.ref I) (.ref D) (compEnvC scope cl C env)).onRaise (fun x => do noteFrame x (compEnvC scope cl C env); theTreesLotGoes x)) _ _ _
  refine wpAny_noted ?_
  rw [compTurn_out]
  refine wpAny_bind (wpAny_standAt (wpAny_bind ?_))
  by_cases hlt : i < n
  · refine W.run (it.item i h' tk' (fun r h₃ t₃ => ∃ v, r = some v ∧ V i v ∧ St (i + 1) h₃ ∧ Heap.ExtBut I h' h₃) hlt (kbk.trans kb') st' fun v h₃ t₃ hv st₃ ex => ⟨v, rfl, hv, st₃, ex⟩) fun r h₃ t₃ q₃ => ?_
    obtain ⟨v, rfl, hv, st₃, ex⟩ := q₃
    have hn₃ : h₃.Ns C m' := hn'.extBut ex (Ne.symm hIC)
    refine wpAny_bind (wpAny_of_eq (a := ()) rfl (wpAny_bind ?_))
    refine wpAny_assign_Name (wpAny_storeName_local (env := compEnvC scope cl C env) (lookup_relabel_local hx0) hn₃ (fun h₄ hn₄ hs₄ => ?_) (by show (scope.kind == .class || (scope.kind == .module && _)) = false; rw [hkind]; rfl))
    have kb₄ : Keep hk h₄ := fun b o e => hs₄.extBut b o (bC b o e) (ex b o (bI b o e) (kb' b o e))
    refine wpAny_bind (W.run (hit i v h₄ (t₃ + 1) _ hlt hv kb₄ hn₄ (by simp)) fun xv h₅ t₅ q₅ => ?_)
    obtain ⟨k₅, src⟩ := q₅
    refine wpAny_bind (wpAny_standAt (wpAny_bind (wpAny_of_eq (hs C xv) (wpAny_bind (wpAny_holding ?_)))))
    refine W.run (src t₅ (fun v h₂ t₂ => ∃ I St, v = .ref I ∧ Itr X A hb I k (V1 i) St ∧ St 0 h₂ ∧ Keep h₅ h₂ ∧ h₅.get? I = none) fun I St h₂ t₂ it st k f => ⟨I, St, rfl, it, st, k, f⟩) fun vi h₆ t₆ q₆ => ?_
    obtain ⟨I2, St2, rfl, it2, st2, k₆, f2⟩ := q₆
    have hl₃ : PlainL h₃ D ys.toArray := hl'.extBut ex (Ne.symm hID)
    have hl₄ : PlainL h₄ D ys.toArray := hl₃.extBut hs₄.extBut hDC
    have hl₆ : PlainL h₆ D ys.toArray := (hl₄.keeps k₅).keeps k₆
    have hn₆ := (hn₄.keeps k₅).keeps k₆
    have st₅ : St (i + 1) h₅ := it.frame _ _ _ st₃ fun o e => k₅ _ _ (hs₄.extBut I o hIC e)
    have st₆ : St (i + 1) h₆ := it.frame _ _ _ st₅ fun o e => k₆ _ _ e
    have kb₅ : Keep hk h₅ := kb₄.trans k₅
    have eI : I ≠ I2 := ne_of_live (it.lives _ _ st₅) f2
    have eC : C ≠ I2 := by obtain ⟨o, _, _, e, _⟩ := hn₄.keeps k₅; exact ne_of_live ⟨o, e⟩ f2
    have eD : D ≠ I2 := by obtain ⟨o, _, e, _⟩ := hl₄.keeps k₅; exact ne_of_live ⟨o, e⟩ f2
    have up5 : ∀ b o, b ≠ I → b ≠ C → h'.get? b = some o → h₅.get? b = some o := fun b o b1 b2 e => k₅ b o (hs₄.extBut b o b2 (ex b o b1 e))
    refine wpAny_bind ?_
    unfold runOwn
    refine wpAny_onRaise (wpAny_run ?_)
    have lp : ∀ tk, codeAny (model X.prog X.w) (A.mark none) (.compLoop (.ListComp elt [⟨.Name x0 px, iter, [], 0⟩, ⟨.Name x1 p1, iter1, [], 0⟩] scope pos) 1 (.ref I2) (.ref D) (compEnvC scope cl C env)) (fun r s' => match r with
        | .ok _ => wpAny (model X.prog X.w) A (again (.compLoop (.ListComp elt [⟨.Name x0 px, iter, [], 0⟩, ⟨.Name x1 p1, iter1, [], 0⟩] scope pos) 0 (.ref I) (.ref D) (compEnvC scope cl C env))) 
           (fun fin s' => match fin with
            | .done f => R (.ok f) s'
            | .again c' => c' = .compLoop (.ListComp elt [⟨.Name x0 px, iter, [], 0⟩, ⟨.Name x1 p1, iter1, [], 0⟩] scope pos) 0 (.ref I) (.ref D) (compEnvC scope cl C env) ∧ ∃ m, m < n + 1 - i ∧ ∃ i h' tk', ∃ ys : List Value, ∃ m_1, s' = S X.s h' tk' ∧ m = n + 1 - i ∧ i ≤ n ∧ ys.length = i * k ∧ St i h' ∧ Keep hk h' ∧ h'.Ns C m_1 ∧ PlainL h' D ys.toArray ∧ (∀ b o, b ≠ I → b ≠ C → b ≠ D → h₀.get? b = some o → h'.get? b = some o) ∧ 
      (∀ hx, Keep hb hx → Fresh h₀ h' hx → ∀ i y, ys[i]? = some y → G i y hx)) (notedBy (model X.prog X.w) A (compEnvC scope cl C env) fun e s' => R (.error e) s') s'
        | .error e => False) (S X.s h₆ tk) := by
      intro tk
      refine comp_in (X := X) (x0 := x0) (v0 := v) (hk := hk) (G := fun j => G (i * k + j)) it2 ?_ hx1 hkind hxx eC.symm eD.symm hDC kbk (none_of_keep kb₅ f2) hkC hkD (kb₅.trans k₆) (fun j v1 h₁ tk₁ m₁ hj hv1 k₁ hn₁ hm1 hm0 => helt i j v v1 h₁ tk₁ m₁ hlt hj hv hv1 k₁ hn₁ hm0 hm1) ?_ st2 hn₆ (by simp) hl₆
      · rw [hlen]
        have := Nat.mul_le_mul_right k hlt
        rw [Nat.succ_mul] at this
        omega
      · intro h₇ t₇ zs m₇ hlz old₇ hn₇ hl₇ hg₇
        refine wpAny_pure ⟨rfl, n + 1 - (i + 1), by omega, i + 1, h₇, t₇, ys ++ zs, m₇, rfl, rfl, hlt, by rw [List.length_append, hlen, hlz, Nat.succ_mul], ?_, ?_, hn₇, hl₇, ?_, ?_⟩
        · exact it.frame _ _ _ st₆ fun o e => old₇ I o eI hIC hID e
        · exact fun b o e => old₇ b o (ne_of_live ⟨o, kb₅ b o e⟩ f2) (bC b o e) (bD b o e) (k₆ b o (kb₅ b o e))
        · exact fun b o b1 b2 b3 e => by
            have e5 := up5 b o b1 b2 (old b o b1 b2 b3 e)
            exact old₇ b o (ne_of_live ⟨o, e5⟩ f2) b2 b3 (k₆ b o e5)
        · intro hx kx fx j z ez
          have up : ∀ b o, b ≠ I → b ≠ C → b ≠ D → h'.get? b = some o → h₇.get? b = some o := fun b o b1 b2 b3 e => by
            have e5 := up5 b o b1 b2 e
            exact old₇ b o (ne_of_live ⟨o, e5⟩ f2) b2 b3 (k₆ b o e5)
          by_cases hj : j < ys.length
          · rw [List.getElem?_append_left hj] at ez
            exact hg hx kx (fun b o e1 e4 => fx b o e1 (up b o (ne_of_live lI e1).symm (ne_of_live lC e1).symm (ne_of_live lD e1).symm e4)) j z ez
          · rw [List.getElem?_append_right (by omega)] at ez
            have := hg₇ hx kx (fun b o e1 e2 => ?_) _ z ez
            · have e : i * k + (j - ys.length) = j := by omega
              rw [e] at this; exact this
            · refine fx b o ?_ e2
              cases q : h₀.get? b with
              | none => rfl
              | some o' =>
                have b1 : b ≠ I := by rintro rfl; obtain ⟨o', e'⟩ := it.lives _ _ st₆; rw [e'] at e1; cases e1
                have b2 : b ≠ C := by rintro rfl; obtain ⟨o', _, _, e', _⟩ := hn₆; exact nomatch e1.symm.trans e'
                have b3 : b ≠ D := by rintro rfl; obtain ⟨o', _, e', _⟩ := hl₆; rw [e'] at e1; cases e1
                rw [k₆ _ _ (up5 b o' b1 b2 (old b o' b1 b2 b3 q))] at e1; cases e1
    refine codeAny_mono (codeAny_compStart_in (lp t₆) (W.run (it2.self 0 h₆ t₆ (fun v h' t' => v = .ref I2 ∧ h' = h₆ ∧ t' = t₆) st2 ⟨rfl, rfl, rfl⟩) fun v h' t' q => by obtain ⟨rfl, rfl, rfl⟩ := q; exact lp t')) fun r s' hr => ?_
    cases r with
    | ok f => exact hr
    | error e => exact hr.elim
  · have : i = n := by omega
    subst this
    refine W.run (it.done h' tk' (fun r h₃ t₃ => r = none ∧ Heap.ExtBut I h' h₃) (kbk.trans kb') st' fun h₃ t₃ ex => ⟨rfl, ex⟩) fun r h₃ t₃ q₃ => ?_
    obtain ⟨rfl, ex⟩ := q₃
    exact wpAny_pure (hR h₃ t₃ ys m' hlen (fun b o b1 b2 b3 e => ex b o b1 (old b o b1 b2 b3 e)) (hn'.extBut ex (Ne.symm hIC)) (hl'.extBut ex (Ne.symm hID)) fun hx kx fx => hg hx kx fun b o e1 e4 => fx b o e1 (ex b o (ne_of_live lI e1).symm e4))
end
end Mine

end
section
open PySem PySem.W PyProof.Rows
set_option Elab.async false
set_option linter.unusedVariables false
set_option maxRecDepth 100000
namespace Mine
section
variable {X : Cx} {A : Around} {h : Heap} {tk : Nat} {env : Env}

/-- what is asked of a comprehension with two fors, over h₁ -/
structure Two (X : Cx) (A : Around) (env : Env) (scope : Scope) (cl : List (Str × Addr)) (elt iter1 : Expr) (x0 x1 : Str) (hb h₁ : Heap) (xv : Value) (n k : Nat) (V : Nat → Value → Prop) (V1 : Nat → Nat → Value → Prop) (G : Nat → Value → Heap → Prop) : Prop where
  kb : Keep hb h₁
  src : Src X A hb xv h₁ n V
  few : n * k ≤ 1000000
  it : ∀ C i v h₂ t₂ m, i < n → V i v → Keep h₁ h₂ → h₁.get? C = none → h₂.Ns C m → m x0 = some v → W X A (eval iter1 (compEnvC scope cl C env)) (fun xv h₃ _ => Keep h₂ h₃ ∧ Src X A hb xv h₃ k (V1 i)) h₂ t₂
  elt : ∀ C i j v v1 h₂ t₂ m, i < n → j < k → V i v → V1 i j v1 → Keep h₁ h₂ → h₁.get? C = none → h₂.Ns C m → m x0 = some v → m x1 = some v1 →
      W X A (eval elt (compEnvC scope cl C env)) (fun y h₃ _ => Keep h₂ h₃ ∧ ∀ hx, Keep hb hx → Fresh h₂ h₃ hx → G (i * k + j) y hx) h₂ t₂

theorem comp2_block {elt iter iter1 : Expr} {x0 x1 : Str} {px p1 : Pos} {scope : Scope} {pos : Pos} {cl : List (Str × Addr)} {RR : Value → Addr → Result → Shared → Prop} {E : Value → Shared → Prop} {hb h₁ : Heap} {xv : Value} {n k : Nat} {V : Nat → Value → Prop} {V1 : Nat → Nat → Value → Prop} {G : Nat → Value → Heap → Prop} {t₁ : Nat}
    (two : Two X A env scope cl elt iter1 x0 x1 hb h₁ xv n k V V1 G)
    (hcell : (scope.names.all fun x => decide (x.2 ≠ .cell)) = true) (hkind : scope.kind = .function)
    (hx0 : scope.names.lookup x0 = some .local) (hx1 : scope.names.lookup x1 = some .local) (hxx : x0 ≠ x1)
    (hs1 : ∀ C x, foldedSetIterable iter1 (compEnvC scope cl C env) x = pure x)
    (fin : ∀ D C h' t' (ys : List Value) m, ys.length = n * k → Keep h₁ h' → h₁.get? D = none → h₁.get? C = none → D ≠ C → h'.Ns C m → PlainL h' D ys.toArray → (∀ hx, Keep hb hx → (∀ b o, h₁.get? b = none → b ≠ C → b ≠ D → h'.get? b = some o → hx.get? b = some o) → ∀ i y, ys[i]? = some y → G i y hx) → RR (.ref D) C (.ok .next) (S X.s h' t')) :
    wpAny (model X.prog X.w) A (pyIter xv) (fun itv s₂ => wpAny (model X.prog X.w) A (newList []) (fun acc s₃ => wpAny (model X.prog X.w) A (newFunctionEnv scope env.globals cl [] env.qual none .none (some env)) (fun cenv s₄ =>
      codeAny (model X.prog X.w) A (.compStart (.ListComp elt [⟨.Name x0 px, iter, [], 0⟩, ⟨.Name x1 p1, iter1, [], 0⟩] scope pos) 0 itv acc { cenv with scope := relabel scope env }) (RR acc cenv.locals) s₄) E s₃) E s₂) E (S X.s h₁ t₁) := by
  refine W.run (two.src t₁ (fun v h₂ t₂ => ∃ I St, v = .ref I ∧ Itr X A hb I n V St ∧ St 0 h₂ ∧ Keep h₁ h₂ ∧ h₁.get? I = none) fun I St h₂ t₂ it st k f => ⟨I, St, rfl, it, st, k, f⟩) fun v h₂ t₂ q₂ => ?_
  obtain ⟨I, St, rfl, it, st, kk, f⟩ := q₂
  refine comp_block hcell hkind (fun h₃ tk₃ Q₃ k₃ q₃ => it.self 0 h₃ tk₃ Q₃ (it.frame _ _ _ st fun o e => k₃ _ _ e) q₃) fun D C h₃ tk₃ m hD hC hDC k₃ hn hl => ?_
  have hIC : I ≠ C := ne_of_live (it.lives _ _ st) hC
  have hID : I ≠ D := ne_of_live (it.lives _ _ st) hD
  refine comp2_loop (hk := h₁) (G := G) it two.few hx0 hx1 hkind hxx hIC hID hDC two.kb f (none_of_keep kk hC) (none_of_keep kk hD) (kk.trans k₃) hs1
    (fun i v h₄ tk₄ m₄ hi hv k₄ hn₄ hm₄ => two.it C i v h₄ tk₄ m₄ hi hv k₄ (none_of_keep kk hC) hn₄ hm₄)
    (fun i j v v1 h₄ tk₄ m₄ hi hj hv hv1 k₄ hn₄ hm₄ hm1 => two.elt C i j v v1 h₄ tk₄ m₄ hi hj hv hv1 k₄ (none_of_keep kk hC) hn₄ hm₄ hm1) ?_ (it.frame _ _ _ st fun o e => k₃ _ _ e) hn hl
  intro h' tk' ys m' hlen old hn' hl' hg
  refine fin D C h' tk' ys m' hlen ?_ (none_of_keep kk hD) (none_of_keep kk hC) hDC hn' hl' fun hx kx fx => hg hx kx fun b o e1 e2 => fx b o (none_of_keep (kk.trans k₃) e1) ?_ ?_ e2
  · exact fun b o e => old b o (fun q => by rw [q, f] at e; cases e) (fun q => by rw [q, none_of_keep kk hC] at e; cases e) (fun q => by rw [q, none_of_keep kk hD] at e; cases e) (k₃ _ _ (kk _ _ e))
  · rintro rfl; obtain ⟨o', _, _, e', _⟩ := hn; exact nomatch e1.symm.trans e'
  · rintro rfl; obtain ⟨o', _, e', _⟩ := hl; rw [e'] at e1; cases e1

/-- [elt for x0 in iter for x1 in iter1] -/
theorem W_ListComp2 {elt iter iter1 : Expr} {x0 x1 : Str} {px p1 : Pos} {scope : Scope} {pos : Pos} {cl : List (Str × Addr)} {Q : Value → Heap → Nat → Prop}
    (hclos : closureFor scope env = pure cl)
    (H : W X A (eval iter env) (fun xv h₁ t₁ => ∃ hb n k V V1 G, Two X A env scope cl elt iter1 x0 x1 hb h₁ xv n k V V1 G ∧
      (∀ D h' t' (ys : List Value), ys.length = n * k → Keep h₁ h' → h₁.get? D = none → Ls h' D ys → (∀ hx, Keep hb hx → Fresh h₁ h' hx → ∀ i y, ys[i]? = some y → G i y hx) → Q (.ref D) h' t')) h tk)
    (hcell : (scope.names.all fun x => decide (x.2 ≠ .cell)) = true := by rfl) (hkind : scope.kind = .function := by rfl)
    (hnames : (scope.names.all fun x => decide (x.2 = .local → scope.names.lookup x.1 = some .local)) = true := by rfl) (hx0 : scope.names.lookup x0 = some .local := by rfl) (hx1 : scope.names.lookup x1 = some .local := by rfl) (hxx : x0 ≠ x1 := by decide)
    (hs : ∀ x, foldedSetIterable iter env x = pure x := by intro _; rfl) (hs1 : ∀ C x, foldedSetIterable iter1 (compEnvC scope cl C env) x = pure x := by intro _ _; rfl) :
    W X A (eval (.ListComp elt [⟨.Name x0 px, iter, [], 0⟩, ⟨.Name x1 p1, iter1, [], 0⟩] scope pos) env) Q h tk := by
  show wpAny _ _ _ _ _ _
  rw [eval_ListComp]
  refine wpAny_comprehension_free (use := none) (g := ⟨.Name x0 px, iter, [], 0⟩) (gs := [⟨.Name x1 p1, iter1, [], 0⟩]) rfl hs hclos hkind (fun z hz => of_decide_eq_true (List.all_eq_true.mp hnames z hz)) (W.run H fun xv h₁ t₁ q => ?_)
  obtain ⟨hb, n, k, V, V1, G, two, fin⟩ := q
  refine comp2_block two hcell hkind hx0 hx1 hxx hs1 fun D C h' t' ys m hlen kp hD hC hDC hn hl hg => ?_
  refine ⟨m, hn, fun h'' hs'' => ⟨h'', t', rfl, ?_⟩⟩
  refine fin D h'' t' ys hlen (fun b o e => hs''.extBut b o (fun q => by rw [q, hC] at e; cases e) (kp b o e)) hD (ls_of (hl.extBut hs''.extBut hDC)) fun hx kx fx => hg hx kx fun b o e1 e2 e3 e4 => fx b o e1 (hs''.extBut b o e2 e4)

/-- y = [elt for x0 in iter for x1 in iter1], where the store comes ahead of the letting go -/
theorem W_Assign_ListComp2 {elt iter iter1 : Expr} {x0 x1 y : Str} {px p1 py : Pos} {scope : Scope} {pos spos : Pos} {cl : List (Str × Addr)} {Q : Flow → Heap → Nat → Prop}
    (hclos : closureFor scope env = pure cl)
    (H : W X A (eval iter env) (fun xv h₁ t₁ => ∃ hb n k V V1 G mm, h₁.Ns env.locals mm ∧ Two X A env scope cl elt iter1 x0 x1 hb h₁ xv n k V V1 G ∧
      (∀ D h' t' (ys : List Value), ys.length = n * k → Heap.ExtBut env.locals h₁ h' → h₁.get? D = none → Ls h' D ys → h'.Ns env.locals (fun z => if z = y then some (.ref D) else mm z) → (∀ hx, Keep hb hx → Fresh h₁ h' hx → ∀ i y, ys[i]? = some y → G i y hx) → Q .next h' t')) h tk)
    (hsw : swapsWith (.ListComp elt [⟨.Name x0 px, iter, [], 0⟩, ⟨.Name x1 p1, iter1, [], 0⟩] scope pos) (some (.Name y py)) spos.line env = pure true := by rfl)
    (hy : env.kindOf y = some .local := by rfl) (hp : (env.scope.kind == .class || (env.scope.kind == .module && env.locals != env.globals)) = false := by rfl)
    (hcell : (scope.names.all fun x => decide (x.2 ≠ .cell)) = true := by rfl) (hkind : scope.kind = .function := by rfl)
    (hnames : (scope.names.all fun x => decide (x.2 = .local → scope.names.lookup x.1 = some .local)) = true := by rfl) (hx0 : scope.names.lookup x0 = some .local := by rfl) (hx1 : scope.names.lookup x1 = some .local := by rfl) (hxx : x0 ≠ x1 := by decide)
    (hs : ∀ x, foldedSetIterable iter env x = pure x := by intro _; rfl) (hs1 : ∀ C x, foldedSetIterable iter1 (compEnvC scope cl C env) x = pure x := by intro _ _; rfl) :
    W X A (exec (.Assign [.Name y py] (.ListComp elt [⟨.Name x0 px, iter, [], 0⟩, ⟨.Name x1 p1, iter1, [], 0⟩] scope pos) spos) env) Q h tk := by
  show wpAny _ _ _ _ _ _
  rw [exec_Assign_Name_used _ _ _ _ hsw]
  refine wpAny_bind (wpAny_standAt (wpAny_bind ?_))
  show wpAny _ A (do let _ ← comprehension (.ListComp elt [⟨.Name x0 px, iter, [], 0⟩, ⟨.Name x1 p1, iter1, [], 0⟩] scope pos) scope env _ (newList []) false (eval iter env) (some (assign (.Name y py) env))) _ _ _
  refine wpAny_bind (wpAny_mono (wpAny_comprehension_free (E := fun _ _ => False) (Q := fun _ s' => ∃ h' tk', s' = S X.s h' tk' ∧ Q .next h' tk') (use := some (assign (.Name y py) env)) (g := ⟨.Name x0 px, iter, [], 0⟩) (gs := [⟨.Name x1 p1, iter1, [], 0⟩]) rfl hs hclos hkind (fun z hz => of_decide_eq_true (List.all_eq_true.mp hnames z hz)) (W.run H fun xv h₁ t₁ q => ?_))
    (fun _ s' hq => wpAny_pure (wpAny_pure hq)) fun _ _ e => e)
  obtain ⟨hb, n, k, V, V1, G, mm, hL, two, fin⟩ := q
  refine comp2_block two hcell hkind hx0 hx1 hxx hs1 fun D C h' t' ys m hlen kp hD hC hDC hn hl hg => ?_
  have lL : ∃ o, h₁.get? env.locals = some o := by obtain ⟨o, _, _, e, _⟩ := hL; exact ⟨o, e⟩
  have hLC : env.locals ≠ C := ne_of_live lL hC
  have hLD : env.locals ≠ D := ne_of_live lL hD
  refine wpAny_assign_Name (wpAny_storeName_local hy (hL.keeps kp) (fun h₂ hn₂ hs₂ => ?_) hp)
  refine ⟨m, hn.sameBut hs₂ (Ne.symm hLC), fun h₃ hs₃ => ⟨h₃, _, rfl, ?_⟩⟩
  refine fin D h₃ _ ys hlen (fun b o hb e => hs₃.extBut b o (fun q => by rw [q, hC] at e; cases e) (hs₂.extBut b o hb (kp b o e))) hD (ls_of ((hl.extBut hs₂.extBut (Ne.symm hLD)).extBut hs₃.extBut hDC)) (hn₂.sameBut hs₃ hLC) fun hx kx fx => hg hx kx fun b o e1 e2 e3 e4 => fx b o e1 (hs₃.extBut b o e2 (hs₂.extBut b o (ne_of_live lL e1).symm e4))
end
end Mine

end
section
open PySem PySem.W PyProof.Rows
set_option Elab.async false
set_option linter.unusedVariables false
set_option maxRecDepth 100000
namespace Mine

theorem rmul_listW (a : Int) (t : Tok) (l : Addr) (items : Array Value) (n : Nat) (dd : Option Addr) (sl : Array (Option Value)) :
    Meets (Builtin.«int.__rmul__» ⟨[.int a t, .ref l], []⟩) (fun _ R s => s.heap.get? l = some { cls := .type "list", dict := dd, data := .seq items n, slots := sl } ∧ R (.ok (.ret Value.notImplemented)) s) :=
  .of_wp fun prog w A R s h => by obtain ⟨hp, g, d, tk, os⟩ := s; obtain ⟨hl, h⟩ := h; wp_walk; exact ⟨_, rfl, h⟩
theorem mul_listW (l : Addr) (items : Array Value) (n : Nat) (dd : Option Addr) (sl : Array (Option Value)) (x : Int) (u : Tok) (hc0 : ¬(!Builtin.List.listFitsIndex x) = true) (hc1 : ¬items.size * x.toNat > (2 ^ 63 - 1) / 8) (hc2 : ¬Builtin.List.listTooLong (items.size * x.toNat) = true) :
    Meets (Builtin.«list.__mul__» ⟨[.ref l, .int x u], []⟩) (fun _ R s => s.heap.get? l = some { cls := .type "list", dict := dd, data := .seq items n, slots := sl } ∧ R (.ok (.ret (Value.ref s.heap.objs.size))) { s with heap := s.heap.push { cls := Value.type "list", data := Data.seq (List.foldl (fun x1 x2 => x1 ++ x2) #[] (List.replicate (if items.isEmpty = true then 0 else x.toNat) items)) } }) :=
  .of_wp fun prog w A R s h => by
    obtain ⟨hp, g, d, tk, os⟩ := s; obtain ⟨hl, h⟩ := h
    have hsz := AutoListH.joined_fits hc2
    wp_walk; refine wpAny_ite_false (decide_eq_false (Nat.not_lt.mpr hsz)) ?_; wp_walk; exact ⟨_, rfl, h⟩

section
variable {X : Cx} {A : Around} {h : Heap} {tk : Nat} {env : Env}
theorem Ls.new {h : Heap} {vs : List Value} : Ls (h.push { cls := .type "list", data := .seq vs.toArray }) h.objs.size vs := ⟨_, Heap.get?_push_size _ rfl, rfl, 0, rfl⟩
theorem Ls.obj {h : Heap} {l : Addr} {vs : List Value} (x : Ls h l vs) : ∃ dd sl n, h.get? l = some { cls := .type "list", dict := dd, data := .seq vs.toArray n, slots := sl } := by
  obtain ⟨⟨cls, dd, data, sl⟩, ho, hc, n, hd⟩ := x
  simp only at hc hd
  subst hc hd
  exact ⟨dd, sl, n, ho⟩
theorem foldl_nil (k : Nat) : ∀ (acc : Array Value), List.foldl (fun x1 x2 => x1 ++ x2) acc (List.replicate k (#[] : Array Value)) = acc := by
  induction k with
  | zero => intro acc; rfl
  | succ k ih => intro acc; rw [List.replicate_succ, List.foldl_cons, ih]; simp
theorem W_list_mul0 {l : Addr} {vs : List Value} {t : Tok} {Q : Value → Heap → Nat → Prop} (hl : Ls h l vs) (q : ∀ h' D, Keep h h' → h.get? D = none → Ls h' D [] → Q (.ref D) h' tk) :
    W X A (binaryOp .Mult (.ref l) (.int 0 t)) Q h tk := by
  obtain ⟨dd, sl, n, ho⟩ := hl.obj
  refine wpAny_binaryOp_repeat_ref (T := "list") (U := "int") (by decide) ⟨_, ho, rfl⟩ (fun s' => typeIs_int s' 0 t) noFill_list_mul PySem.F.fills_int_mul PySem.F.slot_int_rmul repeat_list PySem.F.slot_int_index.lookup
    (call_meets PySem.F.slot_int_rmul (typeIs_int _ 0 t) PySem.F.entry_int_rmul (PySem.F.args_int_rmul_2 _ _) (rmul_listW 0 t l vs.toArray n dd sl)
      ⟨ho, rfl, ⟨_, ho, rfl⟩, call_meets PySem.F.slot_list_mul ⟨_, ho, rfl⟩ PySem.F.entry_list_mul (PySem.F.args_list_mul_2 _ _)
        (mul_listW l vs.toArray n dd sl 0 t (by simp [Builtin.List.listFitsIndex]) (by simp) (by simp [Builtin.List.listTooLong, sizeLine]))
        ⟨ho, ⟨_, tk, rfl, ?_⟩⟩⟩)
  refine q _ _ (Keep.push h _) (size_none h) ⟨_, Heap.get?_push_size _ rfl, rfl, 0, ?_⟩
  simp
theorem mul_list_ref {prog : Program} {w : World} {E : Value → Shared → Prop} {s : Shared} {l : Addr} {items : Array Value} {n : Nat} {dd : Option Addr} {sl : Array (Option Value)} {x : Int} {u : Tok} {Q : Value → Shared → Prop}
    (hl : s.heap.get? l = some { cls := .type "list", dict := dd, data := .seq items n, slots := sl })
    (c0 : ¬(!Builtin.List.listFitsIndex x) = true) (c1 : ¬items.size * x.toNat > (2 ^ 63 - 1) / 8) (c2 : ¬Builtin.List.listTooLong (items.size * x.toNat) = true)
    (q : Q (.ref s.heap.objs.size) { s with heap := s.heap.push { cls := .type "list", data := .seq (List.foldl (fun x1 x2 => x1 ++ x2) #[] (List.replicate (if items.isEmpty = true then 0 else x.toNat) items)) } }) :
    wpAny (model prog w) A (binaryOp .Mult (.ref l) (.int x u)) Q E s :=
  wpAny_binaryOp_repeat_ref (T := "list") (U := "int") (by decide) ⟨_, hl, rfl⟩ (fun s' => typeIs_int s' x u) noFill_list_mul PySem.F.fills_int_mul PySem.F.slot_int_rmul repeat_list PySem.F.slot_int_index.lookup
    (call_meets PySem.F.slot_int_rmul (typeIs_int _ x u) PySem.F.entry_int_rmul (PySem.F.args_int_rmul_2 _ _) (rmul_listW x u l items n dd sl)
      ⟨hl, rfl, ⟨_, hl, rfl⟩, call_meets PySem.F.slot_list_mul ⟨_, hl, rfl⟩ PySem.F.entry_list_mul (PySem.F.args_list_mul_2 _ _) (mul_listW l items n dd sl x u c0 c1 c2) ⟨hl, q⟩⟩)
theorem W_list_mul {l : Addr} {vs : List Value} {k : Nat} {t : Tok} {Q : Value → Heap → Nat → Prop} (hl : Ls h l vs) (hv : vs ≠ []) (hz : vs.length * k ≤ 1000000) (q : ∀ h' D, Keep h h' → h.get? D = none → Ls h' D (List.replicate k vs).flatten → Q (.ref D) h' tk) :
    W X A (binaryOp .Mult (.ref l) (.int (k : Nat) t)) Q h tk := by
  obtain ⟨dd, sl, n, ho⟩ := hl.obj
  have hk : k ≤ 1000000 := by
    have : 1 ≤ vs.length := by cases vs with | nil => exact absurd rfl hv | cons a b => simp
    calc k = 1 * k := by omega
      _ ≤ vs.length * k := Nat.mul_le_mul_right _ this
      _ ≤ _ := hz
  have c0 : ¬(!Builtin.List.listFitsIndex (k : Int)) = true := by simp [Builtin.List.listFitsIndex]; omega
  have c1 : ¬vs.toArray.size * (k : Int).toNat > (2 ^ 63 - 1) / 8 := by
    rw [Int.toNat_natCast, List.size_toArray]
    generalize vs.length * k = z at *
    omega
  have c2 : ¬Builtin.List.listTooLong (vs.toArray.size * (k : Int).toNat) = true := by
    rw [Int.toNat_natCast, List.size_toArray]
    unfold Builtin.List.listTooLong
    have := sizeLine_eq
    generalize vs.length * k = z at *
    rw [decide_eq_true_eq]
    omega
  refine mul_list_ref (s := S X.s h tk) ho c0 c1 c2 ⟨_, tk, rfl, ?_⟩
  refine q _ _ (Keep.push h _) (size_none h) ⟨_, Heap.get?_push_size _ rfl, rfl, 0, ?_⟩
  have e0 : (vs.toArray.isEmpty = true) = False := by simp [hv]
  simp only [Int.toNat_natCast, e0, if_false]
  congr 1
  have : ∀ (k : Nat) (acc : List Value), List.foldl (fun x1 x2 => x1 ++ x2) acc.toArray (List.replicate k vs.toArray) = (acc ++ (List.replicate k vs).flatten).toArray := by
    intro k
    induction k with
    | zero => intro acc; simp
    | succ k ih => intro acc; rw [List.replicate_succ, List.foldl_cons, List.replicate_succ, List.flatten_cons]; simp only [List.append_toArray]; rw [ih]; simp
  simpa using this k []
theorem W_list_add {a b : Addr} {vs ws : List Value} {Q : Value → Heap → Nat → Prop} (ha : Ls h a vs) (hb : Ls h b ws) (hz : vs.length + ws.length ≤ 1000000) (q : ∀ h' D, Keep h h' → h.get? D = none → Ls h' D (vs ++ ws) → Q (.ref D) h' tk) :
    W X A (binaryOp .Add (.ref a) (.ref b)) Q h tk := by
  obtain ⟨dd, sl, n, ho⟩ := ha.obj
  obtain ⟨dd2, sl2, n2, ho2⟩ := hb.obj
  have e : vs.toArray ++ ws.toArray = (vs ++ ws).toArray := by simp
  have := sizeLine_eq
  refine concat_meets ⟨_, ho, rfl⟩ ⟨_, ho2, rfl⟩ noFill_list_add seq_list_add PySem.F.slot_list_add PySem.F.entry_list_add (PySem.F.args_list_add_2 _ _) (list_addW a b vs.toArray ws.toArray n n2 dd dd2 sl sl2 (by simp; omega)) ⟨ho, ho2, ?_⟩
  rw [e]
  exact ⟨_, tk, rfl, q _ _ (Keep.push h _) (size_none h) Ls.new⟩
theorem W_tup_item {a : Addr} {vs : List Value} {k : Nat} {t : Tok} {x : Value} {Q : Value → Heap → Nat → Prop} (ht : Tp h a vs) (hk : k < 1000) (hx : vs[k]? = some x) (q : Q x h tk) :
    W X A (getItem (.ref a) (.int (k : Nat) t)) Q h tk := by
  have hlt : k < vs.length := by
    apply Nat.lt_of_not_le
    intro c
    rw [List.getElem?_eq_none c] at hx; cases hx
  exact getItem_tuple ht (by omega) (by omega) (seqIndex_of (by omega) (by simpa using hlt)) (by simpa using hx) ⟨h, tk, rfl, q⟩
theorem Tp.typeIs {s : Shared} {a : Addr} {vs : List Value} (x : Tp s.heap a vs) : s.TypeIs (.ref a) "tuple" := IsTup.typeIs x
theorem W_sum {a : Addr} {vs : List Value} {ns : List Int} {Q : Value → Heap → Nat → Prop} (hh : A.handled = none) (hl : Ls h a vs) (hi : IntsAre vs ns) (q : ∀ h' v tk', Keep h h' → Q (.int ns.sum v) h' tk') :
    W X A (call (.builtin "sum") [.ref a]) Q h tk := by
  obtain ⟨xs, hx⟩ := hi.allInts.items
  have hl' : h.IsList a (intItems xs) := hx ▸ hl.isList
  refine sum_intListG hh hl' fun h' tk t' hk => ⟨h', tk, rfl, ?_⟩
  have e1 : ns = xs.toList.map (·.1) := by
    rw [← nums_intItems, ← hx]
    exact hi.numsOf.symm
  have := q h' t' tk hk
  rw [e1] at this
  rw [preSum_eq, List.take_of_length_le (by simp)]
  exact this
theorem W_isinst_bytes {b : Array UInt8} {t : Tok} {Q : Value → Heap → Nat → Prop} (q : Q (.bool true) h tk) : W X A (call (.builtin "isinstance") [.bytes b t, .type "bytes"]) Q h tk :=
  call_isinstance (isinstance_true (Tx := "bytes") PySem.F.isi_meta_bytes PySem.F.sub_bytes_bytes) ⟨rfl, ⟨h, tk, rfl, q⟩⟩
theorem byteArr_of (os : List Nat) : byteArr (os.map Int.ofNat) = bytesOf os := by
  unfold byteArr bytesOf
  congr 1
  rw [List.map_map]
  apply List.map_congr_left
  intro o _
  rfl
theorem W_bytes_ints {a : Addr} {vs : List Value} {os : List Nat} {Q : Value → Heap → Nat → Prop} (hh : A.handled = none) (hl : Ls h a vs) (hn : Nums vs os) (ho : ∀ o ∈ os, o < 256) (hz : os.length ≤ 1000) (q : ∀ h' v tk', Keep h h' → Q (.bytes (bytesOf os) v) h' tk') :
    W X A (call (.type "bytes") [.ref a]) Q h tk := by
  have := sizeLine_eq
  refine call_bytes_ints hl.isList hn.ints ?_ (by rw [hn.1]; omega) hh fun h' t k hk => ⟨h', k, rfl, ?_⟩
  · intro n hn
    obtain ⟨o, ho', rfl⟩ := List.mem_map.mp hn
    have := ho o ho'
    show 0 ≤ ((o : Nat) : Int) ∧ ((o : Nat) : Int) < 256
    omega
  · rw [byteArr_of]; exact q h' t k hk
theorem W_bytes_slice {os : List Nat} {t u v : Tok} {i j : Nat} {Q : Value → Heap → Nat → Prop} (hij : i ≤ j) (hj : j ≤ os.length) (hz : os.length ≤ 1000)
    (q : ∀ h' t' tk', Keep h h' → Q (.bytes (bytesOf ((os.drop i).take (j - i))) t') h' tk') :
    W X A (getItem (.bytes (bytesOf os) t) (.ref h.objs.size)) Q (h.push { cls := .type "slice", data := .fields #[.int (i : Nat) u, .int (j : Nat) v, .none] }) tk := by
  have hzL := sizeLine_eq
  have e : KBy.picked (bytesOf os) (some (i : Int)) (some (j : Int)) = bytesOf ((os.drop i).take (j - i)) := by
    rw [KBc.picked_eq]
    have hs : (bytesOf os).size = os.length := by simp [bytesOf]
    rw [hs]
    show (((bytesOf os).toList.drop (clipAt os.length (i : Int))).take (clipAt os.length (j : Int) - clipAt os.length (i : Int))).toArray = _
    rw [clipAt_nat, clipAt_nat, Nat.min_eq_left hj, Nat.min_eq_left (Nat.le_trans hij hj)]
    simp [bytesOf, List.map_take, List.map_drop]
  refine getItem_meets (T := "bytes") rfl (by decide) PySem.W.FB.slot_bytes_getitem PySem.W.FB.entry_bytes_getitem (PySem.W.FB.args_bytes_getitem_2 _ _) (KBc.meets_slice2 (bytesOf os) t h.objs.size (IsPart.int (i : Int) u) (IsPart.int (j : Int) v)) ⟨?_, ?_, fun t' k => ?_⟩
  · exact ⟨_, Heap.get?_push_size _ rfl, rfl, rfl⟩
  · rw [e]; simp [bytesOf]; omega
  · rw [e]; exact ⟨_, k, rfl, q _ _ _ (Keep.push h _)⟩
theorem W_isTrue_Not {x : Expr} {pos : Pos} {whole : Sem Value} {Q : Bool → Heap → Nat → Prop} (H : W X A (isTrue x env (eval x env)) (fun b h₁ t₁ => Q (!b) h₁ t₁) h tk) :
    W X A (isTrue (.UnaryOp .Not x pos) env whole) Q h tk := wpAny_isTrue_Not (W.run H fun b h₁ t₁ q => ⟨h₁, t₁, rfl, q⟩)
theorem W_isTrue_Or2 {x y : Expr} {pos : Pos} {whole : Sem Value} {Q : Bool → Heap → Nat → Prop}
    (H : W X A (isTrue x env (eval x env)) (fun b h₁ t₁ => if b = true then Q true h₁ t₁ else W X A (isTrue y env (eval y env)) Q h₁ t₁) h tk) :
    W X A (isTrue (.BoolOp .Or [x, y] pos) env whole) Q h tk := by
  show wpAny _ _ _ _ _ _
  rw [show isTrue (.BoolOp .Or [x, y] pos) env whole = allTrue .Or [x, y] env from rfl]
  refine wpAny_allTrue_Or_cons (W.run H fun b h₁ t₁ q => ?_)
  cases b
  · refine wpAny_allTrue_Or_cons (W.run q fun b₂ h₂ t₂ q₂ => ?_)
    cases b₂
    · exact wpAny_pure ⟨h₂, t₂, rfl, q₂⟩
    · exact ⟨h₂, t₂, rfl, q₂⟩
  · exact ⟨h₁, t₁, rfl, q⟩
theorem W_eq_data {a b : Value} {da db : PyData} {as bs : List Addr} {Q : Value → Heap → Nat → Prop} (ra : Reads h a da as) (rb : Reads h b db bs) (ha : SeqAt.shaped da = true) (hb : SeqAt.shaped db = true) (hu : A.units + 64 < cLine) (q : Q (.bool (PyData.eqv da db)) h tk) :
    W X A (compareOp .Eq a b) Q h tk := eq_dataH (s := S X.s h tk) ra rb ha hb hu ⟨h, tk, rfl, q⟩
theorem W_ne_data {a b : Value} {da db : PyData} {as bs : List Addr} {Q : Value → Heap → Nat → Prop} (ra : Reads h a da as) (rb : Reads h b db bs) (ha : SeqAt.shaped da = true) (hb : SeqAt.shaped db = true) (hu : A.units + 64 < cLine) (q : Q (.bool (!PyData.eqv da db)) h tk) :
    W X A (compareOp .NotEq a b) Q h tk := ne_dataH (s := S X.s h tk) ra rb ha hb hu ⟨h, tk, rfl, q⟩
end
end Mine

end
section
open PySem PySem.W PyProof.Rows
set_option Elab.async false
set_option linter.unusedVariables false
set_option maxRecDepth 100000
namespace Mine

/-- the pieces of law -/
abbrev lawSc : Scope := scopeOf (stAt txt 9)
abbrev loopS : Stmt := stAt lawB 8
abbrev loopB : List Stmt := bodyOf loopS
def lamOf : Stmt → Expr
  | .Assign _ (.Call _ [_, e] _ _) _ => e
  | _ => .Name "x" ⟨0, 0, 0, 0⟩
abbrev lamE : Expr := lamOf (stAt loopB 1)
def lamBody : Expr → Expr
  | .Lambda _ b _ _ => b
  | e => e
def lamArgs : Expr → Arguments
  | .Lambda a _ _ _ => a
  | _ => ⟨[], [], none, [], [], none, []⟩
def lamScope : Expr → Scope
  | .Lambda _ _ s _ => s
  | _ => { kind := .function, names := [], isGenerator := false, isCoroutine := false, more := [] }
def lamPos : Expr → Pos
  | .Lambda _ _ _ p => p
  | _ => ⟨0, 0, 0, 0⟩
abbrev lamQual : Str := "law.<locals>.<lambda>"

/-- the table of law's own code: nothing yet, or the lambda's code -/
def Tab (hc h : Heap) : Prop := ∃ ps, h.get? 56 = some (tabObj ps) ∧ TriplesOk ps.toList ∧ (codeAmong (lamPos lamE) ps.toList = none ∨ ∃ c', codeAmong (lamPos lamE) ps.toList = some (.ref c') ∧ hc.CodeRec (.ref c') lamQual)

/-- the frame of law at L, its six cells above it; hc is what stays; in l lie things that move -/
structure Fl (l : List Nat) (hc : Heap) (L : Nat) (h : Heap) (m : Str → Option Value) (cv : Nat → Option Value) : Prop where
  ns : h.Ns L m
  cell : ∀ i, i < 6 → h.IsCell (L + 1 + i) (cv i)
  keep : Keep hc h
  low : 56 < L
  out : ∀ b : Nat, (b = 56 ∨ (L ≤ b ∧ b ≤ L + 6) ∨ b ∈ l) → hc.get? b = none
  far : ∀ b : Nat, b ∈ l → b ≠ 56 ∧ ¬ (L ≤ b ∧ b ≤ L + 6)
  tab : Tab hc h

theorem nq {a b : Nat} (h : a ≠ b) : @Ne Addr a b := h
theorem mem8 {b L : Nat} {l : List Nat} : (b ∈ (56 :: L :: (L + 1) :: (L + 2) :: (L + 3) :: (L + 4) :: (L + 5) :: (L + 6) :: l)) ↔ (b = 56 ∨ (L ≤ b ∧ b ≤ L + 6) ∨ b ∈ l) := by
  simp only [List.mem_cons]
  by_cases hm : b ∈ l
  · simp [hm]
  · simp only [hm, or_false]
    omega
section
variable {l : List Nat} {hc h h' : Heap} {L : Nat} {m m' : Str → Option Value} {cv : Nat → Option Value}
theorem Tab.keeps (t : Tab hc h) (k : Keep h h') : Tab hc h' := let ⟨ps, e, r⟩ := t; ⟨ps, k _ _ e, r⟩
theorem Fl.keeps (F : Fl l hc L h m cv) (k : Keep h h') : Fl l hc L h' m cv :=
  ⟨F.ns.keeps k, fun i hi => (F.cell i hi).keeps k, F.keep.trans k, F.low, F.out, F.far, F.tab.keeps k⟩
theorem Fl.setL (F : Fl l hc L h m cv) (hn : h'.Ns L m') (hs : Heap.ExtBut L h h') : Fl l hc L h' m' cv := by
  refine ⟨hn, fun i hi => ?_, fun b o e => hs b o (fun q => ?_) (F.keep b o e), F.low, F.out, F.far, ?_⟩
  · obtain ⟨o, e, d⟩ := F.cell i hi
    exact ⟨o, hs _ o (nq (by omega)) e, d⟩
  · rw [q, F.out L (by omega)] at e; cases e
  · obtain ⟨ps, e, r⟩ := F.tab
    exact ⟨ps, hs _ _ (nq (by have := F.low; omega)) e, r⟩
theorem Fl.setC (F : Fl l hc L h m cv) {j : Nat} {v : Value} (hj : j < 6) (hn : h'.IsCell (L + 1 + j) (some v)) (hs : Heap.SameBut (L + 1 + j) h h') : Fl l hc L h' m (fun i => if i = j then some v else cv i) := by
  refine ⟨F.ns.extBut hs.extBut (nq (by omega)), fun i hi => ?_, fun b o e => hs.extBut b o (fun q => ?_) (F.keep b o e), F.low, F.out, F.far, ?_⟩
  · by_cases c : i = j
    · subst c; simpa using hn
    · obtain ⟨o, e, d⟩ := F.cell i hi
      refine ⟨o, hs.extBut _ o (nq fun q => c (Nat.add_left_cancel q)) e, ?_⟩
      simpa [c] using d
  · rw [q, F.out (L + 1 + j) (by omega)] at e; cases e
  · obtain ⟨ps, e, r⟩ := F.tab
    exact ⟨ps, hs.extBut _ _ (nq (by have := F.low; omega)) e, r⟩
theorem Fl.ext (F : Fl l hc L h m cv) {I : Nat} (hI : I ∈ l) (hs : Heap.ExtBut I h h') : Fl l hc L h' m cv := by
  obtain ⟨f1, f2⟩ := F.far I hI
  have f1 : ¬ (I : Nat) = 56 := f1
  have f3 : ∀ i, i < 6 → (L + 1 + i : Nat) ≠ I := fun i hi q => f2 (by omega)
  refine ⟨F.ns.extBut hs (nq (by omega)), fun i hi => ?_, fun b o e => hs b o (fun q => ?_) (F.keep b o e), F.low, F.out, F.far, ?_⟩
  · obtain ⟨o, e, d⟩ := F.cell i hi
    exact ⟨o, hs _ o (f3 i hi) e, d⟩
  · rw [q, F.out I (.inr (.inr hI))] at e; cases e
  · obtain ⟨ps, e, r⟩ := F.tab
    exact ⟨ps, hs _ _ (nq (by omega)) e, r⟩
/-- all that stands and does not move -/
def froze (h : Heap) (L : Nat) (l : List Nat) : Heap := hideAll h (56 :: L :: (L + 1) :: (L + 2) :: (L + 3) :: (L + 4) :: (L + 5) :: (L + 6) :: l)
theorem froze_get {b : Nat} {o : Obj} (e : h.get? b = some o) (h1 : b ≠ 56) (h2 : ¬ (L ≤ b ∧ b ≤ L + 6)) (h3 : b ∉ l) : (froze h L l).get? b = some o :=
  hideAll_get _ e (fun q => by have q' := mem8.mp q; rcases q' with q' | q' | q' <;> contradiction)
theorem froze_keep : Keep (froze h L l) h := fun b o e => of_hideAll _ e
theorem froze_out {b : Nat} (hb : b = 56 ∨ (L ≤ b ∧ b ≤ L + 6) ∨ b ∈ l) : (froze h L l).get? b = none :=
  hideAll_none _ (mem8.mpr hb)
theorem Fl.onto (F : Fl l hc L h m cv) {l' : List Nat} (hl : ∀ b ∈ l', b ∈ l ∨ hc.get? b = none) : Keep hc (froze h L l') := fun b o e => by
  refine froze_get (F.keep b o e) (fun q => ?_) (fun q => ?_) (fun q => ?_)
  · rw [F.out b (.inl q)] at e; cases e
  · rw [F.out b (.inr (.inl q))] at e; cases e
  · rcases hl b q with q | q
    · rw [F.out b (.inr (.inr q))] at e; cases e
    · rw [q] at e; cases e
theorem Fl.froze (F : Fl l hc L h m cv) {l' : List Nat} (hl : ∀ b ∈ l', b ∈ l ∨ hc.get? b = none) (hf : ∀ b : Nat, b ∈ l' → b ≠ 56 ∧ ¬ (L ≤ b ∧ b ≤ L + 6)) : Fl l' (froze h L l') L h m cv := by
  refine ⟨F.ns, F.cell, froze_keep, F.low, fun b hb => froze_out hb, hf, ?_⟩
  obtain ⟨ps, e, t, r⟩ := F.tab
  refine ⟨ps, e, t, ?_⟩
  rcases r with r | ⟨c', r1, r2⟩
  · exact .inl r
  · exact .inr ⟨c', r1, r2.keeps (F.onto hl)⟩
theorem Fl.lives (F : Fl l hc L h m cv) : ∀ b : Nat, (b = 56 ∨ (L ≤ b ∧ b ≤ L + 6)) → ∃ o, h.get? b = some o := fun b hb => by
  by_cases c : b = 56
  · obtain ⟨ps, e, _⟩ := F.tab; exact ⟨_, c ▸ e⟩
  · by_cases d : b = L
    · obtain ⟨o, _, _, e, _⟩ := F.ns; exact ⟨o, d ▸ e⟩
    · have d' : ¬ (b : Nat) = L := d
      have c' : ¬ (b : Nat) = 56 := c
      have hb' : L ≤ b ∧ b ≤ L + 6 := hb.resolve_left c
      have ⟨j, hj, hj6⟩ : ∃ j : Nat, b = L + 1 + j ∧ j < 6 := ⟨b - (L + 1), by omega, by omega⟩
      obtain ⟨o, e, _⟩ := F.cell j hj6
      exact ⟨o, by rw [hj]; exact e⟩
/-- what is new is far from what moves -/
theorem Fl.new (F : Fl l hc L h m cv) {b : Nat} (e : h.get? b = none) : b ≠ 56 ∧ ¬ (L ≤ b ∧ b ≤ L + 6) := by
  refine ⟨fun q => ?_, fun q => ?_⟩
  · obtain ⟨o, x⟩ := F.lives b (.inl q); rw [e] at x; cases x
  · obtain ⟨o, x⟩ := F.lives b (.inr q); rw [e] at x; cases x
end

section
variable {X : Cx} {A : Around} {l : List Nat} {hc h : Heap} {tk : Nat} {env : Env} {mg mb : Str → Option Value} {m : Str → Option Value} {cv : Nat → Option Value}
theorem W_lambda {Q : Value → Heap → Nat → Prop} (F : Fl l hc env.locals h m cv) (hg : hc.Ns mainGlobals mg) (hb : hc.BuiltinsAt mg 56) (C : CodeHd hc 58 56)
    (hnl : ∀ b : Nat, b ∈ l → h.get? b = none → False) (hge : env.globals = mainGlobals) (hcode : env.code = .ref 58) (hqual : env.qual ++ "<lambda>" = lamQual)
    (q : ∀ h' f o ctv cd tk', Heap.ExtBut 56 h h' → h.get? f = none → h'.get? f = some o → o.data = .func (kla_fn "<lambda>" lamQual (lamArgs lamE) (lamBody lamE) (lamScope lamE) [] ((mg "__name__").getD .none) cd ctv) →
      (froze h' env.locals l).CodeRec cd lamQual → Fl l (froze h' env.locals l) env.locals h' m cv → Q (.ref f) h' tk') :
    W X A (eval (.Lambda (lamArgs lamE) (lamBody lamE) (lamScope lamE) (lamPos lamE)) env) Q h tk := by
  refine kla_eval rfl ?_
  rw [hqual]
  obtain ⟨ps, e, t, r⟩ := F.tab
  have hgs := hg.keeps F.keep
  have hgP : mainGlobals ≠ 56 := by decide
  obtain ⟨bm, ob, b1, b2, b3, b4, b5, b6, b7, b8⟩ := hb
  have hbh : h.BuiltinsAt mg 56 := ⟨bm, ob, b1, b2, b3, b4, F.keep _ _ b5, b6, b7, b8⟩
  have ext : ∀ h', Heap.ExtBut 56 h h' → Tab (froze h' env.locals l) h' → Fl l (froze h' env.locals l) env.locals h' m cv := fun h' hx ht => by
    refine ⟨F.ns.extBut hx (nq (by have := F.low; omega)), fun i hi => ?_, froze_keep, F.low, fun b hb => froze_out hb, F.far, ht⟩
    obtain ⟨o, e, d⟩ := F.cell i hi
    exact ⟨o, hx _ o (nq (by have := F.low; omega)) e, d⟩
  rcases r with r | ⟨c', r1, r2⟩
  · refine kla_makeFunction (s := S X.s h tk) (mg := mg) (clos := []) rfl hge hgs hcode (C.keeps F.keep) e t r hgP hbh fun c' ctv h' tk' hx hge hlt hrec htb => ⟨_, tk', rfl, ?_⟩
    have hx2 : Heap.ExtBut 56 h (h'.push (kla_obj "<lambda>" lamQual (lamArgs lamE) (lamBody lamE) (lamScope lamE) [] ((mg "__name__").getD .none) c' ctv)) := fun b o hb e => Heap.get?_push_of_some _ (hx b o hb e)
    have fresh : h.get? c' = none := fresh_of_le hge
    have hc' := F.new fresh
    have hcl : c' ∉ l := fun q => hnl c' q fresh
    have ff : h.get? h'.objs.size = none := fresh_of_le (Nat.le_trans hge (Nat.le_of_lt hlt))
    have hrec2 : (froze (h'.push (kla_obj "<lambda>" lamQual (lamArgs lamE) (lamBody lamE) (lamScope lamE) [] ((mg "__name__").getD .none) c' ctv)) env.locals l).CodeRec (.ref c') lamQual := by
      obtain ⟨c₂, oc, vs, t, e2, hoc, hd, hv⟩ := hrec
      cases e2
      exact ⟨c', oc, vs, t, rfl, froze_get (Heap.get?_push_of_some _ hoc) hc'.1 hc'.2 hcl, hd, hv⟩
    refine q _ h'.objs.size _ ctv (.ref c') tk' hx2 ff (Heap.get?_push_size _ rfl) rfl hrec2 (ext _ hx2 ⟨_, Heap.get?_push_of_some _ htb, ?_, .inr ⟨c', ?_, hrec2⟩⟩)
    · simp only [Array.toList_append]
      exact TriplesOk_snoc _ _ _ _ t
    · simp only [Array.toList_append]
      exact codeAmong_snoc _ t r
  · refine kla_makeFunctionHit (s := S X.s h tk) (mg := mg) (clos := []) rfl hge hgs hcode (C.keeps F.keep) e t r1 hbh fun ctv h' tk' hk hsz => ⟨_, tk', rfl, ?_⟩
    have hx2 : Heap.ExtBut 56 h (h'.push { cls := .type "function", data := .func (kla_fn "<lambda>" lamQual (lamArgs lamE) (lamBody lamE) (lamScope lamE) [] ((mg "__name__").getD .none) (.ref c') ctv) }) := fun b o hb e => Heap.get?_push_of_some _ (hk b o e)
    have ff : h.get? h'.objs.size = none := fresh_of_le hsz
    have hrec2 : (froze (h'.push { cls := .type "function", data := .func (kla_fn "<lambda>" lamQual (lamArgs lamE) (lamBody lamE) (lamScope lamE) [] ((mg "__name__").getD .none) (.ref c') ctv) }) env.locals l).CodeRec (.ref c') lamQual := by
      obtain ⟨c₂, oc, vs, t, e2, hoc, hd, hv⟩ := r2
      cases e2
      refine ⟨c', oc, vs, t, rfl, froze_get (Heap.get?_push_of_some _ (hk _ _ (F.keep _ _ hoc))) (fun q => ?_) (fun q => ?_) (fun q => ?_), hd, hv⟩
      · rw [F.out c' (.inl q)] at hoc; cases hoc
      · rw [F.out c' (.inr (.inl q))] at hoc; cases hoc
      · rw [F.out c' (.inr (.inr q))] at hoc; cases hoc
    exact q _ h'.objs.size _ ctv (.ref c') tk' hx2 ff (Heap.get?_push_size _ rfl) rfl hrec2 (ext _ hx2 ⟨ps, Heap.get?_push_of_some _ (hk _ _ e), t, .inr ⟨c', r1, hrec2⟩⟩)
end
end Mine

end
section
open PySem PySem.W PyProof.Rows
set_option Elab.async false
set_option linter.unusedVariables false
set_option maxRecDepth 100000
namespace Mine
section
variable {X : Cx} {A : Around} {h : Heap} {tk : Nat} {env : Env} {mg mb : Str → Option Value}
theorem W_callE {a : Addr} {o : Obj} {fd : FuncData} {body : Expr} {args : List Value} {binds : List (Str × Value)} {Q : Value → Heap → Nat → Prop}
    (hroom : A.depth < recursionLimit) (hlim : h.NoLimit) (ho : h.get? a = some o) (hd : o.data = .func fd) (hcd : h.CodeRec fd.code fd.qualname)
    (hbody : fd.body = .expr body) (hbind : bindArgs fd ⟨args, []⟩ = pure binds) (hcell : (fd.scope.names.all fun x => decide (x.2 ≠ .cell)) = true) (hloc : (binds.all fun x => decide (fd.scope.names.lookup x.1 = some .local)) = true)
    (H : ∀ h₀, h₀.Ns h.objs.size (fun x => binds.reverse.lookup x) → Keep h h₀ →
      W X (A.deeper (callEnv fd h.objs.size a)) (eval body (callEnv fd h.objs.size a)) Q h₀ (tk + binds.length))
    (hco : fd.scope.isCoroutine = false := by rfl) (hgen : fd.scope.isGenerator = false := by rfl) (hk : fd.scope.kind = .function := by rfl) :
    W X A (call (.ref a) args) Q h tk := by
  refine wpAny_call ?_
  refine kla_callFunE (s := S X.s h tk) hroom ho hd hco hgen hbody hcd ?_
  rw [hbind]
  refine wpAny_pure ?_
  refine wpAny_newFunctionEnv (fun x hx => of_decide_eq_true (List.all_eq_true.mp hcell x hx)) (locs hloc) (fun h₀ hns₀ hsb₀ => ⟨hlim.fresh _ hsb₀, kla_codeExpr ?_⟩) hk
  exact W.run (H h₀ hns₀ fun b o e => hsb₀.extBut b o (Nat.ne_of_lt (Heap.lt_size e)) (Heap.get?_push_of_some _ e)) fun v h' tk' q => ⟨h', tk', rfl, q⟩

theorem W_lamcall {f a : Addr} {o : Obj} {pm ctv cd : Value} {spot oct : Nat} {t u : Tok}
    (hroom : A.depth < recursionLimit) (hlim : h.NoLimit) (ho : h.get? f = some o) (hd : o.data = .func (kla_fn "<lambda>" lamQual (lamArgs lamE) (lamBody lamE) (lamScope lamE) [] pm cd ctv))
    (hcd : h.CodeRec cd lamQual) (ht : Tp h a [.int (spot : Nat) t, .int (oct : Nat) u]) :
    W X A (call (.ref f) [.ref a]) (fun r h₂ t₂ => Keep h h₂ ∧ W X A (truthy r) (fun b h₃ t₃ => b = decide (spot % 2 = 1) ∧ Keep h₂ h₃) h₂ t₂) h tk := by
  refine W_callE (binds := [("card", .ref a)]) hroom hlim ho hd hcd rfl rfl (by rfl) (by rfl) fun h₀ hn kp => ?_
  have hzL := sizeLine_eq
  have F := Fx.new hn kp
  refine W_BinOp (W_List (W_items_cons (W_Subscript PySem.F.slot_tuple_getitem.lookup ?_)))
  refine W_local F.ns rfl (W_int ⟨(ht.keeps F.keep).typeIs, ?_⟩)
  refine W_tup_item (k := 1) (ht.keeps F.keep) (by omega) rfl (W_items_nil ⟨by simp; omega, fun h₁ D k₁ fD hD => ?_⟩)
  have F₁ := F.keeps k₁
  refine W_BinOp (W_Subscript PySem.F.slot_tuple_getitem.lookup ?_)
  refine W_local F₁.ns rfl (W_int ⟨(ht.keeps F₁.keep).typeIs, ?_⟩)
  refine W_tup_item (k := 0) (ht.keeps F₁.keep) (by omega) rfl (W_int (W_mod (by decide) ?_))
  rw [Int.fmod_eq_emod_of_nonneg _ (by decide)]
  by_cases c : spot % 2 = 1
  · have e : ((spot : Nat) : Int) % 2 = ((1 : Nat) : Int) := by omega
    rw [e]
    refine W_list_mul (ls_of hD) (by simp) (by simp) fun h₂ D₂ k₂ _ l₂ => ⟨F₁.keep.trans k₂, ?_⟩
    refine W_truthy_list l₂ (by simp; omega) ⟨by simp [c], Keep.refl _⟩
  · have e : ((spot : Nat) : Int) % 2 = 0 := by omega
    rw [e]
    refine W_list_mul0 (ls_of hD) fun h₂ D₂ k₂ _ l₂ => ⟨F₁.keep.trans k₂, ?_⟩
    refine W_truthy_list l₂ (by simp) ⟨by simp [c], Keep.refl _⟩

theorem V_callC {a : Addr} {o : Obj} {fd : FuncData} {body : List Stmt} {args : List Value} {binds : List (Str × Value)} {Q : Value → Heap → Nat → Prop}
    (hroom : A.depth < recursionLimit) (hlim : h.NoLimit) (ho : h.get? a = some o) (hd : o.data = .func fd) (hcd : h.CodeRec fd.code fd.qualname)
    (hbody : fd.body = .stmts body) (hbind : bindArgs fd ⟨args, []⟩ = pure binds) (hclos : fd.closure = [])
    (hkind : ∀ x ∈ binds, fd.scope.names.lookup x.1 = some .local ∨ (fd.scope.names.lookup x.1 = some .cell ∧ ((cellsFrom (h.objs.size + 1) fd.scope.names []).lookup x.1).isSome = true))
    (H : ∀ h₀ tk₀, Keep h h₀ → h₀.Ns h.objs.size (bindL (callEnvC fd h.objs.size a).kindOf binds fun _ => none) →
      (∀ n c, (callEnvC fd h.objs.size a).cells.lookup n = some c → h₀.IsCell c (bindC (callEnvC fd h.objs.size a).kindOf binds (fun _ => none) n)) →
      V X (A.deeper (callEnvC fd h.objs.size a)) (execs body (callEnvC fd h.objs.size a)) (fun f h' tk' => Q (match f with | .ret v => v | _ => .none) h' tk') h₀ tk₀)
    (hco : fd.scope.isCoroutine = false := by rfl) (hgen : fd.scope.isGenerator = false := by rfl) (hk : fd.scope.kind = .function := by rfl) :
    V X A (call (.ref a) args) Q h tk := by
  refine wpC_call (codeC_of_tree ?_)
  show wpC _ A.in1 (callAny (.ref a) ⟨args, []⟩) _ _ _
  simp only [callAny]
  refine wpC_seq (wpAny_load ho ?_)
  obtain ⟨c, oc, vs, tq, hc, hoc, hdc, hq⟩ := id hcd
  simp only [hd, callFunction, hco, hgen, hbody, hc]
  refine wpC_seq (m := field (.ref c) 1) (wpAny_field hoc hdc hq ?_)
  refine wpC_seq (wpAny_pure ?_)
  rw [hbind]
  refine wpC_seq (wpAny_pure ?_)
  rw [← hc, hclos]
  refine wpC_seq (wpAny_newFunctionEnv_cells hk hkind fun env' he s' x => ?_)
  subst he
  obtain ⟨h₀, tk₀, rfl, kp⟩ := x.done
  refine wpC_seq (wpAny_enterFrame (hlim.keeps kp) hroom ?_)
  refine wpC_of (wpAny_pure ⟨rfl, rfl, ?_⟩)
  exact codeC_func (X := X) (V.mono (H h₀ tk₀ kp x.toInCall.ns x.cell) fun f h' tk' q => ⟨h', tk', rfl, q⟩)
end
end Mine

end
section
open PySem PySem.W PyProof.Rows
set_option Elab.async false
set_option linter.unusedVariables false
set_option maxRecDepth 100000
namespace Mine

/-! the deals, over remainders -/
def placeR (n r i : Nat) : Nat := min ((i + 1) * r % (2 * n + 1)) (2 * n + 1 - (i + 1) * r % (2 * n + 1)) - 1
def dealtR (n r : Nat) : Nat → List Nat
  | 0 => List.range n
  | i + 1 => (dealtR n r i).set (placeR n r i) i
theorem place_mod (n k i : Nat) : place n k i = placeR n (2 ^ k % (2 * n + 1)) i := by
  unfold place placeR
  rw [Nat.mul_mod (i + 1) (2 ^ k % (2 * n + 1)), Nat.mod_mod, ← Nat.mul_mod]
theorem range_getD (os : List Nat) : (List.range os.length).map (fun j => os.getD j 0) = os := by
  apply List.ext_getElem
  · simp
  · intro i h1 h2
    simp [h2]
theorem dealtN_map (os : List Nat) (k : Nat) : ∀ i, i ≤ os.length → dealtN os k i = (dealtR os.length (2 ^ k % (2 * os.length + 1)) i).map fun j => os.getD j 0
  | 0, _ => by rw [dealtN, dealtR, range_getD]
  | i + 1, h => by
    rw [dealtN, dealtR, List.map_set, dealStep, dealtN_map os k i (by omega), place_mod]
theorem dealtL_map (os : List Nat) (k : Nat) : dealtL os k = (dealtR os.length (2 ^ k % (2 * os.length + 1)) os.length).map fun j => os.getD j 0 := dealtN_map os k _ (Nat.le_refl _)

def unit (n r : Nat) : Bool := Nat.gcd r (2 * n + 1) == 1 && decide (r < 2 * n + 1)
theorem le8 : ∀ n : Nat, n ∈ [5, 6, 7, 8] → n ≤ 8 := by intro n hn; simp at hn; omega
theorem unit_pow {n : Nat} (hn : n ∈ [5, 6, 7, 8]) (k : Nat) : unit n (2 ^ k % (2 * n + 1)) = true := by
  induction k with
  | zero => revert n; decide
  | succ k ih =>
    have e : 2 ^ (k + 1) % (2 * n + 1) = 2 ^ k % (2 * n + 1) * 2 % (2 * n + 1) := by rw [Nat.pow_succ, Nat.mod_mul_mod]
    rw [e]
    have hlt : 2 ^ k % (2 * n + 1) < 17 := by
      have := Nat.mod_lt (2 ^ k) (show 0 < 2 * n + 1 by omega)
      have : n ≤ 8 := le8 n hn
      omega
    generalize 2 ^ k % (2 * n + 1) = r at *
    have key : ∀ n ∈ [5, 6, 7, 8], ∀ r < 17, unit n r = true → unit n (r * 2 % (2 * n + 1)) = true := by decide +kernel
    exact key n hn r hlt ih
theorem rest_ne {n : Nat} (hn : n ∈ [5, 6, 7, 8]) (k i : Nat) (hi : i < n) : (i + 1) * 2 ^ k % (2 * n + 1) ≠ 0 := by
  have hu := unit_pow hn k
  rw [← Nat.mul_mod_mod]
  have hlt : 2 ^ k % (2 * n + 1) < 17 := by
    have := Nat.mod_lt (2 ^ k) (show 0 < 2 * n + 1 by omega)
    have : n ≤ 8 := le8 n hn
    omega
  generalize 2 ^ k % (2 * n + 1) = r at *
  have key : ∀ n ∈ [5, 6, 7, 8], ∀ r < 17, unit n r = true → ∀ i < n, (i + 1) * r % (2 * n + 1) ≠ 0 := by decide +kernel
  exact key n hn r hlt hu i hi

/-- a deal more: the odd places are the front, the even ones the back -/
def oneMore (n r : Nat) : Bool :=
  (List.range (n / 2)).all (fun i => (dealtR n (r * 2 % (2 * n + 1)) n)[2 * i + 1]? == (dealtR n r n)[i]?) &&
  (List.range (n - n / 2)).all (fun i => (dealtR n (r * 2 % (2 * n + 1)) n)[2 * i]? == (dealtR n r n)[n - 1 - i]?)
theorem one_more {n : Nat} (hn : n ∈ [5, 6, 7, 8]) (k : Nat) : oneMore n (2 ^ k % (2 * n + 1)) = true := by
  have hu := unit_pow hn k
  have hlt : 2 ^ k % (2 * n + 1) < 17 := by
    have := Nat.mod_lt (2 ^ k) (show 0 < 2 * n + 1 by omega)
    have : n ≤ 8 := le8 n hn
    omega
  generalize 2 ^ k % (2 * n + 1) = r at *
  have key : ∀ n ∈ [5, 6, 7, 8], ∀ r < 17, unit n r = true → oneMore n r = true := by decide +kernel
  exact key n hn r hlt hu
theorem dealt_len (os : List Nat) (k : Nat) : (dealtL os k).length = os.length := dealtN_length os k _
theorem deal_odd {os : List Nat} (hn : os.length ∈ [5, 6, 7, 8]) (k i : Nat) (hi : i < os.length / 2) : (dealtL os (k + 1))[2 * i + 1]? = (dealtL os k)[i]? := by
  have h := one_more hn k
  unfold oneMore at h
  rw [Bool.and_eq_true, List.all_eq_true, List.all_eq_true] at h
  have h1 := h.1 i (List.mem_range.mpr hi)
  rw [beq_iff_eq] at h1
  have e : 2 ^ (k + 1) % (2 * os.length + 1) = 2 ^ k % (2 * os.length + 1) * 2 % (2 * os.length + 1) := by rw [Nat.pow_succ, Nat.mod_mul_mod]
  rw [dealtL_map os (k + 1), dealtL_map os k, e, List.getElem?_map, List.getElem?_map, h1]
theorem deal_even {os : List Nat} (hn : os.length ∈ [5, 6, 7, 8]) (k i : Nat) (hi : i < os.length - os.length / 2) : (dealtL os (k + 1))[2 * i]? = (dealtL os k)[os.length - 1 - i]? := by
  have h := one_more hn k
  unfold oneMore at h
  rw [Bool.and_eq_true, List.all_eq_true, List.all_eq_true] at h
  have h1 := h.2 i (List.mem_range.mpr hi)
  rw [beq_iff_eq] at h1
  have e : 2 ^ (k + 1) % (2 * os.length + 1) = 2 ^ k % (2 * os.length + 1) * 2 % (2 * os.length + 1) := by rw [Nat.pow_succ, Nat.mod_mul_mod]
  rw [dealtL_map os (k + 1), dealtL_map os k, e, List.getElem?_map, List.getElem?_map, h1]

/-! what the law says of cram -/
def headsL (o : List Nat) (count : Nat) : List Nat := (List.range (count / 2)).map fun i => o.getD (2 * i + 1) 0
def tailsL (o : List Nat) (count : Nat) : List Nat := ((List.range (count - count / 2)).map fun i => o.getD (2 * i) 0).reverse
theorem page_len (s : List Nat) : (pageL s).length = s.length + 4 := by simp [pageL]; omega
theorem heads_eq {os : List Nat} (hn : os.length ∈ [5, 6, 7, 8]) (k : Nat) {count : Nat} (hc : count ≤ os.length) : headsL (dealtL os (k + 1)) count = (dealtL os k).take (count / 2) := by
  apply List.ext_getElem?
  intro i
  unfold headsL
  rw [List.getElem?_map, List.getElem?_take]
  by_cases c : i < count / 2
  · rw [if_pos c, List.getElem?_range c]
    have := deal_odd hn k i (by omega)
    simp only [Option.map_some, List.getD_eq_getElem?_getD, this]
    rw [List.getElem?_eq_getElem (by rw [dealt_len]; omega)]
    rfl
  · rw [if_neg c, List.getElem?_eq_none (by simpa using c)]; rfl
theorem tails_eq {os : List Nat} (hn : os.length ∈ [5, 6, 7, 8]) (k : Nat) {count : Nat} (hc : count ≤ os.length) : tailsL (dealtL os (k + 1)) count = (dealtL os k).drop (os.length - (count - count / 2)) := by
  have hl := dealt_len os k
  apply List.ext_getElem
  · simp [tailsL, hl]; omega
  · intro i h1 h2
    have hi : i < count - count / 2 := by simpa [tailsL] using h1
    have h1' : i < (((List.range (count - count / 2)).map fun i => (dealtL os (k + 1)).getD (2 * i) 0).reverse).length := h1
    show (((List.range (count - count / 2)).map fun i => (dealtL os (k + 1)).getD (2 * i) 0).reverse)[i]'h1' = _
    rw [List.getElem_reverse]
    simp only [List.length_map, List.length_range, List.getElem_map, List.getElem_range, List.getElem_drop]
    have := deal_even hn k (count - count / 2 - 1 - i) (by omega)
    rw [List.getD_eq_getElem?_getD, this, List.getElem?_eq_getElem (by rw [hl]; omega)]
    simp only [Option.getD_some]
    congr 1
    omega
theorem cram_count {os : List Nat} (hn : os.length ∈ [5, 6, 7, 8]) (k : Nat) {count : Nat} (hc : count ≤ os.length) :
    cramL (pageL (dealtL os k)) (3 + (count : Nat)) = headsL (dealtL os (k + 1)) count ++ ([46, 46, 46] ++ tailsL (dealtL os (k + 1)) count) := by
  rw [heads_eq hn k hc, tails_eq hn k hc]
  have hl := dealt_len os k
  unfold cramL
  rw [page_len, hl]
  have hb : os.length ≤ 8 ∧ 5 ≤ os.length := by
    simp at hn; omega
  rw [if_pos (by omega)]
  have e1 : ((3 + ((count : Nat) : Int) - 3).fdiv 2) = ((count / 2 : Nat) : Int) := by
    rw [show 3 + ((count : Nat) : Int) - 3 = ((count : Nat) : Int) by omega, Int.fdiv_eq_ediv_of_nonneg _ (by decide)]; omega
  rw [e1]
  have e2 : (max 0 ((count / 2 : Nat) : Int)).toNat = count / 2 := by omega
  have e3 : (((os.length + 4 : Nat) : Int) - max 0 (3 + ((count : Nat) : Int) - 3 - max 0 ((count / 2 : Nat) : Int))).toNat = os.length + 4 - (count - count / 2) := by omega
  rw [e2, e3]
  congr 1
  · unfold pageL
    rw [List.take_append_of_le_length (by simp [hl]; omega), List.take_take, Nat.min_eq_left (by rw [hl]; omega)]
  · congr 1
    unfold pageL
    rw [List.drop_append, List.drop_append]
    rw [List.drop_of_length_le (by simp [hl]; omega), List.nil_append, List.drop_of_length_le (by simp [hl]; omega), List.nil_append, List.drop_drop]
    congr 1
    simp [hl]
    omega
theorem cram_none {s : List Nat} {count : Nat} : cramL (pageL s) (2 - (count : Nat)) = [46, 46, 46] := by
  unfold cramL
  rw [page_len, if_pos (by omega)]
  have e1 : max 0 ((2 - ((count : Nat) : Int) - 3).fdiv 2) = 0 := by
    rw [Int.fdiv_eq_ediv_of_nonneg _ (by decide)]; omega
  rw [e1]
  have e3 : (((s.length + 4 : Nat) : Int) - max 0 (2 - ((count : Nat) : Int) - 3 - 0)).toNat = s.length + 4 := by omega
  rw [e3, List.drop_of_length_le (by rw [page_len]; exact Nat.le_refl _)]
  rfl
theorem cram_all {s : List Nat} {more : Nat} : cramL (pageL s) ((s.length : Nat) + 4 + (more : Nat)) = pageL s := by
  unfold cramL
  rw [page_len, if_neg (by omega)]

/-! the parting -/
def pOdd (count i : Nat) : Bool := decide (i % count % 2 = 1)
def idY (count : Nat) : List Nat := sel (List.range (6 * count)) (pOdd count) (6 * count)
def idN (count : Nat) : List Nat := sel (List.range (6 * count)) (fun i => !pOdd count i) (6 * count)
def swI (count : Nat) : List Nat := (List.range (6 * (count - count / 2))).map fun k => (idN count).getD (k / (count - count / 2) * (count - count / 2) + (count - count / 2 - 1 - k % (count - count / 2))) 0
theorem idY_slice : ∀ count < 9, ∀ side < 6, ((idY count).drop (count / 2 * side)).take (count / 2) = (List.range (count / 2)).map fun i => side * count + (2 * i + 1) := by decide +kernel
theorem idN_len : ∀ count < 9, (idN count).length = 6 * (count - count / 2) := by decide +kernel
theorem idY_len : ∀ count < 9, (idY count).length = 6 * (count / 2) := by decide +kernel
theorem idN_lt : ∀ count < 9, ∀ j ∈ idN count, j < 6 * count := by decide +kernel
theorem idY_lt : ∀ count < 9, ∀ j ∈ idY count, j < 6 * count := by decide +kernel
theorem swI_slice : ∀ count < 9, ∀ side < 6, ((swI count).drop ((count - count / 2) * side)).take (count - count / 2) = ((List.range (count - count / 2)).map fun i => side * count + 2 * i).reverse := by decide +kernel
theorem swI_in : ∀ count < 9, ∀ k < 6 * (count - count / 2), k / (count - count / 2) * (count - count / 2) + (count - count / 2 - 1 - k % (count - count / 2)) < 6 * (count - count / 2) := by decide +kernel
theorem swap_ids {count : Nat} (hc : count < 9) (f : Nat → Nat) : swapL ((idN count).map f) (count - count / 2) = (swI count).map f := by
  unfold swapL swI
  rw [List.length_map, idN_len count hc, List.map_map]
  apply List.map_congr_left
  intro k hk
  have h1 := swI_in count hc k (List.mem_range.mp hk)
  rw [← idN_len count hc] at h1
  simp only [Function.comp_apply, List.getD_eq_getElem?_getD, List.getElem?_map]
  rw [List.getElem?_eq_getElem h1]
  rfl
theorem sel_map {α : Type} (vs : List α) (d : α) (p : Nat → Bool) (N : Nat) (hN : vs.length = N) : ∀ i, i ≤ N → sel vs p i = (sel (List.range N) p i).map fun j => vs.getD j d
  | 0, _ => rfl
  | i + 1, h => by
    rw [sel, sel, List.map_append, sel_map vs d p N hN i (by omega)]
    congr 1
    split
    · rw [List.getElem?_range (by omega), List.getElem?_eq_getElem (by omega)]
      simp [List.getElem?_eq_getElem (show i < vs.length by omega)]
    · rfl
end Mine

end
section
open PySem PySem.W PyProof.Rows
set_option Elab.async false
set_option linter.unusedVariables false
set_option maxRecDepth 100000
namespace Mine
abbrev lawEnv (L a : Addr) : Env := newEnv lawSc L mainGlobals (cellsFrom (L + 1) lawSc.names []) ("law" ++ ".<locals>.") (some a) (.ref 58) none builtinsNs
def spareL : List Int := [97, 98, 99, 100, 101, 102, 103, 104, 65, 66, 67, 68, 69, 46, 126, 240]
def numsL (ns : List Int) : List Int := ns.take 16 ++ spareL.drop (ns.take 16).length
def nOf (ns : List Int) : Nat := (5 + (numsL ns).sum.fmod 4).toNat
theorem numsL_len (ns : List Int) : (numsL ns).length = 16 := by simp [numsL, spareL]; omega
theorem nOf_eq (ns : List Int) : 5 + (numsL ns).sum.fmod 4 = ((nOf ns : Nat) : Int) ∧ nOf ns ∈ [5, 6, 7, 8] ∧ 5 ≤ nOf ns ∧ nOf ns ≤ 8 := by
  have h1 : (numsL ns).sum.fmod 4 = (numsL ns).sum % 4 := Int.fmod_eq_emod_of_nonneg _ (by decide)
  have h2 : nOf ns = (5 + (numsL ns).sum % 4).toNat := by unfold nOf; rw [h1]
  rw [h1]
  have h3 : 0 ≤ (numsL ns).sum % 4 ∧ (numsL ns).sum % 4 < 4 := by omega
  generalize (numsL ns).sum % 4 = r at *
  have h4 : nOf ns = 5 ∨ nOf ns = 6 ∨ nOf ns = 7 ∨ nOf ns = 8 := by omega
  exact ⟨by omega, by simpa using h4, by omega, by omega⟩
theorem IntsAre.take' {vs : List Value} {ns : List Int} (h : IntsAre vs ns) (k : Nat) : IntsAre (vs.take k) (ns.take k) := by
  induction h generalizing k with
  | nil => simp; exact .nil
  | cons n t r ih => cases k with
    | zero => exact .nil
    | succ k => exact .cons n t (ih k)
theorem IntsAre.drop' {vs : List Value} {ns : List Int} (h : IntsAre vs ns) (k : Nat) : IntsAre (vs.drop k) (ns.drop k) := by
  induction h generalizing k with
  | nil => simp; exact .nil
  | cons n t r ih => cases k with
    | zero => exact .cons n t r
    | succ k => exact ih k
section
variable {X : Cx} {A : Around} {hc h : Heap} {tk : Nat} {mg mb : Str → Option Value} {m : Str → Option Value} {cv : Nat → Option Value} {L : Nat} {a : Addr}
theorem Ls.froze' {l : List Nat} {D : Addr} {vs : List Value} (x : Ls h D vs) (h1 : (D : Nat) ≠ 56 ∧ ¬ (L ≤ D ∧ D ≤ L + 6)) (h2 : D ∉ l) : Ls (froze h L l) D vs :=
  let ⟨o, ho, r⟩ := x; ⟨o, froze_get ho h1.1 h1.2 h2, r⟩

theorem V_assign {env : Env} {x : Str} {pos' pos : Pos} {value : Expr} {rest : List Stmt} {Q : Flow → Heap → Nat → Prop}
    (H : W X A (eval value env) (fun v h' tk' => W X A (storeName env x v) (fun _ h₂ t₂ => V X A (execs rest env) Q h₂ t₂) h' tk') h tk)
    (hs : swapsWith value (some (.Name x pos')) pos.line env = pure false := by rfl) :
    V X A (execs (.Assign [.Name x pos'] value pos :: rest) env) Q h tk := V_execs_cons (W.v (W_Assign_Name H hs))
theorem W_items_int {env : Env} {i : Int} {k : Nat} {p : Pos} {rest : List Expr} {pos : Pos} {Q : List Value → Heap → Nat → Prop} (q : W X A (spliced (backTo pos (starEach rest env))) (fun vs => Q (.int i tk :: vs)) h (tk + 1)) :
    W X A (spliced (backTo pos (starEach (.Constant (.int i) k p :: rest) env))) Q h tk := W_items_cons (W_int q) (by rfl)
theorem W_ints_items {env : Env} {pos : Pos} : ∀ {cs : List (Int × Nat × Pos)} {tk : Nat} {Q : List Value → Heap → Nat → Prop} (q : ∀ vs tk', IntsAre vs (cs.map (·.1)) → Q vs h tk'),
    W X A (spliced (backTo pos (starEach (cs.map fun c => Expr.Constant (.int c.1) c.2.1 c.2.2) env))) Q h tk
  | [], tk, Q, q => W_items_nil (q [] tk .nil)
  | c :: cs, tk, Q, q => W_items_int (W_ints_items fun vs tk' hv => q _ tk' (.cons _ _ hv))
def constsOf : Stmt → List (Int × Nat × Pos)
  | .Assign _ (.List es _) _ => es.filterMap fun e => match e with | .Constant (.int i) k p => some (i, k, p) | _ => none
  | _ => []
theorem Ls.offL {h' : Heap} {D : Addr} {vs : List Value} (x : Ls h D vs) (hs : Heap.ExtBut L h h') (n : (D : Nat) ≠ 56 ∧ ¬ (L ≤ D ∧ D ≤ L + 6)) : Ls h' D vs :=
  x.extBut hs fun q => n.2 (by rw [q]; exact ⟨Nat.le_refl _, Nat.le_add_right _ _⟩)
theorem in7 {L j : Nat} (hj : j < 6) : L ≤ L + 1 + j ∧ L + 1 + j ≤ L + 6 := by omega
theorem Ls.offC {h' : Heap} {D : Addr} {vs : List Value} {j : Nat} (x : Ls h D vs) (hs : Heap.ExtBut (L + 1 + j) h h') (hj : j < 6) (n : (D : Nat) ≠ 56 ∧ ¬ (L ≤ D ∧ D ≤ L + 6)) : Ls h' D vs :=
  x.extBut hs fun q => n.2 (by rw [q]; exact in7 hj)
theorem c06 : 0 < 6 := by decide
theorem c16 : 1 < 6 := by decide
theorem c26 : 2 < 6 := by decide
theorem c36 : 3 < 6 := by decide
theorem c46 : 4 < 6 := by decide
theorem c56 : 5 < 6 := by decide
theorem law_a {l : Addr} {vs : List Value} {ns : List Int} {Q : Flow → Heap → Nat → Prop} (hh : A.handled = none) (P : PF mg mb hc) (F : Fl [] hc L h m cv) (hm : m "script" = some (.ref l)) (hl : Ls hc l vs) (hi : IntsAre vs ns) (hz : ns.length ≤ 63)
    (K : ∀ hc' h' tk' m' cv' D ws t u, Keep hc hc' → Fl [] hc' L h' m' cv' → cv' 0 = some (.ref D) → Ls hc' D ws → IntsAre ws (numsL ns) → m' "total" = some (.int (numsL ns).sum t) → cv' 1 = some (.int (nOf ns : Nat) u) →
      V X A (execs (lawB.drop 4) (lawEnv L a)) Q h' tk') : V X A (execs lawB (lawEnv L a)) Q h tk := by
  have hzL := sizeLine_eq
  have hvl := hi.length
  refine V_assign ?_
  refine W_List ?_
  refine W_items_int ?_
  refine W_items_int ?_
  refine W_items_int ?_
  refine W_items_int ?_
  refine W_items_int ?_
  refine W_items_int ?_
  refine W_items_int ?_
  refine W_items_int ?_
  refine W_items_int ?_
  refine W_items_int ?_
  refine W_items_int ?_
  refine W_items_int ?_
  refine W_items_int ?_
  refine W_items_int ?_
  refine W_items_int ?_
  refine W_items_int ?_
  refine W_items_nil ?_
  refine ⟨by show 16 ≤ _; omega, fun h₁ D k₁ fD hD => ?_⟩
  have hsp : ∃ sp : List Value, PlainL h₁ D sp.toArray ∧ IntsAre sp spareL := ⟨_, hD, by unfold spareL; repeat (first | exact .nil | apply IntsAre.cons)⟩
  clear hD
  obtain ⟨sp, hD, isp⟩ := hsp
  have spl : sp.length = 16 := isp.length
  have lD := ls_of hD
  have F₁ := F.keeps k₁
  refine W_store_local F₁.ns fun h₂ hn₂ hs₂ => ?_
  have F₂ := F₁.setL hn₂ hs₂.extBut
  have nD := F.new fD
  have lD₂ : Ls h₂ D sp := lD.offL hs₂.extBut nD
  refine V_assign ?_
  refine W_BinOp (W_Subscript list_getitem_lookup ?_)
  refine W_local F₂.ns hm (W_Slice (W_part_none (W_part_some (W_int ⟨((hl.keeps F₂.keep).keeps (Keep.push _ _)).typeIs, ?_⟩))))
  refine W_list_slice (hl.keeps F₂.keep) (by omega) .none (.int _ _) fun h₃ D₃ k₃ fD₃ lD₃ => ?_
  rw [show (16 : Int) = ((16 : Nat) : Int) from rfl, slicePick_upto'] at lD₃
  have F₃ := F₂.keeps k₃
  refine W_Subscript list_getitem_lookup ?_
  refine W_local F₃.ns rfl (W_Slice (W_part_some (W_bi (P.keeps F₃.keep) boot_len (by decide) (by decide) rfl rfl (W_items_cons (W_Subscript list_getitem_lookup ?_)))))
  refine W_local F₃.ns hm (W_Slice (W_part_none (W_part_some (W_int ⟨((hl.keeps F₃.keep).keeps (Keep.push _ _)).typeIs, ?_⟩))))
  refine W_list_slice (hl.keeps F₃.keep) (by omega) .none (.int _ _) fun h₄ D₄ k₄ fD₄ lD₄ => ?_
  rw [show (16 : Int) = ((16 : Nat) : Int) from rfl, slicePick_upto'] at lD₄
  have F₄ := F₃.keeps k₄
  refine W_items_nil (W_len_list lD₄ (by simp; omega) (W_part_none ⟨(((lD₂.keeps k₃).keeps k₄).keeps (Keep.push _ _)).typeIs, ?_⟩))
  refine W_list_slice ((lD₂.keeps k₃).keeps k₄) (by omega) (.int _ _) .none fun h₅ D₅ k₅ fD₅ lD₅ => ?_
  rw [slicePick_from'] at lD₅
  have F₅ := F₄.keeps k₅
  refine W_list_add ((lD₃.keeps k₄).keeps k₅) lD₅ (by simp; omega) fun h₆ D₆ k₆ fD₆ lD₆ => ?_
  have F₆ := F₅.keeps k₆
  have inu : IntsAre (vs.take 16 ++ sp.drop (vs.take 16).length) (numsL ns) := by
    unfold numsL
    have e : (vs.take 16).length = (ns.take 16).length := by simp [hvl]
    rw [e]
    exact (IntsAre.take' hi 16).append (IntsAre.drop' isp _)
  have lD₆ : Ls h₆ D₆ (vs.take 16 ++ sp.drop (vs.take 16).length) := by simpa using lD₆
  generalize hws : vs.take 16 ++ sp.drop (vs.take 16).length = ws at inu lD₆
  refine W_store_cell (c := L + 1) rfl (F₆.cell 0 c06) fun h₇ hn₇ hs₇ => ?_
  have F₇ := F₆.setC (j := 0) c06 hn₇ hs₇
  have nD₆ := F₅.new fD₆
  have lD₇ : Ls h₇ D₆ ws := lD₆.offC (j := 0) hs₇.extBut c06 nD₆
  have F₈ := F₇.froze (l' := []) (by simp) (by simp)
  have kc := F₇.onto (l' := []) (by simp)
  have lD₈ : Ls (froze h₇ L []) D₆ ws := lD₇.froze' nD₆ (by simp)
  refine V_assign ?_
  refine W_bi (P.keeps F₇.keep) boot_sum (by decide) (by decide) rfl rfl ?_
  refine W_items_cons (W_cell (c := L + 1) rfl (F₈.cell 0 c06) (W_items_nil (W_sum hh lD₇ inu fun h₉ t₉ tk₉ k₉ => ?_)))
  have F₉ := F₈.keeps k₉
  refine W_store_local F₉.ns fun hA hnA hsA => ?_
  have FA := F₉.setL hnA hsA.extBut
  refine V_assign ?_
  refine W_BinOp (W_int (W_BinOp (W_local FA.ns rfl (W_int (W_mod (by decide) (W_add ?_))))))
  rw [(nOf_eq ns).1]
  refine W_store_cell (c := L + 2) rfl (FA.cell 1 c16) fun hB hnB hsB => ?_
  have FB := FA.setC (j := 1) c16 hnB hsB
  exact K (froze h₇ L []) hB _ _ _ D₆ ws _ _ kc FB rfl lD₈ inu rfl rfl
end
end Mine

end
section
open PySem PySem.W PyProof.Rows
set_option Elab.async false
set_option linter.unusedVariables false
set_option maxRecDepth 100000
namespace Mine
def packL (ns : List Int) (p : Nat) : List Nat := (((numsL ns).drop (8 * p)).take (nOf ns)).map fun z => (z.fmod 256).toNat
theorem packL_len (ns : List Int) (p : Nat) (hp : p < 2) : (packL ns p).length = nOf ns := by
  have := (nOf_eq ns).2.2.2
  simp [packL, numsL_len]; omega
theorem mod256 (z : Int) : z.fmod 256 = (((z.fmod 256).toNat : Nat) : Int) ∧ (z.fmod 256).toNat < 256 := by
  have h1 : z.fmod 256 = z % 256 := Int.fmod_eq_emod_of_nonneg _ (by decide)
  rw [h1]
  omega
theorem packL_lt (ns : List Int) (p : Nat) : ∀ o ∈ packL ns p, o < 256 := by
  intro o ho
  obtain ⟨z, _, rfl⟩ := List.mem_map.mp ho
  exact (mod256 z).2
def aheadOf (ns : List Int) (p : Nat) : Nat := if p = 0 then 0 else (((numsL ns).sum.fdiv 4).fmod 64).toNat
theorem ahead_eq (ns : List Int) : ((numsL ns).sum.fdiv 4).fmod 64 = ((aheadOf ns 1 : Nat) : Int) ∧ ∀ p, aheadOf ns p ≤ 63 := by
  have h1 : ((numsL ns).sum.fdiv 4).fmod 64 = ((numsL ns).sum.fdiv 4) % 64 := Int.fmod_eq_emod_of_nonneg _ (by decide)
  unfold aheadOf
  rw [h1]
  generalize (numsL ns).sum.fdiv 4 = z
  refine ⟨?_, fun p => ?_⟩
  · simp; omega
  · split <;> omega
theorem Ints.get {vs : List Value} {ns : List Int} (h : IntsAre vs ns) {i : Nat} (hi : i < ns.length) : ∃ t, vs[i]? = some (.int (ns[i]) t) := by
  induction h generalizing i with
  | nil => simp at hi
  | cons n t r ih => cases i with
    | zero => exact ⟨t, rfl⟩
    | succ i => simpa using ih (by simpa using hi)
section
variable {X : Cx} {A : Around} {hc h : Heap} {tk : Nat} {mg mb : Str → Option Value} {m : Str → Option Value} {cv : Nat → Option Value} {L : Nat} {a : Addr}

theorem law_b {D : Addr} {ws : List Value} {ns : List Int} {t u : Tok} {Q : Flow → Heap → Nat → Prop} (hh : A.handled = none) (P : PF mg mb hc) (F : Fl [] hc L h m cv) (hD : cv 0 = some (.ref D)) (hl : Ls hc D ws) (hi : IntsAre ws (numsL ns))
    (ht : m "total" = some (.int (numsL ns).sum t)) (hn : cv 1 = some (.int (nOf ns : Nat) u))
    (K : ∀ hc' h' tk' m' cv' B as Hd bs u', Keep hc hc' → Fl [] hc' L h' m' cv' → cv' 1 = some (.int (nOf ns : Nat) u') →
      cv' 2 = some (.ref B) → Ls hc' B as → (∀ i, i < 2 → ∃ E es, as[i]? = some (.ref E) ∧ Ls hc' E es ∧ Nums es (packL ns i)) →
      cv' 3 = some (.ref Hd) → Ls hc' Hd bs → Nums bs [aheadOf ns 0, aheadOf ns 1] →
      V X A (execs (lawB.drop 6) (lawEnv L a)) Q h' tk') : V X A (execs (lawB.drop 4) (lawEnv L a)) Q h tk := by
  have hzL := sizeLine_eq
  have hwl := hi.length
  have hn8 := (nOf_eq ns).2.2
  have hl16 := numsL_len ns
  refine V_assign ?_
  refine W_ListComp1 (cl := [("numbers", L + 1), ("n", L + 2)]) rfl ?_
  refine W_List ?_
  refine W_items_int ?_
  refine W_items_int ?_
  refine W_items_nil ⟨by show 2 ≤ _; omega, fun h₁ D₁ k₁ fD₁ hD₁ => ?_⟩
  have F₁ := F.keeps k₁
  refine ⟨froze h₁ L [], 2, fun i v => ∃ t, v = .int ((8 * i : Nat) : Int) t, fun i y hx => ∃ E es, y = .ref E ∧ Ls hx E es ∧ Nums es (packL ns i), froze_keep, ?_, by omega, ?_, ?_⟩
  · refine (Src.list (A := A) hh ((ls_of hD₁).froze' (F.new fD₁) (by simp)) froze_keep).imp fun i v hi' hv => ?_
    match i, hi' with
    | 0, _ => cases hv; exact ⟨_, rfl⟩
    | 1, _ => cases hv; exact ⟨_, rfl⟩
  · rintro C i v h₂ t₂ m₂ hi₂ ⟨ti, rfl⟩ k₂ fC hn₂ hm₂
    have F₂ := F₁.keeps k₂
    refine W_ListComp1 (cl := []) rfl ?_
    refine W_Subscript list_getitem_lookup ?_
    have c0 := F₂.cell 0 c06
    have c1 := F₂.cell 1 c16
    rw [hD] at c0
    rw [hn] at c1
    refine W_cell (c := L + 1) rfl c0 ?_
    refine W_Slice (W_part_some (W_local hn₂ hm₂ (W_part_some (W_BinOp (W_local hn₂ hm₂ ?_)))))
    refine W_cell (c := L + 2) rfl c1 (W_add ⟨((hl.keeps F₂.keep).keeps (Keep.push _ _)).typeIs, ?_⟩)
    rw [show ((8 * i : Nat) : Int) + ((nOf ns : Nat) : Int) = ((8 * i + nOf ns : Nat) : Int) by omega]
    refine W_list_slice (hl.keeps F₂.keep) (by omega) (.int _ _) (.int _ _) fun h₃ D₃ k₃ fD₃ lD₃ => ?_
    rw [slicePick_run _ _ _ (by simp; omega) (by omega), show 8 * i + nOf ns - 8 * i = nOf ns by omega] at lD₃
    have ips : IntsAre ((ws.drop (8 * i)).take (nOf ns)) (((numsL ns).drop (8 * i)).take (nOf ns)) := IntsAre.take' (IntsAre.drop' hi _) _
    have lps : (((numsL ns).drop (8 * i)).take (nOf ns)).length = nOf ns := by simp; omega
    have lvs : ((ws.drop (8 * i)).take (nOf ns)).length = nOf ns := by simp; omega
    have lD₃ : Ls h₃ D₃ ((ws.drop (8 * i)).take (nOf ns)) := by simpa using lD₃
    refine ⟨h₃, nOf ns, fun j v => ∃ z t, (((numsL ns).drop (8 * i)).take (nOf ns))[j]? = some z ∧ v = .int z t, fun j y hx => ∃ (o : Nat) (t : Tok), (packL ns i)[j]? = some o ∧ y = .int (o : Nat) t, Keep.refl _, ?_, by omega, ?_, ?_⟩
    · have := Src.list (X := X) (A := A) hh lD₃ (Keep.refl _)
      rw [lvs] at this
      refine this.imp fun j v hj hv => ?_
      obtain ⟨t, e⟩ := Ints.get ips (i := j) (by omega)
      rw [e] at hv
      cases hv
      exact ⟨_, t, List.getElem?_eq_getElem (by omega), rfl⟩
    · rintro C₂ j v h₄ t₄ m₄ hj ⟨z, tz, ez, rfl⟩ k₄ fC₂ hn₄ hm₄
      refine W_BinOp (W_local hn₄ hm₄ (W_int (W_mod (by decide) ⟨Keep.refl _, fun hx _ _ => ⟨(z.fmod 256).toNat, _, ?_, by rw [(mod256 z).1.symm]⟩⟩)))
      unfold packL
      rw [List.getElem?_map, ez]; rfl
    · intro D₄ h₄ t₄ ys hly k₄ fD₄ lD₄ hg
      have hnm : Nums ys (packL ns i) := by
        refine ⟨by rw [hly, packL_len ns i hi₂], fun j o e => ?_⟩
        have hj : j < ys.length := by
          rw [hly, ← packL_len ns i hi₂]
          apply Nat.lt_of_not_le
          intro c
          rw [List.getElem?_eq_none c] at e; cases e
        obtain ⟨o', t', e', q⟩ := hg h₄ k₄ (Fresh.self _ _) j ys[j] (List.getElem?_eq_getElem hj)
        rw [e] at e'; cases e'
        exact ⟨t', by rw [List.getElem?_eq_getElem hj, q]⟩
      refine ⟨k₃.trans k₄, fun hx kx fx => ⟨D₄, ys, rfl, ?_, hnm⟩⟩
      obtain ⟨o, ho, r⟩ := lD₄
      exact ⟨o, fx _ _ (none_of_keep k₃ fD₄) ho, r⟩
  · intro B h₂ t₂ as has k₂ fB lB hg
    have F₂ := F₁.keeps k₂
    refine W_store_cell (c := L + 3) rfl (F₂.cell 2 c26) fun h₃ hn₃ hs₃ => ?_
    have F₃ := F₂.setC (j := 2) c26 hn₃ hs₃
    have nB := F₁.new fB
    have lB₃ : Ls h₃ B as := lB.offC (j := 2) hs₃.extBut c26 nB
    have F₄ := F₃.froze (l' := []) (by simp) (by simp)
    have kc := F₃.onto (l' := []) (by simp)
    have lB₄ : Ls (froze h₃ L []) B as := lB₃.froze' nB (by simp)
    have G4 : ∀ i, i < 2 → ∃ E es, as[i]? = some (.ref E) ∧ Ls (froze h₃ L []) E es ∧ Nums es (packL ns i) := fun i hi => by
      have hi' : i < as.length := by rw [has]; exact hi
      have kx : Keep (froze h₁ L []) (froze h₃ L []) := fun b o e => by
        have n1 : (b : Nat) ≠ 56 := fun q => by rw [q, froze_out (.inl rfl)] at e; cases e
        have n2 : ¬ (L ≤ b ∧ b ≤ L + 6) := fun q => by rw [froze_out (.inr (.inl q))] at e; cases e
        exact froze_get (hs₃.extBut b o (fun q => n2 (by rw [q]; exact in7 c26)) (k₂ b o (froze_keep b o e))) n1 n2 (by simp)
      have fx : Fresh h₁ h₂ (froze h₃ L []) := fun b o e1 e2 => by
        have n := F₁.new e1
        exact froze_get (hs₃.extBut b o (fun q => n.2 (by rw [q]; exact in7 c26)) e2) n.1 n.2 (by simp)
      obtain ⟨E, es, e1, e2, e3⟩ := hg (froze h₃ L []) kx fx i as[i] (List.getElem?_eq_getElem hi')
      exact ⟨E, es, by rw [List.getElem?_eq_getElem hi', e1], e2, e3⟩
    refine V_assign ?_
    refine W_List ?_
    refine W_items_int ?_
    refine W_items_cons (W_BinOp (W_BinOp (W_local F₄.ns ht (W_int (W_div (by decide) (PyProof.noPylong_small (by decide)) (W_int (W_mod (by decide) ?_)))))))
    rw [(ahead_eq ns).1]
    refine W_items_nil ⟨by show 2 ≤ _; omega, fun h₅ D₅ k₅ fD₅ hD₅ => ?_⟩
    have F₅ := F₄.keeps k₅
    refine W_store_cell (c := L + 4) rfl (F₅.cell 3 c36) fun h₆ hn₆ hs₆ => ?_
    have F₆ := F₅.setC (j := 3) c36 hn₆ hs₆
    have nD₅ := F₄.new fD₅
    have lD₆ := (ls_of hD₅).offC (j := 3) hs₆.extBut c36 nD₅
    have kc₂ := F₆.onto (l' := []) (by simp)
    refine K (froze h₆ L []) h₆ _ m _ B as D₅ _ u (kc.trans kc₂) (F₆.froze (by simp) (by simp)) hn rfl (lB₄.keeps kc₂) (fun i hi => ?_) rfl (lD₆.froze' nD₅ (by simp)) ⟨rfl, fun i o e => ?_⟩
    · obtain ⟨E, es, e1, e2, e3⟩ := G4 i hi
      exact ⟨E, es, e1, e2.keeps kc₂, e3⟩
    · match i with
      | 0 => cases e; exact ⟨_, rfl⟩
      | 1 => cases e; exact ⟨_, rfl⟩
      | i + 2 => cases e
end
end Mine

end
section
open PySem PySem.W PyProof.Rows
set_option Elab.async false
set_option linter.unusedVariables false
set_option maxRecDepth 100000
namespace Mine
def stg (ns : List Int) (i : Nat) : List Nat := dealtL (packL ns (i / 3)) (aheadOf ns (i / 3) + i % 3)
def nxt (ns : List Int) (i : Nat) : List Nat := dealtL (packL ns (i / 3)) (aheadOf ns (i / 3) + i % 3 + 1)
theorem dealt_lt {os : List Nat} (ho : ∀ o ∈ os, o < 256) (k : Nat) : ∀ o ∈ dealtL os k, o < 256 := by
  rw [dealtL_map]
  intro o h
  obtain ⟨j, _, rfl⟩ := List.mem_map.mp h
  rw [List.getD_eq_getElem?_getD]
  cases e : os[j]? with
  | none => decide
  | some x => exact ho x (List.mem_of_getElem? e)
theorem froze_step {h h' : Heap} {L : Nat} {l : List Nat} (e : ∀ (b : Nat) o, b ≠ 56 → ¬ (L ≤ b ∧ b ≤ L + 6) → b ∉ l → h.get? b = some o → h'.get? b = some o) : Keep (froze h L l) (froze h' L l) := fun b o x => by
  have n1 : (b : Nat) ≠ 56 := fun q => by rw [q, froze_out (.inl rfl)] at x; cases x
  have n2 : ¬ (L ≤ b ∧ b ≤ L + 6) := fun q => by rw [froze_out (.inr (.inl q))] at x; cases x
  have n3 : b ∉ l := fun q => by rw [froze_out (.inr (.inr q))] at x; cases x
  exact froze_get (e b o n1 n2 n3 (froze_keep b o x)) n1 n2 n3
theorem offL {L b : Nat} (n : ¬ (L ≤ b ∧ b ≤ L + 6)) : b ≠ L := fun q => n (by omega)
theorem offC {L b j : Nat} (hj : j < 6) (n : ¬ (L ≤ b ∧ b ≤ L + 6)) : b ≠ L + 1 + j := fun q => n (by omega)
theorem idx3 {i j : Nat} (hj : j < 3) : (i * 3 + j) / 3 = i ∧ (i * 3 + j) % 3 = j := by omega
section
variable {X : Cx} {A : Around} {hc h : Heap} {tk : Nat} {mg mb : Str → Option Value} {m : Str → Option Value} {cv : Nat → Option Value} {L : Nat} {a : Addr}
theorem V_comp2 {env : Env} {elt iter iter1 : Expr} {x0 x1 y : Str} {px p1 py : Pos} {scope : Scope} {pos spos : Pos} {cl : List (Str × Addr)} {rest : List Stmt} {Q : Flow → Heap → Nat → Prop}
    (hclos : closureFor scope env = pure cl)
    (H : W X A (eval iter env) (fun xv h₁ t₁ => ∃ hb n k V' V1 G mm, h₁.Ns env.locals mm ∧ Two X A env scope cl elt iter1 x0 x1 hb h₁ xv n k V' V1 G ∧
      (∀ D h' t' (ys : List Value), ys.length = n * k → Heap.ExtBut env.locals h₁ h' → h₁.get? D = none → Ls h' D ys → h'.Ns env.locals (fun z => if z = y then some (.ref D) else mm z) → (∀ hx, Keep hb hx → Fresh h₁ h' hx → ∀ i y, ys[i]? = some y → G i y hx) → V X A (execs rest env) Q h' t')) h tk)
    (hsw : swapsWith (.ListComp elt [⟨.Name x0 px, iter, [], 0⟩, ⟨.Name x1 p1, iter1, [], 0⟩] scope pos) (some (.Name y py)) spos.line env = pure true := by rfl)
    (hy : env.kindOf y = some .local := by rfl) (hp : (env.scope.kind == .class || (env.scope.kind == .module && env.locals != env.globals)) = false := by rfl)
    (hcell : (scope.names.all fun x => decide (x.2 ≠ .cell)) = true := by rfl) (hkind : scope.kind = .function := by rfl)
    (hnames : (scope.names.all fun x => decide (x.2 = .local → scope.names.lookup x.1 = some .local)) = true := by rfl) (hx0 : scope.names.lookup x0 = some .local := by rfl) (hx1 : scope.names.lookup x1 = some .local := by rfl) (hxx : x0 ≠ x1 := by decide)
    (hs : ∀ x, foldedSetIterable iter env x = pure x := by intro _; rfl) (hs1 : ∀ C x, foldedSetIterable iter1 (compEnvC scope cl C env) x = pure x := by intro _ _; rfl) :
    V X A (execs (.Assign [.Name y py] (.ListComp elt [⟨.Name x0 px, iter, [], 0⟩, ⟨.Name x1 p1, iter1, [], 0⟩] scope pos) spos :: rest) env) Q h tk :=
  V_execs_cons (W.v (W_Assign_ListComp2 hclos H hsw hy hp hcell hkind hnames hx0 hx1 hxx hs hs1))

theorem law_c {B Hd : Addr} {as bs : List Value} {ns : List Int} {u : Tok} {Q : Flow → Heap → Nat → Prop} (hh : A.handled = none) (hr : A.depth + 1 < recursionLimit) (P : PF mg mb hc) (F : Fl [] hc L h m cv)
    (hn : cv 1 = some (.int (nOf ns : Nat) u)) (hB : cv 2 = some (.ref B)) (lB : Ls hc B as) (hpk : ∀ i, i < 2 → ∃ E es, as[i]? = some (.ref E) ∧ Ls hc E es ∧ Nums es (packL ns i))
    (hH : cv 3 = some (.ref Hd)) (lH : Ls hc Hd bs) (hb : Nums bs [aheadOf ns 0, aheadOf ns 1])
    (K : ∀ hc' h' tk' m' cv' Pg pvs On ovs u', Keep hc hc' → Fl [] hc' L h' m' cv' → cv' 1 = some (.int (nOf ns : Nat) u') →
      cv' 4 = some (.ref Pg) → Ls hc' Pg pvs → pvs.length = 6 → (∀ i, i < 6 → ∃ t, pvs[i]? = some (.str (T (pageL (stg ns i))) t)) →
      m' "onward" = some (.ref On) → Ls hc' On ovs → ovs.length = 6 → (∀ i, i < 6 → ∃ D ws, ovs[i]? = some (.ref D) ∧ Ls hc' D ws ∧ Nums ws (nxt ns i)) →
      V X A (execs (lawB.drop 8) (lawEnv L a)) Q h' tk') : V X A (execs (lawB.drop 6) (lawEnv L a)) Q h tk := by
  have hzL := sizeLine_eq
  have hn8 := (nOf_eq ns).2
  have hah := (ahead_eq ns).2
  have hbg : ∀ i, i < 2 → ∃ t, bs[i]? = some (.int (aheadOf ns i : Nat) t) := fun i hi => by
    match i, hi with
    | 0, _ => exact hb.2 0 _ rfl
    | 1, _ => exact hb.2 1 _ rfl
  have dealt : ∀ (A' : Around) (h₂ : Heap) (t₂ : Nat) (C : Addr) (i k : Nat) (E : Addr) (es : List Value) (t : Tok) (Q' : Value → Heap → Nat → Prop) (ad : Addr), A'.handled = none → A'.depth + 1 < recursionLimit → Keep hc h₂ → i < 2 → k ≤ 100 →
      Ls hc E es → Nums es (packL ns i) → mg "_law_dealt" = some (.ref ad) → (∀ h' D ws tk', Keep h₂ h' → h₂.get? D = none → Ls h' D ws → Nums ws (dealtL (packL ns i) k) → Q' (.ref D) h' tk') →
      W X A' (call (.ref ad) [.ref E, .int (k : Nat) t]) Q' h₂ t₂ := fun A' h₂ t₂ C i k E es t Q' ad hh' hr' k₂ hi hk lE hE had q => by
    have hpl := packL_len ns i hi
    exact W_dealt (P.keeps k₂) had hh' (by omega) (by omega) hk (fun j hj => by rw [hpl] at hj ⊢; exact rest_ne hn8.1 k j hj) (lE.keeps k₂) hE q
  refine V_assign ?_
  refine W_ListComp2 (cl := [("packs", L + 3), ("ahead", L + 4)]) rfl ?_
  refine W_ty (P.keeps F.keep) boot_range (by decide) (by decide) rfl rfl ?_
  refine W_items_int ?_
  refine W_items_nil (W_range hh (by decide) (by decide) fun r h₁ t₁ k₁ src => ?_)
  have F₁ := F.keeps k₁
  have kf : Keep hc (froze h₁ L []) := F₁.onto (by simp)
  refine ⟨froze h₁ L [], 2, 3, _, fun _ j v => ∃ t, v = .int (j : Nat) t, fun i y hx => ∃ t, y = .str (T (pageL (stg ns i))) t, ⟨froze_keep, src _ froze_keep, by decide, ?_, ?_⟩, ?_⟩
  · rintro C i v h₂ t₂ m₂ hi ⟨ti, rfl⟩ k₂ fC hn₂ hm₂
    refine W_ty (P.keeps (F₁.keep.trans k₂)) boot_range (by decide) (by decide) rfl rfl ?_
    refine W_items_int ?_
    exact W_items_nil (W_range hh (by decide) (by decide) fun r₂ h₃ t₃ k₃ src₃ => ⟨k₃, src₃ _ ((froze_keep.trans k₂).trans k₃)⟩)
  · rintro C i j v v1 h₂ t₂ m₂ hi hj ⟨ti, rfl⟩ ⟨tj, rfl⟩ k₂ fC hn₂ hm0 hm1
    have F₂ := F₁.keeps k₂
    have c2 := F₂.cell 2 c26
    have c3 := F₂.cell 3 c36
    rw [hB] at c2
    rw [hH] at c3
    obtain ⟨E, es, eE, lE, nE⟩ := hpk i hi
    obtain ⟨tb, eb⟩ := hbg i hi
    have hP := P.keeps F₂.keep
    have hi' := hah i
    refine W_fn hP hP.page rfl fun ap hap => ?_
    refine W_items_cons (W_fn hP hP.dealt rfl fun ad had => ?_)
    refine W_items_cons (W_Subscript list_getitem_lookup ?_)
    refine W_cell (c := L + 3) rfl c2 (W_local hn₂ hm0 ⟨(lB.keeps F₂.keep).typeIs, ?_⟩)
    refine W_list_item (lB.keeps F₂.keep) (by omega) (by omega) (by simpa using eE) ?_
    refine W_items_cons (W_BinOp (W_Subscript list_getitem_lookup ?_))
    refine W_cell (c := L + 4) rfl c3 (W_local hn₂ hm0 ⟨(lH.keeps F₂.keep).typeIs, ?_⟩)
    refine W_list_item (lH.keeps F₂.keep) (by omega) (by omega) (by simpa using eb) ?_
    refine W_local hn₂ hm1 (W_add (W_items_nil ⟨Keep.refl _, ?_⟩))
    rw [show ((aheadOf ns i : Nat) : Int) + ((j : Nat) : Int) = ((aheadOf ns i + j : Nat) : Int) by omega]
    refine dealt _ _ _ C i (aheadOf ns i + j) E es _ _ ad hh hr F₂.keep hi (by omega) lE nE had fun h₃ D₃ ws₃ t₃ k₃ fD₃ lD₃ nD₃ => ?_
    refine W_items_nil ⟨k₃, ?_⟩
    have hpl := packL_len ns i hi
    refine W_page (P.keeps (F₂.keep.trans k₃)) hap hh hr (by rw [dealt_len]; omega) (dealt_lt (packL_lt ns i) _) lD₃ nD₃ fun h₄ v₄ t₄ k₄ => ⟨k₃.trans k₄, fun hx _ _ => ⟨v₄, ?_⟩⟩
    unfold stg
    rw [(idx3 hj).1, (idx3 hj).2]
  · intro Pg h₂ t₂ pvs hlp k₂ fPg lPg hg
    have F₂ := F₁.keeps k₂
    refine W_store_cell (c := L + 5) rfl (F₂.cell 4 c46) fun h₃ hn₃ hs₃ => ?_
    have F₃ := F₂.setC (j := 4) c46 hn₃ hs₃
    have nPg := F₁.new fPg
    have lPg₃ : Ls h₃ Pg pvs := lPg.offC (j := 4) hs₃.extBut c46 nPg
    have F₄ := F₃.froze (l' := []) (by simp) (by simp)
    have kc := F₃.onto (l' := []) (by simp)
    have lPg₄ : Ls (froze h₃ L []) Pg pvs := lPg₃.froze' nPg (by simp)
    have kx : Keep (froze h₁ L []) (froze h₃ L []) := froze_step fun b o n1 n2 n3 e => hs₃.extBut b o (offC c46 n2) (k₂ b o e)
    have fx : Fresh h₁ h₂ (froze h₃ L []) := fun b o e1 e2 => by
      have n := F₁.new e1
      exact froze_get (hs₃.extBut b o (offC c46 n.2) e2) n.1 n.2 (by simp)
    have hpv : ∀ i, i < 6 → ∃ t, pvs[i]? = some (.str (T (pageL (stg ns i))) t) := fun i hi => by
      have hi' : i < pvs.length := by rw [hlp]; exact hi
      obtain ⟨t, e⟩ := hg (froze h₃ L []) kx fx i pvs[i] (List.getElem?_eq_getElem hi')
      exact ⟨t, by rw [List.getElem?_eq_getElem hi', e]⟩
    clear hg kx fx
    refine V_comp2 (cl := [("packs", L + 3), ("ahead", L + 4)]) rfl ?_
    refine W_ty (P.keeps F₃.keep) boot_range (by decide) (by decide) rfl rfl ?_
    refine W_items_int ?_
    refine W_items_nil (W_range hh (by decide) (by decide) fun r h₅ t₅ k₅ src => ?_)
    have F₅ := F₄.keeps k₅
    have kf₅ : Keep (froze h₃ L []) (froze h₅ L []) := F₅.onto (by simp)
    refine ⟨froze h₅ L [], 2, 3, _, fun _ j v => ∃ t, v = .int (j : Nat) t, fun i y hx => ∃ D ws, y = .ref D ∧ Ls hx D ws ∧ Nums ws (nxt ns i), _, F₅.ns, ⟨froze_keep, src _ froze_keep, by decide, ?_, ?_⟩, ?_⟩
    · rintro C i v h₂ t₂ m₂ hi ⟨ti, rfl⟩ k₂ fC hn₂ hm₂
      refine W_ty (P.keeps ((kc.trans F₅.keep).trans k₂)) boot_range (by decide) (by decide) rfl rfl ?_
      refine W_items_int ?_
      exact W_items_nil (W_range hh (by decide) (by decide) fun r₂ h₃ t₃ k₃ src₃ => ⟨k₃, src₃ _ ((froze_keep.trans k₂).trans k₃)⟩)
    · rintro C i j v v1 h₆ t₆ m₆ hi hj ⟨ti, rfl⟩ ⟨tj, rfl⟩ k₆ fC hn₆ hm0 hm1
      have F₆ := F₅.keeps k₆
      have kh : Keep hc h₆ := kc.trans F₆.keep
      have c2 : h₆.IsCell (L + 1 + 2) (some (.ref B)) := by rw [← hB]; exact F₆.cell 2 c26
      have c3 : h₆.IsCell (L + 1 + 3) (some (.ref Hd)) := by rw [← hH]; exact F₆.cell 3 c36
      obtain ⟨E, es, eE, lE, nE⟩ := hpk i hi
      obtain ⟨tb, eb⟩ := hbg i hi
      have hP := P.keeps kh
      have hi' := hah i
      refine W_fn hP hP.dealt rfl fun ad had => ?_
      refine W_items_cons (W_Subscript list_getitem_lookup ?_)
      refine W_cell (c := L + 3) rfl c2 (W_local hn₆ hm0 ⟨(lB.keeps kh).typeIs, ?_⟩)
      refine W_list_item (lB.keeps kh) (by omega) (by omega) (by simpa using eE) ?_
      refine W_items_cons (W_BinOp (W_BinOp (W_Subscript list_getitem_lookup ?_)))
      refine W_cell (c := L + 4) rfl c3 (W_local hn₆ hm0 ⟨(lH.keeps kh).typeIs, ?_⟩)
      refine W_list_item (lH.keeps kh) (by omega) (by omega) (by simpa using eb) ?_
      refine W_local hn₆ hm1 (W_add (W_int (W_add (W_items_nil ⟨Keep.refl _, ?_⟩))))
      rw [show ((aheadOf ns i : Nat) : Int) + ((j : Nat) : Int) + 1 = ((aheadOf ns i + j + 1 : Nat) : Int) by omega]
      refine dealt _ _ _ C i (aheadOf ns i + j + 1) E es _ _ ad hh hr kh hi (by omega) lE nE had fun h₇ D₇ ws₇ t₇ k₇ fD₇ lD₇ nD₇ => ⟨k₇, fun hx kx fx => ⟨D₇, ws₇, rfl, ?_, ?_⟩⟩
      · obtain ⟨o, ho, r⟩ := lD₇
        exact ⟨o, fx _ _ fD₇ ho, r⟩
      · unfold nxt
        rw [(idx3 hj).1, (idx3 hj).2]
        exact nD₇
    · intro On h₆ t₆ ovs hlo ex₆ fOn lOn hn₆ hg
      have F₆ := F₅.setL hn₆ ex₆
      have nOn := F₅.new fOn
      have kx : Keep (froze h₅ L []) (froze h₆ L []) := froze_step fun b o n1 n2 n3 e => ex₆ b o (offL n2) e
      have fx : Fresh h₅ h₆ (froze h₆ L []) := fun b o e1 e2 => by
        have n := F₅.new e1
        exact froze_get e2 n.1 n.2 (by simp)
      have k₄₆ : Keep (froze h₃ L []) (froze h₆ L []) := kf₅.trans kx
      refine K (froze h₆ L []) h₆ t₆ _ _ Pg pvs On ovs u (kc.trans k₄₆) (F₆.froze (by simp) (by simp)) hn rfl (lPg₄.keeps k₄₆) hlp hpv rfl (lOn.froze' nOn (by simp)) hlo fun i hi => ?_
      have hi' : i < ovs.length := by rw [hlo]; exact hi
      obtain ⟨D, ws, e1, e2, e3⟩ := hg (froze h₆ L []) kx fx i ovs[i] (List.getElem?_eq_getElem hi')
      exact ⟨D, ws, by rw [List.getElem?_eq_getElem hi', e1], e2, e3⟩
end
end Mine

end
section
open PySem PySem.W PyProof.Rows
set_option Elab.async false
set_option linter.unusedVariables false
set_option maxRecDepth 100000
namespace Mine
def octOf (ns : List Int) (count j : Nat) : Nat := (nxt ns (j / count)).getD (j % count) 0
theorem nxt_len (ns : List Int) {i : Nat} (hi : i < 6) : (nxt ns i).length = nOf ns := by
  unfold nxt; rw [dealt_len, packL_len _ _ (by omega)]
theorem idxC {count i j : Nat} (hj : j < count) : (i * count + j) / count = i ∧ (i * count + j) % count = j := by
  constructor
  · rw [Nat.mul_comm, Nat.mul_add_div (by omega), Nat.div_eq_of_lt hj]; rfl
  · rw [Nat.mul_comm, Nat.mul_add_mod, Nat.mod_eq_of_lt hj]

/-- a card of the heap -/
def CardAt (h : Heap) (v : Value) (x y : Nat) : Prop := ∃ D t u, v = .ref D ∧ Tp h D [.int (x : Nat) t, .int (y : Nat) u]
theorem CardAt.keeps {h h' : Heap} {v : Value} {x y : Nat} (c : CardAt h v x y) (k : Keep h h') : CardAt h' v x y := let ⟨D, t, u, e, r⟩ := c; ⟨D, t, u, e, r.keeps k⟩
theorem reads_cards {h : Heap} : ∀ {vs : List Value}, (∀ v ∈ vs, ∃ x y, CardAt h v x y) → ∃ ds as, ReadsAll h vs ds as ∧ PyData.canLayAll0 ds = true ∧ PyData.depthAll ds ≤ 1
  | [], _ => ⟨[], [], .nil, rfl, by simp [PyData.depthAll]⟩
  | v :: vs, hv => by
    obtain ⟨ds, as, r, c, d⟩ := reads_cards (vs := vs) fun w hw => hv w (.tail _ hw)
    obtain ⟨x, y, D, t, u, rfl, ⟨o, ho, hc, n, hd⟩⟩ := hv v (.head _)
    refine ⟨.tuple [.int (x : Nat), .int (y : Nat)] :: ds, _, .cons (reads_tuple_at ho hc hd (.cons (.int _ _) (.cons (.int _ _) .nil))) r, ?_, ?_⟩
    · simp [PyData.canLayAll0, PyData.canLay0, c]
    · simp only [PyData.depthAll, PyData.depth]; omega

section
variable {X : Cx} {A : Around} {hc h : Heap} {tk : Nat} {mg mb : Str → Option Value} {m : Str → Option Value} {cv : Nat → Option Value} {L : Nat} {a : Addr}
theorem V_if {env : Env} {test : Expr} {body rest : List Stmt} {pos : Pos} {Q : Flow → Heap → Nat → Prop}
    (H : W X A (isTrue test env (eval test env)) (fun b h' tk' => if b = true then V X A (execs body env) (fun f h₂ t₂ => match f with | .next => V X A (execs rest env) Q h₂ t₂ | f => Q f h₂ t₂) h' tk' else V X A (execs rest env) Q h' tk') h tk) :
    V X A (execs (.If test body [] pos :: rest) env) Q h tk := by
  refine V_execs_cons (V_If (W.mono H fun b h' tk' q => ?_))
  cases b
  · exact V_execs_nil q
  · exact q

theorem law_d {ns : List Int} {count : Nat} {uc : Tok} {I : Nat} {oI : Obj} {On : Addr} {ovs : List Value} {Q : Flow → Heap → Nat → Prop} (hh : A.handled = none) (hr : A.depth + 1 < recursionLimit) (hu : A.units + 64 < cLine) (P : PF mg mb hc) (hbm : hc.BuiltinsAt mg 56) (C : CodeHd hc 58 56)
    (F : Fl [I] hc L h m cv) (pI : h.get? I = some oI) (hcnt : count ≤ nOf ns) (h5 : cv 5 = some (.int (count : Nat) uc)) (hOn : m "onward" = some (.ref On)) (lOn : Ls hc On ovs) (hlo : ovs.length = 6)
    (hov : ∀ i, i < 6 → ∃ D ws, ovs[i]? = some (.ref D) ∧ Ls hc D ws ∧ Nums ws (nxt ns i))
    (K : ∀ hc' h' tk' m' T Y N f, Keep hc hc' → Fl [I] hc' L h' m' cv → h'.get? I = some oI → m' "onward" = some (.ref On) → m' "parted" = some (.ref T) → Tp hc' T [.ref Y, .ref N] → Ls hc' Y ((idY count).map f) → Ls hc' N ((idN count).map f) →
      (∀ j, j < 6 * count → CardAt hc' (f j) (j % count) (octOf ns count j)) → V X A (execs (loopB.drop 3) (lawEnv L a)) Q h' tk') : V X A (execs loopB (lawEnv L a)) Q h tk := by
  have hzL := sizeLine_eq
  have hn8 := (nOf_eq ns).2
  have hfar := F.far I (by simp)
  have hfar' : ∀ b : Nat, b ∈ [I] → b ≠ 56 ∧ ¬ (L ≤ b ∧ b ≤ L + 6) := fun b hb => F.far b hb
  refine V_comp2 (cl := [("count", L + 6)]) rfl ?_
  have kf : Keep hc (froze h L [I]) := F.onto (by simp)
  refine W_local F.ns hOn ?_
  refine ⟨froze h L [I], 6, count, fun i v => ovs[i]? = some v, fun _ j v => ∃ t, v = .int (j : Nat) t, fun i y hx => CardAt hx y (i % count) (octOf ns count i), _, F.ns, ⟨froze_keep, ?_, by omega, ?_, ?_⟩, ?_⟩
  · have := Src.list (X := X) (A := A) hh (lOn.keeps kf) (froze_keep (h := h) (L := L) (l := [I]))
    rw [hlo] at this
    exact this
  · intro C' i v h₂ t₂ m₂ hi hv k₂ fC hn₂ hm₂
    have c5 : h₂.IsCell (L + 1 + 5) (some (.int (count : Nat) uc)) := by rw [← h5]; exact (F.cell 5 c56).keeps k₂
    refine W_ty (P.keeps (F.keep.trans k₂)) boot_range (by decide) (by decide) rfl rfl ?_
    refine W_items_cons (W_cell (c := L + 6) rfl c5 (W_items_nil ?_))
    exact W_range hh (by omega) (by omega) fun r₂ h₃ t₃ k₃ src₃ => ⟨k₃, src₃ _ ((froze_keep.trans k₂).trans k₃)⟩
  · rintro C' i j v v1 h₂ t₂ m₂ hi hj hv ⟨tj, rfl⟩ k₂ fC hn₂ hm0 hm1
    obtain ⟨D, ws, e1, e2, e3⟩ := hov i hi
    have e1' : v = .ref D := by have hv : ovs[i]? = some v := hv; rw [e1] at hv; cases hv; rfl
    subst e1'
    have kh := F.keep.trans k₂
    have hjl : j < (nxt ns i).length := by rw [nxt_len ns hi]; omega
    obtain ⟨tw, ew⟩ := e3.2 j _ (List.getElem?_eq_getElem hjl)
    refine W_Tuple ?_
    refine W_items_cons (W_local hn₂ hm1 (W_items_cons (W_Subscript list_getitem_lookup ?_)))
    refine W_local hn₂ hm0 (W_local hn₂ hm1 ⟨(e2.keeps kh).typeIs, ?_⟩)
    refine W_list_item (e2.keeps kh) (by omega) (by omega) (by simpa using ew) ?_
    refine W_items_nil ⟨by show 2 ≤ _; omega, fun h₃ D₃ k₃ fD₃ tD₃ => ⟨k₃, fun hx kx fx => ⟨D₃, tj, tw, rfl, ?_⟩⟩⟩
    obtain ⟨o, ho, r⟩ := tD₃
    have eo : octOf ns count (i * count + j) = (nxt ns i)[j] := by
      unfold octOf
      rw [(idxC hj).1, (idxC hj).2, List.getD_eq_getElem?_getD, List.getElem?_eq_getElem hjl]; rfl
    rw [eo, (idxC hj).2]
    exact ⟨o, fx _ _ fD₃ ho, r⟩
  · intro Cd h₁ t₁ cvs hlc ex₁ fCd lCd hn₁ hg
    have F₁' := F.setL hn₁ ex₁
    have pI₁ : h₁.get? I = some oI := ex₁ I oI (offL hfar.2) pI
    have nCd := F.new fCd
    have iCd : Cd ≠ I := (ne_of_live ⟨oI, pI⟩ fCd).symm
    have kx : Keep (froze h L [I]) (froze h₁ L [I]) := froze_step fun b o n1 n2 n3 e => ex₁ b o (offL n2) e
    have fx : Fresh h h₁ (froze h₁ L [I]) := fun b o e1 e2 => by
      have n := F.new e1
      exact froze_get e2 n.1 n.2 (by simp; exact (ne_of_live ⟨oI, pI⟩ e1).symm)
    have F₁ := F₁'.froze (l' := [I]) (by simp) (by simpa using hfar)
    have kc : Keep hc (froze h₁ L [I]) := kf.trans kx
    have lCd₁ : Ls (froze h₁ L [I]) Cd cvs := lCd.froze' nCd (by simpa using iCd)
    have hcard : ∀ j, j < 6 * count → CardAt (froze h₁ L [I]) (cvs.getD j .none) (j % count) (octOf ns count j) := fun j hj => by
      have hj' : j < cvs.length := by rw [hlc]; exact hj
      have := hg _ kx fx j cvs[j] (List.getElem?_eq_getElem hj')
      rw [List.getD_eq_getElem?_getD, List.getElem?_eq_getElem hj']
      exact this
    clear hg fx
    obtain ⟨asp, osp, doc, pm, cd, ct, s1, s2, s3, s4⟩ := (P.keeps kc).split
    refine V_assign ?_
    refine W_Call_def (a := asp) (o := osp) (fd := fnOf "_split_list" "_split_list" (argsOf (stAt txt 2)) (bodyOf (stAt txt 2)) (scopeOf (stAt txt 2)) .none .none doc pm none cd ct) (W_global (mg := mg) (P.keeps F₁'.keep).g s1 ⟨rfl, ?_⟩)
    refine W_items_cons (W_local F₁.ns rfl (W_items_cons ?_))
    refine W_lambda (env := lawEnv L a) F₁ ((P.keeps kc).g) ?_ (C.keeps kc) ?_ rfl rfl (show ((("law" : Str) ++ (".<locals>." : Str)) ++ ("<lambda>" : Str) : Str) = lamQual by decide +kernel) fun h₂ f of ctv cdl t₂ ex₂ ff hof hofd hcdl F₂ => ?_
    · obtain ⟨bm, ob, b1, b2, b3, b4, b5, b6, b7, b8⟩ := hbm
      exact ⟨bm, ob, b1, b2, b3, b4, kc _ _ b5, b6, b7, b8⟩
    · intro b hb e
      have : b = I := by simpa using hb
      rw [this, pI₁] at e; cases e
    have pI₂ : h₂.get? I = some oI := ex₂ I oI hfar.1 pI₁
    have k₁₂ : Keep (froze h₁ L [I]) (froze h₂ L [I]) := froze_step fun b o n1 n2 n3 e => ex₂ b o n1 e
    have kh₂ : Keep (froze h₁ L [I]) h₂ := k₁₂.trans froze_keep
    refine W_items_nil ⟨⟨kh₂ _ _ s2, s3⟩, ?_⟩
    refine W_split (p := pOdd count) ((P.keeps kc).keeps kh₂) s1 hh (by omega) (by rw [hlc]; omega) (lCd₁.keeps kh₂) hof hofd ?_ ?_
    · intro A' h₃ t₃ i v hh' hd' k₃ hv
      have hi : i < cvs.length := by
        apply Nat.lt_of_not_le
        intro c
        rw [List.getElem?_eq_none c] at hv; cases hv
      obtain ⟨D, tx, uy, e, tp⟩ := hcard i (by rw [← hlc]; exact hi)
      have ev : cvs.getD i .none = v := by rw [List.getD_eq_getElem?_getD, hv]; rfl
      rw [ev] at e
      subst e
      exact W_lamcall (by omega) (((P.keeps kc).keeps kh₂).lim.keeps k₃) (k₃ _ _ hof) hofd ((hcdl.keeps froze_keep).keeps k₃) ((tp.keeps kh₂).keeps k₃)
    · intro h₃ T Y N t₃ k₃ fT fY fN tT lY lN
      rw [sel_map cvs .none _ (6 * count) hlc _ (by rw [hlc]; exact Nat.le_refl _), hlc] at lY lN
      have F₃ := F₂.keeps k₃
      refine W_store_local F₃.ns fun h₄ hn₄ hs₄ => ?_
      have F₄ := F₃.setL hn₄ hs₄.extBut
      have pI₄ : h₄.get? I = some oI := hs₄.extBut I oI (offL hfar.2) (k₃ _ _ pI₂)
      have nT := F₂.new fT
      have nY := F₂.new fY
      have nN := F₂.new fN
      have gone : ∀ {b : Nat} {o : Obj}, h₂.get? b = none → h₃.get? b = some o → (froze h₄ L [I]).get? b = some o := fun {b o} e1 e2 => by
        have n := F₂.new e1
        exact froze_get (hs₄.extBut b o (offL n.2) e2) n.1 n.2 (by simp; exact (ne_of_live ⟨oI, pI₂⟩ e1).symm)
      have tT₄ : Tp (froze h₄ L [I]) T [.ref Y, .ref N] := by
        obtain ⟨o, ho, r⟩ := tT
        exact ⟨o, gone fT ho, r⟩
      have lY₄ : Ls (froze h₄ L [I]) Y ((idY count).map fun j => cvs.getD j .none) := by
        obtain ⟨o, ho, r⟩ := lY
        exact ⟨o, gone fY ho, r⟩
      have lN₄ : Ls (froze h₄ L [I]) N ((idN count).map fun j => cvs.getD j .none) := by
        obtain ⟨o, ho, r⟩ := lN
        exact ⟨o, gone fN ho, r⟩
      have k₂₄ : Keep (froze h₂ L [I]) (froze h₄ L [I]) := froze_step fun b o n1 n2 n3 e => hs₄.extBut b o (offL n2) (k₃ b o e)
      have k₁₄ := k₁₂.trans k₂₄
      have F₅ : Fl [I] (froze h₄ L [I]) L h₄ _ cv := F₄.froze (l' := [I]) (by simp) hfar'
      have cards : ∀ j, j < 6 * count → CardAt (froze h₄ L [I]) (cvs.getD j .none) (j % count) (octOf ns count j) := fun j hj => (hcard j hj).keeps k₁₄
      have hc9 : count < 9 := by omega
      refine V_if ?_
      refine W_isTrue_Compare1 ?_
      refine W_local F₅.ns rfl ?_
      have hP := P.keeps (kc.trans k₁₄)
      refine W_Tuple ?_
      refine W_items_cons (W_ty (hP.keeps F₅.keep) boot_list (by decide) (by decide) rfl rfl (W_items_cons (W_Subscript PySem.F.slot_tuple_getitem.lookup ?_)))
      refine W_local F₅.ns rfl (W_int ⟨(tT₄.keeps F₅.keep).typeIs, ?_⟩)
      refine W_tup_item (k := 0) (tT₄.keeps F₅.keep) (by omega) rfl (W_items_nil ?_)
      refine W_list_copy (lY₄.keeps F₅.keep) (by simp [idY_len count hc9]; omega) fun h₆ Y2 k₆ fY2 lY2 => ?_
      have F₆ := F₅.keeps k₆
      refine W_items_cons (W_ty (hP.keeps F₆.keep) boot_list (by decide) (by decide) rfl rfl (W_items_cons (W_Subscript PySem.F.slot_tuple_getitem.lookup ?_)))
      refine W_local F₆.ns rfl (W_int ⟨(tT₄.keeps F₆.keep).typeIs, ?_⟩)
      refine W_tup_item (k := 1) (tT₄.keeps F₆.keep) (by omega) rfl (W_items_nil ?_)
      refine W_list_copy (lN₄.keeps F₆.keep) (by simp [idN_len count hc9]; omega) fun h₇ N2 k₇ fN2 lN2 => ?_
      have F₇ := F₆.keeps k₇
      refine W_items_nil ⟨by show 2 ≤ _; omega, fun h₈ T2 k₈ fT2 tT2 => ?_⟩
      have F₈ := F₇.keeps k₈
      obtain ⟨dY, aY, rY, cY, eY⟩ := reads_cards (h := h₈) (vs := (idY count).map fun j => cvs.getD j .none) fun v hv => by
        obtain ⟨j, hj, rfl⟩ := List.mem_map.mp hv
        exact ⟨_, _, (cards j (idY_lt count hc9 j hj)).keeps F₈.keep⟩
      obtain ⟨dN, aN, rN, cN, eN⟩ := reads_cards (h := h₈) (vs := (idN count).map fun j => cvs.getD j .none) fun v hv => by
        obtain ⟨j, hj, rfl⟩ := List.mem_map.mp hv
        exact ⟨_, _, (cards j (idN_lt count hc9 j hj)).keeps F₈.keep⟩
      have rl : ∀ {D : Addr} {vs : List Value} {ds : List PyData} {as : List Addr}, Ls h₈ D vs → ReadsAll h₈ vs ds as → Reads h₈ (.ref D) (.list ds) (D :: as) := fun {D vs ds as} x r => by
        obtain ⟨o, ho, hcl, n, hd⟩ := x
        exact reads_list_at ho hcl hd (by simpa using r)
      have rt : ∀ {D : Addr} {vs : List Value} {ds : List PyData} {as : List Addr}, Tp h₈ D vs → ReadsAll h₈ vs ds as → Reads h₈ (.ref D) (.tuple ds) as := fun {D vs ds as} x r => by
        obtain ⟨o, ho, hcl, n, hd⟩ := x
        exact reads_tuple_at ho hcl hd (by simpa using r)
      have lay : PyData.canLay0 (.tuple [.list dY, .list dN]) = true := by simp [PyData.canLay0, PyData.canLayAll0, cY, cN]
      have sh : SeqAt.shaped (.tuple [.list dY, .list dN]) = true := by
        unfold SeqAt.shaped
        rw [lay, Bool.true_and, decide_eq_true_eq]
        simp [PyData.depth, PyData.depthAll]
        omega
      refine W_ne_data (rt (tT₄.keeps F₈.keep) (.cons (rl (lY₄.keeps F₈.keep) rY) (.cons (rl (lN₄.keeps F₈.keep) rN) .nil))) (rt tT2 (.cons (rl ((lY2.keeps k₇).keeps k₈) rY) (.cons (rl (lN2.keeps k₈) rN) .nil))) sh sh hu ?_
      rw [SeqAt.eqv_refl _ lay]
      refine W_truthy_bool ?_
      exact K (froze h₄ L [I]) h₈ _ _ T Y N (fun j => cvs.getD j .none) (kc.trans k₁₄) F₈ (k₈ _ _ (k₇ _ _ (k₆ _ _ pI₄))) hOn rfl tT₄ lY₄ lN₄ cards
end
end Mine

end
section
open PySem PySem.W PyProof.Rows
set_option Elab.async false
set_option linter.unusedVariables false
set_option maxRecDepth 100000
set_option maxHeartbeats 4000000
namespace Mine
theorem stg_len (ns : List Int) {i : Nat} (hi : i < 6) : (stg ns i).length = nOf ns := by
  unfold stg; rw [dealt_len, packL_len _ _ (by omega)]
theorem nxt_lt (ns : List Int) (i : Nat) : ∀ o ∈ nxt ns i, o < 256 := dealt_lt (packL_lt ns _) _
theorem getD_lt {os : List Nat} (ho : ∀ o ∈ os, o < 256) (j : Nat) : os.getD j 0 < 256 := by
  rw [List.getD_eq_getElem?_getD]
  cases e : os[j]? with
  | none => decide
  | some x => exact ho x (List.mem_of_getElem? e)
theorem octOf_at (ns : List Int) {count s j : Nat} (hj : j < count) : octOf ns count (s * count + j) = (nxt ns s).getD j 0 := by
  unfold octOf; rw [(idxC hj).1, (idxC hj).2]
theorem head_ids (ns : List Int) {count side : Nat} (hc : count < 9) (hs : side < 6) : (((idY count).drop (count / 2 * side)).take (count / 2)).map (octOf ns count) = headsL (nxt ns side) count := by
  rw [idY_slice count hc side hs, List.map_map]
  unfold headsL
  apply List.map_congr_left
  intro i hi
  have := List.mem_range.mp hi
  exact octOf_at ns (by omega)
theorem tail_ids (ns : List Int) {count side : Nat} (hc : count < 9) (hs : side < 6) : ((swapL ((idN count).map (octOf ns count)) (count - count / 2)).drop ((count - count / 2) * side)).take (count - count / 2) = tailsL (nxt ns side) count := by
  rw [swap_ids hc, ← List.map_drop, ← List.map_take, swI_slice count hc side hs, List.map_reverse, List.map_map]
  unfold tailsL
  congr 1
  apply List.map_congr_left
  intro i hi
  have := List.mem_range.mp hi
  exact octOf_at ns (by omega)
theorem law_says (ns : List Int) {count side : Nat} (hc : count ≤ nOf ns) (hs : side < 6) :
    cramL (pageL (stg ns side)) (3 + (count : Nat)) = headsL (nxt ns side) count ++ [46, 46, 46] ++ tailsL (nxt ns side) count := by
  have hl := packL_len ns (side / 3) (by omega)
  have := cram_count (os := packL ns (side / 3)) (by rw [hl]; exact (nOf_eq ns).2.1) (aheadOf ns (side / 3) + side % 3) (count := count) (by omega)
  unfold stg nxt
  rw [this]
  simp
section
variable {X : Cx} {A : Around} {l : List Nat} {hc h : Heap} {tk : Nat} {mg mb : Str → Option Value} {m : Str → Option Value} {cv : Nat → Option Value} {L : Nat} {a : Addr}
theorem Fl.add (F : Fl l hc L h m cv) {b : Nat} (h1 : hc.get? b = none) (h2 : b ≠ 56 ∧ ¬ (L ≤ b ∧ b ≤ L + 6)) : Fl (b :: l) hc L h m cv :=
  ⟨F.ns, F.cell, F.keep, F.low, fun c hcc => by
    rcases hcc with q | q | q
    · exact F.out c (.inl q)
    · exact F.out c (.inr (.inl q))
    · rcases List.mem_cons.mp q with q | q
      · rw [q]; exact h1
      · exact F.out c (.inr (.inr q)), fun c hcc => by
    rcases List.mem_cons.mp hcc with q | q
    · rw [q]; exact h2
    · exact F.far c q, F.tab⟩
theorem Fl.drop {b : Nat} (F : Fl (b :: l) hc L h m cv) : Fl l hc L h m cv :=
  ⟨F.ns, F.cell, F.keep, F.low, fun c hcc => F.out c (by
    rcases hcc with q | q | q
    · exact .inl q
    · exact .inr (.inl q)
    · exact .inr (.inr (.tail _ q))), fun c hcc => F.far c (.tail _ hcc), F.tab⟩
theorem V_for1 {env : Env} {x px iter body pos} {Q : Flow → Heap → Nat → Prop} (H : W X A (exec (.For (.Name x px) iter body [] pos) env) Q h tk) : V X A (execs [.For (.Name x px) iter body [] pos] env) Q h tk := by
  refine V_execs_cons (W.v (W.mono H fun f h' tk' q => ?_))
  cases f with
  | next => exact V_execs_nil q
  | _ => exact q
theorem V_assignV {env : Env} {x : Str} {pos' pos : Pos} {value : Expr} {rest : List Stmt} {Q : Flow → Heap → Nat → Prop}
    (H : V X A (eval value env) (fun v h' tk' => W X A (storeName env x v) (fun _ h₂ t₂ => V X A (execs rest env) Q h₂ t₂) h' tk') h tk)
    (hs : swapsWith value (some (.Name x pos')) pos.line env = pure false := by rfl) :
    V X A (execs (.Assign [.Name x pos'] value pos :: rest) env) Q h tk := V_execs_cons (V_Assign_Name H hs)

theorem law_e {ns : List Int} {count : Nat} {uc : Tok} {I : Nat} {oI : Obj} {On Pg T' Y N : Addr} {pvs : List Value} {f : Nat → Value} {Q : Flow → Heap → Nat → Prop} (hh : A.handled = none) (hgd : A.guards = some []) (hr : A.depth + 1 < recursionLimit) (P : PF mg mb hc)
    (F : Fl [I] hc L h m cv) (pI : h.get? I = some oI) (hcnt : count ≤ nOf ns) (h5 : cv 5 = some (.int (count : Nat) uc)) (h4 : cv 4 = some (.ref Pg)) (lPg : Ls hc Pg pvs) (hpv : ∀ i, i < 6 → ∃ t, pvs[i]? = some (.str (T (pageL (stg ns i))) t))
    (hOn : m "onward" = some (.ref On)) (hT : m "parted" = some (.ref T')) (tT : Tp hc T' [.ref Y, .ref N]) (lY : Ls hc Y ((idY count).map f)) (lN : Ls hc N ((idN count).map f))
    (hcard : ∀ j, j < 6 * count → CardAt hc (f j) (j % count) (octOf ns count j))
    (K : ∀ h' tk' m', Fl [I] hc L h' m' cv → h'.get? I = some oI → m' "onward" = some (.ref On) → Q .next h' tk') : V X A (execs (loopB.drop 3) (lawEnv L a)) Q h tk := by
  have hzL := sizeLine_eq
  have hn8 := (nOf_eq ns).2
  have hfar := F.far I (by simp)
  have hc9 : count < 9 := by omega
  have c5 : ∀ {h' : Heap} {l' m'}, Fl l' hc L h' m' cv → h'.IsCell (L + 1 + 5) (some (.int (count : Nat) uc)) := fun {h' l' m'} F' => by rw [← h5]; exact F'.cell 5 c56
  have c4 : ∀ {h' : Heap} {l' m'}, Fl l' hc L h' m' cv → h'.IsCell (L + 1 + 4) (some (.ref Pg)) := fun {h' l' m'} F' => by rw [← h4]; exact F'.cell 4 c46
  have fin : ∀ h' tk' m' t u v, Fl [I] hc L h' m' cv → h'.get? I = some oI → m' "onward" = some (.ref On) → m' "parted" = some (.ref T') → m' "few" = some (.int ((count / 2 : Nat) : Int) t) → m' "many" = some (.int ((count - count / 2 : Nat) : Int) u) →
      m' "tails" = some (.bytes (bytesOf (swapL ((idN count).map (octOf ns count)) (count - count / 2))) v) → V X A (execs (loopB.drop 7) (lawEnv L a)) Q h' tk' := by
    intro h₁ t₁ m₁ tf tm tt F₁ p₁ g1 g2 g3 g4 g5
    refine V_if ?_
    refine W_isTrue_Not (W_isTrue (W_bi (P.keeps F₁.keep) boot_isi (by decide) (by decide) rfl rfl ?_))
    refine W_items_cons (W_local F₁.ns g5 (W_items_cons ?_))
    refine W_builtin (mg := mg) (mb := mb) (P.keeps F₁.keep).g (P.no "bytes" (by decide)) (P.keeps F₁.keep).b ((P.bi "bytes" (by decide)).trans boot_bytes) ?_
    refine W_items_nil (W_isinst_bytes (W_truthy_bool ?_))
    show V X A _ _ _ _
    refine V_for1 ?_
    refine W_For ?_
    refine W_ty (P.keeps F₁.keep) boot_range (by decide) (by decide) rfl rfl ?_
    refine W_items_int ?_
    refine W_items_nil (W_range hh (by decide) (by decide) fun r h₂ t₂ k₂ src => ?_)
    have F₂ := F₁.keeps k₂
    refine ⟨hc, _, _, src hc F₂.keep, fun I2 St h₃ it st k₃ fI2 => ?_⟩
    have nI2 := F₂.new fI2
    have hII : I ≠ I2 := ne_of_live ⟨oI, k₂ _ _ p₁⟩ fI2
    refine ⟨fun j h' => ∃ m', Fl [I2, I] hc L h' m' cv ∧ h'.get? I = some oI ∧ m' "onward" = some (.ref On) ∧ m' "parted" = some (.ref T') ∧ m' "few" = some (.int ((count / 2 : Nat) : Int) tf) ∧ m' "many" = some (.int ((count - count / 2 : Nat) : Int) tm) ∧
      m' "tails" = some (.bytes (bytesOf (swapL ((idN count).map (octOf ns count)) (count - count / 2))) tt), ?_, ?_, ?_, ?_, ?_⟩
    · rintro j hA hB ⟨m', F', a0, a1⟩ ex
      exact ⟨m', F'.ext (by simp) ex, ex I oI hII a0, a1⟩
    · rintro j hA ⟨m', F', _⟩
      exact F'.keep
    · exact ⟨m₁, (F₂.keeps k₃).add it.out nI2, k₃ _ _ (k₂ _ _ p₁), g1, g2, g3, g4, g5⟩
    · rintro side v h₄ t₄ hside ⟨ts, rfl⟩ ⟨m₄, F₄, p₄, a1, a2, a3, a4, a5⟩ live
      have hs6 : side < 6 := hside
      have keepI2 : ∀ {b : Nat}, b ≠ 56 → ¬ (L ≤ b ∧ b ≤ L + 6) → b ≠ L := fun _ n => offL n
      refine W_store_local F₄.ns fun h₅ hn₅ hs₅ => ?_
      have F₅ : Fl [I2, I] hc L h₅ _ cv := F₄.setL hn₅ hs₅.extBut
      have p₅ : h₅.get? I = some oI := hs₅.extBut I oI (offL hfar.2) p₄
      have q₅ : ∀ o, h₄.get? I2 = some o → h₅.get? I2 = some o := fun o e => hs₅.extBut I2 o (offL nI2.2) e
      have e1 : count / 2 * side ≤ count / 2 * 5 := Nat.mul_le_mul_left _ (by omega)
      have e2 : (count - count / 2) * side ≤ (count - count / 2) * 5 := Nat.mul_le_mul_left _ (by omega)
      refine W_execs_cons (W_Assign_Name ?_)
      refine W_fn (P.keeps F₅.keep) (P.keeps F₅.keep).signs rfl fun asg hasg => ?_
      refine W_items_cons (W_ListComp1 (cl := []) rfl ?_)
      refine W_Subscript list_getitem_lookup ?_
      refine W_Subscript PySem.F.slot_tuple_getitem.lookup ?_
      refine W_local F₅.ns a2 (W_int ⟨(tT.keeps F₅.keep).typeIs, ?_⟩)
      refine W_tup_item (k := 0) (tT.keeps F₅.keep) (by omega) rfl ?_
      refine W_Slice (W_part_some (W_BinOp (W_local F₅.ns a3 (W_local F₅.ns rfl ?_))))
      refine W_mul ?_ (IntMulOk.of_left (intBits_le_64 (by omega) (by omega)))
      refine W_part_some (W_BinOp (W_BinOp (W_local F₅.ns a3 (W_local F₅.ns rfl ?_))))
      refine W_mul ?_ (IntMulOk.of_left (intBits_le_64 (by omega) (by omega)))
      refine W_local F₅.ns a3 (W_add ⟨((lY.keeps F₅.keep).keeps (Keep.push _ _)).typeIs, ?_⟩)
      rw [show ((count / 2 : Nat) : Int) * ((side : Nat) : Int) + ((count / 2 : Nat) : Int) = ((count / 2 * side + count / 2 : Nat) : Int) by rw [Int.natCast_add, Int.natCast_mul],
        show ((count / 2 : Nat) : Int) * ((side : Nat) : Int) = ((count / 2 * side : Nat) : Int) by rw [Int.natCast_mul]]
      refine W_list_slice (lY.keeps F₅.keep) (by simp [idY_len count hc9]; omega) (.int _ _) (.int _ _) fun h₆ D₆ k₆ fD₆ lD₆ => ?_
      rw [slicePick_run _ _ _ (by simp [idY_len count hc9]; omega) (by omega), show count / 2 * side + count / 2 - count / 2 * side = count / 2 by omega] at lD₆
      have lD₆ : Ls h₆ D₆ ((((idY count).drop (count / 2 * side)).take (count / 2)).map f) := by simpa [List.map_take, List.map_drop] using lD₆
      have F₆ := F₅.keeps k₆
      have hlen : (((idY count).drop (count / 2 * side)).take (count / 2)).length = count / 2 := by simp [idY_len count hc9]; omega
      have hjl : ∀ j ∈ ((idY count).drop (count / 2 * side)).take (count / 2), j < 6 * count := fun j hj => idY_lt count hc9 j (List.mem_of_mem_drop (List.mem_of_mem_take hj))
      have hho : ∀ o ∈ headsL (nxt ns side) count, o < 256 := fun o ho => by
        obtain ⟨i, _, rfl⟩ := List.mem_map.mp ho
        exact getD_lt (nxt_lt ns side) _
      have hhl : (headsL (nxt ns side) count).length = count / 2 := by simp [headsL]
      refine ⟨h₆, count / 2, fun i v => ∃ j, (((idY count).drop (count / 2 * side)).take (count / 2))[i]? = some j ∧ v = f j, fun i y hx => ∃ (o : Nat) (t : Tok), (headsL (nxt ns side) count)[i]? = some o ∧ y = .int (o : Nat) t, Keep.refl _, ?_, by omega, ?_, ?_⟩
      · have := Src.list (X := X) (A := A) hh lD₆ (Keep.refl _)
        rw [List.length_map, hlen] at this
        refine this.imp fun i v hi hv => ?_
        rw [List.getElem?_map] at hv
        obtain ⟨j, ej, rfl⟩ := Option.map_eq_some_iff.mp hv
        exact ⟨j, ej, rfl⟩
      · rintro C' i v h₇ t₇ m₇ hi ⟨j, ej, rfl⟩ k₇ fC hn₇ hm₇
        obtain ⟨D, tx, ty, ed, td⟩ := hcard j (hjl j (List.mem_of_getElem? ej))
        refine W_Subscript PySem.F.slot_tuple_getitem.lookup ?_
        refine W_local hn₇ (hm₇.trans (congrArg some ed)) (W_int ⟨(td.keeps (F₆.keep.trans k₇)).typeIs, ?_⟩)
        refine W_tup_item (k := 1) (td.keeps (F₆.keep.trans k₇)) (by omega) rfl ⟨Keep.refl _, fun _ _ _ => ⟨_, ty, ?_, rfl⟩⟩
        rw [← head_ids ns hc9 hs6, List.getElem?_map, ej]; rfl
      · intro D₇ h₇ t₇ ys hly k₇ fD₇ lD₇ hg
        have F₇ := F₆.keeps k₇
        have hnm : Nums ys (headsL (nxt ns side) count) := by
          refine ⟨by rw [hly, hhl], fun i o e => ?_⟩
          have hi : i < ys.length := by
            rw [hly, ← hhl]
            apply Nat.lt_of_not_le
            intro c
            rw [List.getElem?_eq_none c] at e; cases e
          obtain ⟨o', t', e', q⟩ := hg h₇ k₇ (Fresh.self _ _) i ys[i] (List.getElem?_eq_getElem hi)
          rw [e] at e'; cases e'
          exact ⟨t', by rw [List.getElem?_eq_getElem hi, q]⟩
        refine W_items_nil ⟨k₆.trans k₇, ?_⟩
        refine W_signs (P.keeps F₇.keep) hasg hh (by omega) (by omega) hho (NumSrc.list lD₇ hnm) fun h₈ v₈ t₈ k₈ => ?_
        have F₈ := F₇.keeps k₈
        refine W_store_local F₈.ns fun h₉ hn₉ hs₉ => ?_
        have F₉ : Fl [I2, I] hc L h₉ _ cv := F₈.setL hn₉ hs₉.extBut
        have p₉ : h₉.get? I = some oI := hs₉.extBut I oI (offL hfar.2) (k₈ _ _ (k₇ _ _ (k₆ _ _ p₅)))
        have q₉ : ∀ o, h₄.get? I2 = some o → h₉.get? I2 = some o := fun o e => hs₉.extBut I2 o (offL nI2.2) (k₈ _ _ (k₇ _ _ (k₆ _ _ (q₅ o e))))
        have hto : ∀ o ∈ tailsL (nxt ns side) count, o < 256 := fun o ho => by
          obtain ⟨i, _, rfl⟩ := List.mem_map.mp (List.mem_reverse.mp ho)
          exact getD_lt (nxt_lt ns side) _
        have htl : (tailsL (nxt ns side) count).length = count - count / 2 := by simp [tailsL]
        have hsl : (swapL ((idN count).map (octOf ns count)) (count - count / 2)).length = 6 * (count - count / 2) := by simp [swapL, idN_len count hc9]
        refine W_execs_cons (W_Assign_Name ?_)
        refine W_fn (P.keeps F₉.keep) (P.keeps F₉.keep).signs rfl fun asg2 hasg2 => ?_
        refine W_items_cons (W_Subscript PySem.W.FB.slot_bytes_getitem.lookup ?_)
        refine W_local F₉.ns a5 ?_
        refine W_Slice (W_part_some (W_BinOp (W_local F₉.ns a4 (W_local F₉.ns rfl ?_))))
        refine W_mul ?_ (IntMulOk.of_left (intBits_le_64 (by omega) (by omega)))
        refine W_part_some (W_BinOp (W_BinOp (W_local F₉.ns a4 (W_local F₉.ns rfl ?_))))
        refine W_mul ?_ (IntMulOk.of_left (intBits_le_64 (by omega) (by omega)))
        refine W_local F₉.ns a4 (W_add ⟨PySem.W.typeIs_bytes _ _ _, ?_⟩)
        rw [show ((count - count / 2 : Nat) : Int) * ((side : Nat) : Int) + ((count - count / 2 : Nat) : Int) = (((count - count / 2) * side + (count - count / 2) : Nat) : Int) by rw [Int.natCast_add, Int.natCast_mul],
          show ((count - count / 2 : Nat) : Int) * ((side : Nat) : Int) = (((count - count / 2) * side : Nat) : Int) by rw [Int.natCast_mul]]
        refine W_bytes_slice (by omega) (by rw [hsl]; omega) (by rw [hsl]; omega) fun hA tA tkA kA => ?_
        rw [show (count - count / 2) * side + (count - count / 2) - (count - count / 2) * side = count - count / 2 by omega, tail_ids ns hc9 hs6]
        have FA := F₉.keeps kA
        refine W_items_nil ⟨kA, ?_⟩
        refine W_signs (P.keeps FA.keep) hasg2 hh (by omega) (by omega) hto (NumSrc.bytes hto) fun hB vB tkB kB => ?_
        have FB := FA.keeps kB
        refine W_store_local FB.ns fun hC hnC hsC => ?_
        have FC : Fl [I2, I] hc L hC _ cv := FB.setL hnC hsC.extBut
        have pC : hC.get? I = some oI := hsC.extBut I oI (offL hfar.2) (kB _ _ (kA _ _ p₉))
        have qC : ∀ o, h₄.get? I2 = some o → hC.get? I2 = some o := fun o e => hsC.extBut I2 o (offL nI2.2) (kB _ _ (kA _ _ (q₉ o e)))
        obtain ⟨tp, ep⟩ := hpv side hs6
        have hpl : (pageL (stg ns side)).length ≤ 12 := by rw [page_len, stg_len ns hs6]; omega
        refine W_execs_cons (W_If (W_isTrue_Or2 (W_isTrue_Compare1 ?_)))
        refine W_fn (P.keeps FC.keep) (P.keeps FC.keep).cram rfl fun ac hac => ?_
        refine W_items_cons (W_Subscript list_getitem_lookup ?_)
        refine W_cell (c := L + 5) rfl (c4 FC) (W_local FC.ns rfl ⟨(lPg.keeps FC.keep).typeIs, ?_⟩)
        refine W_list_item (lPg.keeps FC.keep) (by omega) (by omega) (by simpa using ep) ?_
        refine W_items_cons (W_BinOp (W_int (W_cell (c := L + 6) rfl (c5 FC) (W_add (W_items_nil ⟨Keep.refl _, ?_⟩)))))
        refine W_cram (P.keeps FC.keep) hac hh (by omega) (by omega) (by omega) (by omega) fun hD vD tkD kD => ?_
        have FD := FC.keeps kD
        refine W_BinOp (W_BinOp (W_local FD.ns rfl (W_str (W_add_str (b := [46, 46, 46]) (by rw [hhl]; simp; omega) fun tE tkE => ?_))))
        refine W_local FD.ns rfl (W_add_str (by rw [List.length_append, hhl, htl]; simp; omega) fun tF tkF => W_ne_str (W_truthy_bool ?_))
        rw [law_says ns hcnt hs6]
        have eq1 : ((headsL (nxt ns side) count ++ [46, 46, 46] ++ tailsL (nxt ns side) count) != (headsL (nxt ns side) count ++ [46, 46, 46] ++ tailsL (nxt ns side) count)) = false := by simp
        rw [eq1, if_neg (by decide)]
        refine W_isTrue_Compare1 ?_
        refine W_fn (P.keeps FD.keep) (P.keeps FD.keep).cram rfl fun ac2 hac2 => ?_
        refine W_items_cons (W_Subscript list_getitem_lookup ?_)
        refine W_cell (c := L + 5) rfl (c4 FD) (W_local FD.ns rfl ⟨(lPg.keeps FD.keep).typeIs, ?_⟩)
        refine W_list_item (lPg.keeps FD.keep) (by omega) (by omega) (by simpa using ep) ?_
        refine W_items_cons (W_BinOp (W_int (W_cell (c := L + 6) rfl (c5 FD) (W_sub (W_items_nil ⟨Keep.refl _, ?_⟩)))))
        refine W_cram (P.keeps FD.keep) hac2 hh (by omega) (by omega) (by omega) (by omega) fun hE vE tkE kE => ?_
        refine W_str (W_ne_str (b := [46, 46, 46]) (W_truthy_bool ?_))
        rw [cram_none]
        show W X A _ _ _ _
        refine W_execs_nil (W_execs_nil ⟨⟨_, FD.keeps kE, kE _ _ (kD _ _ pC), a1, a2, a3, a4, a5⟩, fun o e => kE _ _ (kD _ _ (qC o e))⟩)
    · rintro h' tk' ⟨m', F', p', a1, _⟩
      exact K h' tk' m' F'.drop p' a1
  refine V_assign ?_
  refine W_BinOp (W_cell (c := L + 6) rfl (c5 F) (W_int (W_div (by decide) (PyProof.noPylong_small (by decide)) ?_)))
  rw [show ((count : Nat) : Int).fdiv 2 = ((count / 2 : Nat) : Int) by rw [Int.fdiv_eq_ediv_of_nonneg _ (by decide)]; omega]
  refine W_store_local F.ns fun h₁ hn₁ hs₁ => ?_
  have F₁ : Fl [I] hc L h₁ _ cv := F.setL hn₁ hs₁.extBut
  have p₁ : h₁.get? I = some oI := hs₁.extBut I oI (offL hfar.2) pI
  refine V_assign ?_
  refine W_BinOp (W_cell (c := L + 6) rfl (c5 F₁) (W_local F₁.ns rfl (W_sub ?_)))
  rw [show ((count : Nat) : Int) - ((count / 2 : Nat) : Int) = ((count - count / 2 : Nat) : Int) by omega]
  refine W_store_local F₁.ns fun h₂ hn₂ hs₂ => ?_
  have F₂ : Fl [I] hc L h₂ _ cv := F₁.setL hn₂ hs₂.extBut
  have p₂ : h₂.get? I = some oI := hs₂.extBut I oI (offL hfar.2) p₁
  refine V_assign ?_
  refine W_ty (P.keeps F₂.keep) boot_bytes (by decide) (by decide) rfl rfl ?_
  refine W_items_cons (W_ListComp1 (cl := []) rfl ?_)
  refine W_Subscript PySem.F.slot_tuple_getitem.lookup ?_
  refine W_local F₂.ns hT (W_int ⟨(tT.keeps F₂.keep).typeIs, ?_⟩)
  refine W_tup_item (k := 1) (tT.keeps F₂.keep) (by omega) rfl ?_
  have hE : ∀ o ∈ (idN count).map (octOf ns count), o < 256 := fun o ho => by
    obtain ⟨j, _, rfl⟩ := List.mem_map.mp ho
    exact getD_lt (nxt_lt ns _) _
  have hEl : ((idN count).map (octOf ns count)).length = 6 * (count - count / 2) := by rw [List.length_map, idN_len count hc9]
  refine ⟨hc, 6 * (count - count / 2), fun i v => ∃ j, (idN count)[i]? = some j ∧ v = f j, fun i y hx => ∃ (o : Nat) (t : Tok), ((idN count).map (octOf ns count))[i]? = some o ∧ y = .int (o : Nat) t, F₂.keep, ?_, by omega, ?_, ?_⟩
  · have := Src.list (X := X) (A := A) hh lN F₂.keep
    rw [List.length_map, idN_len count hc9] at this
    refine this.imp fun i v hi hv => ?_
    rw [List.getElem?_map] at hv
    obtain ⟨j, ej, rfl⟩ := Option.map_eq_some_iff.mp hv
    exact ⟨j, ej, rfl⟩
  · rintro C' i v h₇ t₇ m₇ hi ⟨j, ej, rfl⟩ k₇ fC hn₇ hm₇
    obtain ⟨D, tx, ty, ed, td⟩ := hcard j (idN_lt count hc9 j (List.mem_of_getElem? ej))
    refine W_Subscript PySem.F.slot_tuple_getitem.lookup ?_
    refine W_local hn₇ (hm₇.trans (congrArg some ed)) (W_int ⟨(td.keeps (F₂.keep.trans k₇)).typeIs, ?_⟩)
    refine W_tup_item (k := 1) (td.keeps (F₂.keep.trans k₇)) (by omega) rfl ⟨Keep.refl _, fun _ _ _ => ⟨_, ty, ?_, rfl⟩⟩
    rw [List.getElem?_map, ej]; rfl
  · intro D₃ h₃ t₃ ys hly k₃ fD₃ lD₃ hg
    have F₃ := F₂.keeps k₃
    have hnm : Nums ys ((idN count).map (octOf ns count)) := by
      refine ⟨by rw [hly, hEl], fun i o e => ?_⟩
      have hi : i < ys.length := by
        rw [hly, ← hEl]
        apply Nat.lt_of_not_le
        intro c
        rw [List.getElem?_eq_none c] at e; cases e
      obtain ⟨o', t', e', q⟩ := hg h₃ F₃.keep (Fresh.self _ _) i ys[i] (List.getElem?_eq_getElem hi)
      rw [e] at e'; cases e'
      exact ⟨t', by rw [List.getElem?_eq_getElem hi, q]⟩
    refine W_items_nil (W_bytes_ints hh lD₃ hnm hE (by rw [hEl]; omega) fun h₄ v₄ t₄ k₄ => ?_)
    have F₄ := F₃.keeps k₄
    refine W_store_local F₄.ns fun h₅ hn₅ hs₅ => ?_
    have F₅' : Fl [I] hc L h₅ _ cv := F₄.setL hn₅ hs₅.extBut
    have p₅ : h₅.get? I = some oI := hs₅.extBut I oI (offL hfar.2) (k₄ _ _ (k₃ _ _ p₂))
    obtain ⟨m₅, F₅, g1, g2, ⟨tf, g3⟩, ⟨tm, g4⟩, g5⟩ : ∃ m₅, Fl [I] hc L h₅ m₅ cv ∧ m₅ "onward" = some (.ref On) ∧ m₅ "parted" = some (.ref T') ∧ (∃ t, m₅ "few" = some (.int ((count / 2 : Nat) : Int) t)) ∧ (∃ t, m₅ "many" = some (.int ((count - count / 2 : Nat) : Int) t)) ∧
      m₅ "tails" = some (.bytes (bytesOf ((idN count).map (octOf ns count))) v₄) := ⟨_, F₅', hOn, hT, ⟨_, rfl⟩, ⟨_, rfl⟩, if_pos rfl⟩
    clear F₅'
    refine V_if ?_
    refine W_isTrue_Compare1 ?_
    refine W_cell (c := L + 6) rfl (c5 F₅) (W_int (W_gt (W_truthy_bool ?_)))
    by_cases c0 : count = 0
    · have e0 : ¬ (decide (((count : Nat) : Int) > 0) = true) := by rw [decide_eq_true_eq]; omega
      rw [if_neg e0]
      refine fin h₅ _ _ _ _ v₄ F₅ p₅ g1 g2 g3 g4 ?_
      rw [g5]
      subst c0
      rfl
    · have e0 : decide (((count : Nat) : Int) > 0) = true := by rw [decide_eq_true_eq]; omega
      rw [if_pos e0]
      obtain ⟨asw, osw, doc, pm, cd, ct, s1, s2, s3, s4⟩ := (P.keeps F₅.keep).swap
      refine V_assignV ?_
      refine V_Call_def (a := asw) (o := osw) (fd := fnOf "_byteswap" "_byteswap" (argsOf (stAt txt 4)) (bodyOf (stAt txt 4)) (scopeOf (stAt txt 4)) .none .none doc pm none cd ct) (hlen := (show (2 : Nat) ≤ 30 by decide)) ?_
      refine W_global (mg := mg) (P.keeps F₅.keep).g s1 ⟨rfl, ?_⟩
      refine W_items_cons ?_
      refine W_local F₅.ns g5 ?_
      refine W_items_cons ?_
      refine W_local F₅.ns g4 ?_
      refine W_items_nil ⟨⟨s2, s3⟩, ?_⟩
      refine V_swap (g := 6) (P.keeps F₅.keep) s1 hh hgd (by omega) (by omega) (by omega) hEl (by rw [hEl]; omega) hE fun h₆ v₆ t₆ k₆ => ?_
      have F₆ := F₅.keeps k₆
      refine W_store_local F₆.ns fun h₇ hn₇ hs₇ => ?_
      have F₇ : Fl [I] hc L h₇ _ cv := F₆.setL hn₇ hs₇.extBut
      have p₇ : h₇.get? I = some oI := hs₇.extBut I oI (offL hfar.2) (k₆ _ _ p₅)
      refine V_execs_nil ?_
      exact fin h₇ _ _ _ _ v₆ F₇ p₇ g1 g2 g3 g4 (if_pos rfl)
end
end Mine

end
section
open PySem PySem.W PyProof.Rows
set_option Elab.async false
set_option linter.unusedVariables false
set_option maxRecDepth 100000
set_option maxHeartbeats 1000000
namespace Mine
theorem reads_strs {h : Heap} : ∀ {vs : List Value} {g : Nat → List Nat}, (∀ (i : Nat) v, vs[i]? = some v → ∃ t, v = .str (T (g i)) t) → ReadsAll h vs ((List.range vs.length).map fun i => PyData.str (T (g i))) []
  | [], _, _ => .nil
  | v :: vs, g, hv => by
    obtain ⟨t, rfl⟩ := hv 0 v rfl
    have r := reads_strs (h := h) (vs := vs) (g := fun i => g (i + 1)) fun i w e => hv (i + 1) w (by simpa using e)
    rw [List.length_cons, List.range_succ_eq_map, List.map_cons, List.map_map]
    exact .cons (.str _ _) r
theorem page_lt (ns : List Int) (i : Nat) : ∀ o ∈ pageL (stg ns i), o < 256 := by
  intro o ho
  unfold pageL at ho
  have hs : ∀ o ∈ stg ns i, o < 256 := dealt_lt (packL_lt ns _) _
  rcases List.mem_append.mp ho with q | q
  · exact hs o (List.mem_of_mem_take q)
  · rcases List.mem_append.mp q with q | q
    · simp at q; omega
    · exact hs o (List.mem_of_mem_drop q)
theorem lay_strs : ∀ {l : List Nat} {g : Nat → List Nat}, (∀ i, ∀ o ∈ g i, o < 256) → PyData.canLayAll0 (l.map fun i => PyData.str (T (g i))) = true ∧ PyData.depthAll (l.map fun i => PyData.str (T (g i))) = 0
  | [], _, _ => ⟨rfl, by simp [PyData.depthAll]⟩
  | i :: l, g, hg => by
    obtain ⟨c, d⟩ := lay_strs (l := l) hg
    have : PyData.strOk (T (g i)) = true := by
      unfold PyData.strOk
      rw [Array.all_eq_true']
      intro x hx
      have := hg i x (by simpa using hx)
      simp; omega
    simp [PyData.canLayAll0, PyData.canLay0, PyData.depthAll, PyData.depth, c, d, this]
section
variable {X : Cx} {A : Around} {hc h : Heap} {tk : Nat} {mg mb : Str → Option Value} {m : Str → Option Value} {cv : Nat → Option Value} {L : Nat} {a : Addr}
theorem law_ret {ns : List Int} {u : Tok} {Pg : Addr} {pvs : List Value} {Q : Flow → Heap → Nat → Prop} (hh : A.handled = none) (hr : A.depth + 1 < recursionLimit) (hu : A.units + 64 < cLine) (P : PF mg mb hc) (F : Fl [] hc L h m cv)
    (hn : cv 1 = some (.int (nOf ns : Nat) u)) (h4 : cv 4 = some (.ref Pg)) (lPg : Ls hc Pg pvs) (hlp : pvs.length = 6) (hpv : ∀ i, i < 6 → ∃ t, pvs[i]? = some (.str (T (pageL (stg ns i))) t))
    (K : ∀ h' tk', Fl [] hc L h' m cv → Q (.ret (.bool true)) h' tk') : V X A (execs (lawB.drop 9) (lawEnv L a)) Q h tk := by
  have hzL := sizeLine_eq
  have hn8 := (nOf_eq ns).2
  refine V_execs_cons ?_
  refine W.v ?_
  refine W_Return ?_
  refine W_Compare1 ?_
  refine W_ListComp2 (cl := [("pages", L + 5), ("n", L + 2)]) rfl ?_
  refine W_ty (P.keeps F.keep) boot_range (by decide) (by decide) rfl rfl ?_
  refine W_items_int ?_
  refine W_items_nil (W_range hh (by decide) (by decide) fun r h₁ t₁ k₁ src => ?_)
  have F₁ := F.keeps k₁
  refine ⟨hc, 2, 6, _, fun _ j v => pvs[j]? = some v, fun i y hx => ∃ t, y = .str (T (pageL (stg ns (i % 6)))) t, ⟨F₁.keep, src _ F₁.keep, by decide, ?_, ?_⟩, ?_⟩
  · rintro C' i v h₂ t₂ m₂ hi ⟨ti, rfl⟩ k₂ fC hn₂ hm₂
    have c4 : h₂.IsCell (L + 1 + 4) (some (.ref Pg)) := by rw [← h4]; exact (F₁.cell 4 c46).keeps k₂
    refine W_cell (c := L + 5) rfl c4 ⟨Keep.refl _, ?_⟩
    have := Src.list (X := X) (A := A) hh lPg (F₁.keep.trans k₂)
    rw [hlp] at this
    exact this
  · rintro C' i j v v1 h₂ t₂ m₂ hi hj ⟨ti, rfl⟩ hv1 k₂ fC hn₂ hm0 hm1
    have F₂ := F₁.keeps k₂
    have c1 : h₂.IsCell (L + 1 + 1) (some (.int (nOf ns : Nat) u)) := by rw [← hn]; exact F₂.cell 1 c16
    obtain ⟨tp, ep⟩ := hpv j hj
    have ev : v1 = .str (T (pageL (stg ns j))) tp := by
      have hv1 : pvs[j]? = some v1 := hv1
      rw [ep] at hv1; cases hv1; rfl
    subst ev
    have hpl : (pageL (stg ns j)).length ≤ 12 := by rw [page_len, stg_len ns hj]; omega
    refine W_fn (P.keeps F₂.keep) (P.keeps F₂.keep).cram rfl fun ac hac => ?_
    refine W_items_cons (W_local hn₂ hm1 (W_items_cons ?_))
    refine W_BinOp (W_BinOp (W_cell (c := L + 2) rfl c1 (W_int (W_add (W_local hn₂ hm0 (W_add (W_items_nil ⟨Keep.refl _, ?_⟩)))))))
    refine W_cram (P.keeps F₂.keep) hac hh (by omega) (by omega) (by omega) (by omega) fun h₃ v₃ t₃ k₃ => ⟨k₃, fun _ _ _ => ⟨v₃, ?_⟩⟩
    have e := cram_all (s := stg ns j) (more := i)
    rw [stg_len ns hj] at e
    rw [e, show (i * 6 + j) % 6 = j by omega]
  · intro D h₂ t₂ ys hly k₂ fD lD hg
    have F₂ := F₁.keeps k₂
    have hys : ∀ (i : Nat) v, ys[i]? = some v → ∃ t, v = .str (T (pageL (stg ns (i % 6)))) t := fun i v e => hg h₂ F₂.keep (Fresh.self _ _) i v e
    have c4 : h₂.IsCell (L + 1 + 4) (some (.ref Pg)) := by rw [← h4]; exact F₂.cell 4 c46
    refine W_BinOp (W_cell (c := L + 5) rfl c4 (W_int ?_))
    refine W_list_mul (k := 2) (lPg.keeps F₂.keep) (by intro e; rw [e] at hlp; simp at hlp) (by rw [hlp]; omega) fun h₃ D₃ k₃ fD₃ lD₃ => ?_
    have F₃ := F₂.keeps k₃
    have hfl : (List.replicate 2 pvs).flatten = pvs ++ pvs := by simp [List.replicate]
    rw [hfl] at lD₃
    have hzs : ∀ (i : Nat) v, (pvs ++ pvs)[i]? = some v → ∃ t, v = .str (T (pageL (stg ns (i % 6)))) t := fun i v e => by
      have hi : i < (pvs ++ pvs).length := by
        apply Nat.lt_of_not_le
        intro c
        rw [List.getElem?_eq_none c] at e; cases e
      rw [List.length_append, hlp] at hi
      by_cases c : i < 6
      · rw [List.getElem?_append_left (by omega)] at e
        obtain ⟨t, q⟩ := hpv i c
        rw [q] at e; cases e
        exact ⟨t, by rw [Nat.mod_eq_of_lt c]⟩
      · rw [List.getElem?_append_right (by omega), hlp] at e
        obtain ⟨t, q⟩ := hpv (i - 6) (by omega)
        rw [q] at e; cases e
        exact ⟨t, by rw [show i % 6 = i - 6 by omega]⟩
    have rl : ∀ {D : Addr} {vs : List Value} {ds : List PyData} {as : List Addr}, Ls h₃ D vs → ReadsAll h₃ vs ds as → Reads h₃ (.ref D) (.list ds) (D :: as) := fun {D vs ds as} x r => by
      obtain ⟨o, ho, hcl, n, hd⟩ := x
      exact reads_list_at ho hcl hd (by simpa using r)
    have r1 := rl (lD.keeps k₃) (reads_strs (h := h₃) hys)
    have r2 := rl lD₃ (reads_strs (h := h₃) hzs)
    rw [hly] at r1
    rw [List.length_append, hlp] at r2
    obtain ⟨lc, ld⟩ := lay_strs (l := List.range 12) (g := fun i => pageL (stg ns (i % 6))) fun i => page_lt ns (i % 6)
    have lay : PyData.canLay0 (.list ((List.range 12).map fun i => PyData.str (T (pageL (stg ns (i % 6)))))) = true := by rw [PyData.canLay0]; exact lc
    have sh : SeqAt.shaped (.list ((List.range 12).map fun i => PyData.str (T (pageL (stg ns (i % 6)))))) = true := by
      unfold SeqAt.shaped
      rw [lay, Bool.true_and, decide_eq_true_eq, PyData.depth, ld]
      omega
    refine W_eq_data r1 r2 sh sh hu ?_
    rw [SeqAt.eqv_refl _ lay]
    exact K h₃ _ F₃

theorem law_f {ns : List Int} {u : Tok} {Pg On : Addr} {pvs ovs : List Value} {Q : Flow → Heap → Nat → Prop} (hh : A.handled = none) (hgd : A.guards = some []) (hr : A.depth + 1 < recursionLimit) (hu : A.units + 64 < cLine) (P : PF mg mb hc) (hbm : hc.BuiltinsAt mg 56) (C : CodeHd hc 58 56) (F : Fl [] hc L h m cv)
    (hn : cv 1 = some (.int (nOf ns : Nat) u)) (h4 : cv 4 = some (.ref Pg)) (lPg : Ls hc Pg pvs) (hlp : pvs.length = 6) (hpv : ∀ i, i < 6 → ∃ t, pvs[i]? = some (.str (T (pageL (stg ns i))) t))
    (hOn : m "onward" = some (.ref On)) (lOn : Ls hc On ovs) (hlo : ovs.length = 6) (hov : ∀ i, i < 6 → ∃ D ws, ovs[i]? = some (.ref D) ∧ Ls hc D ws ∧ Nums ws (nxt ns i))
    (K : ∀ hc' h' tk' m' cv', Keep hc hc' → Fl [] hc' L h' m' cv' → Q (.ret (.bool true)) h' tk') : V X A (execs (lawB.drop 8) (lawEnv L a)) Q h tk := by
  have hzL := sizeLine_eq
  have hn8 := (nOf_eq ns).2
  have c1 : h.IsCell (L + 1 + 1) (some (.int (nOf ns : Nat) u)) := by rw [← hn]; exact F.cell 1 c16
  refine V_execs_cons ?_
  refine V_For ?_
  refine W_ty (P.keeps F.keep) boot_range (by decide) (by decide) rfl rfl ?_
  refine W_items_cons (W_BinOp (W_cell (c := L + 2) rfl c1 (W_int (W_add (W_items_nil ?_)))))
  rw [show ((nOf ns : Nat) : Int) + 1 = ((nOf ns + 1 : Nat) : Int) by omega]
  refine W_range hh (by omega) (by omega) fun r h₁ t₁ k₁ src => ?_
  have F₁ := F.keeps k₁
  refine ⟨hc, _, _, src hc F₁.keep, fun I St h₂ it st k₂ fI => ?_⟩
  have nI := F₁.new fI
  refine ⟨fun i h' => ∃ hc' m' cv' u', Keep hc hc' ∧ Fl [I] hc' L h' m' cv' ∧ cv' 1 = some (.int (nOf ns : Nat) u') ∧ cv' 4 = some (.ref Pg) ∧ m' "onward" = some (.ref On), ?_, ?_, ?_, ?_, ?_⟩
  · rintro i hA hB ⟨hc', m', cv', u', kc, F', a1⟩ ex
    exact ⟨hc', m', cv', u', kc, F'.ext (by simp) ex, a1⟩
  · rintro i hA ⟨hc', m', cv', u', kc, F', _⟩
    exact kc.trans F'.keep
  · exact ⟨hc, m, cv, u, Keep.refl _, (F₁.keeps k₂).add it.out nI, hn, h4, hOn⟩
  · rintro i v h₃ t₃ hi ⟨ti, rfl⟩ ⟨hc', m', cv', u', kc, F₃, b1, b4, bO⟩ ⟨oI, pI⟩
    have hi' : i ≤ nOf ns := by
      have : i < ((nOf ns + 1 : Nat) : Int).toNat := hi
      omega
    have hfar := F₃.far I (by simp)
    refine W_store_cell (c := L + 6) rfl (F₃.cell 5 c56) fun h₄ hn₄ hs₄ => ?_
    have F₄ := F₃.setC (j := 5) c56 hn₄ hs₄
    have p₄ : h₄.get? I = some oI := hs₄.extBut I oI (offC (j := 5) c56 hfar.2) pI
    refine law_d (ns := ns) (count := i) hh hr hu (P.keeps kc) ?_ (C.keeps kc) F₄ p₄ hi' (if_pos rfl) bO (lOn.keeps kc) hlo ?_ ?_
    · obtain ⟨bm, ob, b1, b2, b3, b4, b5, b6, b7, b8⟩ := hbm
      exact ⟨bm, ob, b1, b2, b3, b4, kc _ _ b5, b6, b7, b8⟩
    · intro j hj
      obtain ⟨D, ws, e1, e2, e3⟩ := hov j hj
      exact ⟨D, ws, e1, e2.keeps kc, e3⟩
    · intro hc₅ h₅ t₅ m₅ T' Y N f k₅ F₅ p₅ o₅ pt tT lY lN hcard
      refine law_e (ns := ns) (count := i) (Pg := Pg) (On := On) hh hgd hr ((P.keeps kc).keeps k₅) F₅ p₅ hi' (if_pos rfl) (by rw [if_neg (by decide)]; exact b4) ((lPg.keeps kc).keeps k₅) hpv o₅ pt tT lY lN hcard ?_
      intro h₆ t₆ m₆ F₆ p₆ o₆
      refine ⟨⟨hc₅, m₆, _, u', kc.trans k₅, F₆, by rw [if_neg (by decide)]; exact b1, by rw [if_neg (by decide)]; exact b4, o₆⟩, fun o e => ?_⟩
      rw [pI] at e; cases e
      exact p₆
  · rintro h' tk' ⟨hc', m', cv', u', kc, F', b1, b4, bO⟩
    exact law_ret (ns := ns) (Pg := Pg) hh hr hu (P.keeps kc) F'.drop b1 b4 (lPg.keeps kc) hlp hpv fun h'' tk'' F'' => K hc' h'' tk'' m' cv' kc F''

end
end Mine

end
section
open PySem PySem.W PyProof.Rows
set_option Elab.async false
set_option linter.unusedVariables false
set_option maxRecDepth 100000
set_option maxHeartbeats 400000
namespace Mine
section
variable {X : Cx} {A : Around} {hc h : Heap} {tk : Nat} {mg mb : Str → Option Value} {m : Str → Option Value} {cv : Nat → Option Value} {L : Nat} {a : Addr}
theorem law_all {l : Addr} {vs : List Value} {ns : List Int} {Q : Flow → Heap → Nat → Prop} (hh : A.handled = none) (hgd : A.guards = some []) (hr : A.depth + 1 < recursionLimit) (hu : A.units + 64 < cLine) (P : PF mg mb hc) (hbm : hc.BuiltinsAt mg 56) (C : CodeHd hc 58 56) (F : Fl [] hc L h m cv)
    (hm : m "script" = some (.ref l)) (hl : Ls hc l vs) (hi : IntsAre vs ns) (hz : ns.length ≤ 63)
    (K : ∀ hc' h' tk' m' cv', Keep hc hc' → Fl [] hc' L h' m' cv' → Q (.ret (.bool true)) h' tk') : V X A (execs lawB (lawEnv L a)) Q h tk := by
  refine @law_a X A hc h tk mg mb m cv L a l vs ns Q hh P F hm hl hi hz ?_
  intro hc₁ h₁ t₁ m₁ cv₁ D ws t u k₁ F₁ a1 a2 a3 a4 a5
  refine law_b (X := X) (A := A) (L := L) (a := a) (ns := ns) (Q := Q) hh (P.keeps k₁) F₁ a1 a2 a3 a4 a5 ?_
  intro hc₂ h₂ t₂ m₂ cv₂ B as Hd bs u₂ k₂ F₂ b1 b2 b3 b4 b5 b6 b7
  refine law_c (X := X) (A := A) (L := L) (a := a) (ns := ns) (Q := Q) hh hr ((P.keeps k₁).keeps k₂) F₂ b1 b2 b3 b4 b5 b6 b7 ?_
  intro hc₃ h₃ t₃ m₃ cv₃ Pg pvs On ovs u₃ k₃ F₃ d1 d2 d3 d4 d5 d6 d7 d8 d9
  have kk := (k₁.trans k₂).trans k₃
  have hbm' : hc₃.BuiltinsAt mg 56 := by
    obtain ⟨bm, ob, b1, b2, b3, b4, b5, b6, b7, b8⟩ := hbm
    exact ⟨bm, ob, b1, b2, b3, b4, kk _ _ b5, b6, b7, b8⟩
  refine law_f (X := X) (A := A) (L := L) (a := a) (ns := ns) (Q := Q) hh hgd hr hu (P.keeps kk) hbm' (C.keeps kk) F₃ d1 d2 d3 d4 d5 d6 d7 d8 d9 ?_
  exact fun hc' h' tk' m' cv' k' F' => K hc' h' tk' m' cv' (kk.trans k') F'
end
end Mine

end
section
open PySem PySem.W PyProof.Rows PySem.Calls
set_option Elab.async false
set_option linter.unusedVariables false
set_option maxRecDepth 100000
set_option maxHeartbeats 1000000
namespace Mine
theorem fn_of {p : Program} {loose : List Str} {mean : ExcName → Option Value} {mg mb : Str → Option Value} {h : Heap} (T : Top p loose mean mg mb h) {d : DefRec} (hd : d ∈ recsOf p) :
    ∃ a o doc pm cd ct, mg d.name = some (.ref a) ∧ h.get? a = some o ∧ o.data = .func (fnOf d.name d.name d.params d.body d.scope .none .none doc pm none cd ct) ∧ h.CodeRec cd d.name := by
  obtain ⟨a, o, pm, code, doc, e1, e2, e3, e4⟩ := T.fn d hd
  exact ⟨a, o, doc, pm, code, _, e1, e2, e3, e4⟩
theorem law_top {prog : Program} {w : World} {s₁ : Shared} {mg mb : Str → Option Value} {p : Program} {loose : List Str} {mean : ExcName → Option Value} (T : Top p loose mean mg mb s₁.heap) (hT : TabsAt [(58, 56)] s₁.heap) (P : PF mg mb (ghostOf s₁.heap [(58, 56)]))
    {fa l : Addr} {o : Obj} {pm doc : Value} {vs : List Value} {ns : List Int} {Q : Value → Shared → Prop} {E : Value → Shared → Prop} (ho : s₁.heap.get? fa = some o)
    (hd : o.data = .func (docDef "law" (argsOf (stAt txt 9)) lawB lawSc pm (.ref 58) doc)) (hcd : s₁.heap.CodeRec (.ref 58) "law")
    (hL : s₁.heap.IsList l vs.toArray) (hi : IntsAre vs ns) (hz : ns.length ≤ 63)
    (K : ∀ h' tk', Keep (ghostOf s₁.heap [(58, 56)]) h' → (∃ ps, h'.get? 56 = some (tabObj ps)) → Q (.bool true) (S s₁ h' tk')) :
    wpC (model prog w) callerA (call (.ref fa) [.ref l]) Q E s₁ := by
  have hTab := hT (58, 56) (.head _)
  have h56 : s₁.heap.get? 56 = some (tabObj #[]) := hTab.2
  have hlow : (56 : Nat) < s₁.heap.objs.size := Heap.lt_size h56
  have key : V ⟨prog, w, s₁⟩ callerA (call (.ref fa) [.ref l]) (fun v h' tk' => Q v (S s₁ h' tk')) s₁.heap s₁.toks := by
    refine V_callC (X := ⟨prog, w, s₁⟩) (binds := [("script", .ref l)]) (body := lawB) (by decide) T.nolimit ho hd hcd rfl rfl rfl (fun x hx => ?_) (fun h₀ tk₀ kp hn hcl => ?_)
    · have hx' : x = ((("script" : Str), Value.ref l) : Str × Value) := by simpa using hx
      rw [hx']; exact .inl rfl
    · have kg : Keep (ghostOf s₁.heap [(58, 56)]) (froze h₀ s₁.heap.objs.size []) := fun b o e => by
        have e' := of_hideAll _ e
        have hb := Heap.lt_size e'
        have hb : (b : Nat) < s₁.heap.objs.size := hb
        refine froze_get (kp b o e') (fun q => ?_) (fun q => ?_) (by simp)
        · have : (ghostOf s₁.heap [(58, 56)]).get? b = none := hideAll_none _ (by rw [q]; simp)
          rw [this] at e; cases e
        · exact absurd (Nat.lt_of_le_of_lt q.1 hb) (Nat.lt_irrefl _)
      have hlo : ∀ {b : Addr} {o : Obj}, (b : Nat) ≠ 56 → s₁.heap.get? b = some o → (froze h₀ s₁.heap.objs.size []).get? b = some o := fun {b o} n e => kg b o (ghost_ne e (by simpa using n))
      have hc58 := (ghost_code hT).1
      obtain ⟨bm, ob, b1, b2, b3, b4, b5, b6⟩ := T.bmain
      have hbP : bm ≠ 56 := fun q => by rw [q, h56] at b3; cases b3; cases b4
      have hbG : bm ≠ mainGlobals := fun q => by
        obtain ⟨o, es, ep, e, hd, _⟩ := T.g
        rw [q, e] at b3; cases b3; rw [hd] at b6; cases b6
      obtain ⟨ol, eol, rol⟩ := id hL
      have hl56 : (l : Nat) ≠ 56 := fun q => by
        rw [q, h56] at eol; cases eol
        cases rol.1
      obtain ⟨m₀, hn, hm0⟩ : ∃ m₀ : Str → Option Value, h₀.Ns s₁.heap.objs.size m₀ ∧ m₀ "script" = some (.ref l) := ⟨_, hn, rfl⟩
      have F : Fl [] (froze h₀ s₁.heap.objs.size []) s₁.heap.objs.size h₀ m₀ (fun _ => none) := by
        refine ⟨hn, fun i hi => ?_, froze_keep, hlow, fun b hb => froze_out hb, by simp, ⟨#[], kp _ _ h56, trivial, .inl rfl⟩⟩
        match i, hi with
        | 0, _ => exact hcl "numbers" _ rfl
        | 1, _ => exact hcl "n" _ rfl
        | 2, _ => exact hcl "packs" _ rfl
        | 3, _ => exact hcl "ahead" _ rfl
        | 4, _ => exact hcl "pages" _ rfl
        | 5, _ => exact hcl "count" _ rfl
      refine @law_all ⟨prog, w, s₁⟩ _ (froze h₀ s₁.heap.objs.size []) h₀ tk₀ mg mb m₀ (fun _ => none) s₁.heap.objs.size fa l vs ns _ rfl rfl (show callerA.depth + 1 + 1 < recursionLimit by decide) (by units_room) (P.keeps kg) ⟨bm, ob, b1, b2, hbG, hbP, hlo hbP b3, b4, b5, b6⟩ (hc58.keeps kg) F hm0 ⟨ol, hlo hl56 eol, rol⟩ hi hz ?_
      intro hc' h' tk' m' cv' k' F'
      obtain ⟨ps, e, _⟩ := F'.tab
      exact K h' tk' ((kg.trans k').trans F'.keep) ⟨ps, e⟩
  exact V.run key fun v h' tk' q => q
end Mine

end
section
open PySem PySem.W PyProof.Rows PySem.Calls
set_option Elab.async false
set_option linter.unusedVariables false
set_option maxRecDepth 100000
set_option maxHeartbeats 8000000
namespace Mine
theorem fn_at {p : Program} {loose : List Str} {mean : ExcName → Option Value} {mg mb : Str → Option Value} {h : Heap} (T : Top p loose mean mg mb h) (i : Nat) {x : Str} {st : Stmt}
    (e : ((recsOf p)[i]?.map fun d => (d.name, d.params, d.body, d.scope)) = some (x, argsOf st, bodyOf st, scopeOf st)) : FnAt mg h x st := by
  obtain ⟨d, e1, e2⟩ := Option.map_eq_some_iff.mp e
  obtain ⟨a, o, doc, pm, cd, ct, f1, f2, f3, f4⟩ := fn_of T (List.mem_of_getElem? e1)
  obtain ⟨n, ps, b, sc, po⟩ := d
  simp only [Prod.mk.injEq] at e2
  obtain ⟨rfl, rfl, rfl, rfl⟩ := e2
  exact ⟨a, o, doc, pm, cd, ct, f1, f2, f3, f4⟩
theorem fn_ghost {mg : Str → Option Value} {h : Heap} {x : Str} {st : Stmt} (hT : TabsAt [(58, 56)] h) (f : FnAt mg h x st) : FnAt mg (ghostOf h [(58, 56)]) x st := by
  obtain ⟨a, o, doc, pm, cd, ct, f1, f2, f3, ⟨c, oc, vs, t, e1, e2, e3, e4⟩⟩ := f
  refine ⟨a, o, doc, pm, cd, ct, f1, ghost_get hT f2 (fun q => ?_), f3, ⟨c, oc, vs, t, e1, ghost_get hT e2 (fun q => ?_), e3, e4⟩⟩
  · rw [q] at f3; cases f3
  · rw [q] at e3; cases e3; simp at e4
theorem law_at {p : Program} {loose : List Str} {mean : ExcName → Option Value} {mg mb : Str → Option Value} {h : Heap} (T : Top p loose mean mg mb h) (i : Nat)
    (e : ((recsOf p)[i]?.map fun d => (d.name, d.params, d.body, d.scope)) = some (("law" : Str), argsOf (stAt txt 9), lawB, lawSc))
    {fa : Addr} {o : Obj} {fd : FuncData} (hmg : mg "law" = some (.ref fa)) (ho : h.get? fa = some o) (hd : o.data = .func fd) (hcode : fd.code = .ref 58) :
    ∃ pm doc, o.data = .func (docDef "law" (argsOf (stAt txt 9)) lawB lawSc pm (.ref 58) doc) ∧ h.CodeRec (.ref 58) "law" := by
  obtain ⟨d, e1, e2⟩ := Option.map_eq_some_iff.mp e
  obtain ⟨a, o', pm, code, doc, f1, f2, f3, f4⟩ := T.fn d (List.mem_of_getElem? e1)
  obtain ⟨n, ps, b, sc, po⟩ := d
  simp only [Prod.mk.injEq] at e2
  obtain ⟨rfl, rfl, rfl, rfl⟩ := e2
  have g1 : mg "law" = some (.ref a) := f1
  rw [hmg] at g1
  cases g1
  rw [ho] at f2
  cases f2
  have g3 : o.data = .func (docDef "law" (argsOf (stAt txt 9)) lawB lawSc pm code doc) := f3
  have g4 : code = .ref 58 := by
    rw [hd] at g3
    injection g3 with q
    rw [q] at hcode
    exact hcode
  subst g4
  exact ⟨pm, doc, g3, f4⟩
theorem good_of {s₁ : Shared} {h' : Heap} (hT : TabsAt [(58, 56)] s₁.heap) (hk : Keep (ghostOf s₁.heap [(58, 56)]) h') (hp : ∃ ps, h'.get? 56 = some (tabObj ps)) : OldK s₁.heap h' := by
  have keep : ∀ b o, b ∉ [(58, 56)].map (·.2) → s₁.heap.get? b = some o → h'.get? b = some o := fun b o hb e => hk b o (ghost_ne e hb)
  have grown : ∀ b o, b ∈ [(58, 56)].map (·.2) → s₁.heap.get? b = some o → isCodeTable s₁.heap b ∧ o = tabObj #[] ∧ ∃ ps, h'.get? b = some (tabObj ps) := fun b o hb e => by
    have hb' : b = 56 := by simpa using hb
    subst hb'
    have e2 := (hT (58, 56) (.head _)).2
    have e2' : s₁.heap.get? 56 = some (tabObj #[]) := e2
    rw [e] at e2'
    exact ⟨((hT (58, 56) (.head _)).1.tab (hT (58, 56) (.head _)).2).isCodeTable, Option.some.inj e2', hp⟩
  refine ⟨fun b o e => ?_, fun b o e => ?_⟩
  · by_cases hb : b ∈ [(58, 56)].map (·.2)
    · obtain ⟨ht, rfl, ps, hP⟩ := grown b o hb e
      exact .inr (.inl ⟨ht, rfl, #[], ps, rfl, by rw [Array.empty_append]; exact hP⟩)
    · exact .inl (keep b o hb e)
  · by_cases hb : b ∈ [(58, 56)].map (·.2)
    · obtain ⟨_, _, ps, hP⟩ := grown b o hb e
      exact ⟨_, hP⟩
    · exact ⟨o, keep b o hb e⟩
end Mine
namespace Own
open Mine
theorem law_holds : Challenge.rw_pk0015_01.Holds := by
  w_on; o_law; k_head; (case hw => w_witness2)
  k_fill
  intro w s₀ s₁ mg mb G Y fa o pm cd doc dV kV ho hd hcd hD hmg hg args vals as hpre hlay hrd hwl hlo
  have KX := km_in_of Y
  km_tabs Y
  refine Ground.open G ?_
  intro T B D TE TW
  km_lay T hmg ho hd cd
  wrow_args hpre hlay hrd hwl hlo
  have T' := ghost_top hT9 T
  have P : PF mg mb (ghostOf s₁.heap [(58, 56)]) := by
    refine ⟨T'.g, T'.b, T'.nolimit, ?_, T'.builtins, ?_, ?_, ?_, ?_, ?_, ?_⟩
    · intro x hx
      have h1 : x ∉ startupNames := by revert x; decide +kernel
      refine T'.free x h1 ?_ ?_ ?_ ?_ <;> (revert x; decide +kernel)
    · exact fn_ghost hT9 (fn_at T 0 (by kernel_rfl))
    · exact fn_ghost hT9 (fn_at T 1 (by kernel_rfl))
    · exact fn_ghost hT9 (fn_at T 2 (by kernel_rfl))
    · exact fn_ghost hT9 (fn_at T 3 (by kernel_rfl))
    · exact fn_ghost hT9 (fn_at T 4 (by kernel_rfl))
    · exact fn_ghost hT9 (fn_at T 5 (by kernel_rfl))
  obtain ⟨pm', doc', hd', hcd'⟩ := law_at T 6 (by kernel_rfl) hmg ho hd rfl
  refine law_top T hT9 P ho hd' hcd' (by assumption) (by assumption) (by omega) ?_
  intro h' tk' hk hp
  refine ⟨.inl ⟨.bool true, .bool true, [], rfl, fun _ => rfl, .bool _, (by first | wrow_post | decide | simp), fun _ => ⟨List.nodup_nil, by simp⟩⟩, good_of hT9 hk hp, rfl, ?_⟩
  exact .of_eq hg
end Own

end
theorem PySem.Challenge.cw_pk0015_01_holds : PySem.Challenge.rw_pk0015_01.Holds := by
  exact Own.law_holds
