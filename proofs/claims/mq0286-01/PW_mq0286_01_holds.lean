import PyProof.Rows.All
import Wide.All
import OpenK.AllK
import Wide.FinOn
import PySem.Challenge.RW_mq0286_01
open PySem PySem.W PyProof.Rows PySem.Calls
set_option Elab.async false
set_option maxRecDepth 100000
set_option linter.unusedVariables false
set_option linter.unusedSimpArgs false
namespace Mine
/-- the shared state with another heap and another count of tokens -/
abbrev Sh (s₀ : Shared) (h : Heap) (tk : Nat) : Shared := { s₀ with heap := h, toks := tk }

/-- the tree ends, raises nothing, changes the heap alone, and what it gives and leaves meets Q -/
noncomputable def Ev (prog : Program) (w : World) (A : Around) (s₀ : Shared) {α : Type} (t : Sem α) (h : Heap) (Q : α → Heap → Prop) : Prop :=
  ∀ tk, wpAny (model prog w) A t (fun a s' => ∃ h' tk', s' = Sh s₀ h' tk' ∧ Q a h') (fun _ _ => False) (Sh s₀ h tk)

/-- behind a statement: on with the rest, or out -/
noncomputable def Nx (k : Heap → Prop) (Q : Flow → Heap → Prop) : Flow → Heap → Prop
  | .next, h => k h
  | f, h => Q f h
theorem nx_next {k Q} {h : Heap} (x : k h) : Nx k Q .next h := x
theorem nx_ret {k} {Q : Flow → Heap → Prop} {h : Heap} {v} (x : Q (.ret v) h) : Nx k Q (.ret v) h := x
theorem nx_brk {k} {Q : Flow → Heap → Prop} {h : Heap} (x : Q .brk h) : Nx k Q .brk h := x
theorem nx_cont {k} {Q : Flow → Heap → Prop} {h : Heap} (x : Q .cont h) : Nx k Q .cont h := x
/-- behind a turn of a loop: I again, or out -/
noncomputable def Lp (I : Heap → Prop) (Q : Flow → Heap → Prop) : Flow → Heap → Prop
  | .ret v, h => Q (.ret v) h
  | .brk, h => Q .next h
  | _, h => I h
theorem lp_next {I Q} {h : Heap} (x : I h) : Lp I Q .next h := x
theorem lp_cont {I Q} {h : Heap} (x : I h) : Lp I Q .cont h := x
theorem lp_brk {I} {Q : Flow → Heap → Prop} {h : Heap} (x : Q .next h) : Lp I Q .brk h := x
theorem lp_ret {I} {Q : Flow → Heap → Prop} {h : Heap} {v} (x : Q (.ret v) h) : Lp I Q (.ret v) h := x
/-- what a def hands back -/
noncomputable def Rt (Q : Value → Heap → Prop) : Flow → Heap → Prop
  | .ret v, h => Q v h
  | _, h => Q .none h
theorem rt_ret {Q : Value → Heap → Prop} {h v} (x : Q v h) : Rt Q (.ret v) h := x
theorem rt_next {Q : Value → Heap → Prop} {h} (x : Q .none h) : Rt Q .next h := x
theorem ite_dec {c : Prop} [Decidable c] {P P' : Prop} (x : c → P) (y : ¬ c → P') : if decide c = true then P else P' := by
  by_cases hc : c
  · rw [if_pos (decide_eq_true hc)]; exact x hc
  · rw [if_neg (fun e => hc (of_decide_eq_true e))]; exact y hc
theorem ite_bool {c : Bool} {P P' : Prop} (x : c = true → P) (y : c = false → P') : if c = true then P else P' := by
  cases c
  · exact y rfl
  · exact x rfl

theorem ite_id {c : Prop} [Decidable c] {P P' : Prop} (x : if c then P else P') : if c then P else P' := x
section
variable {prog : Program} {w : World} {A : Around} {s₀ : Shared} {α β : Type} {h : Heap} {env : Env}

theorem Ev.mono {t : Sem α} {Q Q' : α → Heap → Prop} (H : Ev prog w A s₀ t h Q) (hq : ∀ a h', Q a h' → Q' a h') : Ev prog w A s₀ t h Q' :=
  fun tk => wpAny_mono (H tk) (fun _ _ ⟨h', tk', e, q⟩ => ⟨h', tk', e, hq _ _ q⟩) fun _ _ x => x

/-- from Ev to a wpAny with any posts -/
theorem Ev.use {t : Sem α} {Q : α → Heap → Prop} {R : α → Shared → Prop} {E : Value → Shared → Prop} {tk : Nat} (H : Ev prog w A s₀ t h Q) (hr : ∀ a h' tk', Q a h' → R a (Sh s₀ h' tk')) :
    wpAny (model prog w) A t R E (Sh s₀ h tk) :=
  wpAny_mono (H tk) (fun _ _ ⟨_, _, e, q⟩ => e ▸ hr _ _ _ q) fun _ _ x => x.elim

theorem ev_bind {t : Sem α} {f : α → Sem β} {Q : β → Heap → Prop} (H : Ev prog w A s₀ t h (fun a h₁ => Ev prog w A s₀ (f a) h₁ Q)) : Ev prog w A s₀ (t >>= f) h Q :=
  fun _ => wpAny_bind (H.use fun _ _ tk' q => q tk')
theorem ev_pure {a : α} {Q : α → Heap → Prop} (q : Q a h) : Ev prog w A s₀ (pure a) h Q := fun tk => wpAny_pure ⟨h, tk, rfl, q⟩
theorem ev_eq {t t' : Sem α} {Q : α → Heap → Prop} (e : t = t') (H : Ev prog w A s₀ t' h Q) : Ev prog w A s₀ t h Q := e ▸ H

-- statements
theorem ev_nil {Q : Flow → Heap → Prop} (q : Q .next h) : Ev prog w A s₀ (execs [] env) h Q := fun tk => wpAny_execs_nil ⟨h, tk, rfl, q⟩
theorem ev_cons {st rest} {Q : Flow → Heap → Prop} (H : Ev prog w A s₀ (exec st env) h (Nx (fun h' => Ev prog w A s₀ (execs rest env) h' Q) Q)) :
    Ev prog w A s₀ (execs (st :: rest) env) h Q := fun _ => wpAny_execs_cons (H.use fun f h' tk' q => by
  cases f <;> first | exact q tk' | exact ⟨h', tk', rfl, q⟩)
/-- the same, the posts named -/
theorem ev_consL {st rest} {Q : Flow → Heap → Prop} (H : let Q1 := Q; let P := Nx (fun h' => Ev prog w A s₀ (execs rest env) h' Q1) Q1; Ev prog w A s₀ (exec st env) h P) :
    Ev prog w A s₀ (execs (st :: rest) env) h Q := ev_cons H
theorem and_id {a b : Prop} (x : a ∧ b) : a ∧ b := x
theorem ex_id {γ : Sort _} {p : γ → Prop} (x : ∃ y, p y) : ∃ y, p y := x
theorem ev_id {t : Sem α} {Q : α → Heap → Prop} (H : Ev prog w A s₀ t h Q) : Ev prog w A s₀ t h Q := H
/-- the post named -/
theorem ev_letQ {t : Sem α} {Q : α → Heap → Prop} (H : let P := Q; Ev prog w A s₀ t h P) : Ev prog w A s₀ t h Q := H
theorem ev_if {test body orelse pos} {Q : Flow → Heap → Prop}
    (H : Ev prog w A s₀ (isTrue test env (eval test env)) h (fun b h₂ => if b = true then Ev prog w A s₀ (execs body env) h₂ Q else Ev prog w A s₀ (execs orelse env) h₂ Q)) :
    Ev prog w A s₀ (exec (.If test body orelse pos) env) h Q := fun _ => wpAny_If (H.use fun b _ tk' q => by
  cases b
  · exact q tk'
  · exact q tk')
theorem ev_return {e pos} {Q : Flow → Heap → Prop} (H : Ev prog w A s₀ (eval e env) h (fun v h' => Q (.ret v) h')) : Ev prog w A s₀ (exec (.Return (some e) pos) env) h Q :=
  fun tk => wpAny_Return_some (H tk)
theorem ev_break {pos} {Q : Flow → Heap → Prop} (q : Q .brk h) : Ev prog w A s₀ (exec (.Break pos) env) h Q := fun tk => wpAny_Break ⟨h, tk, rfl, q⟩
theorem ev_continue {pos} {Q : Flow → Heap → Prop} (q : Q .cont h) : Ev prog w A s₀ (exec (.Continue pos) env) h Q := fun tk => wpAny_Continue ⟨h, tk, rfl, q⟩
theorem ev_assign {x pos' value pos} {Q : Flow → Heap → Prop} (H : Ev prog w A s₀ (eval value env) h (fun v h₁ => Ev prog w A s₀ (storeName env x v) h₁ (fun _ h₂ => Q .next h₂)))
    (hs : swapsWith value (some (.Name x pos')) pos.line env = pure false := by rfl) : Ev prog w A s₀ (exec (.Assign [.Name x pos'] value pos) env) h Q :=
  fun _ => wpAny_Assign_Name (H.use fun _ _ tk' q => q tk') hs
theorem ev_assign_item {o i pos' value pos} {Q : Flow → Heap → Prop}
    (H : Ev prog w A s₀ (eval value env) h (fun v h₁ => Ev prog w A s₀ (eval o env) h₁ (fun ov h₂ => Ev prog w A s₀ (eval i env) h₂ (fun iv h₃ => Ev prog w A s₀ (setItem ov iv v) h₃ (fun _ h₄ => Q .next h₄)))))
    (hs : swapsWith value (some (.Subscript o i pos')) pos.line env = pure false := by rfl) : Ev prog w A s₀ (exec (.Assign [.Subscript o i pos'] value pos) env) h Q :=
  fun _ => wpAny_Assign_Subscript (H.use fun _ _ _ q => Ev.use q fun _ _ _ q => Ev.use q fun _ _ tk' q => q tk') hs
theorem ev_expr {e pos} {Q : Flow → Heap → Prop} (H : Ev prog w A s₀ (eval e env) h (fun v h' => v = .none ∧ Q .next h'))
    (hi : interactive env = false := by rfl) (hs : swapsWith e none pos.line env = pure false := by rfl) : Ev prog w A s₀ (exec (.Expr e pos) env) h Q :=
  fun _ => wpAny_Expr (H.use fun v h' tk' q => by obtain ⟨rfl, q⟩ := q; exact ⟨h', tk', rfl, q⟩) hi hs

theorem ev_while {test body pos} {Q : Flow → Heap → Prop} (I : Nat → Heap → Prop)
    (turn : ∀ n h, I n h → Ev prog w A s₀ (isTrue test env (eval test env)) h (fun b h₂ =>
      if b = true then Ev prog w A s₀ (execs body env) h₂ (Lp (fun h₃ => ∃ m, m < n ∧ I m h₃) Q)
      else Q .next h₂)) (n : Nat) (hI : I n h) : Ev prog w A s₀ (exec (.While test body [] pos) env) h Q := by
  intro tk
  refine wpAny_While (codeAny_whileLoop (fun n s => ∃ h tk, s = Sh s₀ h tk ∧ I n h) ?_ n ⟨h, tk, rfl, hI⟩)
  rintro n s ⟨h, tk, rfl, hI⟩
  refine (turn n h hI).use fun b h₂ tk₂ q => ?_
  cases b with
  | false =>
    simp only [Bool.false_eq_true, if_false] at q ⊢
    exact wpAny_execs_nil ⟨h₂, tk₂, rfl, q⟩
  | true =>
    simp only [if_true] at q ⊢
    refine Ev.use q fun f h₃ tk₃ q => ?_
    cases f with
    | next => obtain ⟨m, hm, hI⟩ := q; exact ⟨m, hm, h₃, tk₃, rfl, hI⟩
    | cont => obtain ⟨m, hm, hI⟩ := q; exact ⟨m, hm, h₃, tk₃, rfl, hI⟩
    | brk => exact ⟨h₃, tk₃, rfl, q⟩
    | ret v => exact ⟨h₃, tk₃, rfl, q⟩

-- expressions
section
variable {Q : Value → Heap → Prop}
theorem ev_int {i k pos} (q : ∀ t, Q (.int i t) h) : Ev prog w A s₀ (eval (.Constant (.int i) k pos) env) h Q := fun tk => wpAny_Constant_int ⟨_, _, rfl, q _⟩
theorem ev_bool {c k pos} (q : Q (.bool c) h) : Ev prog w A s₀ (eval (.Constant (.bool c) k pos) env) h Q := fun tk => Constant_bool ⟨_, _, rfl, q⟩
theorem ev_binop {l op r pos} (H : Ev prog w A s₀ (eval l env) h (fun a h₁ => Ev prog w A s₀ (eval r env) h₁ (fun b h₂ => Ev prog w A s₀ (binaryOp op a b) h₂ Q))) :
    Ev prog w A s₀ (eval (.BinOp l op r pos) env) h Q := fun _ => wpAny_BinOp (H.use fun _ _ _ q => Ev.use q fun _ _ tk' q => q tk')
theorem ev_unop {op x pos} (H : Ev prog w A s₀ (eval x env) h (fun a h₁ => Ev prog w A s₀ (unaryOp op a) h₁ Q)) :
    Ev prog w A s₀ (eval (.UnaryOp op x pos) env) h Q := fun _ => UnaryOp_ (H.use fun _ _ tk' q => q tk')
theorem ev_cmp {l op r pos} (H : Ev prog w A s₀ (eval l env) h (fun a h₁ => Ev prog w A s₀ (eval r env) h₁ (fun b h₂ => Ev prog w A s₀ (compareOp op a b) h₂ Q)))
    (hm : behindInMarks op r = false := by with_unfolding_all rfl) :
    Ev prog w A s₀ (eval (.Compare l [op] [r] pos) env) h Q := fun _ => wpAny_Compare1 (H.use fun _ _ _ q => Ev.use q fun _ _ tk' q => q tk') hm
theorem ev_ifexp {test body orelse pos} (H : Ev prog w A s₀ (isTrue test env (eval test env)) h (fun b h₂ => if b = true then Ev prog w A s₀ (eval body env) h₂ Q else Ev prog w A s₀ (eval orelse env) h₂ Q)) :
    Ev prog w A s₀ (eval (.IfExp test body orelse pos) env) h Q := fun _ => IfExp_ (H.use fun b _ tk' q => by
  cases b
  · exact q tk'
  · exact q tk')
theorem ev_item {value slice pos} (H : Ev prog w A s₀ (eval value env) h (fun o h₁ => Ev prog w A s₀ (eval slice env) h₁ (fun i h₂ => Ev prog w A s₀ (subscriptTail value slice o i) h₂ Q))) :
    Ev prog w A s₀ (eval (.Subscript value slice pos) env) h Q := fun _ => Subscript_ (H.use fun _ _ _ q => Ev.use q fun _ _ tk' q => q tk')
theorem ev_attr {value attr pos} (H : Ev prog w A s₀ (eval value env) h (fun o h₁ => Ev prog w A s₀ (getAttr o attr true) h₁ Q))
    (he : eval (.Attribute value attr pos) env = (do
      let o ← eval value env
      standAt pos.atName
      let r ← holding [o] (getAttr o attr true)
      letTemporaryGo value o r
      pure r) := by rfl) : Ev prog w A s₀ (eval (.Attribute value attr pos) env) h Q := fun _ => Attribute_any_ (H.use fun _ _ tk' q => q tk') he
theorem ev_args_nil {pos} {Q : List Value → Heap → Prop} (q : Q [] h) : Ev prog w A s₀ (spliced (backTo pos (starEach [] env))) h Q := fun tk => args_nil ⟨_, _, rfl, q⟩
theorem ev_args_cons {e rest pos} {Q : List Value → Heap → Prop} (H : Ev prog w A s₀ (eval e env) h (fun v h₁ => Ev prog w A s₀ (spliced (backTo pos (starEach rest env))) h₁ (fun vs h₂ => Q (v :: vs) h₂)))
    (he : starEach (e :: rest) env = (false, eval e env) :: starEach rest env := by rfl) : Ev prog w A s₀ (spliced (backTo pos (starEach (e :: rest) env))) h Q :=
  fun _ => args_cons (H.use fun _ _ tk' q => q tk') he
theorem ev_tuple {elts k pos} (H : Ev prog w A s₀ (spliced (backTo pos (starEach elts env))) h (fun vs h₁ => Ev prog w A s₀ (newTuple vs) h₁ Q)) : Ev prog w A s₀ (eval (.Tuple elts k pos) env) h Q :=
  fun _ => Tuple_ (H.use fun _ _ tk' q => q tk')
theorem ev_list {elts pos} (H : Ev prog w A s₀ (spliced (backTo pos (starEach elts env))) h (fun vs h₁ => Ev prog w A s₀ (newList vs) h₁ Q)) : Ev prog w A s₀ (eval (.List elts pos) env) h Q :=
  fun _ => List_ (H.use fun _ _ tk' q => q tk')
end
-- tests
section
variable {Q : Bool → Heap → Prop}
theorem ev_t_cmp {l op r pos whole} (H : Ev prog w A s₀ (eval l env) h (fun a h₁ => Ev prog w A s₀ (eval r env) h₁ (fun b h₂ => Ev prog w A s₀ (compareOp op a b) h₂ (fun c h₃ => Ev prog w A s₀ (truthy c) h₃ Q))))
    (hm : behindInMarks op r = false := by with_unfolding_all rfl) : Ev prog w A s₀ (isTrue (.Compare l [op] [r] pos) env whole) h Q :=
  fun _ => wpAny_isTrue_Compare1 (H.use fun _ _ _ q => Ev.use q fun _ _ _ q => Ev.use q fun _ _ tk' q => q tk') hm
theorem ev_t_not {x pos whole} (H : Ev prog w A s₀ (isTrue x env (eval x env)) h (fun c h' => Q (!c) h')) : Ev prog w A s₀ (isTrue (.UnaryOp .Not x pos) env whole) h Q := fun tk => isTrue_not (H tk)
theorem ev_t_and_nil {pos whole} (q : Q true h) : Ev prog w A s₀ (isTrue (.BoolOp .And [] pos) env whole) h Q := fun tk => isTrue_and_nil ⟨_, _, rfl, q⟩
theorem ev_t_and {x rest pos whole} (H : Ev prog w A s₀ (isTrue x env (eval x env)) h (fun c h' => if c = true then Ev prog w A s₀ (isTrue (.BoolOp .And rest pos) env whole) h' Q else Q false h')) :
    Ev prog w A s₀ (isTrue (.BoolOp .And (x :: rest) pos) env whole) h Q := fun _ => isTrue_and (H.use fun c _ tk' q => by
  cases c
  · exact ⟨_, _, rfl, q⟩
  · exact q tk')
theorem ev_t_or_nil {pos whole} (q : Q false h) : Ev prog w A s₀ (isTrue (.BoolOp .Or [] pos) env whole) h Q := fun tk => isTrue_or_nil ⟨_, _, rfl, q⟩
theorem ev_t_or {x rest pos whole} (H : Ev prog w A s₀ (isTrue x env (eval x env)) h (fun c h' => if c = true then Q true h' else Ev prog w A s₀ (isTrue (.BoolOp .Or rest pos) env whole) h' Q)) :
    Ev prog w A s₀ (isTrue (.BoolOp .Or (x :: rest) pos) env whole) h Q := fun _ => isTrue_or (H.use fun c _ tk' q => by
  cases c
  · exact q tk'
  · exact ⟨_, _, rfl, q⟩)
theorem ev_t_plain {e : Expr} {whole : Sem Value} (H : Ev prog w A s₀ whole h (fun v h₁ => Ev prog w A s₀ (truthy v) h₁ Q))
    (he : isTrue e env whole = (do let v ← whole; standAt e.pos; holding [v] (truthy v)) := by rfl) : Ev prog w A s₀ (isTrue e env whole) h Q := fun _ => isTrue_plain (H.use fun _ _ tk' q => q tk') he
theorem ev_truthy_bool {b : Bool} (q : Q b h) : Ev prog w A s₀ (truthy (.bool b)) h Q := fun _ => wpAny_truthy_bool ⟨_, _, rfl, q⟩
end
theorem ev_and_one {e pos} {Q : Value → Heap → Prop} (H : Ev prog w A s₀ (eval e env) h Q) : Ev prog w A s₀ (eval (.BoolOp .And [e] pos) env) h Q := fun tk => BoolOp_one (H tk)
theorem ev_and {e₁ e₂ rest pos} {Q : Value → Heap → Prop} (H : Ev prog w A s₀ (eval e₁ env) h (fun v h₁ => Ev prog w A s₀ (truthy v) h₁ (fun c h₂ => if c = true then Ev prog w A s₀ (eval (.BoolOp .And (e₂ :: rest) pos) env) h₂ Q else Q v h₂))) :
    Ev prog w A s₀ (eval (.BoolOp .And (e₁ :: e₂ :: rest) pos) env) h Q := fun _ => BoolOp_and (H.use fun _ _ _ q => Ev.use q fun c _ tk' q => by
  cases c
  · exact ⟨_, _, rfl, q⟩
  · exact q tk')

-- ints
section
variable {Q : Value → Heap → Prop} {a b : Int} {t u : Tok}
theorem ev_add (q : ∀ t, Q (.int (a + b) t) h) : Ev prog w A s₀ (binaryOp .Add (.int a t) (.int b u)) h Q := fun tk => P.add_int ⟨_, _, rfl, q _⟩
theorem ev_sub (q : ∀ t, Q (.int (a - b) t) h) : Ev prog w A s₀ (binaryOp .Sub (.int a t) (.int b u)) h Q := fun tk => P.sub_int ⟨_, _, rfl, q _⟩
theorem ev_mul (hm : IntMulOk a b) (q : ∀ t, Q (.int (a * b) t) h) : Ev prog w A s₀ (binaryOp .Mult (.int a t) (.int b u)) h Q := fun tk => P.mul_int ⟨_, _, rfl, q _⟩ hm
theorem ev_neg (q : ∀ t, Q (.int (-a) t) h) : Ev prog w A s₀ (unaryOp .USub (.int a t)) h Q := fun tk => P.neg_int ⟨_, _, rfl, q _⟩
theorem ev_eq_int (q : Q (.bool (a == b)) h) : Ev prog w A s₀ (compareOp .Eq (.int a t) (.int b u)) h Q := fun tk => P.eq_int ⟨_, _, rfl, q⟩
theorem ev_ne_int (q : Q (.bool (a != b)) h) : Ev prog w A s₀ (compareOp .NotEq (.int a t) (.int b u)) h Q := fun tk => P.ne_int ⟨_, _, rfl, q⟩
theorem ev_lt_int (q : Q (.bool (decide (a < b))) h) : Ev prog w A s₀ (compareOp .Lt (.int a t) (.int b u)) h Q := fun tk => P.lt_int ⟨_, _, rfl, q⟩
theorem ev_le_int (q : Q (.bool (decide (a ≤ b))) h) : Ev prog w A s₀ (compareOp .LtE (.int a t) (.int b u)) h Q := fun tk => P.le_int ⟨_, _, rfl, q⟩
theorem ev_gt_int (q : Q (.bool (decide (a > b))) h) : Ev prog w A s₀ (compareOp .Gt (.int a t) (.int b u)) h Q := fun tk => P.gt_int ⟨_, _, rfl, q⟩
theorem ev_ge_int (q : Q (.bool (decide (a ≥ b))) h) : Ev prog w A s₀ (compareOp .GtE (.int a t) (.int b u)) h Q := fun tk => P.ge_int ⟨_, _, rfl, q⟩
theorem ev_half {b : Int} {u : Tok} (hb : b = 1) (q : ∀ t, Q (.int (a / 2) t) h) : Ev prog w A s₀ (binaryOp .RShift (.int a t) (.int b u)) h Q := fun tk => rshift_int (by (first | lia | omega)) ⟨_, _, rfl, by
  have e : a.fdiv (2 ^ b.toNat) = a / 2 := by subst hb; exact Int.fdiv_eq_ediv_of_nonneg a (by decide)
  rw [e]; exact q _⟩
theorem ev_fdiv (hb : 0 < b) (hs : b < 1073741824) (q : ∀ t, Q (.int (a / b) t) h) : Ev prog w A s₀ (binaryOp .FloorDiv (.int a t) (.int b u)) h Q := fun tk => floordiv_int (by (first | lia | omega)) ⟨_, _, rfl, by
  rw [Int.fdiv_eq_ediv_of_nonneg a (by (first | lia | omega))]; exact q _⟩ (.inl (PyProof.noPylong_small (by (first | lia | omega))))
theorem ev_fmod (hb : 0 < b) (q : ∀ t, Q (.int (a % b) t) h) : Ev prog w A s₀ (binaryOp .Mod (.int a t) (.int b u)) h Q := fun tk => mod_int' (by (first | lia | omega)) ⟨_, _, rfl, by
  rw [Int.fmod_eq_emod_of_nonneg a (by (first | lia | omega))]; exact q _⟩
theorem bits_small {a : Int} (h : a.natAbs < 2 ^ 60) : Builtin.Int.intBits a ≤ 64 := by
  unfold Builtin.Int.intBits
  split
  · (first | lia | omega)
  · rename_i hz
    have := (Nat.log2_lt (n := a.natAbs) (k := 60) (by intro e; apply hz; simp; (first | lia | omega))).mpr h
    (first | lia | omega)
theorem mulOk_l {a b : Int} (h : a.natAbs < 2 ^ 60) : IntMulOk a b := .of_left (bits_small h)
theorem mulOk_r {a b : Int} (h : b.natAbs < 2 ^ 60) : IntMulOk a b := .of_right (bits_small h)
end
end

abbrev Kp (g h : Heap) : Prop := ∀ b o, g.get? b = some o → h.get? b = some o
theorem Kp.trans {a b c : Heap} (x : Kp a b) (y : Kp b c) : Kp a c := fun d o e => y d o (x d o e)
theorem Kp.refl {a : Heap} : Kp a a := fun _ _ e => e

/-- data read through the heap -/
noncomputable def Rd (h : Heap) (v : Value) (d : PyData) : Prop := ∃ as, Reads h v d as
noncomputable def Rds (h : Heap) (vs : List Value) (ds : List PyData) : Prop := ∃ as, ReadsAll h vs ds as
theorem Rd.keeps {g h : Heap} {v d} (x : Rd g v d) (k : Kp g h) : Rd h v d := let ⟨as, r⟩ := x; ⟨as, Reads.keeps k r⟩
theorem Rds.keeps {g h : Heap} {v d} (x : Rds g v d) (k : Kp g h) : Rds h v d := let ⟨as, r⟩ := x; ⟨as, ReadsAll.keeps k r⟩
theorem Rd.int {h : Heap} {i t} : Rd h (.int i t) (.int i) := ⟨_, .int i t⟩
theorem Rds.nil {h : Heap} : Rds h [] [] := ⟨_, .nil⟩
theorem Rds.cons {h : Heap} {v vs d ds} (x : Rd h v d) (y : Rds h vs ds) : Rds h (v :: vs) (d :: ds) := let ⟨_, a⟩ := x; let ⟨_, b⟩ := y; ⟨_, .cons a b⟩
theorem Rds.uncons {h : Heap} {v vs d ds} (x : Rds h (v :: vs) (d :: ds)) : Rd h v d ∧ Rds h vs ds := by
  obtain ⟨as, x⟩ := x
  cases x with
  | cons a b => exact ⟨⟨_, a⟩, ⟨_, b⟩⟩
theorem Rds.length {h : Heap} {vs ds} (x : Rds h vs ds) : vs.length = ds.length := let ⟨_, r⟩ := x; PySem.SeqAt.ReadsAll.length _ _ _ r
theorem Rds.get {h : Heap} : ∀ {vs ds} {i : Nat} {d : PyData}, Rds h vs ds → ds[i]? = some d → ∃ v, vs[i]? = some v ∧ Rd h v d
  | vs, [], i, d, x, e => by simp at e
  | [], d' :: ds, i, d, x, e => absurd x.length (by simp)
  | v :: vs, d' :: ds, 0, d, x, e => by obtain rfl : d' = d := by simpa using e
                                        exact ⟨v, rfl, x.uncons.1⟩
  | v :: vs, d' :: ds, i + 1, d, x, e => by
    obtain ⟨v', h1, h2⟩ := Rds.get (i := i) x.uncons.2 (by simpa using e)
    exact ⟨v', by simpa using h1, h2⟩
theorem Rds.set {h : Heap} : ∀ {vs ds} {i : Nat} {v : Value} {d : PyData}, Rds h vs ds → Rd h v d → Rds h (vs.set i v) (ds.set i d)
  | [], [], _, _, _, _, _ => .nil
  | [], _ :: _, _, _, _, x, _ => absurd x.length (by simp)
  | _ :: _, [], _, _, _, x, _ => absurd x.length (by simp)
  | v' :: vs, d' :: ds, 0, v, d, x, y => .cons y x.uncons.2
  | v' :: vs, d' :: ds, i + 1, v, d, x, y => .cons x.uncons.1 (Rds.set x.uncons.2 y)
theorem Rds.append {h : Heap} : ∀ {vs ds ws es}, Rds h vs ds → Rds h ws es → Rds h (vs ++ ws) (ds ++ es)
  | [], [], _, _, _, y => y
  | [], _ :: _, _, _, x, _ => absurd x.length (by simp)
  | _ :: _, [], _, _, x, _ => absurd x.length (by simp)
  | v' :: vs, d' :: ds, _, _, x, y => .cons x.uncons.1 (Rds.append x.uncons.2 y)
theorem Rds.split {h : Heap} : ∀ {ds es vs}, Rds h vs (ds ++ es) → ∃ ws us, vs = ws ++ us ∧ Rds h ws ds ∧ Rds h us es
  | [], es, vs, x => ⟨[], vs, rfl, .nil, x⟩
  | d :: ds, es, [], x => absurd x.length (by simp)
  | d :: ds, es, v :: vs, x => by
    obtain ⟨ws, us, rfl, a, b⟩ := Rds.split (ds := ds) x.uncons.2
    exact ⟨v :: ws, us, rfl, .cons x.uncons.1 a, b⟩
theorem Rd.tup {h : Heap} {a : Addr} {ds} (x : Rd h (.ref a) (.tuple ds)) : ∃ vs : List Value, IsTup h a vs.toArray ∧ Rds h vs ds := by
  obtain ⟨as, x⟩ := x
  cases x with
  | tuple ho hc hd r => exact ⟨_, ⟨_, ho, hc, _, hd⟩, ⟨_, r⟩⟩
theorem Rd.tup_ref {h : Heap} {v : Value} {ds} (x : Rd h v (.tuple ds)) : ∃ a, v = .ref a := by
  obtain ⟨as, x⟩ := x
  cases x with
  | tuple ho hc hd r => exact ⟨_, rfl⟩
theorem Rd.int_inv {h : Heap} {v : Value} {i} (x : Rd h v (.int i)) : ∃ t, v = .int i t := by
  obtain ⟨as, x⟩ := x
  cases x with
  | int i t => exact ⟨_, rfl⟩
theorem Rd.of_tup {h : Heap} {a : Addr} {vs : List Value} {ds} (x : IsTup h a vs.toArray) (y : Rds h vs ds) : Rd h (.ref a) (.tuple ds) := by
  obtain ⟨o, h1, h2, n, h3⟩ := x
  obtain ⟨as, y⟩ := y
  exact ⟨_, .tuple h1 h2 h3 y⟩
theorem Rd.of_list {h : Heap} {a : Addr} {vs : List Value} {ds} (x : h.IsList a vs.toArray) (y : Rds h vs ds) : Rd h (.ref a) (.list ds) := by
  obtain ⟨o, h1, h2, n, h3⟩ := x
  obtain ⟨as, y⟩ := y
  exact ⟨_, .list h1 h2 h3 y⟩
theorem Rd.lst {h : Heap} {a : Addr} {ds} (x : Rd h (.ref a) (.list ds)) : ∃ vs : List Value, h.IsList a vs.toArray ∧ Rds h vs ds := by
  obtain ⟨as, x⟩ := x
  cases x with
  | list ho hc hd r => exact ⟨_, ⟨_, ho, hc, _, hd⟩, ⟨_, r⟩⟩

/-- what the ledger may say of an object -/
noncomputable def LS (vs : List Value) (o : Obj) : Prop := ∃ n, o = { cls := .type "list", data := .seq vs.toArray n }
abbrev PL (h : Heap) (d : Addr) (vs : List Value) : Prop := h.PlainList d vs.toArray
theorem ls_of {h : Heap} {d vs} (x : PL h d vs) : ∃ o, h.get? d = some o ∧ LS vs o := let ⟨n, e⟩ := x; ⟨_, e, n, rfl⟩
theorem pl_of {h : Heap} {d vs} (x : ∃ o, h.get? d = some o ∧ LS vs o) : PL h d vs := let ⟨_, e, n, q⟩ := x; ⟨n, q ▸ e⟩

/-- a frame: what it knows of its locals, the world that it keeps, the objects that it may change -/
structure St (g : Heap) (L : Addr) (ps : List (Str × Value)) (news : List (Addr × (Obj → Prop))) (h : Heap) : Prop where
  loc : ∃ m, h.Ns L m ∧ ∀ x v, ps.lookup x = some v → m x = some v
  keep : Kp g h
  off : g.get? L = none
  new : ∀ p ∈ news, (∃ o, h.get? p.1 = some o ∧ p.2 o) ∧ p.1 ≠ L ∧ g.get? p.1 = none
  nd : (news.map (·.1)).Nodup

section
variable {g h h' : Heap} {L d : Addr} {ps ps' : List (Str × Value)} {news news' : List (Addr × (Obj → Prop))}

theorem St.at {p : Addr × (Obj → Prop)} (S : St g L ps news h) (hp : p ∈ news) : ∃ o, h.get? p.1 = some o ∧ p.2 o := (S.new p hp).1
theorem St.list0 {vs} (S : St g L ps ((d, LS vs) :: news) h) : PL h d vs := pl_of (S.at (.head _))
theorem St.list1 {p vs} (S : St g L ps (p :: (d, LS vs) :: news) h) : PL h d vs := pl_of (S.at (.tail _ (.head _)))
theorem St.list2 {p p' vs} (S : St g L ps (p :: p' :: (d, LS vs) :: news) h) : PL h d vs := pl_of (S.at (.tail _ (.tail _ (.head _))))
theorem St.rd {v dd} (S : St g L ps news h) (x : Rd g v dd) : Rd h v dd := x.keeps S.keep
theorem St.rds {v dd} (S : St g L ps news h) (x : Rds g v dd) : Rds h v dd := x.keeps S.keep

/-- the names of one list known in another -/
inductive SubL (ps : List (Str × Value)) : List (Str × Value) → Prop
  | nil : SubL ps []
  | cons {x : Str} {v : Value} {r : List (Str × Value)} (e : ps.lookup x = some v) (t : SubL ps r) : SubL ps ((x, v) :: r)
theorem SubL.get {ps l : List (Str × Value)} (e : SubL ps l) {x : Str} {v : Value} (hx : l.lookup x = some v) : ps.lookup x = some v := by
  induction e with
  | nil => cases hx
  | @cons y u r e _ ih =>
    rw [List.lookup_cons] at hx
    cases hy : (x == y) with
    | true =>
      rw [hy] at hx
      rw [beq_iff_eq.mp hy, e]
      exact hx
    | false =>
      rw [hy] at hx
      exact ih hx
/-- fewer names -/
theorem St.locals (S : St g L ps news h) (e : SubL ps ps') : St g L ps' news h :=
  ⟨let ⟨m, a, b⟩ := S.loc; ⟨m, a, fun _ _ hx => b _ _ (e.get hx)⟩, S.keep, S.off, S.new, S.nd⟩
/-- fewer objects -/
theorem St.sub (S : St g L ps news h) (e : news'.Sublist news) : St g L ps news' h :=
  ⟨S.loc, S.keep, S.off, fun p hp => S.new p (e.subset hp), (e.map _).nodup S.nd⟩
theorem St.perm (S : St g L ps news h) (e : news'.Perm news) : St g L ps news' h :=
  ⟨S.loc, S.keep, S.off, fun p hp => S.new p (e.mem_iff.mp hp), (e.map _).nodup_iff.mpr S.nd⟩
theorem St.set (S : St g L ps news h) {x : Str} {v : Value} {m : Str → Option Value} (hn : ∀ m, h.Ns L m → h'.Ns L (fun y => if y = x then some v else m y)) (hs : Heap.SameBut L h h') : St g L ((x, v) :: ps) news h' := by
  obtain ⟨⟨m, a, b⟩, k, o, n, nd⟩ := S
  refine ⟨⟨_, hn m a, fun y u hy => ?_⟩, fun b' o' e => hs.extBut b' o' (fun q => by rw [q, o] at e; cases e) (k b' o' e), o, fun p hp => ?_, nd⟩
  · rw [List.lookup_cons] at hy
    by_cases q : (y == x) = true
    · simp only [q] at hy
      rw [if_pos (beq_iff_eq.mp q)]
      exact hy
    · simp only [q] at hy
      rw [if_neg (fun q' => q (beq_iff_eq.mpr q'))]
      exact b y u hy
  · obtain ⟨⟨ob, h1, h2⟩, h3, h4⟩ := n p hp
    exact ⟨⟨ob, hs.extBut _ _ h3 h1, h2⟩, h3, h4⟩
/-- everything that stood stands -/
theorem St.grown (S : St g L ps news h) (k : Kp h h') : St g L ps news h' :=
  ⟨let ⟨m, a, b⟩ := S.loc; ⟨m, a.keeps k, b⟩, S.keep.trans k, S.off, fun p hp => let ⟨⟨o, a, b⟩, c, d⟩ := S.new p hp; ⟨⟨o, k _ _ a, b⟩, c, d⟩, S.nd⟩
/-- a new object joins the ledger -/
theorem St.push (S : St g L ps news h) (o : Obj) {P : Obj → Prop} (hP : P o) (hf : o.isFreed = false := by rfl) : St g L ps ((h.objs.size, P) :: news) (h.push o) := by
  have S' := S.grown (h' := h.push o) (fun b o' e => Heap.get?_push_of_some _ e)
  refine ⟨S'.loc, S'.keep, S'.off, fun p hp => ?_, ?_⟩
  · rcases List.mem_cons.mp hp with rfl | hp
    · refine ⟨⟨o, Heap.get?_push_size _ hf, hP⟩, ?_, ?_⟩
      · obtain ⟨m, ⟨oL, _, _, hL, _⟩, _⟩ := S.loc
        exact Nat.ne_of_gt (Heap.lt_size hL)
      · cases hq : g.get? h.objs.size with
        | none => rfl
        | some o' => exact absurd (Heap.lt_size (S.keep _ _ hq)) (Nat.lt_irrefl _)
    · exact S'.new p hp
  · refine List.nodup_cons.mpr ⟨fun hm => ?_, S.nd⟩
    obtain ⟨p, hp, e⟩ := List.mem_map.mp hm
    obtain ⟨⟨o', h1, _⟩, _⟩ := S.new p hp
    have := Heap.lt_size h1
    rw [e] at this
    exact Nat.lt_irrefl _ this
/-- the i-th object is another -/
theorem St.upd (S : St g L ps news h) (i : Nat) {P P' : Obj → Prop} (hi : news[i]? = some (d, P)) (hs : Heap.ExtBut d h h') (ho : ∃ o, h'.get? d = some o ∧ P' o) : St g L ps (news.set i (d, P')) h' := by
  have hm : (d, P) ∈ news := List.mem_of_getElem? hi
  obtain ⟨_, dL, dg⟩ := S.new _ hm
  obtain ⟨m, hn, hb⟩ := S.loc
  refine ⟨⟨m, ?_, hb⟩, fun b o e => hs b o (fun q => by rw [q, dg] at e; cases e) (S.keep b o e), S.off, fun p hp => ?_, ?_⟩
  · obtain ⟨oL, es, ep, hL, r⟩ := hn
    exact ⟨oL, es, ep, hs _ _ (Ne.symm dL) hL, r⟩
  · by_cases hpd : p.1 = d
    · have : p = (d, P') := by
        obtain ⟨j, hj, e⟩ := List.mem_iff_getElem.mp hp
        by_cases hij : i = j
        · subst hij; rw [List.getElem_set_self] at e; exact e.symm
        · rw [List.getElem_set_ne hij] at e
          rw [List.length_set] at hj
          have hi' : i < news.length := (List.getElem?_eq_some_iff.mp hi).1
          have e2 : news[i] = (d, P) := (List.getElem?_eq_some_iff.mp hi).2
          exact absurd ((List.getElem_inj (xs := news.map (·.1)) (h₀ := by simpa using hi') (h₁ := by simpa using hj) S.nd).mp (by simp [e, e2, hpd])) hij
      subst this
      exact ⟨ho, dL, dg⟩
    · have : p ∈ news := by
        rcases List.mem_or_eq_of_mem_set hp with q | q
        · exact q
        · exact absurd (by rw [q]) hpd
      obtain ⟨⟨o, a, b⟩, c, e⟩ := S.new p this
      exact ⟨⟨o, hs _ _ hpd a, b⟩, c, e⟩
  · have : (news.set i (d, P')).map (·.1) = news.map (·.1) := by
      rw [List.map_set]
      have hi' : i < news.length := (List.getElem?_eq_some_iff.mp hi).1
      have e2 : news[i] = (d, P) := (List.getElem?_eq_some_iff.mp hi).2
      apply List.ext_getElem
      · simp
      · intro j h1 h2
        by_cases hij : i = j
        · subst hij; simp [e2]
        · simp [List.getElem_set_ne hij]
    rw [this]; exact S.nd
/-- a new base -/
theorem St.rebase {g' : Heap} (S : St g L ps news h) (k : Kp g' h) (o : g'.get? L = none) (n : ∀ p ∈ news, g'.get? p.1 = none) : St g' L ps news h :=
  ⟨S.loc, k, o, fun p hp => ⟨(S.new p hp).1, (S.new p hp).2.1, n p hp⟩, S.nd⟩
/-- the world of now, less the frame's own and what the ledger names -/
noncomputable def now (h : Heap) (L : Addr) (news : List (Addr × (Obj → Prop))) : Heap := hideAll h (L :: news.map (·.1))
theorem now_keep : Kp (now h L news) h := fun b o e => of_hideAll _ e
theorem now_get {b o} (e : h.get? b = some o) (hb : b ≠ L) (hn : b ∉ news.map (·.1)) : (now h L news).get? b = some o := hideAll_get _ e (by simp only [List.mem_cons, not_or]; exact ⟨hb, hn⟩)
theorem St.atNow (S : St g L ps news h) : St (now h L news) L ps news h :=
  S.rebase now_keep (hideAll_none _ (.head _)) fun p hp => hideAll_none _ (.tail _ (List.mem_map_of_mem hp))
theorem St.toNow (S : St g L ps news h) : Kp g (now h L news) := fun b o e => now_get (S.keep b o e) (fun q => by rw [q, S.off] at e; cases e) fun q => by
  obtain ⟨p, hp, rfl⟩ := List.mem_map.mp q
  rw [(S.new p hp).2.2] at e; cases e

/-- entering a def that changes nothing of the caller's -/
theorem St.enter {m : Str → Option Value} (hn : h'.Ns h.objs.size m) (k : Kp h h') (e : ∀ x v, ps.lookup x = some v → m x = some v) : St h h.objs.size ps [] h' :=
  ⟨⟨m, hn, e⟩, k, (by
    cases q : h.get? h.objs.size with
    | none => rfl
    | some o' => exact absurd (Heap.lt_size q) (Nat.lt_irrefl _)), fun p hp => (nomatch hp), .nil⟩
/-- entering a def that may change one object -/
theorem St.enter1 {m : Str → Option Value} {P : Obj → Prop} (hn : h'.Ns h.objs.size m) (k : Kp h h') (e : ∀ x v, ps.lookup x = some v → m x = some v) (hd : ∃ o, h.get? d = some o ∧ P o) : St (h.hide d) h.objs.size ps [(d, P)] h' := by
  obtain ⟨o, ho, hp⟩ := hd
  refine ⟨⟨m, hn, e⟩, fun b o e => k b o (Heap.of_hide e), ?_, fun p hp' => ?_, by simp⟩
  · cases q : (h.hide d).get? h.objs.size with
    | none => rfl
    | some o' => exact absurd (Heap.lt_size (Heap.of_hide q)) (Nat.lt_irrefl _)
  · cases List.mem_singleton.mp hp'
    exact ⟨⟨o, k _ _ ho, hp⟩, Nat.ne_of_lt (Heap.lt_size ho), Heap.hide_self _ _⟩
theorem kp_hide {a : Addr} : Kp (h.hide a) h := fun b o e => Heap.of_hide e
theorem ext_hide {a : Addr} (k : Kp (h.hide a) h') : Heap.ExtBut a h h' := fun b o hb e => k b o ((Heap.hide_ne h hb).trans e)
theorem kp_hide_of {g₀ : Heap} {a : Addr} (k : Kp g₀ h) (hd : g₀.get? a = none) : Kp g₀ (h.hide a) := fun b o e => (Heap.hide_ne h (fun q => by rw [q, hd] at e; cases e)).trans (k b o e)
end

/-- the text's own objects and the built-ins stand -/
structure Gnd (K : Frag) (p : Program) (g : Heap) : Prop where
  kin : K.In g
  top : ∃ loose mean mg mb, Top p loose mean mg mb g
theorem Gnd.keeps {K p} {g h : Heap} (G : Gnd K p g) (k : Kp g h) : Gnd K p h := ⟨G.kin.keeps k, let ⟨a, b, c, d, t⟩ := G.top; ⟨a, b, c, d, t.keeps k⟩⟩
theorem Gnd.nolimit {K p} {g : Heap} (G : Gnd K p g) : g.NoLimit := let ⟨_, _, _, _, t⟩ := G.top; t.nolimit

/-- room for n more frames -/
structure Room (A : Around) (n : Nat) : Prop where
  dep : A.depth + n ≤ 800
  uni : A.units + 8 * n ≤ 8000
  han : A.handled = none
theorem Room.deeper {A n env} (R : Room A (n + 1)) : Room (A.deeper env) n := ⟨by have := R.dep; show A.depth + 1 + n ≤ 800; (first | lia | omega), by have := R.uni; show A.units + 3 + 8 * n ≤ 8000; (first | lia | omega), R.han⟩
theorem Room.less {A n m} (R : Room A n) (h : m ≤ n) : Room A m := ⟨by have := R.dep; (first | lia | omega), by have := R.uni; (first | lia | omega), R.han⟩
theorem Room.lim {A n} (R : Room A n) : A.depth < recursionLimit := by have := R.dep; show A.depth < 1000; (first | lia | omega)
theorem Room.uline {A n} (R : Room A n) : A.units < cLine := by have := R.uni; show A.units < 9900; (first | lia | omega)
theorem Room.in1 {A n} (R : Room A (n + 1)) : Room A.in1 n := ⟨by have := R.dep; show A.depth + n ≤ 800; (first | lia | omega), by have := R.uni; show A.units + 1 + 8 * n ≤ 8000; (first | lia | omega), R.han⟩

section
variable {prog : Program} {w : World} {A : Around} {s₀ : Shared} {g h : Heap} {env : Env} {ps : List (Str × Value)} {news : List (Addr × (Obj → Prop))} {K : Frag} {p : Program}

-- names
theorem ev_name {x pos v} {Q : Value → Heap → Prop} (S : St g env.locals ps news h) (hv : ps.lookup x = some v) (q : Q v h)
    (hk : env.scope.kind = .function := by rfl) (hl : env.kindOf x = some .local := by rfl) (hd : (x == ("__debug__" : Str)) = false := by decide) :
    Ev prog w A s₀ (eval (.Name x pos) env) h Q := fun tk =>
  let ⟨m, a, b⟩ := S.loc
  wpAny_Name (wpAny_loadName_local hk hl a (b x v hv) ⟨_, _, rfl, q⟩) hd
theorem ev_global {x pos v} {Q : Value → Heap → Prop} (G : Gnd K p h) (e : nsIn K mainGlobals x = some (some v)) (q : Q v h)
    (hk : env.scope.kind = .function := by rfl) (hl : env.kindOf x = some .globalImplicit := by rfl) (hd : (x == ("__debug__" : Str)) = false := by decide) (hg : env.globals = mainGlobals := by rfl) :
    Ev prog w A s₀ (eval (.Name x pos) env) h Q := fun tk =>
  let ⟨_, _, mg, mb, t⟩ := G.top
  Name_function_global hk hl (loadGlobal_global (by rw [hg]; exact t.g) (mg_of G.kin t.g e) ⟨_, _, rfl, q⟩) hd
theorem ev_builtin {x pos v} {Q : Value → Heap → Prop} (G : Gnd K p h) (e : nsIn K mainGlobals x = some none) (hv : bootBuiltins x = some v) (q : Q v h) (hn : x ≠ "__name__" := by decide)
    (hk : env.scope.kind = .function := by rfl) (hl : env.kindOf x = some .globalImplicit := by rfl) (hd : (x == ("__debug__" : Str)) = false := by decide) (hg : env.globals = mainGlobals := by rfl) (hb : env.builtins = builtinsNs := by rfl) :
    Ev prog w A s₀ (eval (.Name x pos) env) h Q := fun tk =>
  let ⟨_, _, mg, mb, t⟩ := G.top
  Name_function_global hk hl (loadGlobal_builtin (by rw [hg]; exact t.g) (mg_none_of G.kin t.g e) (by rw [hb]; exact t.b) ((t.builtins x hn).trans hv) ⟨_, _, rfl, q⟩) hd
theorem ev_store2 {x v} {Q : Unit → Heap → Prop} (S : St g env.locals ps news h) (q : ∀ h', St g env.locals ((x, v) :: ps) news h' → Heap.SameBut env.locals h h' → Q () h')
    (hk : env.scope.kind = .function := by rfl) (hl : env.kindOf x = some .local := by rfl) : Ev prog w A s₀ (storeName env x v) h Q := fun tk => by
  obtain ⟨m, a, b⟩ := S.loc
  refine wpAny_storeName_local hl a (fun h' hn hs => ⟨h', _, rfl, q h' ?_ hs⟩) (by rw [hk]; rfl)
  refine ⟨⟨_, hn, fun y u hy => ?_⟩, fun b' o' e => hs.extBut b' o' (fun q => by rw [q, S.off] at e; cases e) (S.keep b' o' e), S.off, fun p hp => ?_, S.nd⟩
  · rw [List.lookup_cons] at hy
    by_cases q : (y == x) = true
    · simp only [q] at hy
      rw [if_pos (beq_iff_eq.mp q)]
      exact hy
    · simp only [q] at hy
      rw [if_neg (fun q' => q (beq_iff_eq.mpr q'))]
      exact b y u hy
  · obtain ⟨⟨ob, h1, h2⟩, h3, h4⟩ := S.new p hp
    exact ⟨⟨ob, hs.extBut _ _ h3 h1, h2⟩, h3, h4⟩
theorem ev_store {x v} {Q : Unit → Heap → Prop} (S : St g env.locals ps news h) (q : ∀ h', St g env.locals ((x, v) :: ps) news h' → Q () h')
    (hk : env.scope.kind = .function := by rfl) (hl : env.kindOf x = some .local := by rfl) : Ev prog w A s₀ (storeName env x v) h Q := ev_store2 S (fun h' a _ => q h' a) hk hl

-- calls
theorem ev_call {func args pos} {Q : Value → Heap → Prop} (H : Ev prog w A s₀ (eval func env) h (fun f h₁ => Ev prog w A s₀ (callWith pos f [] (backTo pos (starEach args env)) []) h₁ Q))
    (he : eval (.Call func args [] pos) env = (do callWith pos (← eval func env) [] (backTo pos (starEach args env)) (backToKw pos (keywordEach [] env))) := by rfl) :
    Ev prog w A s₀ (eval (.Call func args [] pos) env) h Q := fun _ => Call_ (H.use fun _ _ tk' q => q tk') he
theorem ev_method {o name apos pos args} {pl : Sem Bool} {Q : Value → Heap → Prop}
    (H : Ev prog w A s₀ (eval o env) h (fun ov h₁ => Ev prog w A s₀ (getMethod ov name pl) h₁ (fun fx h₂ => Ev prog w A s₀ (callWith pos fx.1 fx.2 (backTo pos (starEach args env)) []) h₂ Q)))
    (he : eval (.Call (.Attribute o name apos) args [] pos) env = (do
      let ov ← eval o env
      standAt apos.atName
      let (f, first) ← holding [ov] (getMethod ov name pl)
      callWith pos f first (backTo pos (starEach args env)) []) := by rfl) :
    Ev prog w A s₀ (eval (.Call (.Attribute o name apos) args [] pos) env) h Q := fun _ => MethodCall_ (H.use fun _ _ _ q => Ev.use q fun _ _ tk' q => q tk') he
theorem ev_cw_builtin {pos id first e rest} {Q : Value → Heap → Prop} (H : Ev prog w A s₀ (spliced (backTo pos (starEach (e :: rest) env))) h (fun vs h₁ => Ev prog w A s₀ (call (.builtin id) (first ++ vs)) h₁ Q))
    (he : starEach (e :: rest) env = (false, eval e env) :: starEach rest env := by rfl) (hplain : (backTo pos (starEach rest env)).any (·.1) = false := by rfl) :
    Ev prog w A s₀ (callWith pos (.builtin id) first (backTo pos (starEach (e :: rest) env)) []) h Q := fun _ => callWith_method1 (H.use fun _ _ tk' q => q tk') he hplain
theorem ev_cw_builtin0 {pos id first} {Q : Value → Heap → Prop} (H : Ev prog w A s₀ (call (.builtin id) first) h Q) :
    Ev prog w A s₀ (callWith pos (.builtin id) first (backTo pos (starEach [] env)) []) h Q := fun tk => callWith_method0 (H tk)
theorem ev_cw_def {pos f first e rest} {Q : Value → Heap → Prop} (hk : keepIn K f = true) (H : Ev prog w A s₀ (spliced (backTo pos (starEach (e :: rest) env))) h (fun vs h₁ => K.In h₁ ∧ Ev prog w A s₀ (call f (first ++ vs)) h₁ Q))
    (he : starEach (e :: rest) env = (false, eval e env) :: starEach rest env := by rfl) (hplain : (backTo pos (starEach rest env)).any (·.1) = false := by rfl) :
    Ev prog w A s₀ (callWith pos f first (backTo pos (starEach (e :: rest) env)) []) h Q := fun _ => by
  rw [he] at H ⊢
  exact callWith_of (by show ((false || (backTo pos (starEach rest env)).any (·.1)) || false) = false; rw [hplain]; rfl) (keeps_K hk) (evalArgs_plain (H.use fun _ _ tk' q => ⟨q.1, q.2 tk'⟩))
theorem ev_cw_def0 {pos f first} {Q : Value → Heap → Prop} (X : K.In h) (hk : keepIn K f = true) (H : Ev prog w A s₀ (call f (first ++ [])) h Q) :
    Ev prog w A s₀ (callWith pos f first (backTo pos (starEach [] env)) []) h Q := fun tk => callWith_K0 X hk (H tk)

-- the first arguments: none, or the object of the method
theorem ev_cwb {pos id e rest} {Q : Value → Heap → Prop} (H : Ev prog w A s₀ (spliced (backTo pos (starEach (e :: rest) env))) h (fun vs h₁ => Ev prog w A s₀ (call (.builtin id) vs) h₁ Q))
    (he : starEach (e :: rest) env = (false, eval e env) :: starEach rest env := by rfl) (hplain : (backTo pos (starEach rest env)).any (·.1) = false := by rfl) :
    Ev prog w A s₀ (callWith pos (.builtin id) [] (backTo pos (starEach (e :: rest) env)) []) h Q := ev_cw_builtin H he hplain
theorem ev_cwt {pos T e rest} {Q : Value → Heap → Prop} (H : Ev prog w A s₀ (spliced (backTo pos (starEach (e :: rest) env))) h (fun vs h₁ => Ev prog w A s₀ (call (.type T) vs) h₁ Q))
    (he : starEach (e :: rest) env = (false, eval e env) :: starEach rest env := by rfl) (hplain : (backTo pos (starEach rest env)).any (·.1) = false := by rfl) :
    Ev prog w A s₀ (callWith pos (.type T) [] (backTo pos (starEach (e :: rest) env)) []) h Q := fun _ => Pv.callWith_type1 (H.use fun _ _ tk' q => q tk') he hplain
theorem ev_cwbm {pos id x e rest} {Q : Value → Heap → Prop} (H : Ev prog w A s₀ (spliced (backTo pos (starEach (e :: rest) env))) h (fun vs h₁ => Ev prog w A s₀ (call (.builtin id) (x :: vs)) h₁ Q))
    (he : starEach (e :: rest) env = (false, eval e env) :: starEach rest env := by rfl) (hplain : (backTo pos (starEach rest env)).any (·.1) = false := by rfl) :
    Ev prog w A s₀ (callWith pos (.builtin id) [x] (backTo pos (starEach (e :: rest) env)) []) h Q := ev_cw_builtin H he hplain
theorem ev_cwf {pos f e rest} {Q : Value → Heap → Prop} (hk : keepIn K (.ref f) = true) (H : Ev prog w A s₀ (spliced (backTo pos (starEach (e :: rest) env))) h (fun vs h₁ => K.In h₁ ∧ Ev prog w A s₀ (call (.ref f) vs) h₁ Q))
    (he : starEach (e :: rest) env = (false, eval e env) :: starEach rest env := by rfl) (hplain : (backTo pos (starEach rest env)).any (·.1) = false := by rfl) :
    Ev prog w A s₀ (callWith pos (.ref f) [] (backTo pos (starEach (e :: rest) env)) []) h Q := ev_cw_def hk H he hplain
theorem ev_cwfm {pos f x e rest} {Q : Value → Heap → Prop} (hk : keepIn K (.ref f) = true) (H : Ev prog w A s₀ (spliced (backTo pos (starEach (e :: rest) env))) h (fun vs h₁ => K.In h₁ ∧ Ev prog w A s₀ (call (.ref f) (x :: vs)) h₁ Q))
    (he : starEach (e :: rest) env = (false, eval e env) :: starEach rest env := by rfl) (hplain : (backTo pos (starEach rest env)).any (·.1) = false := by rfl) :
    Ev prog w A s₀ (callWith pos (.ref f) [x] (backTo pos (starEach (e :: rest) env)) []) h Q := ev_cw_def hk H he hplain
theorem ev_cwfm0 {pos f x} {Q : Value → Heap → Prop} (X : K.In h) (hk : keepIn K (.ref f) = true) (H : Ev prog w A s₀ (call (.ref f) [x]) h Q) :
    Ev prog w A s₀ (callWith pos (.ref f) [x] (backTo pos (starEach [] env)) []) h Q := ev_cw_def0 X hk H

/-- the code ends with a value -/
noncomputable def EvC (prog : Program) (w : World) (A : Around) (s₀ : Shared) (c : Code) (h : Heap) (Q : Value → Heap → Prop) : Prop :=
  ∀ tk, codeAny (model prog w) A c (fun r s' => match r with | .ok (.ret v) => ∃ h' tk', s' = Sh s₀ h' tk' ∧ Q v h' | _ => False) (Sh s₀ h tk)
theorem EvC.ev {f : Value} {args : List Value} {Q : Value → Heap → Prop} (H : EvC prog w A s₀ (.call f ⟨args, []⟩) h Q) : Ev prog w A s₀ (call f args) h Q := fun tk =>
  wpAny_call (codeAny_mono (H tk) fun r s' z => by
    rcases r with e | f
    · exact z
    · cases f <;> exact z)
theorem evc_def {f : Addr} {args : List Value} {binds : List (Str × Value)} {name qual : Str} {params : Arguments} {body : List Stmt} {scope : Scope} {dV kV doc pm cdv ct oc : Value} {an od : Option Addr} {osl : Array (Option Value)} {Q : Value → Heap → Prop}
    (G : Gnd K p h) (hroom : A.depth < recursionLimit)
    (ho : K.lookup f = some ⟨oc, od, .func (fnOf name qual params body scope dV kV doc pm an cdv ct), osl⟩) (hcd : codeIn K cdv qual = true)
    (hbind : bindArgs (fnOf name qual params body scope dV kV doc pm an cdv ct) ⟨args, []⟩ = pure binds) (hloc : (binds.all fun x => decide (scope.names.lookup x.1 = some .local)) = true)
    (H : ∀ h₁, h₁.Ns h.objs.size (fun x => binds.reverse.lookup x) → Kp h h₁ →
      let env := envX qual scope h.objs.size f cdv []; let B := A.deeper env; Ev prog w B s₀ (execs body env) h₁ (Rt Q))
    (hco : scope.isCoroutine = false) (hgen : scope.isGenerator = false) (hk : scope.kind = .function) (hcell : ∀ x ∈ scope.names, x.2 ≠ .cell) :
    EvC prog w A s₀ (.call (.ref f) ⟨args, []⟩) h Q := fun tk => by
  refine codeAny_call_def (fd := fnOf name qual params body scope dV kV doc pm an cdv ct) (body := body) (binds := binds) hroom (G.kin _ _ ho) rfl G.nolimit (codeRec_of G.kin hcd) rfl (.of_eq hbind) hcell (locs hloc) (fun h₁ hns hk₁ => ?_) hco hgen hk
  exact (H h₁ hns hk₁).use fun fl h' tk' q => ⟨h', tk', rfl, by cases fl <;> exact q⟩
theorem ev_def {f : Addr} {args : List Value} {binds : List (Str × Value)} {name qual : Str} {params : Arguments} {body : List Stmt} {scope : Scope} {dV kV doc pm cdv ct oc : Value} {an od : Option Addr} {osl : Array (Option Value)} {Q : Value → Heap → Prop}
    (G : Gnd K p h) (hroom : A.depth < recursionLimit)
    (ho : K.lookup f = some ⟨oc, od, .func (fnOf name qual params body scope dV kV doc pm an cdv ct), osl⟩) (hcd : codeIn K cdv qual = true)
    (hbind : bindArgs (fnOf name qual params body scope dV kV doc pm an cdv ct) ⟨args, []⟩ = pure binds) (hloc : (binds.all fun x => decide (scope.names.lookup x.1 = some .local)) = true)
    (H : ∀ h₁, h₁.Ns h.objs.size (fun x => binds.reverse.lookup x) → Kp h h₁ →
      let env := envX qual scope h.objs.size f cdv []; let B := A.deeper env; Ev prog w B s₀ (execs body env) h₁ (Rt Q))
    (hco : scope.isCoroutine = false) (hgen : scope.isGenerator = false) (hk : scope.kind = .function) (hcell : ∀ x ∈ scope.names, x.2 ≠ .cell) :
    Ev prog w A s₀ (call (.ref f) args) h Q := (evc_def G hroom ho hcd hbind hloc H hco hgen hk hcell).ev

-- lists and tuples
section
variable {l : Addr} {vs : List Value} {k : Int} {t : Tok} {v : Value} {value slice : Expr}
theorem ev_sub_list {i : Nat} {Q : Value → Heap → Prop} (hl : PL h l vs) (hki : k = (i : Int)) (hs : vs.length < 2 ^ 24) (hx : vs[i]? = some v) (q : Q v h)
    (he : subscripted slice false (.ref l) (.int k t) = operate [.ref l, .int k t] (getItem (.ref l) (.int k t)) := by with_unfolding_all rfl) :
    Ev prog w A s₀ (subscriptTail value slice (.ref l) (.int k t)) h Q := fun tk => by
  have : i < vs.length := (List.getElem?_eq_some_iff.mp hx).1
  exact tail_any (s := Sh s₀ h tk) hl.isList.typeIs slot_list_getitem.lookup (wpAny_getItem_list hl.isList (by (first | lia | omega)) (by (first | lia | omega)) (by subst hki; simpa using hx) ⟨_, _, rfl, q⟩) he
theorem ev_sub_tuple {i : Nat} {Q : Value → Heap → Prop} (hl : IsTup h l vs.toArray) (hki : k = (i : Int)) (hs : vs.length < 2 ^ 24) (hx : vs[i]? = some v) (q : Q v h)
    (he : subscripted slice false (.ref l) (.int k t) = operate [.ref l, .int k t] (getItem (.ref l) (.int k t)) := by with_unfolding_all rfl) :
    Ev prog w A s₀ (subscriptTail value slice (.ref l) (.int k t)) h Q := fun tk => by
  have : i < vs.length := (List.getElem?_eq_some_iff.mp hx).1
  refine item_tupleT (s := Sh s₀ h tk) hl (by (first | lia | omega)) (by (first | lia | omega)) (j := i) ?_ hx ⟨_, _, rfl, q⟩ he
  subst hki
  unfold seqIndex?
  split <;> first | rfl | (first | lia | omega) | (simp; (first | lia | omega))
theorem ev_set_list {i : Nat} {Q : Unit → Heap → Prop} (hl : PL h l vs) (hki : k = (i : Int)) (hs : vs.length < 2 ^ 24) (hn : i < vs.length)
    (q : ∀ h', PL h' l (vs.set i v) → Heap.SameBut l h h' → Q () h') : Ev prog w A s₀ (setItem (.ref l) (.int k t) v) h Q := fun tk => by
  obtain ⟨n, e⟩ := hl
  subst hki
  refine ki_setAt (s := Sh s₀ h tk) e (by (first | lia | omega)) (by (first | lia | omega)) (by simp; (first | lia | omega)) ⟨_, _, rfl, q _ ?_ (Heap.SameBut.update ..)⟩
  have := PySem.IsL.update e (fun x => x.setIfInBounds i v)
  exact ⟨_, by simpa using this⟩
theorem ev_len_list {Q : Value → Heap → Prop} (hl : PL h l vs) (hs : vs.length < 2 ^ 24) (q : ∀ t, Q (.int vs.length t) h) : Ev prog w A s₀ (call (.builtin "len") [.ref l]) h Q := fun tk =>
  call_len_list hl.isList (by simp; (first | lia | omega)) ⟨_, _, rfl, by simpa using q _⟩
theorem ev_len_tuple {Q : Value → Heap → Prop} (hl : IsTup h l vs.toArray) (hs : vs.length < 2 ^ 24) (q : ∀ t, Q (.int vs.length t) h) : Ev prog w A s₀ (call (.builtin "len") [.ref l]) h Q := fun tk =>
  len_tuple hl (by simp; (first | lia | omega)) ⟨_, _, rfl, by simpa using q _⟩
theorem ev_truthy_list {Q : Bool → Heap → Prop} (hl : PL h l vs) (hs : vs.length < 2 ^ 24) (q : Q (!vs.isEmpty) h) : Ev prog w A s₀ (truthy (.ref l)) h Q := fun tk =>
  wpAny_truthy_list hl.isList (by simp; (first | lia | omega)) ⟨_, _, rfl, by simpa using q⟩
theorem ev_lm {name : Str} {id : String} {pl : Sem Bool} {Q : Value × List Value → Heap → Prop} (slot : Slot "list" name id) (hty : typeOf (.builtin id) = pure (.type "method_descriptor")) (hl : PL h l vs) (q : Q (.builtin id, [.ref l]) h) :
    Ev prog w A s₀ (getMethod (.ref l) name pl) h Q := fun tk => by
  obtain ⟨n, e⟩ := hl
  exact getMethod_list_of (s := Sh s₀ h tk) slot hty ⟨_, e, rfl, n, rfl⟩ ⟨_, e, rfl⟩ ⟨_, _, rfl, q⟩
theorem ev_pop {Q : Value → Heap → Prop} (hl : PL h l (vs ++ [v])) (hs : vs.length < 2 ^ 23) (q : ∀ h', PL h' l vs → Heap.SameBut l h h' → Q v h') : Ev prog w A s₀ (call (.builtin "list.pop") [.ref l]) h Q := fun tk => by
  obtain ⟨n, e⟩ := hl
  have hk : (vs ++ [v]).toArray.size - 1 = vs.length := by simp
  refine call_meets (s := Sh s₀ h tk) PySem.F.slot_list_pop ⟨_, e, rfl⟩ PySem.F.entry_list_pop (PySem.F.args_list_pop_1 _) (PySem.MeetsSeq.list_pop_last l _ n v (by rw [hk]; simp) (by simp [sizeLine]; (first | lia | omega))) ⟨e, _, _, rfl, q _ ?_ (Heap.SameBut.update ..)⟩
  have he : (vs ++ [v]).toArray.eraseIdxIfInBounds ((vs ++ [v]).toArray.size - 1) = vs.toArray := by rw [hk, kl_erase, List.append_nil]
  obtain ⟨m, hm⟩ : ∃ m, PySem.IsL (h.update l (Obj.mapSeq fun xs => xs.eraseIdxIfInBounds ((vs ++ [v]).toArray.size - 1))) l ((vs ++ [v]).toArray.eraseIdxIfInBounds ((vs ++ [v]).toArray.size - 1)) m := ⟨_, PySem.IsL.update e _⟩
  rw [he] at hm
  exact ⟨m, hm⟩
theorem ev_append {Q : Value → Heap → Prop} (hl : PL h l vs) (hs : vs.length < 2 ^ 23) (q : ∀ h', PL h' l (vs ++ [v]) → Heap.SameBut l h h' → Q .none h') : Ev prog w A s₀ (call (.builtin "list.append") [.ref l, v]) h Q := fun tk =>
  wpAny_list_append_plain (s := Sh s₀ h tk) hl (fun h' a b => ⟨_, _, rfl, q h' (by simpa using a) b⟩) (by simp [sizeLine]; (first | lia | omega))
theorem ev_newTuple {Q : Value → Heap → Prop} (hs : vs.length < 2 ^ 24) (q : Q (.ref h.objs.size) (h.push { cls := .type "tuple", data := .seq vs.toArray })) : Ev prog w A s₀ (newTuple vs) h Q := fun tk =>
  wpAny_newObj_type ⟨_, _, rfl, q⟩ (by show vs.toArray.size ≤ sizeLine; rw [List.size_toArray]; exact Nat.le_of_lt hs)
theorem ev_newList {Q : Value → Heap → Prop} (hs : vs.length < 2 ^ 24) (q : Q (.ref h.objs.size) (h.push { cls := .type "list", data := .seq vs.toArray })) : Ev prog w A s₀ (newList vs) h Q := fun tk =>
  wpAny_newObj_type ⟨_, _, rfl, q⟩ (by show vs.toArray.size ≤ sizeLine; rw [List.size_toArray]; exact Nat.le_of_lt hs)
end
theorem kp_push {o : Obj} : Kp h (h.push o) := fun _ _ e => Heap.get?_push_of_some _ e
theorem list_push {vs : List Value} : PL (h.push { cls := .type "list", data := .seq vs.toArray }) h.objs.size vs := ⟨_, Heap.get?_push_size _ rfl⟩
theorem tup_push {vs : List Value} : IsTup (h.push { cls := .type "tuple", data := .seq vs.toArray }) h.objs.size vs.toArray := ⟨_, Heap.get?_push_size _ rfl, rfl, _, rfl⟩
end

/-- the order of two rows of ints, as long as one another -/
noncomputable def lexLt : List Int → List Int → Bool
  | x :: xs, y :: ys => if x == y then lexLt xs ys else decide (x < y)
  | _, _ => false

section
open PySem.SeqAt PySem.MeetsSeq

inductive IntsV : List Value → List Int → Prop
  | nil : IntsV [] []
  | cons {i t vs is} : IntsV vs is → IntsV (.int i t :: vs) (i :: is)
theorem IntsV.length {vs is} (h : IntsV vs is) : vs.length = is.length := by induction h <;> simp [*]
theorem IntsV.drop {vs is} (h : IntsV vs is) (k : Nat) : IntsV (vs.drop k) (is.drop k) := by
  induction h generalizing k with
  | nil => simp; exact .nil
  | cons h ih => cases k with
    | zero => exact .cons h
    | succ k => simpa using ih k

set_option maxHeartbeats 2000000 in
theorem tuple_ltAt (l b : Addr) (vs vs2 : List Value) (is is2 : List Int) (n n2 : Nat) (dd dd2 : Option Addr) (sl sl2 : Array (Option Value)) (h1 : IntsV vs is) (h2 : IntsV vs2 is2) (hlen : is.length = is2.length) :
    Meets (Builtin.«tuple.__lt__» ⟨[.ref l, .ref b], []⟩)
      (fun A R s => s.heap.get? l = some { cls := .type "tuple", dict := dd, data := .seq vs.toArray n, slots := sl } ∧ s.heap.get? b = some { cls := .type "tuple", dict := dd2, data := .seq vs2.toArray n2, slots := sl2 } ∧
        R (.ok (.ret (.bool (lexLt is is2)))) s) :=
  .of_wp fun prog w A R s h => by
    obtain ⟨hp, g, d, tk, os⟩ := s; obtain ⟨hl, hb, h⟩ := h
    have f2 := AutoSeq1.sub_tuple_tuple
    have hs1 : vs.length = vs2.length := by rw [h1.length, h2.length, hlen]
    wp_walk using wpAny_loadPart' hl, wpAny_loadPart' hb, wpAny_forIn_list _ (fun rest b s' => b.1 = none ∧ s' = ⟨hp, g, d, tk, os⟩ ∧ ∃ us us2 js js2, rest = us.zip us2 ∧ IntsV us js ∧ IntsV us2 js2 ∧ js.length = js2.length ∧
      R (.ok (.ret (.bool (lexLt js js2)))) ⟨hp, g, d, tk, os⟩) _
    case turn =>
      rintro ⟨y, x⟩ rest b s' ⟨hb', rfl, us, us2, js, js2, hz, i1, i2, hl2, hR⟩
      cases i1 with
      | nil => simp at hz
      | @cons i t us js i1 =>
        cases i2 with
        | nil => simp at hz
        | @cons i2 t2 us2 js2 i2' =>
          simp only [List.zip_cons_cons, List.cons.injEq, Prod.mk.injEq] at hz
          obtain ⟨⟨rfl, rfl⟩, rfl⟩ := hz
          unfold lexLt at hR
          refine wpAny_bind (wpAny_eqBool_int ?_)
          cases he : (i == i2) with
          | true =>
            simp only [he, if_true] at hR
            wp_walk
            exact ⟨rfl, rfl, us, us2, js, js2, rfl, i1, i2', by simpa using hl2, hR⟩
          | false =>
            simp only [he, Bool.false_eq_true, if_false] at hR
            rw [if_pos (by rfl)]
            refine wpAny_bind (wpAny_rule (wpAny_bind ?_))
            show wpAny _ _ (compareOp .Lt (Value.int i t) (Value.int i2 t2)) _ _ _
            refine P.lt_int (prog := prog) (w := w) (wpAny_bind (wpAny_pure (wpAny_pure ?_)))
            exact wpAny_pure ⟨_, rfl, hR⟩
    case fin =>
      rintro ⟨b1, b2⟩ s' ⟨hb', rfl, us, us2, js, js2, hz, i1, i2, hl2, hR⟩
      simp only at hb'
      subst hb'
      cases i1 with
      | nil =>
        cases i2 with
        | nil =>
          wp_walk
          exact ⟨_, rfl, by simpa [Builtin.Tuple.tupleCompareSizes, lexLt, hs1] using hR⟩
        | cons _ => simp at hl2
      | cons _ =>
        cases i2 with
        | nil => simp at hl2
        | cons _ => simp at hz
    case h =>
      exact ⟨rfl, rfl, vs, vs2, is, is2, by simp, h1, h2, hlen, by simpa using h⟩
end

section
variable {prog : Program} {w : World} {A : Around} {s₀ : Shared} {h : Heap}
theorem Rds.ints {h : Heap} : ∀ {vs : List Value} {is : List Int}, Rds h vs (is.map PyData.int) → IntsV vs is
  | [], [], _ => .nil
  | [], _ :: _, x => absurd x.length (by simp)
  | _ :: _, [], x => absurd x.length (by simp)
  | v :: vs, i :: is, x => by
    obtain ⟨⟨t, rfl⟩, y⟩ := And.imp Rd.int_inv id x.uncons
    exact .cons (Rds.ints y)
theorem IntsV.rds {h : Heap} {vs is} (x : IntsV vs is) : Rds h vs (is.map PyData.int) := by
  induction x with
  | nil => exact .nil
  | cons _ ih => exact .cons .int ih

theorem ev_lt_tuples {a b : Addr} {is js : List Int} {Q : Value → Heap → Prop} (hu : A.units < cLine) (ha : Rd h (.ref a) (.tuple (is.map PyData.int))) (hb : Rd h (.ref b) (.tuple (js.map PyData.int))) (hl : is.length = js.length)
    (q : Q (.bool (lexLt is js)) h) : Ev prog w A s₀ (compareOp .Lt (.ref a) (.ref b)) h Q := fun tk => by
  obtain ⟨vs, ⟨⟨cls, dd, data, sl⟩, ho, hc, n, hd⟩, r1⟩ := ha.tup
  obtain ⟨vs2, ⟨⟨cls2, dd2, data2, sl2⟩, ho2, hc2, n2, hd2⟩, r2⟩ := hb.tup
  simp only at hc hd hc2 hd2
  subst hc hd hc2 hd2
  refine cmp_ofLt (richCompare_meets_room (op := .Lt) ⟨_, ho, rfl⟩ ⟨_, ho2, rfl⟩ F.slot_tuple_lt F.entry_tuple_lt (F.args_tuple_lt_2 _ _) (tuple_ltAt a b vs vs2 is js n n2 dd dd2 sl sl2 r1.ints r2.ints hl) ⟨ho, ho2, ?_⟩ hu)
  show Value.bool (lexLt is js) ≠ Value.notImplemented ∧ _
  exact ⟨(fun x => nomatch x), _, _, rfl, q⟩
end

theorem IntsV.get {vs is} (h : IntsV vs is) : ∀ {i : Nat}, i < is.length → ∃ t, vs[i]? = some (.int (is.getD i 0) t) := by
  induction h with
  | nil => intro i hi; simp at hi
  | @cons j t vs is h ih =>
    intro i hi
    cases i with
    | zero => exact ⟨t, rfl⟩
    | succ i => obtain ⟨t', e⟩ := ih (i := i) (by simpa using hi); exact ⟨t', by simpa using e⟩
theorem IntsV.set {vs is} (h : IntsV vs is) : ∀ {i : Nat} {j t}, IntsV (vs.set i (.int j t)) (is.set i j) := by
  induction h with
  | nil => intro i j t; exact .nil
  | cons h ih =>
    intro i j t
    cases i with
    | zero => exact .cons h
    | succ i => exact .cons ih
theorem IntsV.append {vs is ws js} (h : IntsV vs is) (k : IntsV ws js) : IntsV (vs ++ ws) (is ++ js) := by
  induction h with
  | nil => exact k
  | cons h ih => exact .cons ih
theorem IntsV.rep {i t} : ∀ n, IntsV (List.replicate n (.int i t)) (List.replicate n i)
  | 0 => .nil
  | n + 1 => .cons (IntsV.rep n)

section
variable {prog : Program} {w : World} {A : Around} {s₀ : Shared} {g h : Heap} {env : Env}

/-- the loop over an iterator at hand -/
noncomputable def LoopAt (prog : Program) (w : World) (A : Around) (s₀ : Shared) (env : Env) (x : Str) (px : Pos) (body : List Stmt) (Q : Flow → Heap → Prop) (it : Value) (h : Heap) : Prop :=
  ∀ tk, codeAny (model prog w) A (.forLoop (.Name x px) it body [] env) (fun r s' => match r with | .ok f => ∃ h' tk', s' = Sh s₀ h' tk' ∧ Q f h' | .error _ => False) (Sh s₀ h tk)

theorem ev_for {x px iter body pos} {Q : Flow → Heap → Prop} (H : Ev prog w A s₀ (eval iter env) h (fun xv h₁ => Ev prog w A s₀ (pyIter xv) h₁ (fun it h₂ => LoopAt prog w A s₀ env x px body Q it h₂)))
    (hs : ∀ x, foldedSetIterable iter env x = pure x := by intro _; rfl) : Ev prog w A s₀ (exec (.For (.Name x px) iter body [] pos) env) h Q := fun _ =>
  wpAny_For (H.use fun _ _ _ q => Ev.use q fun _ _ tk' q => codeAny_mono (q tk') fun r s' z => by
    cases r with
    | ok f => exact z
    | error e => exact z.elim) hs

/-- an object that is the iterator's alone changes -/
theorem St.iter {L : Addr} {ps : List (Str × Value)} {news : List (Addr × (Obj → Prop))} {h' : Heap} {I : Addr} {P : Obj → Prop} {o : Obj} (S : St g L ps ((I, P) :: news) h) (hk : ∀ b o, b ∉ [I] → h.get? b = some o → h'.get? b = some o) (ho : h'.get? I = some o) :
    St g L ps ((I, (· = o)) :: news) h' := S.upd 0 rfl (fun b o hb e => hk b o (by simpa using hb) e) ⟨o, ho, rfl⟩
theorem St.tail {L : Addr} {ps : List (Str × Value)} {p} {news : List (Addr × (Obj → Prop))} (S : St g L ps (p :: news) h) : St g L ps news h := S.sub (List.sublist_cons_self _ _)

theorem St.without {L : Addr} {ps : List (Str × Value)} {news : List (Addr × (Obj → Prop))} {h' : Heap} {I : Addr} {P : Obj → Prop} (S : St g L ps ((I, P) :: news) h) (hk : ∀ b o, b ∉ [I] → h.get? b = some o → h'.get? b = some o) : St g L ps news h' := by
  obtain ⟨_, hL, hg⟩ := S.new _ (.head _)
  have hn : ∀ p ∈ news, p.1 ∉ [I] := fun p hp q => (List.nodup_cons.mp S.nd).1 (by have := List.mem_singleton.mp q; exact List.mem_map.mpr ⟨p, hp, this⟩)
  obtain ⟨m, ⟨oL, es, ep, hoL, r⟩, hm⟩ := S.loc
  refine ⟨⟨m, ⟨oL, es, ep, hk _ _ (by simpa using Ne.symm hL) hoL, r⟩, hm⟩, fun b o e => hk b o (fun q => ?_) (S.keep b o e), S.off, fun p hp => ?_, (List.nodup_cons.mp S.nd).2⟩
  · rw [List.mem_singleton.mp q, hg] at e; cases e
  · obtain ⟨⟨o, a, b⟩, c, d⟩ := S.new p (.tail _ hp)
    exact ⟨⟨o, hk _ _ (hn p hp) a, b⟩, c, d⟩

theorem loop_walk {x : Str} {px : Pos} {body : List Stmt} {Q : Flow → Heap → Prop} {I : Addr} {fp : List Addr} {n : Nat} {P : Nat → Value → Prop} {W : Nat → Heap → Prop} {C : Type} (ps : C → List (Str × Value)) (news : C → List (Addr × (Obj → Prop)))
    (F : Nat → C → Heap → Prop) (WW : Walks prog w A I fp [I] n P W) (hob : ∀ i h, W i h → ∃ o, h.get? I = some o) (hfp : ∀ b ∈ fp, b = I ∨ ∃ o, g.get? b = some o)
    (c₀ : C) {PI : Obj → Prop} (S : St g env.locals (ps c₀) ((I, PI) :: news c₀) h) (hW : W 0 h) (hF : F 0 c₀ g)
    (turn : ∀ i c v g₁ PI h, i < n → P i v → Kp g g₁ → F i c g₁ → St g₁ env.locals ((x, v) :: ps c) ((I, PI) :: news c) h →
      Ev prog w A s₀ (execs body env) h (Lp (fun h' => ∃ c', St g₁ env.locals (ps c') ((I, PI) :: news c') h' ∧ F (i + 1) c' (now h' env.locals ((I, PI) :: news c'))) Q))
    (done : ∀ c g₁ h, Kp g g₁ → F n c g₁ → St g₁ env.locals (ps c) (news c) h → Q .next h)
    (hk : env.scope.kind = .function := by rfl) (hl : env.kindOf x = some .local := by rfl) (ht : ∀ v, letOwnedTupleGo (.Name x px) (.ref I) v = pure () := by intro _; rfl) :
    LoopAt prog w A s₀ env x px body Q (.ref I) h := by
  intro tk
  refine codeAny_forLoop (fun k s' => ∃ i c g₁ PI h tk, s' = Sh s₀ h tk ∧ Kp g g₁ ∧ F i c g₁ ∧ St g₁ env.locals (ps c) ((I, PI) :: news c) h ∧ W i h ∧ i ≤ n ∧ k = n + 1 - i) ?_ (n + 1) ⟨0, c₀, g, PI, h, tk, rfl, Kp.refl, hF, S, hW, Nat.zero_le _, rfl⟩ ht
  rintro k s' ⟨i, c, g₁, PI, h, tk, rfl, kg, hF, S, hW, hin, rfl⟩
  by_cases hlt : i < n
  · refine WW.item i _ _ _ hlt hW fun v h₁ tk₁ hP hW₁ hk₁ => ?_
    obtain ⟨o₁, ho₁⟩ := hob _ _ hW₁
    have S₁ := S.iter hk₁ ho₁
    refine wpAny_assign_Name (Ev.use (Q := fun _ h' => St g₁ env.locals ((x, v) :: ps c) ((I, (· = o₁)) :: news c) h' ∧ Heap.SameBut env.locals h₁ h') (ev_store2 (A := A) S₁ (fun h' S' hs => ⟨S', hs⟩) hk hl) fun _ h₂ tk₂ q => ?_)
    obtain ⟨S₂, hx⟩ := q
    refine (turn i c v g₁ _ h₂ hlt hP kg hF S₂).use fun f h₃ tk₃ q => ?_
    have fin : (∃ c', St g₁ env.locals (ps c') ((I, (· = o₁)) :: news c') h₃ ∧ F (i + 1) c' (now h₃ env.locals ((I, (· = o₁)) :: news c'))) →
        ∃ m, m < n + 1 - i ∧ ∃ i c g₁ PI h tk, Sh s₀ h₃ tk₃ = Sh s₀ h tk ∧ Kp g g₁ ∧ F i c g₁ ∧ St g₁ env.locals (ps c) ((I, PI) :: news c) h ∧ W i h ∧ i ≤ n ∧ m = n + 1 - i := by
      rintro ⟨c', S₃, hF₃⟩
      refine ⟨n + 1 - (i + 1), by (first | lia | omega), i + 1, c', _, _, h₃, tk₃, rfl, kg.trans S₃.toNow, hF₃, S₃.atNow, ?_, hlt, rfl⟩
      refine WW.frame _ _ _ hW₁ fun b hb o e => ?_
      rcases hfp b hb with rfl | ⟨o', ho'⟩
      · obtain ⟨o₃, q₁, q₂⟩ := S₃.at (.head _)
        rw [ho₁] at e
        cases e
        rw [q₁, q₂]
      · have q₁ := S₁.keep b o' (kg b o' ho')
        have q₂ := S₃.keep b o' (kg b o' ho')
        rw [q₁] at e
        rw [q₂, e]
    cases f with
    | next => exact fin q
    | cont => exact fin q
    | brk => exact ⟨h₃, tk₃, rfl, q⟩
    | ret v => exact ⟨h₃, tk₃, rfl, q⟩
  · have hin' : i = n := by (first | lia | omega)
    subst hin'
    exact WW.done _ _ _ hW fun h₁ tk₁ hk₁ => wpAny_execs_nil ⟨h₁, tk₁, rfl, done c g₁ h₁ kg hF (S.without hk₁)⟩

-- ranges
section
variable {a b c : Int} {t u v : Tok}
theorem ev_range1 {Q : Value → Heap → Prop} (q : ∀ h' r t₁ u₁, IsRange h' r 0 b 1 t₁ u u₁ → Kp h h' → Q (.ref r) h') : Ev prog w A s₀ (call (.type "range") [.int b u]) h Q := fun tk =>
  call_range_1 ⟨_, _, rfl, q _ _ _ _ (Heap.get?_push_size _ rfl) kp_push⟩
theorem ev_range2 {Q : Value → Heap → Prop} (q : ∀ h' r t₁, IsRange h' r a b 1 t u t₁ → Kp h h' → Q (.ref r) h') : Ev prog w A s₀ (call (.type "range") [.int a t, .int b u]) h Q := fun tk =>
  call_range_2 ⟨_, _, rfl, q _ _ _ (Heap.get?_push_size _ rfl) kp_push⟩
theorem ev_range3 {Q : Value → Heap → Prop} (hc : c ≠ 0) (hs : c.natAbs < 1000) (q : ∀ h' r, IsRange h' r a b c t u v → Kp h h' → Q (.ref r) h') : Ev prog w A s₀ (call (.type "range") [.int a t, .int b u, .int c v]) h Q := fun tk =>
  call_range_3 hc ⟨_, _, rfl, q _ _ (Heap.get?_push_size _ rfl) kp_push⟩ (.inl (PyProof.noPylong_small (by (first | lia | omega))))
/-- a new object that every frame may take onto its ledger -/
abbrev Grow (h h' : Heap) (I : Addr) : Prop := ∀ g L ps news, St g L ps news h → St g L ps ((I, fun _ => True) :: news) h'
theorem grow_push {o : Obj} (hf : o.isFreed = false := by rfl) : Grow h (h.push o) h.objs.size := fun _ _ _ _ S => S.push o (P := fun _ => True) trivial hf
theorem ev_iter_range {r : Addr} {Q : Value → Heap → Prop} (hr : IsRange h r a b c t u v) (hsmall : Builtin.Range.small a b c = true)
    (q : ∀ h' I, IsRangeIter h' I a (Builtin.Range.rangeSize a b c) c → Grow h h' I → Q (.ref I) h') : Ev prog w A s₀ (pyIter (.ref r)) h Q := fun tk =>
  wpAny_pyIter_range (s := Sh s₀ h tk) hr hsmall ⟨_, _, rfl, q _ _ (Heap.get?_push_size _ rfl) grow_push⟩
theorem loop_range {x : Str} {px : Pos} {body : List Stmt} {Q : Flow → Heap → Prop} {n : Nat} {k : Int} {I : Addr} {C : Type} (ps : C → List (Str × Value)) (news : C → List (Addr × (Obj → Prop)))
    (F : Nat → C → Heap → Prop) (hh : A.handled = none) (c₀ : C) {PI : Obj → Prop} (S : St g env.locals (ps c₀) ((I, PI) :: news c₀) h) (hI : IsRangeIter h I a k c) (hk' : k = (n : Int)) (hF : F 0 c₀ g)
    (turn : ∀ i cc t g₁ PI h, i < n → Kp g g₁ → F i cc g₁ → St g₁ env.locals ((x, .int (a + i * c) t) :: ps cc) ((I, PI) :: news cc) h →
      Ev prog w A s₀ (execs body env) h (Lp (fun h' => ∃ c', St g₁ env.locals (ps c') ((I, PI) :: news c') h' ∧ F (i + 1) c' (now h' env.locals ((I, PI) :: news c'))) Q))
    (done : ∀ cc g₁ h, Kp g g₁ → F n cc g₁ → St g₁ env.locals (ps cc) (news cc) h → Q .next h)
    (hk : env.scope.kind = .function := by rfl) (hl : env.kindOf x = some .local := by rfl) :
    LoopAt prog w A s₀ env x px body Q (.ref I) h := by
  subst hk'
  refine loop_walk ps news F (Walks.range hh I a c n) (fun i h e => ⟨_, e⟩) (fun b hb => .inl (List.mem_singleton.mp hb)) c₀ S ?_ hF ?_ done hk hl
  · show IsRangeIter _ _ _ _ _
    simpa using hI
  · rintro i cc v g₁ PI h hi ⟨t, rfl⟩ kg hF S
    exact turn i cc t g₁ PI h hi kg hF S
end
end

section
variable {prog : Program} {w : World} {A : Around} {s₀ : Shared} {g h : Heap} {env : Env}
theorem sub_ri_reversed : isSubtype (.type "range_iterator") (.type "reversed") = pure false := by rw [isSubtype_type]; kernel_rfl

theorem call_range_reversed {E : Value → Shared → Prop} {s : Shared} {r : Addr} {b : Int} {t u v : Tok} {Q : Value → Shared → Prop} (hr : IsRange s.heap r 0 b 1 t u v) (hb : 0 ≤ b) (hb' : b < 2 ^ 60)
    (q : Q (.ref s.heap.objs.size) { s with heap := s.heap.push { cls := .type "range_iterator", data := .fields #[rawInt (b - 1), rawInt b, rawInt (-1)] } }) :
    wpAny (model prog w) A (call (.builtin "range.__reversed__") [.ref r]) Q E s := by
  have hT : s.TypeIs (.ref r) "range" := ⟨_, hr, rfl⟩
  refine wpAny_call_entry F.slot_range_reversed hT F.entry_range_reversed ?_ (F.args_range_reversed_1 _)
  have hz : Builtin.Range.rangeSize 0 b 1 = b := by
    unfold Builtin.Range.rangeSize
    simp only [show (1 : Int) > 0 from by decide, if_true]
    split <;> (first | lia | omega)
  have hs : (Builtin.Range.rangeFitsLong 0 && Builtin.Range.rangeFitsLong b && Builtin.Range.rangeFitsLong 1 && Builtin.Range.rangeFitsLong (-1) && Builtin.Range.rangeFitsLong (0 - 1) && Builtin.Range.rangeFitsLong b) = true := by
    have : Builtin.Range.rangeFitsLong b = true := by unfold Builtin.Range.rangeFitsLong; simp; (first | lia | omega)
    rw [this]
    decide
  obtain ⟨hp, g, d, tk, os⟩ := s
  wp_walk using wpAny_loadPart' hr
  rw [hz, hs, if_neg (by decide), if_pos rfl]
  refine wpAny_bind (wpAny_newObj_type (wpAny_pure ⟨_, rfl, ?_⟩))
  have e : (0 + (b - 1) * 1 : Int) = b - 1 := by (first | lia | omega)
  rw [e]
  exact q

theorem ev_reversed_range {r : Addr} {b : Int} {t u v : Tok} {Q : Value → Heap → Prop} (hr : IsRange h r 0 b 1 t u v) (hb : 0 ≤ b) (hb' : b < 2 ^ 60)
    (q : ∀ h' I, IsRangeIter h' I (b - 1) b (-1) → Grow h h' I → Q (.ref I) h') :
    Ev prog w A s₀ (call (.type "reversed") [.ref r]) h Q := fun tk => by
  refine callType_other (s := Sh s₀ h tk) (U := "range_iterator") (Q₁ := fun obj s₁ => obj = .ref h.objs.size ∧ s₁ = Sh s₀ (h.push { cls := .type "range_iterator", data := .fields #[rawInt (b - 1), rawInt b, rawInt (-1)] }) tk) (by decide +kernel) F.create_reversed ⟨_, _, F.mro_reversed⟩ F.made_reversed sub_ri_reversed (F.typeCall_reversed_1 _) ?_ ?_
  · refine codeAny_of_tree ?_
    show wpAny _ A.in1.in1 (do checkBuiltinCall "reversed.__new__" ⟨[.type "reversed", .ref r], []⟩; again (.builtin "reversed.__new__" ⟨[.type "reversed", .ref r], []⟩)) _ _ _
    refine wpAny_bind (wpAny_of_eq (F.newCall_reversed_1 _) (wpAny_pure ⟨plainId_quiet F.plain_reversed_new _, codeAny_builtin F.entry_reversed_new ?_⟩))
    rw [Around.under_plainId F.plain_reversed_new _]
    unfold Builtin.«reversed.__new__»
    refine wpAny_bind (wpAny_of_eq (newClass_reversed _) ?_)
    dsimp only
    refine wpAny_bind (wpAny_of_eq (a := ()) (by first | rfl | kernel_rfl) ?_)
    refine wpAny_bind (wpAny_of_eq (a := ()) (by first | rfl | kernel_rfl) ?_)
    try dsimp only
    have hT : (Sh s₀ h tk).TypeIs (.ref r) "range" := ⟨_, hr, rfl⟩
    refine wpAny_bind (wpAny_specialOf hT F.slot_range_reversed.lookup ?_)
    try dsimp only
    refine wpAny_bind (wpAny_of_eq (F.slot_range_reversed.bind _) ?_)
    try dsimp only
    first
    | rw [if_neg (show ¬ ((Value.builtin "range.__reversed__" == Value.none) = true) from Bool.false_ne_true)]
    | (show wpAny _ _ (if (Value.builtin "range.__reversed__" == Value.none) = true then _ else _) _ _ _; rw [if_neg (show ¬ ((Value.builtin "range.__reversed__" == Value.none) = true) from Bool.false_ne_true)])
    refine wpAny_bind (wpAny_rule ?_)
    refine wpAny_bind (m := runValue (.call (.builtin "range.__reversed__") ⟨[.ref r], []⟩)) (show wpAny _ _ (call (.builtin "range.__reversed__") [.ref r]) _ _ _ from call_range_reversed hr hb hb' ?_)
    first
    | exact wpAny_pure ⟨rfl, rfl⟩
    | exact wpAny_bind (wpAny_pure (wpAny_pure ⟨rfl, rfl⟩))
  · rintro obj s₁ ⟨rfl, rfl⟩
    exact ⟨⟨_, Heap.get?_push_size _ rfl, rfl⟩, _, _, rfl, q _ _ (Heap.get?_push_size _ rfl) grow_push⟩
theorem ev_iter_ri {I : Addr} {x left step : Int} {Q : Value → Heap → Prop} (hit : IsRangeIter h I x left step) (q : Q (.ref I) h) : Ev prog w A s₀ (pyIter (.ref I)) h Q := fun tk =>
  wpAny_pyIter_rangeiter (s := Sh s₀ h tk) hit ⟨_, _, rfl, q⟩
/-- a for over a list -/
theorem ev_iter_list {l : Addr} {vs : List Value} {Q : Value → Heap → Prop} (hl : h.IsList l vs.toArray) (q : ∀ h' I, h'.IsListIter I l 0 → Kp h h' → I ≠ l → Grow h h' I → Q (.ref I) h') : Ev prog w A s₀ (pyIter (.ref l)) h Q := fun tk =>
  wpAny_pyIter_list (s := Sh s₀ h tk) hl ⟨_, _, rfl, q _ _ ⟨_, Heap.get?_push_size _ rfl, rfl, rfl⟩ kp_push (by obtain ⟨o, ho, _⟩ := hl; exact Nat.ne_of_gt (Heap.lt_size ho)) grow_push⟩
/-- a range's iterator, whatever its size -/
theorem ev_iter_any {r : Addr} {a b c : Int} {t u v : Tok} {n : Nat} {Q : Value → Heap → Prop} (hr : IsRange h r a b c t u v) (hn : Builtin.Range.rangeSize a b c = (n : Int))
    (q : ∀ h' I (W : Nat → Heap → Prop), (∀ A' : Around, A'.handled = none → Walks prog w A' I [I] [I] n (fun i v => ∃ t, v = .int (a + i * c) t) W) → W 0 h' → (∀ i h, W i h → ∃ o, h.get? I = some o) → Grow h h' I → Q (.ref I) h') :
    Ev prog w A s₀ (pyIter (.ref r)) h Q := fun tk => by
  cases hs : Builtin.Range.small a b c with
  | true =>
    refine wpAny_pyIter_range (s := Sh s₀ h tk) hr hs ⟨_, _, rfl, q _ h.objs.size _ (fun A' hh => Walks.range hh h.objs.size a c n) ?_ (fun i h e => ⟨_, e⟩) grow_push⟩
    show IsRangeIter _ _ _ _ _
    rw [hn]
    simpa using Heap.get?_push_size _ rfl
  | false =>
    refine wpAny_pyIter_longrange (s := Sh s₀ h tk) hr hs ⟨_, _, rfl, q _ h.objs.size _ (fun A' hh => Walks.longrange hh h.objs.size a c n) ?_ (fun i h e => ⟨_, e⟩) grow_push⟩
    rw [hn]
    simpa using Heap.get?_push_size _ rfl
theorem rangeSize_up {a b : Int} : Builtin.Range.rangeSize a b 1 = ((b - a).toNat : Int) := by
  unfold Builtin.Range.rangeSize
  simp only [show (1 : Int) > 0 from by decide, if_true]
  split <;> (first | lia | omega)
theorem rangeSize_down {a b : Int} : Builtin.Range.rangeSize a b (-1) = ((a - b).toNat : Int) := by
  unfold Builtin.Range.rangeSize
  rw [if_neg (by decide), Int.neg_neg]
  split <;> (first | lia | omega)
end

/-- the dict of an object by what it holds -/
noncomputable def DA (ats : List (Str × Value)) (o : Obj) : Prop := ∃ es n, o = dictOf es n ∧ es.length ≤ ats.length ∧ es.any (·.refKey) = false ∧ ∀ name, (es.find? (·.key.isStr name)).map (·.val) = ats.lookup name
noncomputable def IN (C dx : Addr) (o : Obj) : Prop := o = instObj C dx
theorem da_nil : DA [] (dictOf [] 0) := ⟨[], 0, rfl, Nat.le_refl _, rfl, fun _ => rfl⟩
theorem isStr_eq {k : Value} {a b : Str} (h : k.isStr a = true) : k.isStr b = (a == b) := by
  cases k <;> simp [Value.isStr] at h ⊢
  rename_i s _
  subst h
  rfl
theorem putL_length (name : Str) (hsh : Int) (key v : Value) : ∀ es : List DictEntry, (putL name hsh key v es).length ≤ es.length + 1
  | [] => by simp [putL]
  | e :: r => by
    unfold putL
    split
    · simp
    · have := putL_length name hsh key v r
      simp; (first | lia | omega)
theorem putL_ref (name : Str) (hsh : Int) (tk : Tok) (v : Value) : ∀ es : List DictEntry, es.any (·.refKey) = false → (putL name hsh (.str name tk) v es).any (·.refKey) = false
  | [], _ => rfl
  | e :: r, h => by
    simp only [List.any_cons, Bool.or_eq_false_iff] at h
    unfold putL
    split
    · simp only [List.any_cons, Bool.or_eq_false_iff]; exact h
    · simp only [List.any_cons, Bool.or_eq_false_iff]; exact ⟨h.1, putL_ref name hsh tk v r h.2⟩
theorem putL_get (name : Str) (hsh : Int) (tk : Tok) (v : Value) (x : Str) : ∀ es : List DictEntry, ((putL name hsh (.str name tk) v es).find? (·.key.isStr x)).map (·.val) = if x = name then some v else (es.find? (·.key.isStr x)).map (·.val)
  | [] => by
    unfold putL
    simp only [List.find?_cons, List.find?_nil, Value.isStr]
    by_cases h : x = name
    · subst h; simp
    · have : (name == x) = false := by simpa using Ne.symm h
      simp [this, h]
  | e :: r => by
    unfold putL
    by_cases he : e.key.isStr name = true
    · rw [if_pos he]
      simp only [List.find?_cons]
      rw [isStr_eq (b := x) he]
      by_cases h : x = name
      · subst h; simp
      · have : (name == x) = false := by simpa using Ne.symm h
        simp [this, h]
    · rw [if_neg he]
      simp only [List.find?_cons]
      by_cases hx : e.key.isStr x = true
      · have h : x ≠ name := fun q => he (q ▸ hx)
        simp [hx, h]
      · simp only [hx]
        exact putL_get name hsh tk v x r
theorem lookup_cons_if {x name : Str} {v : Value} {ats : List (Str × Value)} : ((name, v) :: ats).lookup x = if x = name then some v else ats.lookup x := by
  rw [List.lookup_cons]
  by_cases h : x = name
  · subst h; simp
  · have : (x == name) = false := by simpa using h
    simp [this, h]

section
variable {g h h' : Heap} {L d : Addr} {ps ps' : List (Str × Value)} {news news' : List (Addr × (Obj → Prop))}
/-- as upd, the frame's own dict told by its map alone -/
theorem St.upd2 (S : St g L ps news h) (i : Nat) {P P' : Obj → Prop} (hi : news[i]? = some (d, P)) (hs : ∀ b o, b ≠ d → b ≠ L → h.get? b = some o → h'.get? b = some o) (hL : ∀ m, h.Ns L m → h'.Ns L m) (ho : ∃ o, h'.get? d = some o ∧ P' o) : St g L ps (news.set i (d, P')) h' := by
  have hm : (d, P) ∈ news := List.mem_of_getElem? hi
  obtain ⟨_, dL, dg⟩ := S.new _ hm
  obtain ⟨m, hn, hb⟩ := S.loc
  refine ⟨⟨m, hL m hn, hb⟩, fun b o e => hs b o (fun q => by rw [q, dg] at e; cases e) (fun q => by rw [q, S.off] at e; cases e) (S.keep b o e), S.off, fun p hp => ?_, ?_⟩
  · by_cases hpd : p.1 = d
    · have : p = (d, P') := by
        obtain ⟨j, hj, e⟩ := List.mem_iff_getElem.mp hp
        by_cases hij : i = j
        · subst hij; rw [List.getElem_set_self] at e; exact e.symm
        · rw [List.getElem_set_ne hij] at e
          rw [List.length_set] at hj
          have hi' : i < news.length := (List.getElem?_eq_some_iff.mp hi).1
          have e2 : news[i] = (d, P) := (List.getElem?_eq_some_iff.mp hi).2
          exact absurd ((List.getElem_inj (xs := news.map (·.1)) (h₀ := by simpa using hi') (h₁ := by simpa using hj) S.nd).mp (by simp [e, e2, hpd])) hij
      subst this
      exact ⟨ho, dL, dg⟩
    · have : p ∈ news := by
        rcases List.mem_or_eq_of_mem_set hp with q | q
        · exact q
        · exact absurd (by rw [q]) hpd
      obtain ⟨⟨o, a, b⟩, c, e⟩ := S.new p this
      exact ⟨⟨o, hs _ _ hpd c a, b⟩, c, e⟩
  · have : (news.set i (d, P')).map (·.1) = news.map (·.1) := by
      rw [List.map_set]
      have e2 : news[i]'(List.getElem?_eq_some_iff.mp hi).1 = (d, P) := (List.getElem?_eq_some_iff.mp hi).2
      apply List.ext_getElem
      · simp
      · intro j h1 h2
        by_cases hij : i = j
        · subst hij; simp [e2]
        · simp [List.getElem_set_ne hij]
    rw [this]; exact S.nd
end

/-- the whole heap, as the library's ledger over nothing -/
theorem all_news {h : Heap} {L dx : Addr} {od : Obj} (hd : h.get? dx = some od) (hne : dx ≠ L) : ∃ post, News {} L h ((dx, od) :: post) ∧ (∀ p ∈ post, p.1 ≠ dx) ∧ ∀ b o, h.get? b = some o → b ≠ L → b ≠ dx → (b, o) ∈ post := by
  refine ⟨(List.range h.objs.size).filterMap fun b => if b = L ∨ b = dx then none else (h.get? b).map fun o => (b, o), ?_, ?_, ?_⟩
  · intro p hp
    rcases List.mem_cons.mp hp with rfl | hp
    · exact ⟨hd, hne, rfl⟩
    · obtain ⟨b, _, e⟩ := List.mem_filterMap.mp hp
      split at e
      · cases e
      · rename_i hb
        simp only [not_or] at hb
        obtain ⟨o, ho, rfl⟩ := Option.map_eq_some_iff.mp e
        exact ⟨ho, hb.1, rfl⟩
  · intro p hp
    obtain ⟨b, _, e⟩ := List.mem_filterMap.mp hp
    split at e
    · cases e
    · rename_i hb
      simp only [not_or] at hb
      obtain ⟨o, ho, rfl⟩ := Option.map_eq_some_iff.mp e
      exact hb.2
  · intro b o e h1 h2
    refine List.mem_filterMap.mpr ⟨b, List.mem_range.mpr (Heap.lt_size e), ?_⟩
    rw [if_neg (by simp [h1, h2]), e]
    rfl

section
variable {prog : Program} {w : World} {A : Around} {s₀ : Shared} {g h : Heap} {env : Env} {ps : List (Str × Value)} {news : List (Addr × (Obj → Prop))} {K : Frag} {p : Program} {L x C dx f : Addr} {ats : List (Str × Value)} {name : Str} {v : Value}

theorem ev_assign_attr {o attr pos' value pos} {Q : Flow → Heap → Prop}
    (H : Ev prog w A s₀ (eval value env) h (fun v h₁ => Ev prog w A s₀ (eval o env) h₁ (fun ov h₂ => Ev prog w A s₀ (setAttr ov attr v) h₂ (fun _ h₃ => Q .next h₃))))
    (hs : swapsWith value (some (.Attribute o attr pos')) pos.line env = pure false := by rfl) : Ev prog w A s₀ (exec (.Assign [.Attribute o attr pos'] value pos) env) h Q :=
  fun _ => plainObj_wpAny_Assign_Attribute (H.use fun _ _ _ q => Ev.use q fun _ _ tk' q => q tk') hs

theorem inst_at {od : Obj} (hx : ∃ o, h.get? x = some o ∧ IN C dx o) (hd : h.get? dx = some od) : InstAt h x (instObj C dx) C (some od) := by
  obtain ⟨o, ho, rfl⟩ := hx
  exact ⟨ho, rfl, rfl, hd⟩

theorem ev_set_attr {Q : Unit → Heap → Prop} (i : Nat) (X : K.In h) (S : St g L ps news h) (hi : news[i]? = some (dx, DA ats)) (hx : ∃ o, h.get? x = some o ∧ IN C dx o)
    (hs : findIn K (.ref C) "__setattr__" = some (some (.builtin "object.__setattr__"))) (hp : plainOver K C = true) (ht : takerIn K C name = some none) (hh : hasDictIn K C = true) (hz : ats.length < 100)
    (q : ∀ h', St g L ps (news.set i (dx, DA ((name, v) :: ats))) h' → Q () h') : Ev prog w A s₀ (setAttr (.ref x) name v) h Q := fun tk => by
  obtain ⟨⟨o, ho, es, n, rfl, hl1, hl2, hl3⟩, hdL, hdg⟩ := S.new _ (List.mem_of_getElem? hi)
  dsimp only at ho hdL hdg
  obtain ⟨m, hn, hb⟩ := S.loc
  obtain ⟨post, N, n1, n2⟩ := all_news ho hdL
  have F : Fr {} L h m := ⟨hn, fun b o e => (by cases e), Nat.zero_le _⟩
  have hget : (getL name es).isSome = true := by
    unfold getL
    split
    · rfl
    · rw [if_neg (by rw [hl2]; exact Bool.false_ne_true)]; rfl
  refine set_plain (s := Sh s₀ h tk) X (inst_at hx ho) hs ?_
  refine osa_dict (s := Sh s₀ h (tk + 1)) (od' := dictOf (putL name (PyData.keyHash w.params name) (.str name (tk + 1)) v es) (putN name es n)) (pre := []) (post := post) F N X (inst_at hx ho) rfl hp ht hh hget (fun _ h => nomatch h) n1 (putName_dict ..) rfl (Nat.le_trans (putL_length ..) (by (first | lia | omega))) fun h' F' N' => ?_
  refine ⟨h', _, rfl, q h' (S.upd2 i hi (fun b o h1 h2 e => (N' (b, o) (.tail _ (n2 b o e h2 h1))).1) (fun m' hm' => ?_) ⟨_, (N' _ (.head _)).1, _, _, rfl, ?_, ?_, ?_⟩)⟩
  · have : m' = m := by
      obtain ⟨o1, es1, ep1, a1, b1, _, c1⟩ := hm'
      obtain ⟨o2, es2, ep2, a2, b2, _, c2⟩ := hn
      rw [a1] at a2; cases a2
      rw [b1] at b2; cases b2
      funext y
      rw [← c1, ← c2]
    rw [this]; exact F'.ns
  · have := putL_length name (PyData.keyHash w.params name) (.str name (tk + 1)) v es
    simp only [List.length_cons]; (first | lia | omega)
  · exact putL_ref _ _ _ _ _ hl2
  · intro y
    rw [putL_get, lookup_cons_if, hl3]

theorem ev_get_attr {expr : Bool} {attr : Option Value} {Q : Value → Heap → Prop} (X : K.In h) (hx : ∃ o, h.get? x = some o ∧ IN C dx o) (hd : ∃ o, h.get? dx = some o ∧ DA ats o) (hv : ats.lookup name = some v)
    (hg : plainGet K C name = true) (hh : hasDictIn K C = true) (ha : findIn K (.ref C) name = some attr) (hn : noGet K attr = true) (hv' : handedIn v = true) (q : Q v h) : Ev prog w A s₀ (getAttr (.ref x) name expr) h Q := fun tk => by
  obtain ⟨o, ho, es, n, rfl, hl1, hl2, hl3⟩ := hd
  refine get_value (s := Sh s₀ h tk) X (inst_at hx ho) (plainGet_of hg).1 (findObj_own hh ha hn ?_) hv' ⟨_, _, rfl, q⟩
  show getL name es = _
  have := hl3 name
  rw [hv] at this
  unfold getL
  cases e : es.find? (·.key.isStr name) with
  | none => rw [e] at this; cases this
  | some en => rw [e] at this; simp only [Option.map_some] at this; simp only [this]

theorem ev_get_method {pl : Sem Bool} {Q : Value × List Value → Heap → Prop} (X : K.In h) (hx : ∃ o, h.get? x = some o ∧ IN C dx o) (hd : ∃ o, h.get? dx = some o ∧ DA ats o) (hv : ats.lookup name = none)
    (hg : plainGet K C name = true) (hf : findIn K (.ref C) name = some (some (.ref f))) (ht : isFn K (.ref f) = true) (q : Q (.ref f, [.ref x]) h) : Ev prog w A s₀ (getMethod (.ref x) name pl) h Q := fun tk => by
  obtain ⟨o, ho, es, n, rfl, hl1, hl2, hl3⟩ := hd
  refine method_fn (s := Sh s₀ h tk) X (inst_at hx ho) (plainGet_of hg).1 (plainGet_of hg).2 hf (beq_iff_eq.mp ht) ?_ ⟨_, _, rfl, q⟩
  show (getL name es).map (·.isSome) = _
  have := hl3 name
  rw [hv] at this
  unfold getL
  cases e : es.find? (·.key.isStr name) with
  | none => simp only [hl2]; rfl
  | some en => rw [e] at this; cases this

theorem ev_cls_val {mc a : Value} {expr : Bool} {Q : Value → Heap → Prop} (X : K.In h) (hr : readsIn K C mc = true) (e : findCls K (.ref C) mc name = some (.val a)) (hh : handedIn a = true) (q : Q a h) : Ev prog w A s₀ (getAttr (.ref C) name expr) h Q := fun tk =>
  cls_value (s := Sh s₀ h tk) X hr e hh ⟨_, _, rfl, q⟩

/-- making an object of a class -/
theorem ev_make {rest : List Value} {Q : Value → Heap → Prop} (X : K.In h) (hm : makesIn K C = true) (hi : findIn K (.ref C) "__init__" = some (some (.ref f))) (hf : isFn K (.ref f) = true)
    (H : ∀ h' x dx, Kp h h' → h'.get? x = some (instObj C dx) → h'.get? dx = some (dictOf [] 0) → h.get? x = none → h.get? dx = none → x ≠ dx →
      EvC prog w (A.under (.builtin "type.__call__" ⟨.ref C :: rest, []⟩)) s₀ (.call (.ref f) ⟨.ref x :: rest, []⟩) h' (fun v h'' => v = .none ∧ Q (.ref x) h'')) :
    Ev prog w A s₀ (call (.ref C) rest) h Q := fun tk => by
  have n1 : h.get? h.objs.size = none := by
    cases q : h.get? h.objs.size with
    | none => rfl
    | some o' => exact absurd (Heap.lt_size q) (Nat.lt_irrefl _)
  have n2 : h.get? (h.objs.size + 1) = none := by
    cases q : h.get? (h.objs.size + 1) with
    | none => rfl
    | some o' => exact absurd (Heap.lt_size q) (Nat.not_lt.mpr (Nat.le_succ _))
  have e1 : (h.push emptyDict).objs.size = h.objs.size + 1 := Heap.size_push _ _
  refine wpAny_call (make_core (makes_of X hm) (looks_findIn X hi) (fun self => bind_fn X self (beq_iff_eq.mp hf)) (.inl rfl) ?_)
  have := H ((h.push emptyDict).push (instObj C h.objs.size)) (h.objs.size + 1) h.objs.size (kp_push.trans kp_push) (by rw [← e1]; exact Heap.get?_push_size _ rfl) (kp_push _ _ (Heap.get?_push_size _ rfl)) n2 n1 (Nat.succ_ne_self _) tk
  refine codeAny_mono this fun r s' z => ?_
  rcases r with e | f
  · exact z.elim
  · cases f with
    | ret v =>
      obtain ⟨h', tk', rfl, rfl, q⟩ := z
      exact ⟨rfl, h', tk', rfl, q⟩
    | next => exact z
    | brk => exact z
    | cont => exact z
end

/-- all stands but the frame's dict, which holds the same names -/
structure KpL (L : Addr) (h h' : Heap) : Prop where
  rest : ∀ b o, b ≠ L → h.get? b = some o → h'.get? b = some o
  own : ∀ m, h.Ns L m → h'.Ns L m
section
variable {g h h' : Heap} {L d : Addr} {ps ps' : List (Str × Value)} {news news' : List (Addr × (Obj → Prop))}
theorem St.grownL (S : St g L ps news h) (k : KpL L h h') : St g L ps news h' :=
  ⟨let ⟨m, a, b⟩ := S.loc; ⟨m, k.own m a, b⟩, fun b o e => k.rest b o (fun q => by rw [q, S.off] at e; cases e) (S.keep b o e), S.off, fun p hp => let ⟨⟨o, a, b⟩, c, d⟩ := S.new p hp; ⟨⟨o, k.rest _ _ c a, b⟩, c, d⟩, S.nd⟩
/-- a new object at a place where none stood -/
theorem St.add (S : St g L ps news h) (k : KpL L h h') {a : Addr} {o : Obj} {P : Obj → Prop} (hn : h.get? a = none) (ho : h'.get? a = some o) (hP : P o) : St g L ps ((a, P) :: news) h' := by
  have S' := S.grownL k
  refine ⟨S'.loc, S'.keep, S'.off, fun p hp => ?_, ?_⟩
  · rcases List.mem_cons.mp hp with rfl | hp
    · refine ⟨⟨o, ho, hP⟩, fun q => ?_, ?_⟩
      · obtain ⟨m, ⟨oL, _, _, hL, _⟩, _⟩ := S.loc
        dsimp only at q
        rw [q, hL] at hn; cases hn
      · cases hq : g.get? a with
        | none => rfl
        | some o' => rw [S.keep _ _ hq] at hn; cases hn
    · exact S'.new p hp
  · refine List.nodup_cons.mpr ⟨fun hm => ?_, S.nd⟩
    obtain ⟨p, hp, e⟩ := List.mem_map.mp hm
    obtain ⟨⟨o', h1, _⟩, _⟩ := S.new p hp
    rw [e, hn] at h1; cases h1
theorem none_size (h : Heap) : h.get? h.objs.size = none := by
  cases q : h.get? h.objs.size with
  | none => rfl
  | some o' => exact absurd (Heap.lt_size q) (Nat.lt_irrefl _)
theorem ns_unique {m m' : Str → Option Value} (a : h.Ns L m) (b : h.Ns L m') : m = m' := by
  obtain ⟨o1, es1, ep1, a1, b1, _, c1⟩ := a
  obtain ⟨o2, es2, ep2, a2, b2, _, c2⟩ := b
  rw [a1] at a2; cases a2
  rw [b1] at b2; cases b2
  funext y
  rw [← c1, ← c2]
/-- the library's frame and ledger over nothing -/
theorem lift_news (S : St g L ps news h) : ∃ m nw, Fr {} L h m ∧ News {} L h nw ∧ (∀ h', Fr {} L h' m → News {} L h' nw → KpL L h h') ∧ ∀ b o, h.get? b = some o → b ≠ L → (b, o) ∈ nw := by
  obtain ⟨m, hn, _⟩ := S.loc
  have hm : ∀ b o, h.get? b = some o → b ≠ L → (b, o) ∈ (List.range h.objs.size).filterMap fun b => if b = L then none else (h.get? b).map fun o => (b, o) :=
    fun b o e hb => List.mem_filterMap.mpr ⟨b, List.mem_range.mpr (Heap.lt_size e), by rw [if_neg hb, e]; rfl⟩
  refine ⟨m, (List.range h.objs.size).filterMap fun b => if b = L then none else (h.get? b).map fun o => (b, o), ⟨hn, fun b o e => (by cases e), Nat.zero_le _⟩, ?_, ?_, hm⟩
  · intro p hp
    obtain ⟨b, _, e⟩ := List.mem_filterMap.mp hp
    split at e
    · cases e
    · rename_i hb
      obtain ⟨o, ho, rfl⟩ := Option.map_eq_some_iff.mp e
      exact ⟨ho, hb, rfl⟩
  · intro h' F' N'
    refine ⟨fun b o hb e => (N' (b, o) (hm b o e hb)).1, fun m' hm' => ?_⟩
    rw [ns_unique hm' hn]; exact F'.ns
end

section
variable {prog : Program} {w : World} {A : Around} {s₀ : Shared} {g h : Heap} {env : Env} {ps : List (Str × Value)} {news : List (Addr × (Obj → Prop))} {L a b l : Addr} {vs ws : List Value}

theorem ev_nl {Q : Value → Heap → Prop} (S : St g L ps news h) (hs : vs.length < 2 ^ 24) (q : ∀ h' D, St g L ps ((D, LS vs) :: news) h' → Q (.ref D) h') : Ev prog w A s₀ (newList vs) h Q :=
  ev_newList hs (q _ _ (S.push { cls := .type "list", data := .seq vs.toArray } (P := LS vs) ⟨_, rfl⟩))
theorem ev_nt {Q : Value → Heap → Prop} (hs : vs.length < 2 ^ 24) (q : ∀ h' a, Kp h h' → IsTup h' a vs.toArray → h.get? a = none → Q (.ref a) h') : Ev prog w A s₀ (newTuple vs) h Q :=
  ev_newTuple hs (q _ _ kp_push tup_push (none_size h))
theorem ev_add_lists {Q : Value → Heap → Prop} (S : St g L ps news h) (hl : h.IsList a vs.toArray) (hb : h.IsList b ws.toArray) (hs : vs.length + ws.length < 2 ^ 20)
    (q : ∀ h' D, St g L ps ((D, LS (vs ++ ws)) :: news) h' → Q (.ref D) h') : Ev prog w A s₀ (binaryOp .Add (.ref a) (.ref b)) h Q := fun tk => by
  obtain ⟨m, nw, F, N, k, hm⟩ := lift_news S
  refine add_lists (s := Sh s₀ h tk) F N hl hb (fun h' F' N' => ⟨h', _, rfl, q h' _ (S.add (k h' F' fun p hp => N' p (.tail _ hp)) (none_size h) (N' _ (.head _)).1 ⟨_, rfl⟩)⟩) (Nat.le_trans (Nat.le_of_lt hs) (by decide))

theorem ev_rep_list {x : Int} {u : Tok} {v : Value} {Q : Value → Heap → Prop} (S : St g L ps news h) (hl : h.IsList a [v].toArray) (h0 : 0 ≤ x) (h1 : x ≤ 200)
    (q : ∀ h' D, St g L ps ((D, LS (List.replicate x.toNat v)) :: news) h' → Q (.ref D) h') : Ev prog w A s₀ (binaryOp .Mult (.ref a) (.int x u)) h Q := fun tk => by
  obtain ⟨m, nw, F, N, k, hm⟩ := lift_news S
  refine KMa.mul (s := Sh s₀ h tk) F N hl (by (first | lia | omega)) (by (first | lia | omega)) (by simp; (first | lia | omega)) (ws := List.replicate x.toNat v) (by
    induction x.toNat with
    | zero => rfl
    | succ n ih => rw [List.replicate_succ, List.flatten_cons, ih]; rfl) (fun D h' F' N' lt => ⟨h', _, rfl, q h' D (S.add (k h' F' fun p hp => N' p (.tail _ hp)) ?_ (N' _ (.head _)).1 ⟨_, rfl⟩)⟩)
  · cases e : h.get? D with
    | none => rfl
    | some o =>
      by_cases hD : D = L
      · exact absurd hD (N' _ (.head _)).2.1
      · exact absurd (lt _ (hm D o e hD)) (Nat.lt_irrefl _)

theorem ev_asg_tuple {elts k tpos value pos} {Q : Flow → Heap → Prop} (H : Ev prog w A s₀ (eval value env) h (fun v h₁ => Ev prog w A s₀ (assign (.Tuple elts k tpos) env v) h₁ (fun _ h₂ => Q .next h₂)))
    (hs : swapsWithSole [.Tuple elts k tpos] value pos.line env = pure false := by rfl) (hw : swappedStores [.Tuple elts k tpos] value env = pure none := by rfl) :
    Ev prog w A s₀ (exec (.Assign [.Tuple elts k tpos] value pos) env) h Q := fun _ => Assign_Tuple (H.use fun _ _ tk' q => q tk') hs hw
theorem ev_unpack {elts k tpos} {t : Addr} {ts : List (Value → Sem Unit)} {Q : Unit → Heap → Prop} (hh : A.handled = none) (ht : IsTup h t vs.toArray) (hn : (assignEach elts env).length = vs.length) (hstar : (assignEach elts env).findIdx? (·.1) = none) (he : (assignEach elts env).map (·.2) = ts)
    (q : ∀ h', Kp h h' → Ev prog w A s₀ (assignInOrder ts vs) h' Q) : Ev prog w A s₀ (assign (.Tuple elts k tpos) env (.ref t)) h Q := fun tk =>
  assign_Tuple_tuple (s := Sh s₀ h tk) hh ht (by simpa using hn) hstar fun h' hx => by
    rw [he]
    exact q h' (fun b o e => hx b o (Nat.ne_of_lt (Heap.lt_size e)) e) tk
theorem ev_aio_nil {xs : List Value} {Q : Unit → Heap → Prop} (q : Q () h) : Ev prog w A s₀ (assignInOrder [] xs) h Q := fun tk => assignInOrder_nil ⟨_, _, rfl, q⟩
theorem ev_aio_cons {t : Value → Sem Unit} {ts : List (Value → Sem Unit)} {x : Value} {xs : List Value} {Q : Unit → Heap → Prop} (H : Ev prog w A s₀ (t x) h (fun _ h₁ => Ev prog w A s₀ (assignInOrder ts xs) h₁ Q)) :
    Ev prog w A s₀ (assignInOrder (t :: ts) (x :: xs)) h Q := fun _ => assignInOrder_cons (H.use fun _ _ tk' q => q tk')
theorem ev_unpack2 {k tpos} {t : Addr} {x₁ x₂ : Str} {p₁ p₂ : Pos} {v₁ v₂ : Value} {Q : Unit → Heap → Prop} (hh : A.handled = none) (ht : IsTup h t [v₁, v₂].toArray)
    (q : ∀ h', Kp h h' → Ev prog w A s₀ (assign (.Name x₁ p₁) env v₁) h' (fun _ h₁ => Ev prog w A s₀ (assign (.Name x₂ p₂) env v₂) h₁ Q)) :
    Ev prog w A s₀ (assign (.Tuple [.Name x₁ p₁, .Name x₂ p₂] k tpos) env (.ref t)) h Q :=
  ev_unpack (ts := [assign (.Name x₁ p₁) env, assign (.Name x₂ p₂) env]) hh ht rfl rfl rfl fun h' k => ev_aio_cons ((q h' k).mono fun _ _ z => ev_aio_cons (Ev.mono z fun _ _ z => ev_aio_nil z))
theorem ev_unpack3 {k tpos} {t : Addr} {x₁ x₂ x₃ : Str} {p₁ p₂ p₃ : Pos} {v₁ v₂ v₃ : Value} {Q : Unit → Heap → Prop} (hh : A.handled = none) (ht : IsTup h t [v₁, v₂, v₃].toArray)
    (q : ∀ h', Kp h h' → Ev prog w A s₀ (assign (.Name x₁ p₁) env v₁) h' (fun _ h₁ => Ev prog w A s₀ (assign (.Name x₂ p₂) env v₂) h₁ (fun _ h₂ => Ev prog w A s₀ (assign (.Name x₃ p₃) env v₃) h₂ Q))) :
    Ev prog w A s₀ (assign (.Tuple [.Name x₁ p₁, .Name x₂ p₂, .Name x₃ p₃] k tpos) env (.ref t)) h Q :=
  ev_unpack (ts := [assign (.Name x₁ p₁) env, assign (.Name x₂ p₂) env, assign (.Name x₃ p₃) env]) hh ht rfl rfl rfl fun h' k => ev_aio_cons ((q h' k).mono fun _ _ z => ev_aio_cons (Ev.mono z fun _ _ z => ev_aio_cons (Ev.mono z fun _ _ z => ev_aio_nil z)))
theorem ev_unpack4 {k tpos} {t : Addr} {x₁ x₂ x₃ x₄ : Str} {p₁ p₂ p₃ p₄ : Pos} {v₁ v₂ v₃ v₄ : Value} {Q : Unit → Heap → Prop} (hh : A.handled = none) (ht : IsTup h t [v₁, v₂, v₃, v₄].toArray)
    (q : ∀ h', Kp h h' → Ev prog w A s₀ (assign (.Name x₁ p₁) env v₁) h' (fun _ h₁ => Ev prog w A s₀ (assign (.Name x₂ p₂) env v₂) h₁ (fun _ h₂ => Ev prog w A s₀ (assign (.Name x₃ p₃) env v₃) h₂ (fun _ h₃ => Ev prog w A s₀ (assign (.Name x₄ p₄) env v₄) h₃ Q)))) :
    Ev prog w A s₀ (assign (.Tuple [.Name x₁ p₁, .Name x₂ p₂, .Name x₃ p₃, .Name x₄ p₄] k tpos) env (.ref t)) h Q :=
  ev_unpack (ts := [assign (.Name x₁ p₁) env, assign (.Name x₂ p₂) env, assign (.Name x₃ p₃) env, assign (.Name x₄ p₄) env]) hh ht rfl rfl rfl fun h' k => ev_aio_cons ((q h' k).mono fun _ _ z => ev_aio_cons (Ev.mono z fun _ _ z => ev_aio_cons (Ev.mono z fun _ _ z => ev_aio_cons (Ev.mono z fun _ _ z => ev_aio_nil z))))
theorem ev_asg_name {x pos v} {Q : Unit → Heap → Prop} (H : Ev prog w A s₀ (storeName env x v) h Q) : Ev prog w A s₀ (assign (.Name x pos) env v) h Q := fun tk => wpAny_assign_Name (H tk)
theorem ev_asg_three {t₁ t₂ t₃ value : Expr} {pos : Pos} {Q : Flow → Heap → Prop}
    (H : Ev prog w A s₀ (eval value env) h (fun v h₁ => Ev prog w A s₀ (assign t₁ env v) h₁ (fun _ h₂ => Ev prog w A s₀ (assign t₂ env v) h₂ (fun _ h₃ => Ev prog w A s₀ (assign t₃ env v) h₃ (fun _ h₄ => Q .next h₄)))))
    (he : (assignEach [t₁, t₂, t₃] env).map (·.2) = [assign t₁ env, assign t₂ env, assign t₃ env] := by rfl) (hw : swappedStores [t₁, t₂, t₃] value env = pure none := by rfl) :
    Ev prog w A s₀ (exec (.Assign [t₁, t₂, t₃] value pos) env) h Q := fun _ => wpAny_Assign_three (H.use fun _ _ _ q => Ev.use q fun _ _ _ q => Ev.use q fun _ _ tk' q => q tk') he hw

theorem ev_max2 {x y : Int} {t u : Tok} {Q : Value → Heap → Prop} (hh : A.handled = none) (q : ∀ h' t, Kp h h' → Q (.int (max x y) t) h') : Ev prog w A s₀ (call (.builtin "max") [.int x t, .int y u]) h Q := fun tk =>
  max_two_ints (s := Sh s₀ h tk) hh fun h' tk' k => ⟨h', tk', rfl, by
    by_cases hc : y > x
    · rw [if_pos hc]; have := q h' u k; rwa [Int.max_eq_right (Int.le_of_lt hc)] at this
    · rw [if_neg hc]; have := q h' t k; rwa [Int.max_eq_left (by (first | lia | omega))] at this⟩
theorem IntsV.are {vs is} (x : IntsV vs is) : IntsAre vs is := by
  induction x with
  | nil => exact .nil
  | cons _ ih => exact .cons _ _ ih
theorem ev_sum {is : List Int} {Q : Value → Heap → Prop} (hh : A.handled = none) (hl : h.IsList l vs.toArray) (hi : IntsV vs is) (q : ∀ h' t, Kp h h' → Q (.int is.sum t) h') : Ev prog w A s₀ (call (.builtin "sum") [.ref l]) h Q := fun tk => by
  obtain ⟨xs, e⟩ := hi.are.allInts.items
  have hns : is = xs.toList.map (·.1) := by rw [← hi.are.numsOf, ← nums_intItems, ← e]
  rw [e] at hl
  refine sum_intListG (s := Sh s₀ h tk) hh hl fun h' tk' t' k => ⟨h', tk', rfl, ?_⟩
  rw [preSum_eq, List.take_of_length_le (by simp), ← hns]
  exact q h' t' k
theorem ev_maxl {is : List Int} {Q : Value → Heap → Prop} (hh : A.handled = none) (hl : h.IsList l vs.toArray) (hi : IntsV vs is) (hne : 0 < is.length) (q : ∀ h' M t, Kp h h' → M ∈ is → (∀ a ∈ is, a ≤ M) → Q (.int M t) h') :
    Ev prog w A s₀ (call (.builtin "max") [.ref l]) h Q := fun tk => by
  obtain ⟨xs, e⟩ := hi.are.allInts.items
  have hns : is = xs.toList.map (·.1) := by rw [← hi.are.numsOf, ← nums_intItems, ← e]
  have hsz : 0 < xs.size := by rw [hns, List.length_map, Array.length_toList] at hne; exact hne
  rw [e] at hl
  refine max_intList (s := Sh s₀ h tk) hh hl hsz fun v h' tk' hv k => ?_
  obtain ⟨t, rfl⟩ := intItems_at hv
  obtain ⟨h1, h2⟩ := argBest_gt (numAt xs) (xs.size - 1)
  refine ⟨h', tk', rfl, q h' _ t k ?_ fun a ha => ?_⟩
  · rw [hns, numAt_eq]; exact getD_mem (by rw [List.length_map, Array.length_toList]; (first | lia | omega))
  · rw [hns] at ha
    obtain ⟨j, hj, rfl⟩ := mem_getD ha
    rw [List.length_map, Array.length_toList] at hj
    rw [← numAt_eq]; exact h2 j (by (first | lia | omega))
theorem ev_abs {x : Int} {t : Tok} {Q : Value → Heap → Prop} (q : ∀ t, Q (.int x.natAbs t) h) : Ev prog w A s₀ (call (.builtin "abs") [.int x t]) h Q := fun tk =>
  call_abs_int (s := Sh s₀ h tk) fun u tk' => ⟨h, tk', rfl, by
    have := q u
    split
    · rwa [show ((x.natAbs : Nat) : Int) = -x by (first | lia | omega)] at this
    · rwa [show ((x.natAbs : Nat) : Int) = x by (first | lia | omega)] at this⟩
theorem ev_eq_bool {x y : Bool} {Q : Value → Heap → Prop} (q : Q (.bool (x == y)) h) : Ev prog w A s₀ (compareOp .Eq (.bool x) (.bool y)) h Q := fun tk => eq_bool (s := Sh s₀ h tk) ⟨_, _, rfl, q⟩
theorem ev_eq_str {x y : Str} {t u : Tok} {Q : Value → Heap → Prop} (q : Q (.bool (x == y)) h) : Ev prog w A s₀ (compareOp .Eq (.str x t) (.str y u)) h Q := fun tk => PyProof.Rows.eq_str (s := Sh s₀ h tk) ⟨_, _, rfl, q⟩
theorem ev_eq_data {x y : Value} {da db : PyData} {Q : Value → Heap → Prop} (ra : Rd h x da) (rb : Rd h y db) (ca : da.canLay0 = true) (cb : db.canLay0 = true) (hu : A.units + da.depth < cLine) (q : Q (.bool (PyData.eqv da db)) h) :
    Ev prog w A s₀ (compareOp .Eq x y) h Q := fun tk => by
  obtain ⟨as, ra⟩ := ra
  obtain ⟨bs, rb⟩ := rb
  exact PySem.SeqAt.compareEq_reads (s := Sh s₀ h tk) ra rb ca cb (by (first | lia | omega)) ⟨_, _, rfl, q⟩
theorem ev_ne_data {x y : Value} {da db : PyData} {Q : Value → Heap → Prop} (ra : Rd h x da) (rb : Rd h y db) (ca : da.canLay0 = true) (cb : db.canLay0 = true) (hu : A.units + da.depth < cLine) (q : Q (.bool (!PyData.eqv da db)) h) :
    Ev prog w A s₀ (compareOp .NotEq x y) h Q := fun tk => by
  obtain ⟨as, ra⟩ := ra
  obtain ⟨bs, rb⟩ := rb
  exact PySem.SeqAt.compareNe_reads (s := Sh s₀ h tk) ra rb ca cb (by (first | lia | omega)) ⟨_, _, rfl, q⟩
theorem ev_asg_swap2 {elts k tpos value pos} {x₁ x₂ : Str} {Q : Flow → Heap → Prop} (hh : A.handled = none)
    (H : Ev prog w A s₀ (eval value env) h (fun v h₁ => ∃ t v₁ v₂, v = .ref t ∧ IsTup h₁ t [v₁, v₂].toArray ∧ ∀ h', Kp h₁ h' → Ev prog w A s₀ (storeName env x₂ v₂) h' (fun _ h₂ => Ev prog w A s₀ (storeName env x₁ v₁) h₂ (fun _ h₃ => Q .next h₃))))
    (hs : swapsWithSole [.Tuple elts k tpos] value pos.line env = pure false := by rfl) (hw : swappedStores [.Tuple elts k tpos] value env = pure (some [x₁, x₂]) := by rfl) :
    Ev prog w A s₀ (exec (.Assign [.Tuple elts k tpos] value pos) env) h Q := fun _ => Assign_Tuple_swapped (names := [x₁, x₂]) (H.use fun v h₁ tk₁ q => by
      obtain ⟨t, v₁, v₂, rfl, ht, q⟩ := q
      refine unpackItems_tuple (s := Sh s₀ h₁ tk₁) (items := [v₁, v₂].toArray) hh ht fun h' hx => ?_
      show wpAny _ _ (assignInOrder [bindName env x₂, bindName env x₁] [v₂, v₁]) _ _ _
      refine assignInOrder_cons (bindName_ ((q h' (fun b o e => hx b o (Nat.ne_of_lt (Heap.lt_size e)) e)).use fun _ h₂ tk₂ q => assignInOrder_cons (bindName_ (Ev.use q fun _ h₃ tk₃ q => assignInOrder_nil ⟨_, _, rfl, q⟩)))) ) hs hw
theorem ev_tuple_of {Q : Value → Heap → Prop} (hl : h.IsList l vs.toArray) (hs : vs.length < 2 ^ 20) (q : ∀ h' a, Kp h h' → IsTup h' a vs.toArray → Q (.ref a) h') : Ev prog w A s₀ (call (.type "tuple") [.ref l]) h Q := fun tk => by
  exact call_tuple_list (s := Sh s₀ h tk) hl (fun h' k => ⟨_, _, rfl, q _ _ (Kp.trans k kp_push) tup_push⟩) (by simp [sizeLine]; (first | lia | omega))
theorem ev_iter_str {x : Str} {t : Tok} {Q : Value → Heap → Prop} (ha : x.cps.all (· < 128) = true)
    (q : ∀ h' I, h'.IsStrIter I "str_ascii_iterator" x t 0 → Grow h h' I → Q (.ref I) h') : Ev prog w A s₀ (pyIter (.str x t)) h Q := fun tk =>
  wpAny_pyIter_ascii (s := Sh s₀ h tk) ha ⟨_, _, rfl, q _ _ ⟨_, Heap.get?_push_size _ rfl, rfl, rfl⟩ grow_push⟩
end

/-- a row as data -/
abbrev itD (r : List Int) : PyData := .tuple (r.map PyData.int)
abbrev itDs (l : List (List Int)) : List PyData := l.map itD

noncomputable def sdL (x : List Int) (start pos : Nat) (l : List (List Int)) : List (List Int) :=
  if h : start < pos then
    if lexLt x (l.getD ((pos - 1) / 2) []) then sdL x start ((pos - 1) / 2) (l.set pos (l.getD ((pos - 1) / 2) [])) else l.set pos x
  else l.set pos x
termination_by pos
decreasing_by omega
noncomputable def siftdownF (l : List (List Int)) (start pos : Nat) : List (List Int) := sdL (l.getD pos []) start pos l

noncomputable def childOf (l : List (List Int)) (e pos : Nat) : Nat :=
  if decide (2 * pos + 1 + 1 < e) && !(lexLt (l.getD (2 * pos + 1) []) (l.getD (2 * pos + 1 + 1) [])) then 2 * pos + 1 + 1 else 2 * pos + 1
noncomputable def suL (e pos : Nat) (l : List (List Int)) : Nat × List (List Int) :=
  if h : 2 * pos + 1 < e then suL e (childOf l e pos) (l.set pos (l.getD (childOf l e pos) [])) else (pos, l)
termination_by e - pos
decreasing_by
  unfold childOf
  split <;> omega
noncomputable def siftupF (l : List (List Int)) (pos : Nat) : List (List Int) :=
  siftdownF ((suL l.length pos l).2.set (suL l.length pos l).1 (l.getD pos [])) pos (suL l.length pos l).1

theorem sdL_length (x : List Int) (start pos : Nat) (l : List (List Int)) : (sdL x start pos l).length = l.length := by
  induction pos using Nat.strongRecOn generalizing l with
  | ind pos ih =>
    unfold sdL
    split
    · split
      · rw [ih _ (by omega)]; simp
      · simp
    · simp
theorem suL_length (e pos : Nat) (l : List (List Int)) : (suL e pos l).2.length = l.length := by
  induction h : e - pos using Nat.strongRecOn generalizing l pos with
  | ind k ih =>
    unfold suL
    split
    · rename_i hc
      rw [ih (e - childOf l e pos) (by unfold childOf; split <;> omega) _ _ rfl]; simp
    · rfl
theorem suL_lt (e pos : Nat) (l : List (List Int)) (h : pos < e) : (suL e pos l).1 < e ∧ pos ≤ (suL e pos l).1 := by
  induction hk : e - pos using Nat.strongRecOn generalizing l pos with
  | ind k ih =>
    unfold suL
    split
    · rename_i hc
      have h1 : childOf l e pos < e ∧ pos < childOf l e pos := by
        unfold childOf
        split
        · rename_i hh; simp at hh; omega
        · omega
      have := ih (e - childOf l e pos) (by omega) (childOf l e pos) (l.set pos (l.getD (childOf l e pos) [])) h1.1 rfl
      omega
    · exact ⟨h, Nat.le_refl _⟩
theorem siftupF_length (l : List (List Int)) (pos : Nat) : (siftupF l pos).length = l.length := by
  unfold siftupF siftdownF
  rw [sdL_length, List.length_set, suL_length]

noncomputable def hfy : Nat → List (List Int) → List (List Int)
  | 0, l => l
  | k + 1, l => hfy k (siftupF l k)
noncomputable def heapifyF (l : List (List Int)) : List (List Int) := hfy (l.length / 2) l

/-- the first k terms of indent_level's sum -/
noncomputable def ilP (cnt : List Int) (ts : Int) : Nat → Int
  | 0 => 0
  | k + 1 => ilP cnt ts k + (ts + k) / ts * cnt.getD (ts.toNat + k) 0
noncomputable def indF (cnt : List Int) (tr nt ts : Int) : Int := tr + ts * (ilP cnt ts ((cnt.length : Int) - ts).toNat + nt)

/-- the witnesses at the sizes 1 .. k -/
noncomputable def witP (p : Int → Int → Bool) (f g : Int → Int) : Nat → List (List Int)
  | 0 => []
  | k + 1 => witP p f g k ++ (if p (f (1 + k)) (g (1 + k)) = true then [[1 + (k : Int), f (1 + k), g (1 + k)]] else ([] : List (List Int)))
theorem witP_length (p : Int → Int → Bool) (f g : Int → Int) : ∀ k, (witP p f g k).length ≤ k
  | 0 => Nat.le_refl _
  | k + 1 => by
    have := witP_length p f g k
    unfold witP
    split <;> simp <;> omega

noncomputable def allLess (f g : Int → Int) (k : Nat) : Bool := (List.range k).all fun j => decide (f (2 + j) < g (2 + j))
theorem allLess_succ (f g : Int → Int) (k : Nat) : allLess f g (k + 1) = (allLess f g k && decide (f (2 + k) < g (2 + k))) := by
  unfold allLess
  rw [List.range_succ, List.all_append]
  simp
theorem allLess_false {f g : Int → Int} {i n : Nat} (hi : i < n) (h : ¬ f (2 + i) < g (2 + i)) : allLess f g n = false := by
  unfold allLess
  rw [List.all_eq_false]
  exact ⟨i, List.mem_range.mpr hi, by simpa using h⟩

-- equality of data made of ints
theorem eqvAll_ints : ∀ is js : List Int, PyData.eqvAll (is.map PyData.int) (js.map PyData.int) = decide (is = js)
  | [], [] => by simp [PyData.eqvAll]
  | [], _ :: _ => by simp [PyData.eqvAll]
  | _ :: _, [] => by simp [PyData.eqvAll]
  | i :: is, j :: js => by
    simp only [List.map_cons, PyData.eqvAll, PyData.eqv, eqvAll_ints is js, List.cons.injEq, Bool.decide_and]
    congr 1
theorem eqvAll_rows : ∀ is js : List (List Int), PyData.eqvAll (itDs is) (itDs js) = decide (is = js)
  | [], [] => by simp [PyData.eqvAll]
  | [], _ :: _ => by simp [PyData.eqvAll]
  | _ :: _, [] => by simp [PyData.eqvAll]
  | i :: is, j :: js => by
    have := eqvAll_rows is js
    simp only [List.map_cons, PyData.eqvAll, PyData.eqv, eqvAll_ints, List.cons.injEq, Bool.decide_and] at this ⊢
    rw [this]
theorem canLay_ints : ∀ is : List Int, PyData.canLayAll0 (is.map PyData.int) = true
  | [] => rfl
  | i :: is => by simp only [List.map_cons, PyData.canLayAll0, PyData.canLay0, canLay_ints is]; rfl
theorem canLay_rows : ∀ is : List (List Int), PyData.canLayAll0 (itDs is) = true
  | [] => rfl
  | i :: is => by
    have := canLay_rows is
    simp only [List.map_cons, PyData.canLayAll0, PyData.canLay0, canLay_ints] at this ⊢
    rw [this]; rfl

theorem depth_ints : ∀ is : List Int, PyData.depthAll (is.map PyData.int) = 0
  | [] => rfl
  | i :: is => by simp only [List.map_cons, PyData.depthAll, PyData.depth, depth_ints is]; rfl
theorem depth_rows : ∀ is : List (List Int), PyData.depthAll (itDs is) ≤ 1
  | [] => Nat.zero_le _
  | i :: is => by
    have := depth_rows is
    simp only [itDs, List.map_cons, PyData.depthAll, PyData.depth, depth_ints] at this ⊢
    omega

/-- the scan's state: the counts, the run at hand, the signs, the tabs -/
structure Sc where
  cnt : List Int
  b : Nat
  n : Nat
  nt : Nat
noncomputable def Sc.padded (s : Sc) : List Int := if s.b ≥ s.cnt.length then s.cnt ++ List.replicate (s.b - s.cnt.length + 1) 0 else s.cnt
noncomputable def Sc.space (s : Sc) : Sc := ⟨s.cnt, s.b + 1, s.n + 1, s.nt⟩
noncomputable def Sc.tab (s : Sc) : Sc := ⟨s.padded.set s.b (s.padded.getD s.b 0 + 1), 0, s.n + 1, s.nt + 1⟩
noncomputable def scanF : List Nat → Sc → Sc
  | [], s => s
  | c :: cs, s => if c = 32 then scanF cs s.space else if c = 9 then scanF cs s.tab else s
theorem Sc.padded_length (s : Sc) : s.b < s.padded.length ∧ s.padded.length ≤ max s.cnt.length (s.b + 1) := by
  unfold Sc.padded
  split
  · simp; omega
  · omega

-- the heap's order
abbrev Le (a b : List Int) : Prop := lexLt b a = false
theorem lexLt_asym : ∀ {a b : List Int}, lexLt a b = true → lexLt b a = false
  | [], [], h => by cases h
  | [], _ :: _, h => by cases h
  | _ :: _, [], h => by cases h
  | x :: xs, y :: ys, h => by
    unfold lexLt at h ⊢
    by_cases e : x = y
    · subst e
      simp only [beq_self_eq_true, if_true] at h ⊢
      exact lexLt_asym h
    · have e1 : (x == y) = false := by simpa using e
      have e2 : (y == x) = false := by simpa using Ne.symm e
      simp only [e1, e2, Bool.false_eq_true, if_false, decide_eq_true_eq, decide_eq_false_iff_not] at h ⊢
      (first | lia | omega)
theorem Le.trans' : ∀ {a b c : List Int}, a.length = b.length → b.length = c.length → Le a b → Le b c → Le a c
  | [], [], [], _, _, _, _ => rfl
  | x :: xs, y :: ys, z :: zs, h1, h2, h3, h4 => by
    unfold Le lexLt at h3 h4 ⊢
    simp only [List.length_cons, Nat.add_right_cancel_iff] at h1 h2
    by_cases e1 : y = x
    · subst e1
      simp only [beq_self_eq_true, if_true] at h3
      by_cases e2 : z = y
      · subst e2
        simp only [beq_self_eq_true, if_true] at h4 ⊢
        exact Le.trans' h1 h2 h3 h4
      · have e2' : (z == y) = false := by simpa using e2
        simp only [e2', Bool.false_eq_true, if_false, decide_eq_false_iff_not] at h4 ⊢
        exact h4
    · have e1' : (y == x) = false := by simpa using e1
      simp only [e1', Bool.false_eq_true, if_false, decide_eq_false_iff_not] at h3
      by_cases e2 : z = y
      · subst e2
        simp only [e1', Bool.false_eq_true, if_false, decide_eq_false_iff_not]
        exact h3
      · have e2' : (z == y) = false := by simpa using e2
        simp only [e2', Bool.false_eq_true, if_false, decide_eq_false_iff_not] at h4
        have e3 : (z == x) = false := by simp; (first | lia | omega)
        simp only [e3, Bool.false_eq_true, if_false, decide_eq_false_iff_not]
        (first | lia | omega)
theorem Le.refl' : ∀ a : List Int, Le a a
  | [] => rfl
  | x :: xs => by
    unfold Le lexLt
    simp only [beq_self_eq_true, if_true]
    exact Le.refl' xs
theorem Le.head {a b : List Int} (ha : 0 < a.length) (hb : 0 < b.length) (h : Le a b) : a.getD 0 0 ≤ b.getD 0 0 := by
  match a, b, ha, hb with
  | x :: xs, y :: ys, _, _ =>
    unfold Le lexLt at h
    by_cases e : y = x
    · simp [e]
    · have e' : (y == x) = false := by simpa using e
      simp only [e', Bool.false_eq_true, if_false, decide_eq_false_iff_not] at h
      simp; (first | lia | omega)

abbrev at' (l : List (List Int)) (i : Nat) : List Int := l.getD i []
theorem at_set {l : List (List Int)} {p j : Nat} {v : List Int} (hp : p < l.length) : at' (l.set p v) j = if j = p then v else at' l j := by
  unfold at'
  rw [List.getD_eq_getElem?_getD, List.getD_eq_getElem?_getD, List.getElem?_set]
  by_cases h : p = j
  · subst h; simp [hp]
  · simp [h, Ne.symm h]
theorem at_mem {l : List (List Int)} {p : Nat} (hp : p < l.length) : at' l p ∈ l := by
  unfold at'
  rw [List.getD_eq_getElem?_getD, List.getElem?_eq_getElem hp]
  exact List.getElem_mem hp

theorem swap_perm {l : List (List Int)} {p c : Nat} (x : List Int) (hp : p < l.length) (hc : c < l.length) (hne : p ≠ c) : ((l.set p (at' l c)).set c x).Perm (l.set p x) := by
  rw [List.perm_iff_count]
  intro b
  rw [List.count_set (by simpa using hc), List.count_set hp, List.count_set hp]
  have e1 : (l.set p (at' l c))[c]'(by simpa using hc) = l[c] := by rw [List.getElem_set_ne hne]
  have e2 : at' l c = l[c] := by unfold at'; rw [List.getD_eq_getElem?_getD, List.getElem?_eq_getElem hc]; rfl
  rw [e1, e2]
  have m1 : l[p] == b → 0 < l.count b := fun h => List.count_pos_iff.mpr (by rw [← beq_iff_eq.mp h]; exact List.getElem_mem hp)
  split <;> split <;> split <;> (first | lia | omega)

inductive Desc (s : Nat) : Nat → Prop
  | self : Desc s s
  | step {p : Nat} : 0 < p → Desc s ((p - 1) / 2) → Desc s p
theorem Desc.le {s p} (h : Desc s p) : s ≤ p := by
  induction h with
  | self => exact Nat.le_refl _
  | step hp _ ih => (first | lia | omega)
theorem Desc.up {s p} (h : Desc s p) (hlt : s < p) : Desc s ((p - 1) / 2) := by
  cases h with
  | self => exact absurd hlt (Nat.lt_irrefl _)
  | step _ h => exact h

/-- all but the hole at p in order -/
structure Hole (s p n : Nat) (l : List (List Int)) : Prop where
  a : ∀ j, 0 < j → j < n → s ≤ (j - 1) / 2 → j ≠ p → (j - 1) / 2 ≠ p → Le (at' l ((j - 1) / 2)) (at' l j)
  b : s < p → ∀ j, 0 < j → j < n → (j - 1) / 2 = p → Le (at' l ((p - 1) / 2)) (at' l j)
noncomputable def HP (n s : Nat) (l : List (List Int)) : Prop := ∀ j, 0 < j → j < n → s ≤ (j - 1) / 2 → Le (at' l ((j - 1) / 2)) (at' l j)

theorem childOf_ok {l : List (List Int)} {p : Nat} (hc : 2 * p + 1 < l.length) : childOf l l.length p < l.length ∧ (childOf l l.length p - 1) / 2 = p ∧ p < childOf l l.length p ∧
    ∀ j, 0 < j → j < l.length → (j - 1) / 2 = p → Le (at' l (childOf l l.length p)) (at' l j) := by
  unfold childOf
  split
  · rename_i h
    simp only [Bool.and_eq_true, decide_eq_true_eq, Bool.not_eq_true'] at h
    refine ⟨h.1, by (first | lia | omega), by (first | lia | omega), fun j h0 h1 h2 => ?_⟩
    have : j = 2 * p + 1 ∨ j = 2 * p + 1 + 1 := by (first | lia | omega)
    rcases this with rfl | rfl
    · exact h.2
    · exact Le.refl' _
  · rename_i h
    simp only [Bool.and_eq_true, decide_eq_true_eq, Bool.not_eq_true', not_and, Bool.not_eq_false] at h
    refine ⟨hc, by (first | lia | omega), by (first | lia | omega), fun j h0 h1 h2 => ?_⟩
    have : j = 2 * p + 1 ∨ j = 2 * p + 1 + 1 := by (first | lia | omega)
    rcases this with rfl | rfl
    · exact Le.refl' _
    · exact lexLt_asym (h h1)

theorem suL_ok (x : List Int) {s : Nat} : ∀ (k p : Nat) (l : List (List Int)), l.length - p = k → p < l.length → Desc s p → Hole s p l.length l →
    (suL l.length p l).1 < l.length ∧ Desc s (suL l.length p l).1 ∧ l.length ≤ 2 * (suL l.length p l).1 + 1 ∧ Hole s (suL l.length p l).1 l.length (suL l.length p l).2 ∧
    ((suL l.length p l).2.set (suL l.length p l).1 x).Perm (l.set p x) := by
  intro k
  induction k using Nat.strongRecOn with
  | ind k ih =>
    intro p l hk hp hd hH
    by_cases hc : 2 * p + 1 < l.length
    · obtain ⟨c1, c2, c3, c4⟩ := childOf_ok hc
      have e : suL l.length p l = suL l.length (childOf l l.length p) (l.set p (at' l (childOf l l.length p))) := by
        rw [suL, dif_pos hc]
      have hlen : (l.set p (at' l (childOf l l.length p))).length = l.length := List.length_set
      generalize childOf l l.length p = c at c1 c2 c3 c4 e hlen
      have hc0 : 0 < c := by (first | lia | omega)
      have := ih (l.length - c) (by (first | lia | omega)) c (l.set p (at' l c)) (by rw [hlen]) (by rw [hlen]; exact c1) (.step hc0 (c2.symm ▸ hd)) ?_
      · rw [hlen] at this
        rw [e]
        exact ⟨this.1, this.2.1, this.2.2.1, this.2.2.2.1, this.2.2.2.2.trans (swap_perm x hp c1 (by (first | lia | omega)))⟩
      · rw [hlen]
        have hsp := hd.le
        constructor
        · intro j j0 jn js jc jpc
          rw [at_set hp, at_set hp]
          by_cases j1 : j = p
          · subst j1
            rw [if_pos rfl, if_neg (by (first | lia | omega))]
            exact hH.b (by (first | lia | omega)) c hc0 c1 c2
          · rw [if_neg j1]
            by_cases j2 : (j - 1) / 2 = p
            · rw [if_pos j2]
              exact c4 j j0 jn j2
            · rw [if_neg j2]
              exact hH.a j j0 jn js j1 j2
        · intro _ j j0 jn jc
          rw [at_set hp, at_set hp, if_pos c2, if_neg (by (first | lia | omega))]
          have := hH.a j j0 jn (by (first | lia | omega)) (by (first | lia | omega)) (by (first | lia | omega))
          rwa [jc] at this
    · have e : suL l.length p l = (p, l) := by rw [suL, dif_neg hc]
      rw [e]
      exact ⟨hp, hd, by show _ ≤ 2 * p + 1; (first | lia | omega), hH, List.Perm.refl _⟩

theorem sdL_ok (x : List Int) {s : Nat} : ∀ (p : Nat) (l : List (List Int)), (∀ r ∈ l, r.length = x.length) → p < l.length → Desc s p → Hole s p l.length l → (∀ j, 0 < j → j < l.length → (j - 1) / 2 = p → Le x (at' l j)) →
    HP l.length s (sdL x s p l) ∧ (sdL x s p l).Perm (l.set p x) := by
  intro p
  induction p using Nat.strongRecOn with
  | ind p ih =>
    intro l hlen hp hd hH hx
    have fin : (s < p → Le (at' l ((p - 1) / 2)) x) → HP l.length s (l.set p x) := by
      intro hpar j j0 jn js
      rw [at_set hp, at_set hp]
      by_cases j1 : j = p
      · subst j1
        rw [if_pos rfl, if_neg (by (first | lia | omega))]
        exact hpar (by (first | lia | omega))
      · rw [if_neg j1]
        by_cases j2 : (j - 1) / 2 = p
        · rw [if_pos j2]
          exact hx j j0 jn j2
        · rw [if_neg j2]
          exact hH.a j j0 jn js j1 j2
    unfold sdL
    by_cases hs : s < p
    · rw [dif_pos hs]
      cases hlt : lexLt x (at' l ((p - 1) / 2)) with
      | false =>
        rw [if_neg Bool.false_ne_true]
        exact ⟨fin fun _ => hlt, List.Perm.refl _⟩
      | true =>
        rw [if_pos rfl]
        have hd' := hd.up hs
        have hsq := hd'.le
        have hL : (l.set p (at' l ((p - 1) / 2))).length = l.length := List.length_set
        have hq : (p - 1) / 2 < l.length := by (first | lia | omega)
        have hxq : Le x (at' l ((p - 1) / 2)) := lexLt_asym hlt
        have lx : ∀ i, i < l.length → (at' l i).length = x.length := fun i hi => hlen _ (at_mem hi)
        have := ih ((p - 1) / 2) (by (first | lia | omega)) (l.set p (at' l ((p - 1) / 2))) ?_ (by rw [hL]; exact hq) hd' ?_ ?_
        · rw [hL] at this
          exact ⟨this.1, this.2.trans (swap_perm x hp hq (by (first | lia | omega)))⟩
        · intro r hr
          rcases List.mem_or_eq_of_mem_set hr with h | h
          · exact hlen r h
          · rw [h]; exact lx _ hq
        · rw [hL]
          constructor
          · intro j j0 jn js jc jpc
            rw [at_set hp, at_set hp]
            have j1 : j ≠ p := by rintro rfl; exact jpc rfl
            rw [if_neg j1]
            by_cases j2 : (j - 1) / 2 = p
            · rw [if_pos j2]
              exact hH.b hs j j0 jn j2
            · rw [if_neg j2]
              exact hH.a j j0 jn js j1 j2
          · intro hsq' j j0 jn jc
            have hqq := hH.a ((p - 1) / 2) (by (first | lia | omega)) hq (hd'.up hsq').le (by (first | lia | omega)) (by (first | lia | omega))
            rw [at_set hp, at_set hp, if_neg (by (first | lia | omega))]
            by_cases j1 : j = p
            · rw [if_pos j1]
              exact hqq
            · rw [if_neg j1]
              have h2 := hH.a j j0 jn (by (first | lia | omega)) j1 (by (first | lia | omega))
              rw [jc] at h2
              exact Le.trans' (by rw [lx _ (by (first | lia | omega)), lx _ (by (first | lia | omega))]) (by rw [lx _ (by (first | lia | omega)), lx _ (by (first | lia | omega))]) hqq h2
        · rw [hL]
          intro j j0 jn jc
          rw [at_set hp]
          by_cases j1 : j = p
          · rw [if_pos j1]; exact hxq
          · rw [if_neg j1]
            have h2 := hH.a j j0 jn (by (first | lia | omega)) j1 (by (first | lia | omega))
            rw [jc] at h2
            exact Le.trans' (by rw [lx _ (by (first | lia | omega))]) (by rw [lx _ (by (first | lia | omega)), lx _ (by (first | lia | omega))]) hxq h2
    · rw [dif_neg hs]
      exact ⟨fin fun h => absurd h hs, List.Perm.refl _⟩

theorem siftupF_ok {l : List (List Int)} {p m : Nat} (h4 : ∀ r ∈ l, r.length = m) (hp : p < l.length) (hH : HP l.length (p + 1) l) : HP l.length p (siftupF l p) ∧ (siftupF l p).Perm l := by
  have hole : Hole p p l.length l := ⟨fun j j0 jn js jp jpp => hH j j0 jn (by (first | lia | omega)), fun h => absurd h (Nat.lt_irrefl _)⟩
  obtain ⟨s1, s2, s3, s4, s5⟩ := suL_ok (at' l p) _ p l rfl hp .self hole
  have hsl := suL_length l.length p l
  unfold siftupF siftdownF
  generalize (suL l.length p l).1 = q at s1 s2 s3 s4 s5 ⊢
  generalize (suL l.length p l).2 = l' at s4 s5 hsl ⊢
  have eL : (l'.set q (at' l p)).length = l.length := by rw [List.length_set, hsl]
  have ex : at' (l'.set q (at' l p)) q = at' l p := by rw [at_set (by (first | lia | omega)), if_pos rfl]
  have ep : (l'.set q (at' l p)).Perm l := by
    refine s5.trans ?_
    have : l.set p (at' l p) = l := by
      unfold at'
      rw [List.getD_eq_getElem?_getD, List.getElem?_eq_getElem hp]
      exact List.set_getElem_self hp
    rw [this]
  have hm := h4 _ (at_mem hp)
  have := sdL_ok (at' l p) (s := p) q (l'.set q (at' l p)) (fun r hr => by rw [hm]; exact h4 r (ep.mem_iff.mp hr)) (by (first | lia | omega)) s2 ?_ ?_
  · rw [eL, List.set_set] at this
    show HP _ _ (sdL (at' (l'.set q (at' l p)) q) p q (l'.set q (at' l p))) ∧ (sdL (at' (l'.set q (at' l p)) q) p q (l'.set q (at' l p))).Perm _
    rw [ex]
    exact ⟨this.1, this.2.trans ep⟩
  · rw [eL]
    constructor
    · intro j j0 jn js jp jpp
      rw [at_set (by (first | lia | omega)), at_set (by (first | lia | omega)), if_neg jpp, if_neg jp]
      exact s4.a j j0 jn js jp jpp
    · intro _ j j0 jn jp
      (first | lia | omega)
  · rw [eL]
    intro j j0 jn jp
    (first | lia | omega)

theorem hfy_ok {m : Nat} : ∀ (k : Nat) (l : List (List Int)), (∀ r ∈ l, r.length = m) → k ≤ l.length → HP l.length k l → HP l.length 0 (hfy k l) ∧ (hfy k l).Perm l
  | 0, l, _, _, h => ⟨h, List.Perm.refl _⟩
  | k + 1, l, h4, hk, h => by
    have s := siftupF_ok h4 (p := k) (by (first | lia | omega)) h
    have e := siftupF_length l k
    have := hfy_ok k (siftupF l k) (fun r hr => h4 r (s.2.mem_iff.mp hr)) (by (first | lia | omega)) (by rw [e]; exact s.1)
    rw [e] at this
    exact ⟨this.1, this.2.trans s.2⟩
theorem heapifyF_ok {m : Nat} {l : List (List Int)} (h4 : ∀ r ∈ l, r.length = m) : HP l.length 0 (heapifyF l) ∧ (heapifyF l).Perm l := by
  unfold heapifyF
  exact hfy_ok _ l h4 (by (first | lia | omega)) fun j j0 jn js => by (first | lia | omega)

theorem HP.root {m : Nat} {l : List (List Int)} (h : HP l.length 0 l) (h4 : ∀ r ∈ l, r.length = m) : ∀ j, j < l.length → Le (at' l 0) (at' l j) := by
  intro j
  induction j using Nat.strongRecOn with
  | ind j ih =>
    intro hj
    by_cases h0 : j = 0
    · subst h0; exact Le.refl' _
    · have := ih ((j - 1) / 2) (by (first | lia | omega)) (by (first | lia | omega))
      exact Le.trans' (by rw [h4 _ (at_mem (by (first | lia | omega))), h4 _ (at_mem (by (first | lia | omega)))]) (by rw [h4 _ (at_mem (by (first | lia | omega))), h4 _ (at_mem hj)]) this (h j (by (first | lia | omega)) hj (Nat.zero_le _))
noncomputable def popF (its : List (List Int)) : List (List Int) := if its.length ≤ 1 then [] else siftupF (its.dropLast.set 0 (its.getLastD [])) 0
theorem dropLast_perm : ∀ {l : List (List Int)}, l ≠ [] → (l.getLastD [] :: l.dropLast).Perm l
  | [], h => absurd rfl h
  | [a], _ => List.Perm.refl _
  | a :: b :: r, _ => by
    have ih := dropLast_perm (l := b :: r) (by simp)
    have e1 : (a :: b :: r).getLastD [] = (b :: r).getLastD [] := by simp [List.getLastD]
    have e2 : (a :: b :: r).dropLast = a :: (b :: r).dropLast := rfl
    rw [e1, e2]
    exact (List.Perm.swap _ _ _).trans (ih.cons a)
theorem set0_perm {l : List (List Int)} (x : List Int) (h : 0 < l.length) : (at' l 0 :: l.set 0 x).Perm (x :: l) := by
  match l, h with
  | a :: r, _ => exact List.Perm.swap _ _ _
theorem replaceF_ok {m : Nat} {l : List (List Int)} {r : List Int} (h4 : ∀ r ∈ l, r.length = m) (hr : r.length = m) (hl : 0 < l.length) (h : HP l.length 0 l) :
    HP l.length 0 (siftupF (l.set 0 r) 0) ∧ (at' l 0 :: siftupF (l.set 0 r) 0).Perm (r :: l) := by
  have e : (l.set 0 r).length = l.length := List.length_set
  have h4' : ∀ r' ∈ l.set 0 r, r'.length = m := fun r' hr' => by
    rcases List.mem_or_eq_of_mem_set hr' with q | q
    · exact h4 _ q
    · rw [q]; exact hr
  have := siftupF_ok (p := 0) h4' (by (first | lia | omega)) (by
    rw [e]
    intro j j0 jn js
    rw [at_set hl, at_set hl, if_neg (by (first | lia | omega)), if_neg (by (first | lia | omega))]
    exact h j j0 jn (Nat.zero_le _))
  rw [e] at this
  exact ⟨this.1, (this.2.cons _).trans (set0_perm r hl)⟩
theorem at_dropLast {l : List (List Int)} {j : Nat} (h : j < l.length - 1) : at' l.dropLast j = at' l j := by
  unfold at'
  rw [List.getD_eq_getElem?_getD, List.getD_eq_getElem?_getD, List.getElem?_dropLast, if_pos h]
theorem popF_ok {m : Nat} {l : List (List Int)} (h4 : ∀ r ∈ l, r.length = m) (hl : 0 < l.length) (h : HP l.length 0 l) :
    HP (popF l).length 0 (popF l) ∧ (at' l 0 :: popF l).Perm l := by
  unfold popF
  split
  · rename_i h1
    match l, hl, h1 with
    | [a], _, _ => exact ⟨fun j j0 jn => absurd jn (Nat.not_lt_zero _), List.Perm.refl _⟩
  · rename_i h1
    have hne : l ≠ [] := by rintro rfl; simp at hl
    have hdl : l.dropLast.length = l.length - 1 := List.length_dropLast
    have pd := dropLast_perm hne
    have h4d : ∀ r ∈ l.dropLast, r.length = m := fun r hr => h4 r (pd.mem_iff.mp (.tail _ hr))
    have h4l : (l.getLastD []).length = m := h4 _ (pd.mem_iff.mp (.head _))
    have hs : (l.dropLast.set 0 (l.getLastD [])).length = l.length - 1 := by rw [List.length_set, hdl]
    have h4' : ∀ r' ∈ l.dropLast.set 0 (l.getLastD []), r'.length = m := fun r' hr' => by
      rcases List.mem_or_eq_of_mem_set hr' with q | q
      · exact h4d _ q
      · rw [q]; exact h4l
    have := siftupF_ok (p := 0) h4' (by rw [hs]; (first | lia | omega)) (by
      rw [hs]
      intro j j0 jn js
      rw [at_set (by (first | lia | omega)), at_set (by (first | lia | omega)), if_neg (by (first | lia | omega)), if_neg (by (first | lia | omega)), at_dropLast (by (first | lia | omega)), at_dropLast (by (first | lia | omega))]
      exact h j j0 (by (first | lia | omega)) (Nat.zero_le _))
    rw [siftupF_length]
    refine ⟨this.1, (this.2.cons _).trans ?_⟩
    have q := set0_perm (l.getLastD []) (l := l.dropLast) (by (first | lia | omega))
    rw [at_dropLast (by (first | lia | omega))] at q
    exact q.trans pd

-- seats
noncomputable def EOk (e : List Int) : Prop := ∃ (d row : Nat) (k : Int), 1 ≤ d ∧ d ≤ row ∧ row ≤ 7 ∧ (k = 0 ∨ k = 1) ∧ e = [-((420 / d * row : Nat) : Int), (d : Int), (row : Int), k]
noncomputable def remE (t : Nat) (k : Int) (e : List Int) : Nat := if e.getD 3 0 = k then (e.getD 2 0).toNat / t - ((e.getD 1 0).toNat - 1) else 0
noncomputable def totE (e : List Int) : Nat := (e.getD 2 0).toNat - ((e.getD 1 0).toNat - 1)
noncomputable def RS (t : Nat) (k : Int) (H : List (List Int)) : Nat := (H.map (remE t k)).sum
noncomputable def TS (H : List (List Int)) : Nat := (H.map totE).sum
/-- the seats at a size -/
noncomputable def fl (t : Nat) (ls : List Int) : Nat := (ls.map fun r => r.toNat / t).sum
theorem RS_perm {t k} {H H' : List (List Int)} (h : H.Perm H') : RS t k H = RS t k H' := (h.map _).sum_nat
theorem TS_perm {H H' : List (List Int)} (h : H.Perm H') : TS H = TS H' := (h.map _).sum_nat
theorem RS_cons {t k e} {H : List (List Int)} : RS t k (e :: H) = remE t k e + RS t k H := by simp [RS]
theorem TS_cons {e} {H : List (List Int)} : TS (e :: H) = totE e + TS H := by simp [TS]
theorem RS_zero {t k} : ∀ {H : List (List Int)}, (∀ e ∈ H, remE t k e = 0) → RS t k H = 0
  | [], _ => rfl
  | e :: H, h => by rw [RS_cons, h e (.head _), RS_zero fun e he => h e (.tail _ he)]
theorem EOk.len {e} (h : EOk e) : e.length = 4 := by obtain ⟨d, row, k, _, _, _, _, rfl⟩ := h; rfl
theorem d7 {d row : Nat} (h1 : 1 ≤ d) (h2 : d ≤ row) (h3 : row ≤ 7) : d = 1 ∨ d = 2 ∨ d = 3 ∨ d = 4 ∨ d = 5 ∨ d = 6 ∨ d = 7 := by (first | lia | omega)
theorem worth_le {d row size : Nat} (h1 : 1 ≤ d) (h2 : d ≤ row) (h3 : row ≤ 7) : -((420 / d * row : Nat) : Int) ≤ -420 * (size : Int) ↔ size * d ≤ row := by
  rcases d7 h1 h2 h3 with rfl | rfl | rfl | rfl | rfl | rfl | rfl <;> (first | lia | omega)
theorem worth_next {d row : Nat} (h1 : 1 ≤ d) (h2 : d < row) (h3 : row ≤ 7) : -420 * (row : Int) / ((d : Int) + 1) = -((420 / (d + 1) * row : Nat) : Int) := by
  have : d = 1 ∨ d = 2 ∨ d = 3 ∨ d = 4 ∨ d = 5 ∨ d = 6 := by (first | lia | omega)
  rcases this with rfl | rfl | rfl | rfl | rfl | rfl <;> (first | lia | omega)

structure SInv (ls rs : List Int) (size : Nat) (H : List (List Int)) (given : List Int) : Prop where
  hp : HP H.length 0 H
  ok : ∀ e ∈ H, EOk e
  seats : ∀ t, 1 ≤ t → t ≤ size → given.count 0 + RS t 0 H = fl t ls ∧ given.count 1 + RS t 1 H = fl t rs
  tot : given.length + TS H = fl 1 ls + fl 1 rs

theorem SInv.len4 {ls rs size H given} (I : SInv ls rs size H given) : ∀ e ∈ H, e.length = 4 := fun e he => (I.ok e he).len
theorem SInv.less {ls rs size size' H given} (I : SInv ls rs size H given) (h : size' ≤ size) : SInv ls rs size' H given := ⟨I.hp, I.ok, fun t h1 h2 => I.seats t h1 (Nat.le_trans h2 h), I.tot⟩

theorem rem_step {size t d row : Nat} {k j x y : Int} (h1 : 1 ≤ d) (h2 : size * d ≤ row) (ht : 1 ≤ t) (hts : t ≤ size) :
    remE t j [x, (d : Int), (row : Int), k] = (if k = j then 1 else 0) + remE t j [y, ((d + 1 : Nat) : Int), (row : Int), k] := by
  have hd : d ≤ row / t := by
    rw [Nat.le_div_iff_mul_le (by (first | lia | omega))]
    have := Nat.mul_le_mul_right d hts
    rw [Nat.mul_comm]
    (first | lia | omega)
  unfold remE
  simp only [List.getD_cons_zero, List.getD_cons_succ, Int.toNat_natCast]
  by_cases h : k = j
  · simp only [h, if_true]; (first | lia | omega)
  · simp only [h, if_false]
theorem rem_last {size t d row : Nat} {k j x : Int} (h1 : 1 ≤ d) (h2 : size * d ≤ row) (ht : 1 ≤ t) (hts : t ≤ size) (hd : row ≤ d) :
    remE t j [x, (d : Int), (row : Int), k] = (if k = j then 1 else 0) := by
  have hd' : d ≤ row / t := by
    rw [Nat.le_div_iff_mul_le (by (first | lia | omega))]
    have := Nat.mul_le_mul_right d hts
    rw [Nat.mul_comm]
    (first | lia | omega)
  have hr : row / t ≤ row := Nat.div_le_self _ _
  unfold remE
  simp only [List.getD_cons_zero, List.getD_cons_succ, Int.toNat_natCast]
  by_cases h : k = j
  · simp only [h, if_true]; (first | lia | omega)
  · simp only [h, if_false]

/-- what the top of the heap is -/
theorem SInv.top {ls rs size H given} (I : SInv ls rs size H given) (hH : 0 < H.length) : ∃ (d row : Nat) (k : Int), 1 ≤ d ∧ d ≤ row ∧ row ≤ 7 ∧ (k = 0 ∨ k = 1) ∧ at' H 0 = [-((420 / d * row : Nat) : Int), (d : Int), (row : Int), k] := I.ok _ (at_mem hH)
theorem SInv.guard {ls rs size H given} (I : SInv ls rs size H given) (hH : 0 < H.length) : given.length < fl 1 ls + fl 1 rs := by
  obtain ⟨d, row, k, h1, h2, h3, _, e⟩ := I.top hH
  have ht := I.tot
  match H, hH with
  | a :: r, _ =>
    rw [TS_cons] at ht
    have : totE a = row - (d - 1) := by
      have : a = _ := e
      rw [this]
      simp [totE]
    (first | lia | omega)
theorem count_snoc (l : List Int) (k j : Int) : (l ++ [k]).count j = l.count j + (if k = j then 1 else 0) := by
  rw [List.count_append]
  congr 1
  by_cases h : k = j
  · subst h; simp
  · simp [h]
theorem SInv.replace {ls rs size H given} (I : SInv ls rs size H given) (hH : 0 < H.length) {d row : Nat} {k : Int} (h1 : 1 ≤ d) (h2 : d < row) (h3 : row ≤ 7) (hk : k = 0 ∨ k = 1)
    (e : at' H 0 = [-((420 / d * row : Nat) : Int), (d : Int), (row : Int), k]) (hs : size * d ≤ row) :
    SInv ls rs size (siftupF (H.set 0 [-((420 / (d + 1) * row : Nat) : Int), ((d + 1 : Nat) : Int), (row : Int), k]) 0) (given ++ [k]) ∧
    TS (siftupF (H.set 0 [-((420 / (d + 1) * row : Nat) : Int), ((d + 1 : Nat) : Int), (row : Int), k]) 0) < TS H := by
  have q := replaceF_ok (r := [-((420 / (d + 1) * row : Nat) : Int), ((d + 1 : Nat) : Int), (row : Int), k]) I.len4 rfl hH I.hp
  have ek : EOk [-((420 / (d + 1) * row : Nat) : Int), ((d + 1 : Nat) : Int), (row : Int), k] := ⟨d + 1, row, k, by (first | lia | omega), by (first | lia | omega), h3, hk, rfl⟩
  have eL : (siftupF (H.set 0 [-((420 / (d + 1) * row : Nat) : Int), ((d + 1 : Nat) : Int), (row : Int), k]) 0).length = H.length := by rw [siftupF_length, List.length_set]
  generalize hr : ([-((420 / (d + 1) * row : Nat) : Int), ((d + 1 : Nat) : Int), (row : Int), k] : List Int) = r at q ek eL ⊢
  generalize siftupF (H.set 0 r) 0 = H' at q eL ⊢
  have hT : TS H' + 1 = TS H := by
    have := TS_perm q.2
    rw [TS_cons, TS_cons, e, ← hr] at this
    simp only [totE, List.getD_cons_zero, List.getD_cons_succ, Int.toNat_natCast] at this
    (first | lia | omega)
  refine ⟨⟨by rw [eL]; exact q.1, fun x hx => ?_, fun t t1 t2 => ?_, ?_⟩, by (first | lia | omega)⟩
  · rcases List.mem_cons.mp (q.2.mem_iff.mp (.tail _ hx)) with rfl | h
    · exact ek
    · exact I.ok x h
  · have s := I.seats t t1 t2
    have p0 := RS_perm (t := t) (k := 0) q.2
    have p1 := RS_perm (t := t) (k := 1) q.2
    rw [RS_cons, RS_cons, e, ← hr] at p0 p1
    rw [rem_step (y := -((420 / (d + 1) * row : Nat) : Int)) h1 hs t1 t2] at p0 p1
    rw [count_snoc, count_snoc]
    (first | lia | omega)
  · have := I.tot
    rw [List.length_append]
    simp only [List.length_cons, List.length_nil]
    (first | lia | omega)
theorem SInv.pop {ls rs size H given} (I : SInv ls rs size H given) (hH : 0 < H.length) {d row : Nat} {k : Int} (h1 : 1 ≤ d) (h2 : d = row) (h3 : row ≤ 7) (hk : k = 0 ∨ k = 1)
    (e : at' H 0 = [-((420 / d * row : Nat) : Int), (d : Int), (row : Int), k]) (hs : size * d ≤ row) :
    SInv ls rs size (popF H) (given ++ [k]) ∧ TS (popF H) < TS H := by
  have q := popF_ok I.len4 hH I.hp
  generalize popF H = H' at q ⊢
  have hT : TS H' + 1 = TS H := by
    have := TS_perm q.2
    rw [TS_cons, e] at this
    simp only [totE, List.getD_cons_zero, List.getD_cons_succ, Int.toNat_natCast] at this
    (first | lia | omega)
  refine ⟨⟨q.1, fun x hx => I.ok x (q.2.mem_iff.mp (.tail _ hx)), fun t t1 t2 => ?_, ?_⟩, by (first | lia | omega)⟩
  · have s := I.seats t t1 t2
    have p0 := RS_perm (t := t) (k := 0) q.2
    have p1 := RS_perm (t := t) (k := 1) q.2
    rw [RS_cons, e] at p0 p1
    rw [rem_last h1 hs t1 t2 (by (first | lia | omega))] at p0 p1
    rw [count_snoc, count_snoc]
    (first | lia | omega)
  · have := I.tot
    rw [List.length_append]
    simp only [List.length_cons, List.length_nil]
    (first | lia | omega)
/-- the while ends -/
theorem SInv.done {ls rs size H given} (I : SInv ls rs size H given) (hs : 1 ≤ size) (hend : 0 < H.length → ¬ (at' H 0).getD 0 0 ≤ -420 * (size : Int)) :
    given.count 0 = fl size ls ∧ given.count 1 = fl size rs ∧ (size = 1 → H = []) := by
  have key : ∀ e ∈ H, ∀ (d row : Nat) (k : Int), 1 ≤ d → d ≤ row → row ≤ 7 → e = [-((420 / d * row : Nat) : Int), (d : Int), (row : Int), k] → row < size * d := by
    intro e he d row k h1 h2 h3 ee
    have hH : 0 < H.length := List.length_pos_of_mem he
    obtain ⟨j, hj, hje⟩ := List.getElem_of_mem he
    have hle := (HP.root I.hp I.len4 j hj).head (by rw [I.len4 _ (at_mem hH)]; decide) (by rw [I.len4 _ (at_mem hj)]; decide)
    have eje : at' H j = e := by unfold at'; rw [List.getD_eq_getElem?_getD, List.getElem?_eq_getElem hj]; exact hje
    rw [eje, ee] at hle
    simp only [List.getD_cons_zero] at hle
    have := hend hH
    have h4 : ¬ -((420 / d * row : Nat) : Int) ≤ -420 * (size : Int) := fun q => this (Int.le_trans hle q)
    rw [worth_le h1 h2 h3] at h4
    (first | lia | omega)
  have z : ∀ k e, e ∈ H → remE size k e = 0 := by
    intro k e he
    obtain ⟨d, row, k', h1, h2, h3, _, ee⟩ := I.ok e he
    have := key e he d row k' h1 h2 h3 ee
    have hd : row / size < d := by rw [Nat.div_lt_iff_lt_mul (by (first | lia | omega)), Nat.mul_comm]; exact this
    rw [ee]
    unfold remE
    simp only [List.getD_cons_zero, List.getD_cons_succ, Int.toNat_natCast]
    split <;> (first | lia | omega)
  have s := I.seats size hs (Nat.le_refl _)
  rw [RS_zero (z 0), RS_zero (z 1)] at s
  refine ⟨s.1, s.2, fun h1 => ?_⟩
  subst h1
  match H, I.ok, key with
  | [], _, _ => rfl
  | e :: r, ok, key =>
    obtain ⟨d, row, k', h1, h2, h3, _, ee⟩ := ok e (.head _)
    have := key e (.head _) d row k' h1 h2 h3 ee
    (first | lia | omega)
-- the start
noncomputable def ent (k : Int) (r : Int) : List Int := [-420 * r, 1, r, k]
noncomputable def ents (k : Int) (ls : List Int) : List (List Int) := (ls.filter fun r => decide (r > 0)).map (ent k)
theorem RS_ents (t : Nat) (k j : Int) : ∀ ls : List Int, RS t j (ents k ls) = if k = j then fl t ls else 0
  | [] => by simp [RS, ents, fl]
  | r :: ls => by
    have ih := RS_ents t k j ls
    unfold ents at ih ⊢
    by_cases h : r > 0
    · rw [List.filter_cons_of_pos (by simpa using h), List.map_cons, RS_cons, ih]
      unfold fl
      rw [List.map_cons, List.sum_cons]
      unfold remE ent
      simp only [List.getD_cons_zero, List.getD_cons_succ]
      by_cases hk : k = j
      · simp only [hk, if_true]
        have : (1 : Int).toNat - 1 = 0 := rfl
        rw [this, Nat.sub_zero]
      · simp only [hk, if_false]
    · rw [List.filter_cons_of_neg (by simpa using h), ih]
      unfold fl
      rw [List.map_cons, List.sum_cons]
      have : r.toNat = 0 := by (first | lia | omega)
      rw [this, Nat.zero_div, Nat.zero_add]
theorem TS_ents (k : Int) : ∀ ls : List Int, TS (ents k ls) = fl 1 ls
  | [] => by simp [TS, ents, fl]
  | r :: ls => by
    have ih := TS_ents k ls
    unfold ents at ih ⊢
    by_cases h : r > 0
    · rw [List.filter_cons_of_pos (by simpa using h), List.map_cons, TS_cons, ih]
      unfold fl
      rw [List.map_cons, List.sum_cons]
      unfold totE ent
      simp only [List.getD_cons_zero, List.getD_cons_succ, Nat.div_one]
      have : (1 : Int).toNat - 1 = 0 := rfl
      rw [this, Nat.sub_zero]
    · rw [List.filter_cons_of_neg (by simpa using h), ih]
      unfold fl
      rw [List.map_cons, List.sum_cons]
      have : r.toNat = 0 := by (first | lia | omega)
      rw [this, Nat.zero_div, Nat.zero_add]
theorem ents_ok {k : Int} {ls : List Int} (hk : k = 0 ∨ k = 1) (h : ∀ r ∈ ls, 0 ≤ r ∧ r ≤ 7) : ∀ e ∈ ents k ls, EOk e := by
  intro e he
  obtain ⟨r, hr, rfl⟩ := List.mem_map.mp he
  obtain ⟨hm, hp⟩ := List.mem_filter.mp hr
  have h7 := h r hm
  have hp' : r > 0 := by simpa using hp
  refine ⟨1, r.toNat, k, Nat.le_refl _, by (first | lia | omega), by (first | lia | omega), hk, ?_⟩
  unfold ent
  have e1 : ((r.toNat : Nat) : Int) = r := by (first | lia | omega)
  have e2 : -((420 / 1 * r.toNat : Nat) : Int) = -420 * r := by (first | lia | omega)
  rw [e1, e2]; rfl
theorem SInv.start {ls rs : List Int} {size : Nat} (hl : ∀ r ∈ ls, 0 ≤ r ∧ r ≤ 7) (hr : ∀ r ∈ rs, 0 ≤ r ∧ r ≤ 7) : SInv ls rs size (heapifyF (ents 0 ls ++ ents 1 rs)) [] := by
  have ok : ∀ e ∈ ents 0 ls ++ ents 1 rs, EOk e := fun e he => by
    rcases List.mem_append.mp he with h | h
    · exact ents_ok (.inl rfl) hl e h
    · exact ents_ok (.inr rfl) hr e h
  have q := heapifyF_ok (m := 4) fun e he => (ok e he).len
  refine ⟨by rw [q.2.length_eq]; exact q.1, fun e he => ok e (q.2.mem_iff.mp he), fun t _ _ => ?_, ?_⟩
  · have a : ∀ j, RS t j (ents 0 ls ++ ents 1 rs) = RS t j (ents 0 ls) + RS t j (ents 1 rs) := fun j => by simp [RS]
    rw [RS_perm q.2, RS_perm q.2, a, a, RS_ents, RS_ents, RS_ents, RS_ents]
    simp
  · have a : TS (ents 0 ls ++ ents 1 rs) = TS (ents 0 ls) + TS (ents 1 rs) := by simp [TS]
    rw [TS_perm q.2, a, TS_ents, TS_ents]
    simp
noncomputable def toldF (ls rs : List Int) : Nat → Nat → List (List Int)
  | _, 0 => []
  | s, n + 1 => [(s : Int), (fl s ls : Int), (fl s rs : Int)] :: toldF ls rs (s + 1) n
theorem toldF_len (ls rs : List Int) : ∀ n s, (toldF ls rs s n).length = n
  | 0, _ => rfl
  | n + 1, s => by rw [toldF, List.length_cons, toldF_len ls rs n]
theorem fl_one {ls : List Int} (h : ∀ r ∈ ls, 0 ≤ r ∧ r ≤ 7) : (fl 1 ls : Int) = ls.sum := by
  induction ls with
  | nil => rfl
  | cons r ls ih =>
    have := ih fun r hr => h r (.tail _ hr)
    have h0 := h r (.head _)
    unfold fl at this ⊢
    rw [List.map_cons, List.sum_cons, List.sum_cons, Nat.div_one]
    (first | lia | omega)

-- the texts and what the scan makes of them
noncomputable def leadT (ns : List Nat) : List Nat := (ns.map fun r => List.replicate r 32 ++ [9]).flatten
noncomputable def textT (ns : List Nat) (tr : Nat) : List Nat := leadT ns ++ List.replicate tr 32 ++ [120, 9]
theorem scan_spaces (rest : List Nat) : ∀ (r : Nat) (s : Sc), scanF (List.replicate r 32 ++ rest) s = scanF rest ⟨s.cnt, s.b + r, s.n + r, s.nt⟩
  | 0, s => rfl
  | r + 1, s => by
    rw [List.replicate_succ, List.cons_append, scanF, if_pos rfl, scan_spaces rest r]
    unfold Sc.space
    dsimp only
    rw [Nat.add_assoc, Nat.add_comm 1 r, Nat.add_assoc, Nat.add_comm 1 r]
noncomputable def addC (cnt : List Int) (r : Nat) : List Int := (Sc.tab ⟨cnt, r, 0, 0⟩).cnt
theorem tab_eq (s : Sc) : s.tab = ⟨addC s.cnt s.b, 0, s.n + 1, s.nt + 1⟩ := rfl
noncomputable def cntOf (ns : List Nat) : List Int := ns.foldl addC []
theorem scan_lead (rest : List Nat) : ∀ (ns : List Nat) (cnt : List Int) (n nt : Nat), scanF (leadT ns ++ rest) ⟨cnt, 0, n, nt⟩ = scanF rest ⟨ns.foldl addC cnt, 0, n + ns.sum + ns.length, nt + ns.length⟩
  | [], cnt, n, nt => rfl
  | r :: ns, cnt, n, nt => by
    have e : leadT (r :: ns) ++ rest = List.replicate r 32 ++ (9 :: (leadT ns ++ rest)) := by simp [leadT]
    rw [e, scan_spaces, scanF, if_neg (by decide), if_pos rfl, tab_eq]
    dsimp only
    rw [scan_lead rest ns]
    have e1 : n + r + 1 + ns.sum + ns.length = n + (r :: ns).sum + (r :: ns).length := by simp; (first | lia | omega)
    have e2 : nt + 1 + ns.length = nt + (r :: ns).length := by simp; (first | lia | omega)
    rw [e1, e2, Nat.zero_add]
    rfl
theorem scan_text (ns : List Nat) (tr : Nat) : scanF (textT ns tr) ⟨[], 0, 0, 0⟩ = ⟨cntOf ns, tr, ns.sum + ns.length + tr, ns.length⟩ := by
  unfold textT
  rw [List.append_assoc, scan_lead, scan_spaces, scanF, if_neg (by decide), if_neg (by decide)]
  simp [cntOf]
theorem addC_len (cnt : List Int) (r : Nat) : (addC cnt r).length = max cnt.length (r + 1) := by
  show (List.set _ _ _).length = _
  rw [List.length_set]
  unfold Sc.padded
  dsimp only
  split
  · simp; (first | lia | omega)
  · (first | lia | omega)
theorem padded_get (cnt : List Int) (r i : Nat) : (Sc.padded ⟨cnt, r, 0, 0⟩).getD i 0 = cnt.getD i 0 := by
  unfold Sc.padded
  dsimp only
  split
  · rw [List.getD_eq_getElem?_getD, List.getD_eq_getElem?_getD]
    by_cases h : i < cnt.length
    · rw [List.getElem?_append_left h]
    · rw [List.getElem?_append_right (by (first | lia | omega)), List.getElem?_eq_none (l := cnt) (by (first | lia | omega))]
      by_cases h2 : i - cnt.length < r - cnt.length + 1
      · rw [List.getElem?_replicate, if_pos h2]; rfl
      · rw [List.getElem?_replicate, if_neg h2]
  · rfl
theorem addC_get (cnt : List Int) (r i : Nat) : (addC cnt r).getD i 0 = cnt.getD i 0 + if i = r then 1 else 0 := by
  show (List.set _ _ _).getD i 0 = _
  have hr := (Sc.padded_length ⟨cnt, r, 0, 0⟩).1
  dsimp only at hr ⊢
  by_cases h : i = r
  · subst h
    rw [if_pos rfl, List.getD_eq_getElem?_getD, List.getElem?_set_self hr, padded_get]
    rfl
  · rw [if_neg h, List.getD_eq_getElem?_getD, List.getElem?_set_ne (Ne.symm h), ← List.getD_eq_getElem?_getD, padded_get, Int.add_zero]
theorem fold_get (i : Nat) : ∀ (ns : List Nat) (cnt : List Int), (ns.foldl addC cnt).getD i 0 = cnt.getD i 0 + (ns.count i : Nat)
  | [], cnt => by simp
  | r :: ns, cnt => by
    rw [List.foldl_cons, fold_get i ns, addC_get, List.count_cons]
    by_cases h : i = r
    · subst h; simp; (first | lia | omega)
    · have : ¬ r = i := fun q => h q.symm
      simp [h, this]
theorem fold_len : ∀ (ns : List Nat) (cnt : List Int), (∀ r ∈ ns, r < (ns.foldl addC cnt).length) ∧ cnt.length ≤ (ns.foldl addC cnt).length ∧ ((ns.foldl addC cnt).length = cnt.length ∨ ∃ r ∈ ns, (ns.foldl addC cnt).length = r + 1)
  | [], cnt => ⟨fun r h => (nomatch h), Nat.le_refl _, .inl rfl⟩
  | r :: ns, cnt => by
    obtain ⟨h1, h2, h3⟩ := fold_len ns (addC cnt r)
    have hl := addC_len cnt r
    rw [List.foldl_cons]
    refine ⟨fun x hx => ?_, by (first | lia | omega), ?_⟩
    · rcases List.mem_cons.mp hx with rfl | hx
      · (first | lia | omega)
      · exact h1 x hx
    · rcases h3 with h3 | ⟨x, hx, h3⟩
      · by_cases hc : r + 1 ≤ cnt.length
        · left; (first | lia | omega)
        · right; exact ⟨r, .head _, by (first | lia | omega)⟩
      · right; exact ⟨x, .tail _ hx, h3⟩
theorem cnt_get (ns : List Nat) (i : Nat) : (cntOf ns).getD i 0 = (ns.count i : Nat) := by
  have := fold_get i ns []
  unfold cntOf
  rw [this]; simp
theorem cnt_lt (ns : List Nat) : ∀ r ∈ ns, r < (cntOf ns).length := (fold_len ns []).1
theorem cnt_len (ns : List Nat) : (cntOf ns).length = 0 ∨ ∃ r ∈ ns, (cntOf ns).length = r + 1 := (fold_len ns []).2.2
theorem cnt_perm {ns ms : List Nat} (h : ns.Perm ms) : cntOf ns = cntOf ms := by
  have hl : (cntOf ns).length = (cntOf ms).length := by
    rcases cnt_len ns with h1 | ⟨r, hr, h1⟩ <;> rcases cnt_len ms with h2 | ⟨x, hx, h2⟩
    · (first | lia | omega)
    · have := cnt_lt ns x (h.mem_iff.mpr hx); (first | lia | omega)
    · have := cnt_lt ms r (h.mem_iff.mp hr); (first | lia | omega)
    · have a := cnt_lt ns x (h.mem_iff.mpr hx)
      have b := cnt_lt ms r (h.mem_iff.mp hr)
      (first | lia | omega)
  apply List.ext_getElem hl
  intro i h1 h2
  have a := cnt_get ns i
  have b := cnt_get ms i
  rw [List.getD_eq_getElem?_getD, List.getElem?_eq_getElem h1] at a
  rw [List.getD_eq_getElem?_getD, List.getElem?_eq_getElem h2] at b
  simp only [Option.getD_some] at a b
  rw [a, b, h.count_eq]

-- columns
noncomputable def fN (t : Nat) (ns : List Nat) : Nat := (ns.map (· / t)).sum
theorem fl_nat (t : Nat) : ∀ ns : List Nat, fl t (ns.map fun (r : Nat) => (r : Int)) = fN t ns
  | [] => rfl
  | r :: ns => by
    have := fl_nat t ns
    unfold fl fN at this ⊢
    simp only [List.map_cons, List.sum_cons, Int.toNat_natCast] at this ⊢
    rw [this]
noncomputable def cutS (ts m : Nat) (ns : List Nat) : Nat := (ns.map fun r => if r < m then r / ts else 0).sum
theorem cut_succ (ts m : Nat) : ∀ ns : List Nat, cutS ts (m + 1) ns = cutS ts m ns + m / ts * ns.count m
  | [] => rfl
  | r :: ns => by
    have ih := cut_succ ts m ns
    unfold cutS at ih ⊢
    rw [List.map_cons, List.sum_cons, List.map_cons, List.sum_cons, ih, List.count_cons, Nat.mul_add]
    by_cases h : r = m
    · subst h
      rw [if_pos (Nat.lt_succ_self _), if_neg (Nat.lt_irrefl _)]
      simp
      (first | lia | omega)
    · have hb : (r == m) = false := by simpa using h
      rw [hb]
      by_cases h2 : r < m
      · rw [if_pos (by (first | lia | omega)), if_pos h2]
        simp
        (first | lia | omega)
      · rw [if_neg (by (first | lia | omega)), if_neg h2]
        simp
theorem cut_zero {ts : Nat} : ∀ ns : List Nat, cutS ts ts ns = 0
  | [] => rfl
  | r :: ns => by
    have ih := cut_zero (ts := ts) ns
    unfold cutS at ih ⊢
    rw [List.map_cons, List.sum_cons, ih]
    split
    · rename_i h; rw [Nat.div_eq_of_lt h]
    · rfl
theorem cut_all {ts m : Nat} : ∀ {ns : List Nat}, (∀ r ∈ ns, r < m) → cutS ts m ns = fN ts ns
  | [], _ => rfl
  | r :: ns, h => by
    have ih := cut_all (ts := ts) (m := m) fun r hr => h r (.tail _ hr)
    unfold cutS fN at ih ⊢
    rw [List.map_cons, List.sum_cons, ih, if_pos (h r (.head _)), List.map_cons, List.sum_cons]
theorem il_eq {ns : List Nat} {cnt : List Int} {ts : Nat} (hc : ∀ i, cnt.getD i 0 = (ns.count i : Nat)) : ∀ k, ilP cnt ts k = (cutS ts (ts + k) ns : Nat)
  | 0 => by rw [ilP, Nat.add_zero, cut_zero]; rfl
  | k + 1 => by
    rw [ilP, il_eq hc k, Int.toNat_natCast, hc, ← Nat.add_assoc, cut_succ]
    have : ((ts : Int) + (k : Int)) / (ts : Int) = (((ts + k) / ts : Nat) : Int) := by
      rw [← Int.natCast_add, Int.natCast_ediv]
    rw [this]
    simp
theorem ind_eq (ns : List Nat) (tr : Int) (ts : Nat) : indF (cntOf ns) tr ns.length ts = tr + ts * (ns.length + fN ts ns : Nat) := by
  unfold indF
  rw [il_eq (cnt_get ns), cut_all fun r hr => ?_]
  · rw [Int.natCast_add, Int.add_comm (fN ts ns : Int)]
  · have := cnt_lt ns r hr
    (first | lia | omega)
theorem fN_one (ns : List Nat) : fN 1 ns = ns.sum := by
  unfold fN
  have : (fun r : Nat => r / 1) = id := by funext r; exact Nat.div_one r
  rw [this, List.map_id]
theorem fN_big {t : Nat} : ∀ {ns : List Nat}, (∀ r ∈ ns, r < t) → fN t ns = 0
  | [], _ => rfl
  | r :: ns, h => by
    have ih := fN_big (t := t) fun r hr => h r (.tail _ hr)
    unfold fN at ih ⊢
    rw [List.map_cons, List.sum_cons, ih, Nat.div_eq_of_lt (h r (.head _))]
theorem fN_perm {t : Nat} {ns ms : List Nat} (h : ns.Perm ms) : fN t ns = fN t ms := (h.map _).sum_nat

-- the columns tell the rows
noncomputable def gN (t : Nat) (ns : List Nat) : Nat := ((ns.filter fun r => decide (t < r)).map (· / t)).sum
theorem fN_split {t : Nat} (ht : 1 ≤ t) : ∀ ns : List Nat, fN t ns = ns.count t + gN t ns
  | [] => rfl
  | r :: ns => by
    have ih := fN_split ht ns
    unfold fN gN at ih ⊢
    rw [List.map_cons, List.sum_cons, ih, List.count_cons]
    by_cases h1 : t < r
    · rw [List.filter_cons_of_pos (by simpa using h1), List.map_cons, List.sum_cons]
      have : (r == t) = false := by simp; (first | lia | omega)
      rw [this]
      simp
      (first | lia | omega)
    · rw [List.filter_cons_of_neg (by simpa using h1)]
      by_cases h2 : r = t
      · subst h2
        rw [Nat.div_self (by (first | lia | omega))]
        simp
        (first | lia | omega)
      · have : (r == t) = false := by simpa using h2
        rw [this, Nat.div_eq_of_lt (by (first | lia | omega))]
        simp
theorem len_split : ∀ ns : List Nat, ns.length = ns.count 0 + (ns.filter fun r => decide (0 < r)).length
  | [] => rfl
  | r :: ns => by
    have ih := len_split ns
    rw [List.length_cons, List.count_cons]
    by_cases h1 : 0 < r
    · rw [List.filter_cons_of_pos (by simpa using h1), List.length_cons]
      have : (r == 0) = false := by simp; (first | lia | omega)
      rw [this]
      simp
      (first | lia | omega)
    · rw [List.filter_cons_of_neg (by simpa using h1)]
      have : r = 0 := by (first | lia | omega)
      subst this
      simp
      (first | lia | omega)
theorem filter_perm {ns ms : List Nat} {t : Nat} (h : ∀ i, t < i → ns.count i = ms.count i) : (ns.filter fun r => decide (t < r)).Perm (ms.filter fun r => decide (t < r)) := by
  rw [List.perm_iff_count]
  intro a
  by_cases ha : t < a
  · rw [List.count_filter (by simpa using ha), List.count_filter (by simpa using ha), h a ha]
  · rw [List.count_eq_zero_of_not_mem (fun q => ha (by simpa using (List.mem_filter.mp q).2)), List.count_eq_zero_of_not_mem (fun q => ha (by simpa using (List.mem_filter.mp q).2))]
theorem counts_of {ns ms : List Nat} {N : Nat} (hn : ∀ r ∈ ns, r < N) (hm : ∀ r ∈ ms, r < N) (hf : ∀ t, 1 ≤ t → t < N → fN t ns = fN t ms) : ∀ d t, t + d = N → ∀ i, t ≤ i → 1 ≤ i → ns.count i = ms.count i
  | 0, t, e, i, hi, _ => by
    rw [List.count_eq_zero_of_not_mem (fun q => by have := hn i q; (first | lia | omega)), List.count_eq_zero_of_not_mem (fun q => by have := hm i q; (first | lia | omega))]
  | d + 1, t, e, i, hi, h1 => by
    have ih := counts_of hn hm hf d (t + 1) (by (first | lia | omega))
    by_cases h2 : t + 1 ≤ i
    · exact ih i h2 h1
    · have hit : i = t := by (first | lia | omega)
      subst hit
      have a := hf i h1 (by (first | lia | omega))
      rw [fN_split h1, fN_split h1] at a
      have : gN i ns = gN i ms := ((filter_perm fun j hj => ih j hj (by (first | lia | omega))).map _).sum_nat
      (first | lia | omega)
theorem perm_of {ns ms : List Nat} {N : Nat} (hn : ∀ r ∈ ns, r < N) (hm : ∀ r ∈ ms, r < N) (hlen : ns.length = ms.length) (hf : ∀ t, 1 ≤ t → t < N → fN t ns = fN t ms) : ns.Perm ms := by
  have hc : ∀ i, 1 ≤ i → ns.count i = ms.count i := fun i hi => counts_of hn hm hf N 0 (by (first | lia | omega)) i (by (first | lia | omega)) hi
  rw [List.perm_iff_count]
  intro a
  by_cases ha : 1 ≤ a
  · exact hc a ha
  · have e : a = 0 := by (first | lia | omega)
    subst e
    have p := (filter_perm (t := 0) fun i hi => hc i hi).length_eq
    have := len_split ns
    have := len_split ms
    (first | lia | omega)

-- the witnesses
noncomputable def rowsF (f g : Int → Int) : Nat → List (List Int)
  | 0 => []
  | k + 1 => rowsF f g k ++ [[1 + (k : Int), f (1 + k), g (1 + k)]]
theorem rowsF_len (f g : Int → Int) : ∀ k, (rowsF f g k).length = k
  | 0 => rfl
  | k + 1 => by rw [rowsF, List.length_append, rowsF_len f g k]; rfl
theorem rowsF_three {f g : Int → Int} : ∀ {k} {r}, r ∈ rowsF f g k → r.length = 3
  | 0, r, h => nomatch h
  | k + 1, r, h => by
    rw [rowsF] at h
    rcases List.mem_append.mp h with h | h
    · exact rowsF_three h
    · rw [List.mem_singleton.mp h]; rfl
theorem wit_eq (p : Int → Int → Bool) (f g : Int → Int) : ∀ k, witP p f g k = (rowsF f g k).filter fun r => p (r.getD 1 0) (r.getD 2 0)
  | 0 => rfl
  | k + 1 => by
    rw [witP, rowsF, List.filter_append, wit_eq p f g k]
    congr 1
    by_cases h : p (f (1 + k)) (g (1 + k)) = true
    · rw [if_pos h, List.filter_cons_of_pos (by simpa using h)]; rfl
    · rw [if_neg h, List.filter_cons_of_neg (by simpa using h)]; rfl
theorem rows_nil (p : Int → Int → Bool) (f g : Int → Int) : ∀ k, ((rowsF f g k).filter fun r => p (r.getD 1 0) (r.getD 2 0)) = [] ↔ ∀ j : Nat, j < k → p (f (1 + j)) (g (1 + j)) = false
  | 0 => ⟨fun _ j hj => absurd hj (Nat.not_lt_zero _), fun _ => rfl⟩
  | k + 1 => by
    rw [← wit_eq, witP, List.append_eq_nil_iff, wit_eq, rows_nil p f g k]
    constructor
    · rintro ⟨a, b⟩ j hj
      by_cases h : j = k
      · subst h
        cases q : p (f (1 + j)) (g (1 + j)) with
        | false => rfl
        | true => rw [if_pos q] at b; cases b
      · exact a j (by (first | lia | omega))
    · intro a
      refine ⟨fun j hj => a j (by (first | lia | omega)), ?_⟩
      rw [if_neg (by rw [a k (Nat.lt_succ_self _)]; exact Bool.false_ne_true)]
theorem told_snoc (ls rs : List Int) : ∀ n s, toldF ls rs s (n + 1) = toldF ls rs s n ++ [[((s + n : Nat) : Int), (fl (s + n) ls : Int), (fl (s + n) rs : Int)]]
  | 0, s => rfl
  | n + 1, s => by
    rw [toldF, told_snoc ls rs n (s + 1), toldF, List.cons_append]
    have : s + 1 + n = s + (n + 1) := by (first | lia | omega)
    rw [this]
noncomputable def dueRow (l0 l1 a b : Int) (r : List Int) : List Int := [r.getD 0 0, l0 + r.getD 0 0 * (a + r.getD 1 0), l1 + r.getD 0 0 * (b + r.getD 2 0)]
noncomputable def swapRow (r : List Int) : List Int := [r.getD 0 0, r.getD 2 0, r.getD 1 0]
theorem due_eq (ns ms : List Nat) (tr tr' : Int) : ∀ k, (toldF (ns.map fun (r : Nat) => (r : Int)) (ms.map fun (r : Nat) => (r : Int)) 1 k).map (dueRow tr tr' ns.length ms.length) = rowsF (indF (cntOf ns) tr ns.length) (indF (cntOf ms) tr' ms.length) k
  | 0 => rfl
  | k + 1 => by
    rw [told_snoc, List.map_append, due_eq ns ms tr tr' k, rowsF]
    congr 1
    have e : (1 : Int) + (k : Int) = ((1 + k : Nat) : Int) := by (first | lia | omega)
    rw [e, ind_eq, ind_eq, fl_nat, fl_nat]
    simp only [List.map_cons, List.map_nil, dueRow, List.getD_cons_zero, List.getD_cons_succ, Int.natCast_add]
theorem swap_eq (f g : Int → Int) : ∀ k, (rowsF f g k).map swapRow = rowsF g f k
  | 0 => rfl
  | k + 1 => by rw [rowsF, List.map_append, swap_eq f g k]; rfl
theorem long_eq {ns : List Nat} {tr : Nat} {M : Int} (hM : M ∈ (ns.map fun (r : Nat) => (r : Int)) ++ [(tr : Int)]) (ha : ∀ a ∈ (ns.map fun (r : Nat) => (r : Int)) ++ [(tr : Int)], a ≤ M) : max (((cntOf ns).length : Int) - 1) (tr : Int) = M := by
  have h1 := ha tr (List.mem_append_right _ (.head _))
  have h2 : ((cntOf ns).length : Int) - 1 ≤ M := by
    rcases cnt_len ns with h | ⟨r, hr, h⟩
    · (first | lia | omega)
    · have := ha r (List.mem_append_left _ (List.mem_map.mpr ⟨r, hr, rfl⟩))
      (first | lia | omega)
  have h3 : M ≤ max (((cntOf ns).length : Int) - 1) (tr : Int) := by
    rcases List.mem_append.mp hM with h | h
    · obtain ⟨r, hr, rfl⟩ := List.mem_map.mp h
      have := cnt_lt ns r hr
      (first | lia | omega)
    · rw [List.mem_singleton.mp h]
      (first | lia | omega)
  (first | lia | omega)

section
variable {prog : Program} {w : World} {A : Around} {s₀ : Shared} {g h : Heap} {env : Env}

/-- the tests of a comprehension: none or one -/
noncomputable def Tst (prog : Program) (w : World) (A : Around) (s₀ : Shared) (ifs : List Expr) (env : Env) (h : Heap) (Q : Bool → Heap → Prop) : Prop :=
  match ifs with
  | [] => Q true h
  | [c] => Ev prog w A s₀ (isTrue c env (eval c env)) h Q
  | _ => False
theorem tst_none {Q : Bool → Heap → Prop} (q : Q true h) : Tst prog w A s₀ [] env h Q := q
theorem tst_one {c : Expr} {Q : Bool → Heap → Prop} (q : Ev prog w A s₀ (isTrue c env (eval c env)) h Q) : Tst prog w A s₀ [c] env h Q := q
/-- the tests of a turn, as the library's two loops ask them: P behind a yes, N behind a no -/
noncomputable def TstW (prog : Program) (w : World) (A : Around) (ifs : List Expr) (env : Env) (P N : Shared → Prop) (E : Value → Shared → Prop) (s : Shared) : Prop :=
  match ifs with
  | [] => P s
  | [c] => wpAny (model prog w) A (isTrue c env (eval c env)) (fun ok s₁ => if ok = true then P s₁ else N s₁) E s
  | _ => False
theorem Tst.use {ifs : List Expr} {Q : Bool → Heap → Prop} {P N : Shared → Prop} {E : Value → Shared → Prop} {tk : Nat} (H : Tst prog w A s₀ ifs env h Q) (yes : ∀ h' tk', Q true h' → P (Sh s₀ h' tk')) (no : ∀ h' tk', Q false h' → N (Sh s₀ h' tk')) :
    TstW prog w A ifs env P N E (Sh s₀ h tk) := by
  match ifs, H with
  | [], H => exact yes _ _ H
  | [c], H => exact Ev.use H fun ok h' tk' q => by cases ok <;> first | exact no _ _ q | exact yes _ _ q
/-- a comprehension's loop with no test or one: the library's kcp_loop, kct_loop under one statement -/
theorem comp_loop {R : Result → Shared → Prop} {s : Shared} {elt target iter : Expr} {ifs : List Expr} {scope : Scope} {pos : Pos} {it acc : Value} (few : ifs = [] ∨ ∃ c, ifs = [c]) (I : Nat → Shared → Prop) {E : Value → Shared → Prop} (hE : E = notedBy (model prog w) A env fun e s' => R (.error e) s')
    (step : ∀ n s, I n s → wpAny (model prog w) A (pyNext it) (fun r s₁ => match r with
      | none => R (.ok .next) s₁
      | some v => wpAny (model prog w) A (letOwnedTupleGo target it v) (fun _ s₂ => wpAny (model prog w) A (assign target env v) (fun _ s₃ =>
          TstW prog w A ifs env (fun s₄ => wpAny (model prog w) A (eval elt env) (fun x s₅ => wpAny (model prog w) A (call (.builtin "list.append") [acc, x]) (fun _ s₆ => ∃ m, m < n ∧ I m s₆) E s₅) E s₄) (fun s₄ => ∃ m, m < n ∧ I m s₄) E s₃) E s₂) E s₁) E s)
    (n : Nat) (h : I n s) : codeAny (model prog w) A (.compLoop (.ListComp elt [⟨target, iter, ifs, 0⟩] scope pos) 0 it acc env) R s := by
  subst hE
  rcases few with rfl | ⟨c, rfl⟩
  · exact kcp_loop I step n h
  · exact kct_loop I step n h

/-- what a turn of a comprehension over a list does -/
structure CTurn (prog : Program) (w : World) (A : Around) (s₀ : Shared) (env : Env) (scope : Scope) (cl : List (Str × Addr)) (target : Expr) (ifs : List Expr) (elt : Expr) (h₁ : Heap) (vs : List Value) (F : Nat → List Value → Heap → Prop) : Prop where
  few : ifs = [] ∨ ∃ c, ifs = [c]
  go : ∀ (i : Nat) (v : Value) (s : Shared) (I l : Addr) (j : Nat) (Q : Unit → Shared → Prop) (E : Value → Shared → Prop), vs[i]? = some v → s.heap.IsListIter I l j → Q () s → wpAny (model prog w) A (letOwnedTupleGo target (.ref I) v) Q E s
  mono : ∀ i ys g g', Kp g g' → F i ys g → F i ys g'
  init : F 0 [] h₁
  turn : ∀ (i : Nat) (v : Value) (ys : List Value) (g₁ : Heap) (C D I : Addr) (PI : Obj → Prop) (h : Heap), vs[i]? = some v → Kp h₁ g₁ → F i ys g₁ → St g₁ C [] [(I, PI), (D, LS ys)] h →
    Ev prog w A s₀ (assign target (compEnvC scope cl C env) v) h (fun _ h₂ => Tst prog w A s₀ ifs (compEnvC scope cl C env) h₂ (fun ok h₃ =>
      if ok = true then Ev prog w A s₀ (eval elt (compEnvC scope cl C env)) h₃ (fun y h₄ => St g₁ C [] [(I, PI), (D, LS ys)] h₄ ∧ F (i + 1) (ys ++ [y]) (now h₄ C [(I, PI), (D, LS ys)]))
      else St g₁ C [] [(I, PI), (D, LS ys)] h₃ ∧ F (i + 1) ys (now h₃ C [(I, PI), (D, LS ys)])))

theorem comp_core {elt target iter : Expr} {ifs : List Expr} {scope : Scope} {cl : List (Str × Addr)} {pos : Pos} {use : Option (Value → Sem Unit)} {QQ : Value → Shared → Prop} (hh : A.handled = none)
    (hclos : closureFor scope env = pure cl) (hcell : ∀ y ∈ scope.names, y.2 ≠ .cell) (hkind : scope.kind = .function)
    (hnames : ∀ y ∈ scope.names, y.2 = .local → scope.names.lookup y.1 = some .local)
    (hs : ∀ x, foldedSetIterable iter env x = pure x) {tk : Nat}
    (H : Ev prog w A s₀ (eval iter env) h (fun xv h₁ => ∃ (l : Addr) (vs : List Value) (F : Nat → List Value → Heap → Prop), xv = .ref l ∧ h₁.IsList l vs.toArray ∧ vs.length < 2 ^ 20 ∧ CTurn prog w A s₀ env scope cl target ifs elt h₁ vs F ∧
      ∀ D C ys g₁ h' tk, F vs.length ys g₁ → Kp h₁ g₁ → St g₁ C [] [(D, LS ys)] h' → compPost (model prog w) A (fun _ _ => False) use QQ (.ref D) C (.ok .next) (Sh s₀ h' tk))) :
    wpAny (model prog w) A (comprehension (.ListComp elt [⟨target, iter, ifs, 0⟩] scope pos) scope env (firstIterPos [⟨target, iter, ifs, 0⟩] pos) (newList []) false (eval iter env) use) QQ (fun _ _ => False) (Sh s₀ h tk) := by
  refine wpAny_comprehension_free (use := use) rfl hs hclos hkind hnames (H.use fun xv h₁ tk₁ q => ?_)
  obtain ⟨l, vs, F, rfl, hl, hvs, T, done⟩ := q
  refine wpAny_pyIter_list (s := Sh s₀ h₁ tk₁) hl ?_
  refine wpAny_newObj_type (wpAny_newFunctionEnv hcell (by intro y hy; simp at hy) (fun h₄ hns hsb => ?_) hkind)
  dsimp only at hns hsb ⊢
  generalize hH2 : (h₁.push { cls := .type "list_iterator", data := .fields #[.ref l, .int 0 0] }) = H2 at hns hsb ⊢
  have z2 : H2.objs.size = h₁.objs.size + 1 := by rw [← hH2, Heap.size_push]
  generalize hH3 : H2.push { cls := .type "list", dict := none, data := .seq ([] : List Value).toArray } = H3 at hns hsb ⊢
  have z3 : H3.objs.size = h₁.objs.size + 2 := by rw [← hH3, Heap.size_push, z2]
  have n1 : h₁.get? h₁.objs.size = none := none_size h₁
  have big : ∀ k, h₁.get? (h₁.objs.size + k) = none := fun k => by
    cases q : h₁.get? (h₁.objs.size + k) with
    | none => rfl
    | some o' => exact absurd (Heap.lt_size q) (Nat.not_lt.mpr (Nat.le_add_right _ _))
  have k4 : ∀ b o, H3.get? b = some o → h₄.get? b = some o := fun b o e => hsb.extBut b o (Nat.ne_of_lt (Heap.lt_size e)) (Heap.get?_push_of_some _ e)
  have hI4 : h₄.IsListIter h₁.objs.size l 0 := ⟨_, k4 _ _ (hH3 ▸ Heap.get?_push_of_some _ (hH2 ▸ Heap.get?_push_size _ rfl)), rfl, rfl⟩
  have S4 : St h₁ H3.objs.size [] [(h₁.objs.size, fun _ => True), (H2.objs.size, LS [])] h₄ := by
    refine ⟨⟨_, hns, fun x v e => by cases e⟩, fun b o e => k4 _ _ (hH3 ▸ Heap.get?_push_of_some _ (hH2 ▸ Heap.get?_push_of_some _ e)), by rw [z3]; exact big 2, ?_, ?_⟩
    · intro p hp
      rcases List.mem_cons.mp hp with rfl | hp
      · obtain ⟨o, ho, _⟩ := hI4
        exact ⟨⟨o, ho, trivial⟩, by rw [z3]; exact (Nat.ne_of_lt (Nat.lt_add_of_pos_right (by decide)) : h₁.objs.size ≠ h₁.objs.size + 2), n1⟩
      · rw [List.mem_singleton.mp hp]
        exact ⟨⟨_, k4 _ _ (hH3 ▸ Heap.get?_push_size _ rfl), _, rfl⟩, by rw [z3, z2]; exact (Nat.ne_of_lt (Nat.lt_succ_self _) : h₁.objs.size + 1 ≠ h₁.objs.size + 2), by show h₁.get? H2.objs.size = none; rw [z2]; exact big 1⟩
    · simp [z2]
  have loop : ∀ tk, codeAny (model prog w) A (.compLoop (.ListComp elt [⟨target, iter, ifs, 0⟩] scope pos) 0 (.ref h₁.objs.size) (.ref H2.objs.size) (compEnvC scope cl H3.objs.size env))
      (compPost (model prog w) A (fun _ _ => False) use QQ (.ref H2.objs.size) H3.objs.size) (Sh s₀ h₄ tk) := by
    intro tk
    generalize H3.objs.size = C at S4 ⊢
    generalize H2.objs.size = D at S4 ⊢
    generalize h₁.objs.size = I at S4 hI4 ⊢
    refine comp_loop T.few (E := _) (hE := rfl) (I := fun k s' => ∃ i ys g₁ PI h tk, s' = Sh s₀ h tk ∧ Kp h₁ g₁ ∧ F i ys g₁ ∧ St g₁ C [] [(I, PI), (D, LS ys)] h ∧ h.IsListIter I l i ∧ i ≤ vs.length ∧ ys.length ≤ i ∧ k = vs.length + 1 - i) ?_ (vs.length + 1) ⟨0, [], h₁, _, h₄, tk, rfl, Kp.refl, T.init, S4, hI4, Nat.zero_le _, Nat.zero_le _, rfl⟩
    rintro k s' ⟨i, ys, g₁, PI, h, tk, rfl, kg, hF, S, hI, hin, hys, rfl⟩
    have hl' : h.IsList l vs.toArray := hl.at fun o e => S.keep _ _ (kg _ _ e)
    by_cases hlt : i < vs.length
    · obtain ⟨v, hv⟩ : ∃ v, vs[i]? = some v := ⟨_, List.getElem?_eq_getElem hlt⟩
      refine wpAny_pyNext_list_item (s := Sh s₀ h tk) hI hl' (x := v) (by simpa using hv) fun h₅ hI₅ hs₅ => ?_
      obtain ⟨o₅, ho₅, hc₅⟩ := id hI₅
      have S₅ := S.iter (fun b o hb e => hs₅.extBut b o (by simpa using hb) e) ho₅
      refine T.go i v _ I l (i + 1) _ _ hv hI₅ ?_
      have fin : ∀ ys' h₈ tk₈ g₂, Kp h₁ g₂ → F (i + 1) ys' g₂ → St g₂ C [] [(I, (· = o₅)), (D, LS ys')] h₈ → ys'.length ≤ i + 1 →
          ∃ m, m < vs.length + 1 - i ∧ ∃ i ys g₁ PI h tk, Sh s₀ h₈ tk₈ = Sh s₀ h tk ∧ Kp h₁ g₁ ∧ F i ys g₁ ∧ St g₁ C [] [(I, PI), (D, LS ys)] h ∧ h.IsListIter I l i ∧ i ≤ vs.length ∧ ys.length ≤ i ∧ m = vs.length + 1 - i := by
        intro ys' h₈ tk₈ g₂ k₂ hF₂ S₈ hy
        refine ⟨vs.length + 1 - (i + 1), by (first | lia | omega), i + 1, ys', g₂, _, h₈, tk₈, rfl, k₂, hF₂, S₈, ?_, hlt, hy, rfl⟩
        obtain ⟨o₈, ho₈, e₈⟩ := S₈.at (.head _)
        dsimp only at ho₈ e₈
        subst e₈
        exact ⟨_, ho₈, hc₅⟩
      refine (T.turn i v ys g₁ C D I _ h₅ hv kg hF S₅).use fun _ h₆ tk₆ q => Tst.use q (fun h₇ tk₇ q => ?_) fun h₇ tk₇ q => ?_
      · rw [if_pos rfl] at q
        refine Ev.use q fun y h₈ tk₈ q => ?_
        obtain ⟨S₈, hF₈⟩ := q
        refine wpAny_list_append_plain (s := Sh s₀ h₈ tk₈) S₈.list1 (fun h₉ hl₉ hs₉ => ?_) (by simp [sizeLine]; (first | lia | omega))
        have hl₉' : PL h₉ D (ys ++ [y]) := by simpa using hl₉
        exact fin (ys ++ [y]) h₉ tk₈ _ (kg.trans S₈.toNow) hF₈ (S₈.atNow.upd 1 rfl hs₉.extBut (ls_of hl₉')) (by simp; (first | lia | omega))
      · rw [if_neg Bool.false_ne_true] at q
        exact fin ys h₇ tk₇ _ (kg.trans q.1.toNow) q.2 q.1.atNow (by (first | lia | omega))
    · have hin' : i = vs.length := by (first | lia | omega)
      subst hin'
      refine wpAny_pyNext_list_end hh hI hl' (by simp) fun h₅ hs₅ => ?_
      exact done D C ys g₁ h₅ tk hF kg (S.without fun b o hb e => hs₅ b o (by simpa using hb) e)
  exact codeAny_compStart_list (loop _) (wpAny_pyIter_listiter (s := Sh s₀ h₄ _) hI4 (loop _))

theorem ev_comp {elt target iter : Expr} {ifs : List Expr} {scope : Scope} {cl : List (Str × Addr)} {pos : Pos} {Q : Value → Heap → Prop} (hh : A.handled = none)
    (hclos : closureFor scope env = pure cl) (hcell : ∀ y ∈ scope.names, y.2 ≠ .cell) (hkind : scope.kind = .function)
    (hnames : ∀ y ∈ scope.names, y.2 = .local → scope.names.lookup y.1 = some .local)
    (H : Ev prog w A s₀ (eval iter env) h (fun xv h₁ => ∃ (l : Addr) (vs : List Value) (F : Nat → List Value → Heap → Prop), xv = .ref l ∧ h₁.IsList l vs.toArray ∧ vs.length < 2 ^ 20 ∧ CTurn prog w A s₀ env scope cl target ifs elt h₁ vs F ∧
      ∀ D ys g₁ h', F vs.length ys g₁ → Kp h₁ g₁ → Kp g₁ h' → g₁.get? D = none → PL h' D ys → Q (.ref D) h'))
    (hs : ∀ x, foldedSetIterable iter env x = pure x := by intro _; rfl) :
    Ev prog w A s₀ (eval (.ListComp elt [⟨target, iter, ifs, 0⟩] scope pos) env) h Q := fun tk => by
  rw [eval_ListComp]
  refine comp_core (use := none) hh hclos hcell hkind hnames hs (H.mono ?_)
  rintro xv h₁ ⟨l, vs, F, rfl, hl, hvs, T, done⟩
  refine ⟨l, vs, F, rfl, hl, hvs, T, fun D C ys g₁ h' tk hF kg S => ?_⟩
  obtain ⟨m, hn, _⟩ := S.loc
  obtain ⟨hD, hDC, hDg⟩ := S.new _ (.head _)
  refine ⟨m, hn, fun h₂ hs₂ => ⟨h₂, tk, rfl, done D ys g₁ h₂ hF kg (fun b o e => hs₂.extBut b o (fun q => by rw [q, S.off] at e; cases e) (S.keep b o e)) hDg (pl_of ?_)⟩⟩
  obtain ⟨o, ho, hL⟩ := hD
  exact ⟨o, hs₂.extBut _ _ hDC ho, hL⟩

theorem ev_assign_comp {elt target iter : Expr} {ifs : List Expr} {scope : Scope} {cl : List (Str × Addr)} {pos spos py : Pos} {y : Str} {ps : List (Str × Value)} {news : List (Addr × (Obj → Prop))} {Q : Flow → Heap → Prop} (S₀ : St g env.locals ps news h) (hh : A.handled = none)
    (hsw : swapsWith (.ListComp elt [⟨target, iter, ifs, 0⟩] scope pos) (some (.Name y py)) spos.line env = pure true)
    (hclos : closureFor scope env = pure cl) (hcell : ∀ y ∈ scope.names, y.2 ≠ .cell) (hkind : scope.kind = .function)
    (hnames : ∀ y ∈ scope.names, y.2 = .local → scope.names.lookup y.1 = some .local)
    (H : Ev prog w A s₀ (eval iter env) h (fun xv h₁ => ∃ (l : Addr) (vs : List Value) (F : Nat → List Value → Heap → Prop), xv = .ref l ∧ h₁.IsList l vs.toArray ∧ vs.length < 2 ^ 20 ∧ CTurn prog w A s₀ env scope cl target ifs elt h₁ vs F ∧ St g env.locals ps news h₁ ∧
      ∀ D ys g₁ h', F vs.length ys g₁ → Kp h₁ g₁ → g₁.get? D = none → (∀ b o, b ≠ env.locals → g₁.get? b = some o → h'.get? b = some o) → St g env.locals ((y, .ref D) :: ps) ((D, LS ys) :: news) h' → Q .next h'))
    (hs : ∀ x, foldedSetIterable iter env x = pure x := by intro _; rfl) (hk : env.scope.kind = .function := by rfl) (hl : env.kindOf y = some .local := by rfl) :
    Ev prog w A s₀ (exec (.Assign [.Name y py] (.ListComp elt [⟨target, iter, ifs, 0⟩] scope pos) spos) env) h Q := fun tk => by
  rw [exec_Assign_Name_used _ _ _ _ hsw]
  refine wpAny_bind (wpAny_standAt (wpAny_bind ?_))
  show wpAny _ A (do let _ ← comprehension (.ListComp elt [⟨target, iter, ifs, 0⟩] scope pos) scope env _ (newList []) false (eval iter env) (some (assign (.Name y py) env))) _ _ _
  refine wpAny_bind (wpAny_mono (comp_core (use := some (assign (.Name y py) env)) (QQ := fun _ s' => ∃ h' tk', s' = Sh s₀ h' tk' ∧ Q .next h') hh hclos hcell hkind hnames hs (H.mono ?_)) (fun _ s' hq => wpAny_pure (wpAny_pure hq)) fun _ _ e => e)
  rintro xv h₁ ⟨l, vs, F, rfl, hl₁, hvs, T, So, done⟩
  refine ⟨l, vs, F, rfl, hl₁, hvs, T, fun D C ys g₁ h' tk hF kg S => ?_⟩
  obtain ⟨m, hn, _⟩ := S.loc
  obtain ⟨hD, hDC, hDg⟩ := S.new _ (.head _)
  dsimp only at hD hDC hDg
  have k1 : Kp h₁ h' := kg.trans S.keep
  have dn : h₁.get? D = none := by
    cases q : h₁.get? D with
    | none => rfl
    | some o => rw [kg _ _ q] at hDg; cases hDg
  have cn : h₁.get? C = none := by
    cases q : h₁.get? C with
    | none => rfl
    | some o => have := S.off; rw [kg _ _ q] at this; cases this
  obtain ⟨oD, hoD, hLD⟩ := hD
  have So' : St g env.locals ps ((D, LS ys) :: news) h' := So.add ⟨fun b o _ e => k1 b o e, fun m' hm' => (So.grown k1).loc.choose_spec.1 |> fun z => by
    obtain ⟨o, es, ep, a, b, c⟩ := hm'
    exact ⟨o, es, ep, k1 _ _ a, b, c⟩⟩ dn hoD hLD
  have hCL : C ≠ env.locals := fun q => by
    obtain ⟨m', ⟨o, _, _, ho, _⟩, _⟩ := So.loc
    rw [← q, cn] at ho; cases ho
  refine Ev.use (ev_asg_name (ev_store2 (Q := fun _ h₂ => St g env.locals ((y, .ref D) :: ps) ((D, LS ys) :: news) h₂ ∧ Heap.SameBut env.locals h' h₂) So' (fun h₂ S₂ hs₂ => ⟨S₂, hs₂⟩) hk hl)) fun _ h₂ tk₂ q => ?_
  obtain ⟨S₂, hs₂⟩ := q
  refine ⟨m, hn.sameBut hs₂ hCL, fun h₃ hs₃ => ⟨h₃, tk₂, rfl, done D ys g₁ h₃ hF kg hDg (fun b o hb e => hs₃.extBut b o (fun q => by rw [q, S.off] at e; cases e) (hs₂.extBut b o hb (S.keep b o e))) ?_⟩⟩
  -- the comprehension's own frame is let go
  obtain ⟨m₂, hn₂, hm₂⟩ := S₂.loc
  have hgC : g.get? C = none := by
    cases q : g.get? C with
    | none => rfl
    | some o => rw [So.keep _ _ q] at cn; cases cn
  refine ⟨⟨m₂, hn₂.sameBut hs₃ (Ne.symm hCL), hm₂⟩, fun b o e => hs₃.extBut b o (fun q => by rw [q, hgC] at e; cases e) (S₂.keep b o e), S₂.off, fun p hp => ?_, S₂.nd⟩
  obtain ⟨⟨o, ho, hP⟩, a, b⟩ := S₂.new p hp
  refine ⟨⟨o, hs₃.extBut _ _ (fun q => ?_) ho, hP⟩, a, b⟩
  rcases List.mem_cons.mp hp with rfl | hp'
  · exact hDC q
  · obtain ⟨⟨o', ho', _⟩, _⟩ := So.new p hp'
    rw [q, cn] at ho'; cases ho'

/-- rows made as new tuples -/
noncomputable def TR (h₁ : Heap) : Heap → List Value → List (List Int) → Prop
  | _, [], [] => True
  | h, v :: vs, r :: rs => (∃ ta vals, v = .ref ta ∧ IsTup h ta (vals : List Value).toArray ∧ IntsV vals r ∧ h₁.get? ta = none) ∧ TR h₁ h vs rs
  | _, _, _ => False
theorem TR.mono {h₁ h h' : Heap} : ∀ {vs rs}, TR h₁ h vs rs → (∀ b o, h₁.get? b = none → h.get? b = some o → h'.get? b = some o) → TR h₁ h' vs rs
  | [], [], _, _ => trivial
  | v :: vs, r :: rs, ⟨⟨ta, vals, e, ⟨o, ho, ht⟩, hi, hn⟩, x⟩, k => ⟨⟨ta, vals, e, ⟨o, k _ _ hn ho, ht⟩, hi, hn⟩, TR.mono x k⟩
  | [], _ :: _, x, _ => x.elim
  | _ :: _, [], x, _ => x.elim
theorem TR.snoc {h₁ h : Heap} {v r} : ∀ {vs rs}, TR h₁ h vs rs → (∃ ta vals, v = .ref ta ∧ IsTup h ta (vals : List Value).toArray ∧ IntsV vals r ∧ h₁.get? ta = none) → TR h₁ h (vs ++ [v]) (rs ++ [r])
  | [], [], _, y => ⟨y, trivial⟩
  | _ :: vs, _ :: rs, ⟨z, x⟩, y => ⟨z, TR.snoc x y⟩
  | [], _ :: _, x, _ => x.elim
  | _ :: _, [], x, _ => x.elim
theorem TR.rds {h₁ h : Heap} : ∀ {vs rs}, TR h₁ h vs rs → Rds h vs (itDs rs)
  | [], [], _ => .nil
  | _ :: vs, _ :: rs, ⟨⟨ta, vals, e, ht, hi, hn⟩, x⟩ => e ▸ .cons (Rd.of_tup ht hi.rds) (TR.rds x)
  | [], _ :: _, x => x.elim
  | _ :: _, [], x => x.elim
theorem TR.rdsNow {h₁ g₁ h' : Heap} {L : Addr} {ps : List (Str × Value)} {news news' : List (Addr × (Obj → Prop))} {vs rs} (x : TR h₁ g₁ vs rs) (S : St g L ps news h₁) (k : ∀ b o, b ≠ L → g₁.get? b = some o → h'.get? b = some o)
    (hn : ∀ p ∈ news', p.1 ∈ news.map (·.1) ∨ g₁.get? p.1 = none) : Rds (now h' L news') vs (itDs rs) := by
  refine (TR.mono (h' := now h' L news') x fun b o e1 e2 => ?_).rds
  have hbL : b ≠ L := fun q => by
    obtain ⟨m', ⟨o, _, _, ho, _⟩, _⟩ := S.loc
    rw [← q, e1] at ho; cases ho
  refine now_get (k b o hbL e2) hbL fun q => ?_
  obtain ⟨p, hp, rfl⟩ := List.mem_map.mp q
  rcases hn p hp with h1 | h1
  · obtain ⟨p', hp', e⟩ := List.mem_map.mp h1
    obtain ⟨⟨o', ho', _⟩, _⟩ := S.new p' hp'
    rw [e, e1] at ho'; cases ho'
  · rw [h1] at e2; cases e2
end

section
variable {prog : Program} {w : World} {A : Around} {s₀ : Shared} {g h : Heap} {env : Env}
theorem paired_mono {α β : Type} {F G : α → β → Prop} (hfg : ∀ a b, F a b → G a b) : ∀ {l₁ : List α} {l₂ : List β}, Paired F l₁ l₂ → Paired G l₁ l₂
  | _, _, .nil => .nil
  | _, _, .cons x y => .cons (hfg _ _ x) (paired_mono hfg y)
/-- a comprehension over a list, item by item -/
theorem comp_gen {α : Type} {scope : Scope} {cl : List (Str × Addr)} {target elt : Expr} {ifs : List Expr} {h₁ : Heap} {vs : List Value} (items : List α) (V : α → Value → Prop) (p : α → Bool) (Y : Heap → Value → α → Prop)
    (hlen : vs.length = items.length) (hv : ∀ (i : Nat) (v : Value), vs[i]? = some v → ∃ a, items[i]? = some a ∧ V a v) (hY : ∀ g g' y a, Kp g g' → Y g y a → Y g' y a)
    (hgo : ∀ (a : α) (v : Value) (s : Shared) (I l : Addr) (j : Nat) (Q : Unit → Shared → Prop) (E : Value → Shared → Prop), V a v → s.heap.IsListIter I l j → Q () s → wpAny (model prog w) A (letOwnedTupleGo target (.ref I) v) Q E s)
    (hb : ∀ a v g₁ C D I PI ys h, V a v → Kp h₁ g₁ → St g₁ C [] [(I, PI), (D, LS ys)] h →
      Ev prog w A s₀ (assign target (compEnvC scope cl C env) v) h (fun _ h₂ => Tst prog w A s₀ ifs (compEnvC scope cl C env) h₂ (fun ok h₃ => ok = p a ∧
        (ok = true → Ev prog w A s₀ (eval elt (compEnvC scope cl C env)) h₃ (fun y h₄ => St g₁ C [] [(I, PI), (D, LS ys)] h₄ ∧ Y (now h₄ C [(I, PI), (D, LS ys)]) y a)) ∧
        (ok = false → St g₁ C [] [(I, PI), (D, LS ys)] h₃)))) (few : ifs = [] ∨ ∃ c, ifs = [c] := by first | exact .inl rfl | exact .inr ⟨_, rfl⟩) :
    CTurn prog w A s₀ env scope cl target ifs elt h₁ vs (fun i ys g => Paired (fun a y => Y g y a) ((items.take i).filter p) ys) where
  few := few
  go := fun i v s I l j Q E hi hit q => by
    obtain ⟨a, _, ha⟩ := hv i v hi
    exact hgo a v s I l j Q E ha hit q
  mono := fun i ys g g' k x => paired_mono (fun a y q => hY g g' y a k q) x
  init := .nil
  turn := by
    intro i v ys g₁ C D I PI h hvi kg hF S
    obtain ⟨a, hia, ha⟩ := hv i v hvi
    have hi1 : (items.take (i + 1)).filter p = _ := take_succ_filter p items i a hia
    have key : ∀ (ok : Bool) (h₃ : Heap), (ok = p a ∧
        (ok = true → Ev prog w A s₀ (eval elt (compEnvC scope cl C env)) h₃ (fun y h₄ => St g₁ C [] [(I, PI), (D, LS ys)] h₄ ∧ Y (now h₄ C [(I, PI), (D, LS ys)]) y a)) ∧
        (ok = false → St g₁ C [] [(I, PI), (D, LS ys)] h₃)) →
      if ok = true then Ev prog w A s₀ (eval elt (compEnvC scope cl C env)) h₃ (fun y h₄ => St g₁ C [] [(I, PI), (D, LS ys)] h₄ ∧ Paired (fun a y => Y (now h₄ C [(I, PI), (D, LS ys)]) y a) ((items.take (i + 1)).filter p) (ys ++ [y]))
      else St g₁ C [] [(I, PI), (D, LS ys)] h₃ ∧ Paired (fun a y => Y (now h₃ C [(I, PI), (D, LS ys)]) y a) ((items.take (i + 1)).filter p) ys := by
      rintro ok h₃ ⟨e, q1, q2⟩
      refine ite_bool (fun hp => ?_) fun hp => ?_
      · refine (q1 hp).mono fun y h₄ q => ⟨q.1, ?_⟩
        rw [hi1, ← e, if_pos hp]
        exact (paired_mono (fun a y z => hY _ _ y a q.1.toNow z) hF).snoc q.2
      · refine ⟨q2 hp, ?_⟩
        rw [hi1, ← e, if_neg (by rw [hp]; exact Bool.false_ne_true), List.append_nil]
        exact paired_mono (fun a y z => hY _ _ y a (q2 hp).toNow z) hF
    refine (hb a v g₁ C D I PI ys h ha kg S).mono fun _ h₂ q => ?_
    match ifs, q with
    | [], q => exact key true h₂ q
    | [c], q => exact Ev.mono q key

abbrev VI (a : Int) (v : Value) : Prop := ∃ t, v = .int a t
theorem IntsV.vi {vs is} (x : IntsV vs is) : ∀ (i : Nat) (v : Value), vs[i]? = some v → ∃ a, is[i]? = some a ∧ VI a v := by
  induction x with
  | nil => intro i v h; simp at h
  | cons _ ih =>
    intro i v h
    cases i with
    | zero => simp at h; exact ⟨_, rfl, _, h.symm⟩
    | succ i => simp at h; simpa using ih i v h
theorem paired_ints {α : Type} {f : α → Int} {l : List α} {ys : List Value} (x : Paired (fun a y => VI (f a) y) l ys) : IntsV ys (l.map f) := by
  induction x with
  | nil => exact .nil
  | cons h _ ih => obtain ⟨t, rfl⟩ := h; exact .cons ih
abbrev YR (h₁ : Heap) {α : Type} (f : α → List Int) (g : Heap) (y : Value) (a : α) : Prop := ∃ ta vals, y = .ref ta ∧ IsTup g ta (vals : List Value).toArray ∧ IntsV vals (f a) ∧ h₁.get? ta = none
theorem yr_mono {h₁ : Heap} {α : Type} {f : α → List Int} : ∀ g g' y a, Kp g g' → YR h₁ f g y a → YR h₁ f g' y a := by
  rintro g g' y a k ⟨ta, vals, e, ⟨o, ho, ht⟩, r⟩
  exact ⟨ta, vals, e, ⟨o, k _ _ ho, ht⟩, r⟩
theorem paired_rows {h₁ g : Heap} {α : Type} {f : α → List Int} {l : List α} {ys : List Value} (x : Paired (fun a y => YR h₁ f g y a) l ys) : TR h₁ g ys (l.map f) := by
  induction x with
  | nil => trivial
  | cons h _ ih => exact ⟨h, ih⟩
theorem go_name {x : Str} {px : Pos} {I : Addr} {v : Value} {s : Shared} {Q : Unit → Shared → Prop} {E : Value → Shared → Prop} (q : Q () s) : wpAny (model prog w) A (letOwnedTupleGo (.Name x px) (.ref I) v) Q E s := wpAny_of_eq (a := ()) rfl q

theorem ev_count {l : Addr} {vs : List Value} {is : List Int} {k : Int} {t : Tok} {Q : Value → Heap → Prop} (hl : h.IsList l vs.toArray) (hi : IntsV vs is) (q : ∀ t, Q (.int (is.count k : Nat) t) h) : Ev prog w A s₀ (call (.builtin "list.count") [.ref l, .int k t]) h Q := fun tk =>
  count_list_ints (s := Sh s₀ h tk) hl hi.are ⟨_, _, rfl, q _⟩
end

/-- a text by its signs -/
abbrev TX (l : List Nat) : Str := ⟨l.toArray⟩
theorem tx_append (a b : List Nat) : (TX a ++ TX b : Str) = TX (a ++ b) := by
  show Str.append (TX a) (TX b) = _
  simp [Str.append]
theorem tx_len (a : List Nat) : (TX a).length = a.length := by simp [Str.length]
theorem tx_join : ∀ ls : List (List Nat), Str.join (TX []) (ls.map TX) = TX ls.flatten
  | [] => rfl
  | [a] => by simp [Str.join]
  | a :: b :: r => by
    have ih := tx_join (b :: r)
    rw [List.map_cons, List.map_cons, Str.join]
    · rw [List.map_cons] at ih
      rw [ih, tx_append, tx_append, List.append_nil, ← List.flatten_cons]
    · intro h; cases h
theorem rep_fold (c : Nat) : ∀ (n : Nat) (acc : Array Nat), (List.replicate n #[c]).foldl (· ++ ·) acc = acc ++ (List.replicate n c).toArray
  | 0, acc => by simp
  | n + 1, acc => by
    rw [List.replicate_succ, List.foldl_cons, rep_fold c n, List.replicate_succ, Array.append_assoc]
    congr 1
    apply Array.ext'
    simp

section
variable {prog : Program} {w : World} {A : Around} {s₀ : Shared} {g h : Heap} {env : Env} {ps : List (Str × Value)} {news : List (Addr × (Obj → Prop))} {L l sl : Addr} {vs zs : List Value}

-- texts
theorem ev_str {x k pos} {Q : Value → Heap → Prop} (q : ∀ t, Q (.str x t) h) : Ev prog w A s₀ (eval (.Constant (.str x) k pos) env) h Q := fun tk => wpAny_Constant_str ⟨_, _, rfl, q _⟩
theorem ev_add_str {a b : List Nat} {t u : Tok} {Q : Value → Heap → Prop} (hs : a.length + b.length < 2 ^ 20) (q : ∀ t, Q (.str (TX (a ++ b)) t) h) : Ev prog w A s₀ (binaryOp .Add (.str (TX a) t) (.str (TX b) u)) h Q := fun tk =>
  PyProof.Rows.add_str (s := Sh s₀ h tk) (fun t' tk' => ⟨h, tk', rfl, by rw [tx_append]; exact q t'⟩) (by rw [tx_len, tx_len]; exact Nat.le_trans (Nat.le_of_lt hs) (by decide))
theorem ev_mul_str {c : Nat} {n : Int} {t u : Tok} {Q : Value → Heap → Prop} (h1 : n < 1000) (h0 : 0 ≤ n) (q : ∀ t, Q (.str (TX (List.replicate n.toNat c)) t) h) : Ev prog w A s₀ (binaryOp .Mult (.str (TX [c]) t) (.int n u)) h Q := fun tk => by
  have e1 : (TX [c]).length = 1 := rfl
  refine P.mul_str (s := Sh s₀ h tk) ?_ ?_ ?_ ?_
  · rw [decide_eq_false (by (first | lia | omega)), decide_eq_false (by (first | lia | omega))]; rfl
  · intro h1 _ q
    rw [e1] at q
    have : (2 ^ 63 - 1) / n ≥ 1 := by
      have := Int.le_ediv_of_mul_le (a := 1) (b := 2 ^ 63 - 1) (c := n) (by (first | lia | omega)) (by (first | lia | omega))
      exact this
    (first | lia | omega)
  · intro _ _
    rw [e1]
    show decide (1 * n.toNat > 2 ^ 24) = false
    exact decide_eq_false (by (first | lia | omega))
  · by_cases c1 : n < 1
    · rw [if_pos c1]
      refine ⟨by decide, ⟨_, _, rfl, ?_⟩⟩
      have e : n.toNat = 0 := by (first | lia | omega)
      have := q tk
      rw [e] at this
      exact this
    · rw [if_neg c1]
      by_cases c2 : (n == 1 || (TX [c]).length == 0) = true
      · rw [if_pos c2]
        have e : n.toNat = 1 := by
          rw [e1] at c2
          simp at c2
          (first | lia | omega)
        have := q t
        rw [e] at this
        exact ⟨_, _, rfl, this⟩
      · rw [if_neg c2]
        have e : (⟨(List.replicate n.toNat (TX [c]).cps).foldl (· ++ ·) #[]⟩ : Str) = TX (List.replicate n.toNat c) := by
          show (⟨(List.replicate n.toNat #[c]).foldl (· ++ ·) #[]⟩ : Str) = _
          rw [rep_fold]
          simp
        rw [e]
        refine ⟨?_, ⟨_, _, rfl, q _⟩⟩
        rw [tx_len, List.length_replicate]
        show n.toNat ≤ 2 ^ 24
        (first | lia | omega)
theorem ev_sm_join {x : Str} {t : Tok} {pl : Sem Bool} {Q : Value × List Value → Heap → Prop} (q : Q (.builtin "str.join", [.str x t]) h) : Ev prog w A s₀ (getMethod (.str x t) "join" pl) h Q := fun tk => GM.join (s := Sh s₀ h tk) ⟨_, _, rfl, q⟩
theorem ev_join {ls : List (List Nat)} {t : Tok} {Q : Value → Heap → Prop} (hl : h.IsList l vs.toArray) (hi : StrsAre vs (ls.map TX)) (hs : ls.flatten.length < 2 ^ 20) (q : ∀ t, Q (.str (TX ls.flatten) t) h) :
    Ev prog w A s₀ (call (.builtin "str.join") [.str (TX []) t, .ref l]) h Q := fun tk => by
  refine join_list (s := Sh s₀ h tk) hl (by simpa using hi) ?_ fun t' k => ⟨h, k, rfl, ?_⟩
  · have e : ((ls.map TX).map (·.length)).sum = ls.flatten.length := by
      rw [List.map_map, List.length_flatten]
      congr 1
    rw [e]
    have : (TX []).length = 0 := rfl
    rw [this]
    (first | lia | omega)
  · show Q (.str (Builtin.Str.glued (TX []) (ls.map TX)) t') h
    rw [StrLaws.glued_eq_join, tx_join]
    exact q t'

-- slices
theorem ev_slice_lo {e p} {Q : Value → Heap → Prop} (H : Ev prog w A s₀ (eval e env) h (fun v h₁ => ∀ h' sl, Kp h₁ h' → h'.IsSliceOf sl v .none .none → Q (.ref sl) h')) : Ev prog w A s₀ (eval (.Slice (some e) none none p) env) h Q := fun tk =>
  wpAny_Slice (H.use fun v h₁ tk₁ q => wpAny_pure (wpAny_pure ⟨_, _, rfl, q _ _ kp_push (Heap.IsSliceOf.new ..)⟩))
theorem ev_slice_hi {e p} {Q : Value → Heap → Prop} (H : Ev prog w A s₀ (eval e env) h (fun v h₁ => ∀ h' sl, Kp h₁ h' → h'.IsSliceOf sl .none v .none → Q (.ref sl) h')) : Ev prog w A s₀ (eval (.Slice none (some e) none p) env) h Q := fun tk =>
  wpAny_Slice (wpAny_pure (H.use fun v h₁ tk₁ q => wpAny_pure ⟨_, _, rfl, q _ _ kp_push (Heap.IsSliceOf.new ..)⟩))
theorem ev_sub_slice {value slice : Expr} {vl vu : Value} {lo hi : Option Int} {ops : List Value} {Q : Value → Heap → Prop} (S : St g L ps news h) (hl : h.IsList l vs.toArray) (hsl : h.IsSliceOf sl vl vu .none) (pl : IsPart vl lo) (pu : IsPart vu hi) (hs : vs.length < 2 ^ 20)
    (hp : (slicePick vs.toArray lo hi none).toList = zs) (q : ∀ h' D, St g L ps ((D, LS zs) :: news) h' → Q (.ref D) h')
    (he : subscripted slice false (.ref l) (.ref sl) = operate ops (getItem (.ref l) (.ref sl))) : Ev prog w A s₀ (subscriptTail value slice (.ref l) (.ref sl)) h Q := fun tk => by
  refine tail_any (s := Sh s₀ h tk) hl.typeIs slot_list_getitem.lookup (wpAny_getItem_list_slice (s := Sh s₀ h tk) hl hsl pl pu .none (by simp) ⟨_, _, rfl, q _ _ (S.push { cls := .type "list", data := .seq (slicePick vs.toArray lo hi none) } (P := LS zs) ⟨0, ?_⟩)⟩ ?_) he
  · rw [← hp, Array.toArray_toList]
  · show vs.toArray.size ≤ 2 ^ 24
    rw [List.size_toArray]
    (first | lia | omega)
theorem pick_from {vs : List Value} {a : Nat} {i : Int} (hi : i = (a : Int)) : (slicePick vs.toArray (some i) none none).toList = vs.drop a := by subst hi; rw [slicePick_from']
theorem pick_upto {vs : List Value} {a : Nat} {i : Int} (hi : i = (a : Int)) : (slicePick vs.toArray none (some i) none).toList = vs.take a := by subst hi; rw [slicePick_upto']

-- cells
noncomputable def CL (v : Option Value) (o : Obj) : Prop := o.data = .cell v
theorem ev_cell_store {x : Str} {c : Addr} {v : Value} {v₀ : Option Value} {Q : Unit → Heap → Prop} (i : Nat) (S : St g env.locals ps news h) (hi : news[i]? = some (c, CL v₀)) (q : ∀ h', St g env.locals ps (news.set i (c, CL (some v))) h' → Q () h')
    (hk : env.scope.kind = .function) (hl : env.kindOf x = some .cell) (hc : env.cells.lookup x = some c) : Ev prog w A s₀ (storeName env x v) h Q := fun tk => by
  obtain ⟨o, ho, hd⟩ := S.at (List.mem_of_getElem? hi)
  exact wpAny_storeName_cell (s := Sh s₀ h tk) hk hl hc ⟨o, ho, hd⟩ fun h' hc' hs' => ⟨h', tk, rfl, q h' (S.upd i hi hs'.extBut hc')⟩
theorem ev_cell {x : Str} {c : Addr} {v : Value} {pos : Pos} {Q : Value → Heap → Prop} (S : St g L ps news h) (hc : env.cells.lookup x = some c) (X : g.IsCell c (some v)) (q : Q v h)
    (hk : env.scope.kind = .function) (hl : env.kindOf x = some .cell) (hd : (x == ("__debug__" : Str)) = false) : Ev prog w A s₀ (eval (.Name x pos) env) h Q := fun tk =>
  wpAny_Name (wpAny_loadName_cell (s := Sh s₀ h tk) hk hl hc (X.keeps S.keep) ⟨_, _, rfl, q⟩) hd
/-- a list that stands is one of the base -/
theorem list_now {h : Heap} (S : St g L ps [] h) (hl : h.IsList l vs.toArray) : (now h L []).IsList l vs.toArray := by
  obtain ⟨o, ho, hc, n, hd⟩ := hl
  refine ⟨o, now_get ho (fun q => ?_) (fun q => nomatch q), hc, n, hd⟩
  obtain ⟨m, ⟨oL, es, ep, hL, hdL, _⟩, _⟩ := S.loc
  rw [q, hL] at ho
  cases ho
  rw [hdL] at hd
  cases hd
theorem tup_now {h : Heap} (S : St g L ps [] h) (hl : IsTup h l vs.toArray) : IsTup (now h L []) l vs.toArray := by
  obtain ⟨o, ho, hc, n, hd⟩ := hl
  refine ⟨o, now_get ho (fun q => ?_) (fun q => nomatch q), hc, n, hd⟩
  obtain ⟨m, ⟨oL, es, ep, hL, hdL, _⟩, _⟩ := S.loc
  rw [q, hL] at ho
  cases ho
  rw [hdL] at hd
  cases hd
theorem cell_now {h : Heap} {c : Addr} {v : Option Value} (S : St g L ps [] h) (hl : h.IsCell c v) : (now h L []).IsCell c v := by
  obtain ⟨o, ho, hd⟩ := hl
  refine ⟨o, now_get ho (fun q => ?_) (fun q => nomatch q), hd⟩
  obtain ⟨m, ⟨oL, es, ep, hL, hdL, _⟩, _⟩ := S.loc
  rw [q, hL] at ho
  cases ho
  rw [hdL] at hd
  cases hd
end

-- what the law builds
noncomputable def leftI (ns : List Int) : List Int := [5, 2].drop (ns.sum % 3).toNat ++ (ns.filter fun x => x / 8 % 4 != 1).map fun x => x % 8
noncomputable def rightI (ns : List Int) : List Int := [3, 3].drop (ns.sum % 3).toNat ++ (ns.filter fun x => x / 8 % 4 != 0).map fun x => if x / 8 % 4 = 3 then 7 - x % 8 else x % 8
theorem leftI_ok (ns : List Int) : ∀ r ∈ leftI ns, 0 ≤ r ∧ r ≤ 7 := by
  intro r hr
  rcases List.mem_append.mp hr with h | h
  · have := List.mem_of_mem_drop h
    simp at this
    (first | lia | omega)
  · obtain ⟨x, _, rfl⟩ := List.mem_map.mp h
    (first | lia | omega)
theorem rightI_ok (ns : List Int) : ∀ r ∈ rightI ns, 0 ≤ r ∧ r ≤ 7 := by
  intro r hr
  rcases List.mem_append.mp hr with h | h
  · have := List.mem_of_mem_drop h
    simp at this
    (first | lia | omega)
  · obtain ⟨x, _, rfl⟩ := List.mem_map.mp h
    split <;> (first | lia | omega)
theorem leftI_len (ns : List Int) : (leftI ns).length ≤ ns.length + 2 := by
  unfold leftI
  rw [List.length_append, List.length_map, List.length_drop]
  have := List.length_filter_le (fun x : Int => x / 8 % 4 != 1) ns
  simp only [List.length_cons, List.length_nil]
  (first | lia | omega)
theorem rightI_len (ns : List Int) : (rightI ns).length ≤ ns.length + 2 := by
  unfold rightI
  rw [List.length_append, List.length_map, List.length_drop]
  have := List.length_filter_le (fun x : Int => x / 8 % 4 != 0) ns
  simp only [List.length_cons, List.length_nil]
  (first | lia | omega)
theorem nats_of : ∀ {ls : List Int}, (∀ r ∈ ls, 0 ≤ r ∧ r ≤ 7) → ∃ ns : List Nat, ls = ns.map (fun (r : Nat) => (r : Int)) ∧ ns.length = ls.length ∧ ∀ r ∈ ns, r ≤ 7
  | [], _ => ⟨[], rfl, rfl, fun r h => (nomatch h)⟩
  | r :: ls, h => by
    obtain ⟨ns, e, hl, h7⟩ := nats_of fun r hr => h r (.tail _ hr)
    have h0 := h r (.head _)
    refine ⟨r.toNat :: ns, ?_, by simp [hl], fun x hx => ?_⟩
    · rw [List.map_cons, ← e]
      congr 1
      (first | lia | omega)
    · rcases List.mem_cons.mp hx with rfl | hx
      · (first | lia | omega)
      · exact h7 x hx
theorem leadT_len : ∀ ns : List Nat, (leadT ns).length = ns.sum + ns.length
  | [] => rfl
  | r :: ns => by
    have := leadT_len ns
    unfold leadT at this ⊢
    simp only [List.map_cons, List.flatten_cons, List.length_append, List.length_replicate, List.length_cons, List.length_nil, List.sum_cons] at this ⊢
    (first | lia | omega)
theorem sum7 : ∀ {ns : List Nat}, (∀ r ∈ ns, r ≤ 7) → ns.sum ≤ 7 * ns.length
  | [], _ => Nat.le_refl _
  | r :: ns, h => by
    have := sum7 fun r hr => h r (.tail _ hr)
    have := h r (.head _)
    rw [List.sum_cons, List.length_cons]
    (first | lia | omega)
theorem textT_len {ns : List Nat} {tr : Nat} (h : ∀ r ∈ ns, r ≤ 7) : (textT ns tr).length ≤ 8 * ns.length + tr + 2 := by
  unfold textT
  rw [List.length_append, List.length_append, leadT_len, List.length_replicate]
  have := sum7 h
  simp only [List.length_cons, List.length_nil]
  (first | lia | omega)
theorem textT_asc (ns : List Nat) (tr : Nat) : (TX (textT ns tr)).cps.all (· < 128) = true := by
  show (textT ns tr).toArray.all _ = true
  simp only [List.all_toArray, List.all_eq_true, decide_eq_true_eq]
  intro x hx
  unfold textT leadT at hx
  rcases List.mem_append.mp hx with hx | hx
  · rcases List.mem_append.mp hx with hx | hx
    · obtain ⟨l, hl, hx⟩ := List.mem_flatten.mp hx
      obtain ⟨r, _, rfl⟩ := List.mem_map.mp hl
      rcases List.mem_append.mp hx with hx | hx
      · have := (List.mem_replicate.mp hx).2; (first | lia | omega)
      · have := List.mem_singleton.mp hx; (first | lia | omega)
    · have := (List.mem_replicate.mp hx).2; (first | lia | omega)
  · simp at hx; (first | lia | omega)

set_option maxHeartbeats 8000000 in
open_top hd for PySem.Challenge.rw_mq0286_01

abbrev GN (w : World) (h : Heap) : Prop := Gnd (hd.heap_39 w.params) hd.view_39 h
section
variable {prog : Program} {w : World} {A : Around} {s₀ : Shared} {g h : Heap} {env : Env} {ps : List (Str × Value)} {news : List (Addr × (Obj → Prop))} {L : Addr} {pos : Pos} {Q : Value → Heap → Prop}
theorem n_len (w : World) : nsIn (hd.heap_39 w.params) mainGlobals (Str.ofString "len") = some none := by k_is
theorem ev_n_len (G : GN w g) (S : St g L ps news h) (q : Q (.builtin "len") h) (hk : env.scope.kind = .function) (hl : env.kindOf (Str.ofString "len") = some .globalImplicit) (hg : env.globals = mainGlobals) (hb : env.builtins = builtinsNs) :
    Ev prog w A s₀ (eval (.Name (Str.ofString "len") pos) env) h Q := ev_builtin (G.keeps S.keep) (n_len w) (by decide +kernel) q (by decide) hk hl (by decide) hg hb
theorem n_sum (w : World) : nsIn (hd.heap_39 w.params) mainGlobals (Str.ofString "sum") = some none := by k_is
theorem ev_n_sum (G : GN w g) (S : St g L ps news h) (q : Q (.builtin "sum") h) (hk : env.scope.kind = .function) (hl : env.kindOf (Str.ofString "sum") = some .globalImplicit) (hg : env.globals = mainGlobals) (hb : env.builtins = builtinsNs) :
    Ev prog w A s₀ (eval (.Name (Str.ofString "sum") pos) env) h Q := ev_builtin (G.keeps S.keep) (n_sum w) (by decide +kernel) q (by decide) hk hl (by decide) hg hb
theorem n_max (w : World) : nsIn (hd.heap_39 w.params) mainGlobals (Str.ofString "max") = some none := by k_is
theorem ev_n_max (G : GN w g) (S : St g L ps news h) (q : Q (.builtin "max") h) (hk : env.scope.kind = .function) (hl : env.kindOf (Str.ofString "max") = some .globalImplicit) (hg : env.globals = mainGlobals) (hb : env.builtins = builtinsNs) :
    Ev prog w A s₀ (eval (.Name (Str.ofString "max") pos) env) h Q := ev_builtin (G.keeps S.keep) (n_max w) (by decide +kernel) q (by decide) hk hl (by decide) hg hb
theorem n_abs (w : World) : nsIn (hd.heap_39 w.params) mainGlobals (Str.ofString "abs") = some none := by k_is
theorem ev_n_abs (G : GN w g) (S : St g L ps news h) (q : Q (.builtin "abs") h) (hk : env.scope.kind = .function) (hl : env.kindOf (Str.ofString "abs") = some .globalImplicit) (hg : env.globals = mainGlobals) (hb : env.builtins = builtinsNs) :
    Ev prog w A s₀ (eval (.Name (Str.ofString "abs") pos) env) h Q := ev_builtin (G.keeps S.keep) (n_abs w) (by decide +kernel) q (by decide) hk hl (by decide) hg hb
theorem n_range (w : World) : nsIn (hd.heap_39 w.params) mainGlobals (Str.ofString "range") = some none := by k_is
theorem ev_n_range (G : GN w g) (S : St g L ps news h) (q : Q (.type "range") h) (hk : env.scope.kind = .function) (hl : env.kindOf (Str.ofString "range") = some .globalImplicit) (hg : env.globals = mainGlobals) (hb : env.builtins = builtinsNs) :
    Ev prog w A s₀ (eval (.Name (Str.ofString "range") pos) env) h Q := ev_builtin (G.keeps S.keep) (n_range w) (by decide +kernel) q (by decide) hk hl (by decide) hg hb
theorem n_reversed (w : World) : nsIn (hd.heap_39 w.params) mainGlobals (Str.ofString "reversed") = some none := by k_is
theorem ev_n_reversed (G : GN w g) (S : St g L ps news h) (q : Q (.type "reversed") h) (hk : env.scope.kind = .function) (hl : env.kindOf (Str.ofString "reversed") = some .globalImplicit) (hg : env.globals = mainGlobals) (hb : env.builtins = builtinsNs) :
    Ev prog w A s₀ (eval (.Name (Str.ofString "reversed") pos) env) h Q := ev_builtin (G.keeps S.keep) (n_reversed w) (by decide +kernel) q (by decide) hk hl (by decide) hg hb
theorem n_tuple (w : World) : nsIn (hd.heap_39 w.params) mainGlobals (Str.ofString "tuple") = some none := by k_is
theorem ev_n_tuple (G : GN w g) (S : St g L ps news h) (q : Q (.type "tuple") h) (hk : env.scope.kind = .function) (hl : env.kindOf (Str.ofString "tuple") = some .globalImplicit) (hg : env.globals = mainGlobals) (hb : env.builtins = builtinsNs) :
    Ev prog w A s₀ (eval (.Name (Str.ofString "tuple") pos) env) h Q := ev_builtin (G.keeps S.keep) (n_tuple w) (by decide +kernel) q (by decide) hk hl (by decide) hg hb
theorem n_heappop (w : World) : nsIn (hd.heap_39 w.params) mainGlobals (Str.ofString "heappop") = some (some (.ref 21)) := by k_is
theorem k_heappop (w : World) : keepIn (hd.heap_39 w.params) (.ref 21) = true := by k_is
theorem ev_n_heappop (G : GN w g) (S : St g L ps news h) (q : Q (.ref 21) h) (hk : env.scope.kind = .function) (hl : env.kindOf (Str.ofString "heappop") = some .globalImplicit) (hg : env.globals = mainGlobals) :
    Ev prog w A s₀ (eval (.Name (Str.ofString "heappop") pos) env) h Q := ev_global (G.keeps S.keep) (n_heappop w) q hk hl (by decide) hg
theorem n_heapreplace (w : World) : nsIn (hd.heap_39 w.params) mainGlobals (Str.ofString "heapreplace") = some (some (.ref 28)) := by k_is
theorem k_heapreplace (w : World) : keepIn (hd.heap_39 w.params) (.ref 28) = true := by k_is
theorem ev_n_heapreplace (G : GN w g) (S : St g L ps news h) (q : Q (.ref 28) h) (hk : env.scope.kind = .function) (hl : env.kindOf (Str.ofString "heapreplace") = some .globalImplicit) (hg : env.globals = mainGlobals) :
    Ev prog w A s₀ (eval (.Name (Str.ofString "heapreplace") pos) env) h Q := ev_global (G.keeps S.keep) (n_heapreplace w) q hk hl (by decide) hg
theorem n_heapify (w : World) : nsIn (hd.heap_39 w.params) mainGlobals (Str.ofString "heapify") = some (some (.ref 35)) := by k_is
theorem k_heapify (w : World) : keepIn (hd.heap_39 w.params) (.ref 35) = true := by k_is
theorem ev_n_heapify (G : GN w g) (S : St g L ps news h) (q : Q (.ref 35) h) (hk : env.scope.kind = .function) (hl : env.kindOf (Str.ofString "heapify") = some .globalImplicit) (hg : env.globals = mainGlobals) :
    Ev prog w A s₀ (eval (.Name (Str.ofString "heapify") pos) env) h Q := ev_global (G.keeps S.keep) (n_heapify w) q hk hl (by decide) hg
theorem n_siftdown (w : World) : nsIn (hd.heap_39 w.params) mainGlobals (Str.ofString "_siftdown") = some (some (.ref 42)) := by k_is
theorem k_siftdown (w : World) : keepIn (hd.heap_39 w.params) (.ref 42) = true := by k_is
theorem ev_n_siftdown (G : GN w g) (S : St g L ps news h) (q : Q (.ref 42) h) (hk : env.scope.kind = .function) (hl : env.kindOf (Str.ofString "_siftdown") = some .globalImplicit) (hg : env.globals = mainGlobals) :
    Ev prog w A s₀ (eval (.Name (Str.ofString "_siftdown") pos) env) h Q := ev_global (G.keeps S.keep) (n_siftdown w) q hk hl (by decide) hg
theorem n_siftup (w : World) : nsIn (hd.heap_39 w.params) mainGlobals (Str.ofString "_siftup") = some (some (.ref 49)) := by k_is
theorem k_siftup (w : World) : keepIn (hd.heap_39 w.params) (.ref 49) = true := by k_is
theorem ev_n_siftup (G : GN w g) (S : St g L ps news h) (q : Q (.ref 49) h) (hk : env.scope.kind = .function) (hl : env.kindOf (Str.ofString "_siftup") = some .globalImplicit) (hg : env.globals = mainGlobals) :
    Ev prog w A s₀ (eval (.Name (Str.ofString "_siftup") pos) env) h Q := ev_global (G.keeps S.keep) (n_siftup w) q hk hl (by decide) hg
theorem n_Whitespace (w : World) : nsIn (hd.heap_39 w.params) mainGlobals (Str.ofString "Whitespace") = some (some (.ref 111)) := by k_is
theorem k_Whitespace (w : World) : keepIn (hd.heap_39 w.params) (.ref 111) = true := by k_is
theorem ev_n_Whitespace (G : GN w g) (S : St g L ps news h) (q : Q (.ref 111) h) (hk : env.scope.kind = .function) (hl : env.kindOf (Str.ofString "Whitespace") = some .globalImplicit) (hg : env.globals = mainGlobals) :
    Ev prog w A s₀ (eval (.Name (Str.ofString "Whitespace") pos) env) h Q := ev_global (G.keeps S.keep) (n_Whitespace w) q hk hl (by decide) hg
theorem n_law_seats (w : World) : nsIn (hd.heap_39 w.params) mainGlobals (Str.ofString "_law_seats") = some (some (.ref 120)) := by k_is
theorem k_law_seats (w : World) : keepIn (hd.heap_39 w.params) (.ref 120) = true := by k_is
theorem ev_n_law_seats (G : GN w g) (S : St g L ps news h) (q : Q (.ref 120) h) (hk : env.scope.kind = .function) (hl : env.kindOf (Str.ofString "_law_seats") = some .globalImplicit) (hg : env.globals = mainGlobals) :
    Ev prog w A s₀ (eval (.Name (Str.ofString "_law_seats") pos) env) h Q := ev_global (G.keeps S.keep) (n_law_seats w) q hk hl (by decide) hg
theorem n_law_agree (w : World) : nsIn (hd.heap_39 w.params) mainGlobals (Str.ofString "_law_agree") = some (some (.ref 125)) := by k_is
theorem k_law_agree (w : World) : keepIn (hd.heap_39 w.params) (.ref 125) = true := by k_is
theorem ev_n_law_agree (G : GN w g) (S : St g L ps news h) (q : Q (.ref 125) h) (hk : env.scope.kind = .function) (hl : env.kindOf (Str.ofString "_law_agree") = some .globalImplicit) (hg : env.globals = mainGlobals) :
    Ev prog w A s₀ (eval (.Name (Str.ofString "_law_agree") pos) env) h Q := ev_global (G.keeps S.keep) (n_law_agree w) q hk hl (by decide) hg
theorem ev_cw_heappop {e rest} (H : Ev prog w A s₀ (spliced (backTo pos (starEach (e :: rest) env))) h (fun vs h₁ => (hd.heap_39 w.params).In h₁ ∧ Ev prog w A s₀ (call (.ref 21) vs) h₁ Q))
    (he : starEach (e :: rest) env = (false, eval e env) :: starEach rest env) (hplain : (backTo pos (starEach rest env)).any (·.1) = false) :
    Ev prog w A s₀ (callWith pos (.ref 21) [] (backTo pos (starEach (e :: rest) env)) []) h Q := ev_cwf (k_heappop w) H he hplain
theorem ev_cw_heapreplace {e rest} (H : Ev prog w A s₀ (spliced (backTo pos (starEach (e :: rest) env))) h (fun vs h₁ => (hd.heap_39 w.params).In h₁ ∧ Ev prog w A s₀ (call (.ref 28) vs) h₁ Q))
    (he : starEach (e :: rest) env = (false, eval e env) :: starEach rest env) (hplain : (backTo pos (starEach rest env)).any (·.1) = false) :
    Ev prog w A s₀ (callWith pos (.ref 28) [] (backTo pos (starEach (e :: rest) env)) []) h Q := ev_cwf (k_heapreplace w) H he hplain
theorem ev_cw_heapify {e rest} (H : Ev prog w A s₀ (spliced (backTo pos (starEach (e :: rest) env))) h (fun vs h₁ => (hd.heap_39 w.params).In h₁ ∧ Ev prog w A s₀ (call (.ref 35) vs) h₁ Q))
    (he : starEach (e :: rest) env = (false, eval e env) :: starEach rest env) (hplain : (backTo pos (starEach rest env)).any (·.1) = false) :
    Ev prog w A s₀ (callWith pos (.ref 35) [] (backTo pos (starEach (e :: rest) env)) []) h Q := ev_cwf (k_heapify w) H he hplain
theorem ev_cw_siftdown {e rest} (H : Ev prog w A s₀ (spliced (backTo pos (starEach (e :: rest) env))) h (fun vs h₁ => (hd.heap_39 w.params).In h₁ ∧ Ev prog w A s₀ (call (.ref 42) vs) h₁ Q))
    (he : starEach (e :: rest) env = (false, eval e env) :: starEach rest env) (hplain : (backTo pos (starEach rest env)).any (·.1) = false) :
    Ev prog w A s₀ (callWith pos (.ref 42) [] (backTo pos (starEach (e :: rest) env)) []) h Q := ev_cwf (k_siftdown w) H he hplain
theorem ev_cw_siftup {e rest} (H : Ev prog w A s₀ (spliced (backTo pos (starEach (e :: rest) env))) h (fun vs h₁ => (hd.heap_39 w.params).In h₁ ∧ Ev prog w A s₀ (call (.ref 49) vs) h₁ Q))
    (he : starEach (e :: rest) env = (false, eval e env) :: starEach rest env) (hplain : (backTo pos (starEach rest env)).any (·.1) = false) :
    Ev prog w A s₀ (callWith pos (.ref 49) [] (backTo pos (starEach (e :: rest) env)) []) h Q := ev_cwf (k_siftup w) H he hplain
theorem ev_cw_Whitespace {e rest} (H : Ev prog w A s₀ (spliced (backTo pos (starEach (e :: rest) env))) h (fun vs h₁ => (hd.heap_39 w.params).In h₁ ∧ Ev prog w A s₀ (call (.ref 111) vs) h₁ Q))
    (he : starEach (e :: rest) env = (false, eval e env) :: starEach rest env) (hplain : (backTo pos (starEach rest env)).any (·.1) = false) :
    Ev prog w A s₀ (callWith pos (.ref 111) [] (backTo pos (starEach (e :: rest) env)) []) h Q := ev_cwf (k_Whitespace w) H he hplain
theorem ev_cw_law_seats {e rest} (H : Ev prog w A s₀ (spliced (backTo pos (starEach (e :: rest) env))) h (fun vs h₁ => (hd.heap_39 w.params).In h₁ ∧ Ev prog w A s₀ (call (.ref 120) vs) h₁ Q))
    (he : starEach (e :: rest) env = (false, eval e env) :: starEach rest env) (hplain : (backTo pos (starEach rest env)).any (·.1) = false) :
    Ev prog w A s₀ (callWith pos (.ref 120) [] (backTo pos (starEach (e :: rest) env)) []) h Q := ev_cwf (k_law_seats w) H he hplain
theorem ev_cw_law_agree {e rest} (H : Ev prog w A s₀ (spliced (backTo pos (starEach (e :: rest) env))) h (fun vs h₁ => (hd.heap_39 w.params).In h₁ ∧ Ev prog w A s₀ (call (.ref 125) vs) h₁ Q))
    (he : starEach (e :: rest) env = (false, eval e env) :: starEach rest env) (hplain : (backTo pos (starEach rest env)).any (·.1) = false) :
    Ev prog w A s₀ (callWith pos (.ref 125) [] (backTo pos (starEach (e :: rest) env)) []) h Q := ev_cwf (k_law_agree w) H he hplain
end

local macro_rules | `(tactic| walk_at "h") => `(tactic| (case h => rfl))
local macro_rules | `(tactic| walk_at "hh") => `(tactic| (walk_at "h"; (case h2 => rfl)))
local macro_rules | `(tactic| walk_at "kl") => `(tactic| ((case S => assumption); (case hk => rfl); (case hl => rfl)))
local macro_rules | `(tactic| walk_at "kg") => `(tactic| ((case S => assumption); (case G => assumption); (case hk => rfl); (case hl => rfl); (case hg => rfl)))
local macro_rules | `(tactic| walk_at "s") => `(tactic| first
  | (with_reducible first | refine' nx_next ?_ | refine' nx_ret ?_ | refine' nx_brk ?_ | refine' nx_cont ?_ | refine' lp_next ?_ | refine' lp_ret ?_ | refine' lp_brk ?_ | refine' lp_cont ?_ | refine' rt_ret ?_ | refine' rt_next ?_ | refine' ev_nil ?_ | refine' ev_return ?_ | refine' ev_break ?_ | refine' ev_continue ?_ | refine' ev_bool ?_ | refine' ev_binop ?_ | refine' ev_unop ?_ | refine' ev_item ?_ | refine' ev_asg_name ?_ | refine' ev_aio_nil ?_ | refine' ev_aio_cons ?_ | refine' ev_tuple ?_ | refine' ev_list ?_ | refine' ev_args_nil ?_ | refine' ev_t_and ?_ | refine' ev_t_and_nil ?_ | refine' ev_t_or ?_ | refine' ev_t_or_nil ?_ | refine' ev_t_not ?_ | refine' ev_truthy_bool ?_ | refine' ev_lt_int ?_ | refine' ev_le_int ?_ | refine' ev_gt_int ?_ | refine' ev_ge_int ?_ | refine' ev_eq_int ?_ | refine' ev_ne_int ?_ | refine' ev_eq_str ?_ | refine' ev_eq_bool ?_ | refine' ev_cw_builtin0 ?_)
  | ((with_reducible refine' ev_consL ?_); intro _ _)
  | ((with_reducible first | refine' ev_assign ?_ ?h | refine' ev_assign_item ?_ ?h | refine' ev_cmp ?_ ?h | refine' ev_attr ?_ ?h | refine' ev_assign_attr ?_ ?h | refine' ev_t_cmp ?_ ?h); (case h => with_unfolding_all rfl))
  | ((with_reducible first | refine' ev_int ?_ | refine' ev_add ?_ | refine' ev_sub ?_ | refine' ev_neg ?_); intro _)
  | ((with_reducible refine' ev_name ?S ?hv ?_ ?hk ?hl ?hd); walk_at "kl"; (case hv => rfl); (case hd => decide))
  | ((with_reducible refine' ev_store ?S ?_ ?hk ?hl); walk_at "kl"; intro _ _)
  | ((with_reducible first | refine' ev_asg_tuple ?_ ?h ?h2 | refine' ev_asg_three ?_ ?h ?h2); (case h => with_unfolding_all rfl); (case h2 => with_unfolding_all rfl))
  | ((with_reducible first | refine' ev_args_cons ?_ ?h | refine' ev_method ?_ ?h); walk_at "h")
  | ((with_reducible first | refine' ev_t_plain ?_ ?h | refine' ev_call ?_ ?h); walk_at "h")
  | ((with_reducible refine' ev_fdiv ?hb ?hs ?_); (case hb => first | decide | omega); (case hs => first | decide | omega); intro _)
  | ((with_reducible refine' ev_fmod ?hb ?_); (case hb => first | decide | omega); intro _)
  | ((with_reducible refine' ev_half ?h ?_); walk_at "h"; intro _)
  | ((with_reducible refine' ev_mul ?hm ?_); (case hm => first | exact mulOk_l (by first | decide | omega) | exact mulOk_r (by first | decide | omega)); intro _)
  | ((with_reducible refine' ev_expr ?_ ?h ?hs); walk_at "h"; (case hs => with_unfolding_all rfl))
  | ((with_reducible first | refine' ev_cwt ?_ ?h ?h2 | refine' ev_cwb ?_ ?h ?h2 | refine' ev_cwbm ?_ ?h ?h2 | refine' ev_cw_heappop ?_ ?h ?h2 | refine' ev_cw_heapreplace ?_ ?h ?h2 | refine' ev_cw_heapify ?_ ?h ?h2 | refine' ev_cw_siftdown ?_ ?h ?h2 | refine' ev_cw_siftup ?_ ?h ?h2 | refine' ev_cw_Whitespace ?_ ?h ?h2 | refine' ev_cw_law_seats ?_ ?h ?h2 | refine' ev_cw_law_agree ?_ ?h ?h2); walk_at "hh")
  | ((with_reducible refine' And.intro (Frag.In.keeps (Gnd.kin ?G) (St.keep ?S)) ?_); (case S => assumption); (case G => assumption))
  | ((with_reducible first | refine' ev_n_len ?G ?S ?_ ?hk ?hl ?hg ?h | refine' ev_n_sum ?G ?S ?_ ?hk ?hl ?hg ?h | refine' ev_n_max ?G ?S ?_ ?hk ?hl ?hg ?h | refine' ev_n_abs ?G ?S ?_ ?hk ?hl ?hg ?h | refine' ev_n_range ?G ?S ?_ ?hk ?hl ?hg ?h | refine' ev_n_reversed ?G ?S ?_ ?hk ?hl ?hg ?h | refine' ev_n_tuple ?G ?S ?_ ?hk ?hl ?hg ?h); walk_at "kg"; walk_at "h")
  | ((with_reducible first | refine' ev_n_heappop ?G ?S ?_ ?hk ?hl ?hg | refine' ev_n_heapreplace ?G ?S ?_ ?hk ?hl ?hg | refine' ev_n_heapify ?G ?S ?_ ?hk ?hl ?hg | refine' ev_n_siftdown ?G ?S ?_ ?hk ?hl ?hg | refine' ev_n_siftup ?G ?S ?_ ?hk ?hl ?hg | refine' ev_n_Whitespace ?G ?S ?_ ?hk ?hl ?hg | refine' ev_n_law_seats ?G ?S ?_ ?hk ?hl ?hg | refine' ev_n_law_agree ?G ?S ?_ ?hk ?hl ?hg); walk_at "kg"))
local macro_rules | `(tactic| walk_at "e") => `(tactic| ((repeat walk_at "s"); (try (with_reducible first | refine' and_id ?_ | refine' ex_id ?_ | refine' ite_id ?_))))
local macro_rules | `(tactic| walk_at "i") => `(tactic| ((with_reducible refine' ev_if ?_); (with_reducible refine' ev_letQ ?_); (intro _); walk_at "e"))
local macro_rules | `(tactic| walk_at "ss") => `(tactic| ((try ((with_reducible refine' ev_letQ ?_); intro _)); walk_at "e"))
local macro_rules | `(tactic| walk_at "loc") => `(tactic| (repeat (first | exact SubL.nil | refine' SubL.cons rfl ?_)))

section
variable {prog : Program} {w : World} {A : Around} {s₀ : Shared}
theorem row_at {g : Heap} {vs : List Value} {its : List (List Int)} {i : Nat} (hr : Rds g vs (itDs its)) (hi : i < its.length) : ∃ a, vs[i]? = some (.ref a) ∧ Rd g (.ref a) (itD (its.getD i [])) := by
  obtain ⟨v, h1, h2⟩ := hr.get (i := i) (d := itD (its.getD i [])) (by simp [itDs, List.getD, hi])
  obtain ⟨a, rfl⟩ := h2.tup_ref
  exact ⟨a, h1, h2⟩
theorem itDs_set (l : List (List Int)) (i : Nat) (r : List Int) : itDs (l.set i r) = (itDs l).set i (itD r) := by simp [itDs, List.map_set]
theorem len4_getD {its : List (List Int)} (h4 : ∀ r ∈ its, r.length = 4) {i : Nat} (hi : i < its.length) : (its.getD i []).length = 4 := by
  rw [List.getD_eq_getElem?_getD, List.getElem?_eq_getElem hi]
  exact h4 _ (List.getElem_mem hi)
theorem len4_set {its : List (List Int)} (h4 : ∀ r ∈ its, r.length = 4) {i : Nat} {r : List Int} (hr : r.length = 4) : ∀ r' ∈ its.set i r, r'.length = 4 := fun r' h' => by
  rcases List.mem_or_eq_of_mem_set h' with h' | rfl
  · exact h4 _ h'
  · exact hr

theorem siftdown_spec {g₀ h : Heap} {d : Addr} {vs : List Value} {its : List (List Int)} {start pos : Nat} {t u : Tok} (G₀ : GN w g₀) (k₀ : Kp g₀ h) (hd₀ : g₀.get? d = none) (R : Room A 1)
    (hl : PL h d vs) (hr : Rds g₀ vs (itDs its)) (h4 : ∀ r ∈ its, r.length = 4) (hsz : its.length < 2 ^ 20) (hp : pos < its.length) :
    Ev prog w A s₀ (call (.ref 42) [.ref d, .int start t, .int pos u]) h (fun v h' => v = .none ∧ Heap.ExtBut d h h' ∧ ∃ vs', PL h' d vs' ∧ Rds g₀ vs' (itDs (siftdownF its start pos))) := by
  refine ev_def (binds := [("heap", .ref d), ("startpos", .int start t), ("pos", .int pos u)]) (G₀.keeps k₀) R.lim (by k_is) (by k_is) rfl rfl ?_ rfl rfl rfl (by decide)
  intro h₁ hn hk env B
  have S := St.enter1 hn hk (fun x v e => e) (ls_of hl)
  have kb := kp_hide_of k₀ hd₀
  dsimp only [List.reverse, List.reverseAux] at S
  have hlen := hr.length
  rw [List.length_map] at hlen
  walk_at "ss"
  obtain ⟨xa, hx1, hx2⟩ := row_at hr hp
  refine ev_sub_list S.list0 rfl (by (first | lia | omega)) hx1 ?_
  walk_at "ss"
  rename St _ _ _ _ _ => S₂
  refine (ev_while (Q := fun f h' => f = .next ∧ ∃ cur vsC p t', St (h.hide d) h.objs.size [("heap", .ref d), ("pos", .int (p : Nat) t'), ("newitem", .ref xa)] [(d, LS vsC)] h' ∧ Rds g₀ vsC (itDs cur) ∧ cur.length = its.length ∧ p < its.length ∧ cur.set p (its.getD pos []) = siftdownF its start pos)
    (fun n h' => ∃ cur vsC p t', p = n ∧ St (h.hide d) h.objs.size [("heap", .ref d), ("startpos", .int start t), ("pos", .int (p : Nat) t'), ("newitem", .ref xa)] [(d, LS vsC)] h' ∧ Rds g₀ vsC (itDs cur) ∧ cur.length = its.length ∧ (∀ r ∈ cur, r.length = 4) ∧ p < its.length ∧ sdL (its.getD pos []) start p cur = siftdownF its start pos)
    ?_ pos ⟨its, vs, pos, u, rfl, S₂.locals (by walk_at "loc"), hr, rfl, h4, hp, rfl⟩).mono ?_
  · rintro n h' ⟨cur, vsC, p, t', rfl, S', hr', hcl, h4', hp', hres⟩
    have hlen' := hr'.length
    rw [List.length_map] at hlen'
    walk_at "ss"
    refine ite_dec (fun hc => ?_) fun hc => ?_
    · have hc' : start < p := by (first | lia | omega)
      walk_at "ss"
      have e2 : ((p : Int) - 1) / 2 = (((p - 1) / 2 : Nat) : Int) := by (first | lia | omega)
      rw [e2]
      rename St _ _ _ _ _ => S₃
      rw [e2] at S₃
      obtain ⟨pa, hp1, hp2⟩ := row_at hr' (i := (p - 1) / 2) (by (first | lia | omega))
      refine ev_sub_list S₃.list0 rfl (by (first | lia | omega)) hp1 ?_
      walk_at "ss"
      rename St _ _ _ _ _ => S₄
      walk_at "i"
      refine ev_lt_tuples (R.deeper (env := _)).uline (S₄.rd (hx2.keeps kb)) (S₄.rd (hp2.keeps kb)) (by rw [len4_getD h4 hp, len4_getD h4' (by (first | lia | omega))]) ?_
      walk_at "ss"
      unfold sdL at hres
      rw [dif_pos hc'] at hres
      refine ite_bool (fun hb => ?_) fun hb => ?_
      · rw [if_pos hb] at hres
        walk_at "ss"
        refine ev_set_list S₄.list0 rfl (by (first | lia | omega)) (by (first | lia | omega)) fun h₅ hl₅ hs₅ => ?_
        have S₅ := S₄.upd 0 rfl hs₅.extBut (ls_of hl₅)
        walk_at "ss"
        rename St _ _ _ _ _ => S₆
        refine ⟨(p - 1) / 2, by (first | lia | omega), _, _, _, _, rfl, S₆.locals (by walk_at "loc"), ?_, ?_, ?_, by (first | lia | omega), hres⟩
        · rw [itDs_set]; exact hr'.set hp2
        · simp [hcl]
        · exact len4_set h4' (len4_getD h4' (by (first | lia | omega)))
      · rw [if_neg (by rw [hb]; exact Bool.false_ne_true)] at hres
        walk_at "ss"
        exact ⟨rfl, cur, vsC, p, t', S₄.locals (by walk_at "loc"), hr', hcl, hp', hres⟩
    · unfold sdL at hres
      rw [dif_neg (by (first | lia | omega))] at hres
      exact ⟨rfl, cur, vsC, p, t', S'.locals (by walk_at "loc"), hr', hcl, hp', hres⟩
  · rintro f h' ⟨rfl, cur, vsC, p, t', S', hr', hcl, hp', hres⟩
    have hlen' := hr'.length
    rw [List.length_map] at hlen'
    walk_at "ss"
    refine ev_set_list S'.list0 rfl (by (first | lia | omega)) (by (first | lia | omega)) fun h₅ hl₅ hs₅ => ?_
    have S₅ := S'.upd 0 rfl hs₅.extBut (ls_of hl₅)
    walk_at "ss"
    refine ⟨rfl, ext_hide S₅.keep, _, S₅.list0, ?_⟩
    rw [← hres, itDs_set]
    exact hr'.set hx2

theorem siftup_spec {g₀ h : Heap} {d : Addr} {vs : List Value} {its : List (List Int)} {pos : Nat} {t : Tok} (G₀ : GN w g₀) (k₀ : Kp g₀ h) (hd₀ : g₀.get? d = none) (R : Room A 2)
    (hl : PL h d vs) (hr : Rds g₀ vs (itDs its)) (h4 : ∀ r ∈ its, r.length = 4) (hsz : its.length < 2 ^ 20) (hp : pos < its.length) :
    Ev prog w A s₀ (call (.ref 49) [.ref d, .int pos t]) h (fun v h' => v = .none ∧ Heap.ExtBut d h h' ∧ ∃ vs', PL h' d vs' ∧ Rds g₀ vs' (itDs (siftupF its pos))) := by
  refine ev_def (binds := [("heap", .ref d), ("pos", .int pos t)]) (G₀.keeps k₀) R.lim (by k_is) (by k_is) rfl rfl ?_ rfl rfl rfl (by decide)
  intro h₁ hn hk env B
  have S := St.enter1 hn hk (fun x v e => e) (ls_of hl)
  have kb := kp_hide_of k₀ hd₀
  have G : GN w (h.hide d) := G₀.keeps kb
  dsimp only [List.reverse, List.reverseAux] at S
  have hlen := hr.length
  rw [List.length_map] at hlen
  walk_at "ss"
  refine ev_len_list S.list0 (by (first | lia | omega)) fun te => ?_
  rw [hlen]
  walk_at "ss"
  rename St _ _ _ _ _ => S₁
  obtain ⟨xa, hx1, hx2⟩ := row_at hr hp
  refine ev_sub_list S₁.list0 rfl (by (first | lia | omega)) hx1 ?_
  walk_at "ss"
  rename St _ _ _ _ _ => S₂
  have e1 : (2 : Int) * (pos : Int) + 1 = ((2 * pos + 1 : Nat) : Int) := by (first | lia | omega)
  rw [e1] at S₂
  refine (ev_while (Q := fun f h' => f = .next ∧ ∃ cur vsC p t', St (h.hide d) h.objs.size [("heap", .ref d), ("pos", .int (p : Nat) t'), ("newitem", .ref xa), ("startpos", .int pos t)] [(d, LS vsC)] h' ∧ Rds g₀ vsC (itDs cur) ∧ cur.length = its.length ∧ (∀ r ∈ cur, r.length = 4) ∧ p < its.length ∧ (p, cur) = suL its.length pos its)
    (fun n h' => ∃ cur vsC p t' t'', its.length - p = n ∧ St (h.hide d) h.objs.size [("heap", .ref d), ("startpos", .int pos t), ("endpos", .int its.length te), ("pos", .int (p : Nat) t'), ("childpos", .int ((2 * p + 1 : Nat) : Int) t''), ("newitem", .ref xa)] [(d, LS vsC)] h' ∧ Rds g₀ vsC (itDs cur) ∧ cur.length = its.length ∧ (∀ r ∈ cur, r.length = 4) ∧ p < its.length ∧ suL its.length p cur = suL its.length pos its)
    ?_ (its.length - pos) ⟨its, vs, pos, _, _, rfl, S₂.locals (by walk_at "loc"), hr, rfl, h4, hp, rfl⟩).mono ?_
  · rintro n h' ⟨cur, vsC, p, t', t'', hn', S', hr', hcl, h4', hp', hres⟩
    have hlen' := hr'.length
    rw [List.length_map] at hlen'
    walk_at "ss"
    refine ite_dec (fun hc => ?_) fun hc => ?_
    · have hc' : 2 * p + 1 < its.length := by (first | lia | omega)
      rw [suL, dif_pos hc'] at hres
      have hcb : p < childOf cur its.length p ∧ childOf cur its.length p < its.length := by
        unfold childOf
        split
        · rename_i hh; simp at hh; (first | lia | omega)
        · (first | lia | omega)
      walk_at "ss"
      rename St _ _ _ _ _ => S₃
      refine Ev.mono (Q := fun f h' => f = .next ∧ ∃ t3, St (h.hide d) h.objs.size [("heap", .ref d), ("startpos", .int pos t), ("endpos", .int its.length te), ("pos", .int (p : Nat) t'), ("childpos", .int (childOf cur its.length p : Nat) t3), ("newitem", .ref xa)] [(d, LS vsC)] h') ?_ ?_
      · walk_at "i"
        refine ite_dec (fun hc2 => ?_) fun hc2 => ?_
        · walk_at "ss"
          obtain ⟨c1, hc11, hc12⟩ := row_at hr' (i := 2 * p + 1) (by (first | lia | omega))
          obtain ⟨c2, hc21, hc22⟩ := row_at hr' (i := 2 * p + 1 + 1) (by (first | lia | omega))
          refine ev_sub_list S₃.list0 rfl (by (first | lia | omega)) hc11 ?_
          walk_at "ss"
          refine ev_sub_list S₃.list0 (i := 2 * p + 1 + 1) (by (first | lia | omega)) (by (first | lia | omega)) hc21 ?_
          walk_at "ss"
          refine ev_lt_tuples (R.deeper (env := _)).uline (S₃.rd (hc12.keeps kb)) (S₃.rd (hc22.keeps kb)) (by rw [len4_getD h4' (by (first | lia | omega)), len4_getD h4' (by (first | lia | omega))]) ?_
          walk_at "ss"
          refine ite_bool (fun hb => ?_) fun hb => ?_
          · walk_at "ss"
            refine ite_bool (fun _ => ?_) fun hb' => (by cases hb')
            walk_at "ss"
            rename St _ _ _ _ _ => S₄
            have ec : childOf cur its.length p = 2 * p + 1 + 1 := by
              unfold childOf
              rw [if_pos (by simp only [Bool.and_eq_true]; exact ⟨decide_eq_true (by (first | lia | omega)), hb⟩)]
            have e3 : ((2 * p + 1 : Nat) : Int) + 1 = ((2 * p + 1 + 1 : Nat) : Int) := by (first | lia | omega)
            rw [e3] at S₄
            rw [ec]
            exact ⟨rfl, _, S₄.locals (by walk_at "loc")⟩
          · refine ite_bool (fun hb' => (by cases hb')) fun _ => ?_
            walk_at "ss"
            have ec : childOf cur its.length p = 2 * p + 1 := by
              unfold childOf
              rw [if_neg (by rw [hb]; simp)]
            rw [ec]
            exact ⟨rfl, _, S₃.locals (by walk_at "loc")⟩
        · refine ite_bool (fun hb' => (by cases hb')) fun _ => ?_
          walk_at "ss"
          have ec : childOf cur its.length p = 2 * p + 1 := by
            unfold childOf
            rw [if_neg (by rw [decide_eq_false (by (first | lia | omega))]; simp)]
          rw [ec]
          exact ⟨rfl, _, S₃.locals (by walk_at "loc")⟩
      · rintro f h₃ ⟨rfl, t3, S₅⟩
        walk_at "ss"
        obtain ⟨ca, hca1, hca2⟩ := row_at hr' (i := childOf cur its.length p) (by (first | lia | omega))
        refine ev_sub_list S₅.list0 rfl (by (first | lia | omega)) hca1 ?_
        walk_at "ss"
        refine ev_set_list S₅.list0 rfl (by (first | lia | omega)) (by (first | lia | omega)) fun h₅ hl₅ hs₅ => ?_
        have S₆ := S₅.upd 0 rfl hs₅.extBut (ls_of hl₅)
        walk_at "ss"
        rename St _ _ _ _ _ => S₇
        have e3 : (2 : Int) * (childOf cur its.length p : Int) + 1 = ((2 * childOf cur its.length p + 1 : Nat) : Int) := by (first | lia | omega)
        rw [e3] at S₇
        refine ⟨its.length - childOf cur its.length p, by (first | lia | omega), _, _, _, _, _, rfl, S₇.locals (by walk_at "loc"), ?_, ?_, ?_, by (first | lia | omega), hres⟩
        · rw [itDs_set]; exact hr'.set hca2
        · simp [hcl]
        · exact len4_set h4' (len4_getD h4' (by (first | lia | omega)))
    · rw [suL, dif_neg (by (first | lia | omega))] at hres
      exact ⟨rfl, cur, vsC, p, t', S'.locals (by walk_at "loc"), hr', hcl, h4', hp', hres⟩
  · rintro f h' ⟨rfl, cur, vsC, p, t', S', hr', hcl, h4', hp', hres⟩
    have hlen' := hr'.length
    rw [List.length_map] at hlen'
    walk_at "ss"
    refine ev_set_list S'.list0 rfl (by (first | lia | omega)) (by (first | lia | omega)) fun h₅ hl₅ hs₅ => ?_
    have S₅ := S'.upd 0 rfl hs₅.extBut (ls_of hl₅)
    walk_at "ss"
    refine (siftdown_spec (its := cur.set p (its.getD pos [])) (start := pos) (pos := p) G₀ (kb.trans S₅.keep) hd₀ R.deeper S₅.list0 ?_ (len4_set h4' (len4_getD h4 hp)) (by simp; (first | lia | omega)) (by simp; (first | lia | omega))).mono ?_
    · rw [itDs_set]
      exact hr'.set hx2
    · rintro v h₆ ⟨rfl, hx, vs', hl', hr₆⟩
      refine ⟨rfl, ?_⟩
      walk_at "ss"
      refine ⟨rfl, fun b o hb e => hx b o hb (ext_hide S₅.keep b o hb e), vs', hl', ?_⟩
      unfold siftupF
      rw [← hres]
      exact hr₆

theorem heapreplace_spec {g₀ h : Heap} {d ia : Addr} {vs : List Value} {its : List (List Int)} {r : List Int} (G₀ : GN w g₀) (k₀ : Kp g₀ h) (hd₀ : g₀.get? d = none) (R : Room A 3)
    (hl : PL h d vs) (hr : Rds g₀ vs (itDs its)) (h4 : ∀ r ∈ its, r.length = 4) (hsz : its.length < 2 ^ 20) (hp : 0 < its.length) (hi : Rd g₀ (.ref ia) (itD r)) (hi4 : r.length = 4) :
    Ev prog w A s₀ (call (.ref 28) [.ref d, .ref ia]) h (fun v h' => Rd g₀ v (itD (its.getD 0 [])) ∧ Heap.ExtBut d h h' ∧ ∃ vs', PL h' d vs' ∧ Rds g₀ vs' (itDs (siftupF (its.set 0 r) 0))) := by
  refine ev_def (binds := [("heap", .ref d), ("item", .ref ia)]) (G₀.keeps k₀) R.lim (by k_is) (by k_is) rfl rfl ?_ rfl rfl rfl (by decide)
  intro h₁ hn hk env B
  have S := St.enter1 hn hk (fun x v e => e) (ls_of hl)
  have kb := kp_hide_of k₀ hd₀
  have G : GN w (h.hide d) := G₀.keeps kb
  dsimp only [List.reverse, List.reverseAux] at S
  have hlen := hr.length
  rw [List.length_map] at hlen
  walk_at "ss"
  obtain ⟨xa, hx1, hx2⟩ := row_at hr hp
  refine ev_sub_list S.list0 (i := 0) rfl (by (first | lia | omega)) hx1 ?_
  walk_at "ss"
  rename St _ _ _ _ _ => S₂
  refine ev_set_list S₂.list0 (i := 0) rfl (by (first | lia | omega)) (by (first | lia | omega)) fun h₅ hl₅ hs₅ => ?_
  have S₅ := S₂.upd 0 rfl hs₅.extBut (ls_of hl₅)
  walk_at "ss"
  refine (siftup_spec (pos := 0) (its := its.set 0 r) G₀ (kb.trans S₅.keep) hd₀ R.deeper S₅.list0 ?_ (len4_set h4 hi4) (by simp; (first | lia | omega)) (by simp; (first | lia | omega))).mono ?_
  · rw [itDs_set]
    exact hr.set hi
  · rintro v h₆ ⟨rfl, hx, vs', hl', hr₆⟩
    refine ⟨rfl, ?_⟩
    have S₆ := S₅.upd 0 rfl hx (ls_of hl')
    walk_at "ss"
    exact ⟨hx2, ext_hide S₆.keep, vs', hl', hr₆⟩

/-- what heappop leaves -/

theorem heappop_spec {g₀ h : Heap} {d : Addr} {vs : List Value} {its : List (List Int)} (G₀ : GN w g₀) (k₀ : Kp g₀ h) (hd₀ : g₀.get? d = none) (R : Room A 3)
    (hl : PL h d vs) (hr : Rds g₀ vs (itDs its)) (h4 : ∀ r ∈ its, r.length = 4) (hsz : its.length < 2 ^ 20) (hp : 0 < its.length) :
    Ev prog w A s₀ (call (.ref 21) [.ref d]) h (fun v h' => Rd g₀ v (itD (its.getD 0 [])) ∧ Heap.ExtBut d h h' ∧ ∃ vs', PL h' d vs' ∧ Rds g₀ vs' (itDs (popF its))) := by
  refine ev_def (binds := [("heap", .ref d)]) (G₀.keeps k₀) R.lim (by k_is) (by k_is) rfl rfl ?_ rfl rfl rfl (by decide)
  intro h₁ hn hk env B
  have S := St.enter1 hn hk (fun x v e => e) (ls_of hl)
  have kb := kp_hide_of k₀ hd₀
  have G : GN w (h.hide d) := G₀.keeps kb
  dsimp only [List.reverse, List.reverseAux] at S
  obtain ⟨init, last, rfl⟩ : ∃ init last, its = init ++ [last] := ⟨its.dropLast, its.getLast (by intro e; simp [e] at hp), (List.dropLast_concat_getLast _).symm⟩
  obtain ⟨vi, vl, rfl, hri, hrl⟩ := Rds.split (ds := itDs init) (es := [itD last]) (by simpa [itDs] using hr)
  obtain ⟨lv, rfl⟩ : ∃ lv, vl = [lv] := List.length_eq_one_iff.mp hrl.length
  have hrl := hrl.uncons.1
  have hlen := hri.length
  rw [List.length_map] at hlen
  simp only [List.length_append, List.length_singleton] at hsz
  walk_at "ss"
  refine ev_lm F.slot_list_pop F.type_list_pop S.list0 ?_
  walk_at "ss"
  refine ev_pop S.list0 (by (first | lia | omega)) fun h₂ hl₂ hs₂ => ?_
  have S₂ := S.upd 0 rfl hs₂.extBut (ls_of hl₂)
  walk_at "ss"
  rename St _ _ _ _ _ => S₃
  walk_at "i"
  refine ev_truthy_list S₃.list0 (by (first | lia | omega)) ?_
  refine ite_bool (fun hb => ?_) fun hb => ?_
  · have hi : 0 < init.length := by
      rw [← hlen]
      exact List.length_pos_iff.mpr (by intro e; rw [e] at hb; cases hb)
    have e0 : (init ++ [last]).getD 0 [] = init.getD 0 [] := by
      cases init with
      | nil => simp at hi
      | cons a b => rfl
    have ep : popF (init ++ [last]) = siftupF (init.set 0 last) 0 := by
      unfold popF
      rw [if_neg (Nat.not_le.mpr (by rw [List.length_append, List.length_singleton]; (first | lia | omega)))]
      simp
    have h4i : ∀ r ∈ init, r.length = 4 := fun r hr => h4 r (List.mem_append_left _ hr)
    walk_at "ss"
    obtain ⟨xa, hx1, hx2⟩ := row_at hri hi
    refine ev_sub_list S₃.list0 (i := 0) rfl (by (first | lia | omega)) hx1 ?_
    walk_at "ss"
    rename St _ _ _ _ _ => S₄
    refine ev_set_list S₄.list0 (i := 0) rfl (by (first | lia | omega)) (by (first | lia | omega)) fun h₅ hl₅ hs₅ => ?_
    have S₅ := S₄.upd 0 rfl hs₅.extBut (ls_of hl₅)
    walk_at "ss"
    refine (siftup_spec (pos := 0) (its := init.set 0 last) G₀ (kb.trans S₅.keep) hd₀ R.deeper S₅.list0 ?_ (len4_set h4i (h4 last (by simp))) (by simp; (first | lia | omega)) (by simp; (first | lia | omega))).mono ?_
    · rw [itDs_set]
      exact hri.set hrl
    · rintro v h₆ ⟨rfl, hx, vs', hl', hr₆⟩
      refine ⟨rfl, ?_⟩
      have S₆ := S₅.upd 0 rfl hx (ls_of hl')
      walk_at "ss"
      rw [e0, ep]
      exact ⟨hx2, ext_hide S₆.keep, vs', hl', hr₆⟩
  · have hi : vi = [] := by
      cases vi with
      | nil => rfl
      | cons a b => cases hb
    subst hi
    obtain rfl : init = [] := List.length_eq_zero_iff.mp (by rw [← hlen]; rfl)
    walk_at "ss"
    exact ⟨hrl, ext_hide S₃.keep, [], S₃.list0, .nil⟩

theorem heapify_spec {g₀ h : Heap} {d : Addr} {vs : List Value} {its : List (List Int)} (G₀ : GN w g₀) (k₀ : Kp g₀ h) (hd₀ : g₀.get? d = none) (R : Room A 3)
    (hl : PL h d vs) (hr : Rds g₀ vs (itDs its)) (h4 : ∀ r ∈ its, r.length = 4) (hsz : its.length < 2 ^ 20) (len4F : ∀ l i, (∀ r ∈ l, r.length = 4) → i < l.length → ∀ r ∈ siftupF l i, r.length = 4) :
    Ev prog w A s₀ (call (.ref 35) [.ref d]) h (fun v h' => v = .none ∧ Heap.ExtBut d h h' ∧ ∃ vs', PL h' d vs' ∧ Rds g₀ vs' (itDs (heapifyF its))) := by
  refine ev_def (binds := [("x", .ref d)]) (G₀.keeps k₀) R.lim (by k_is) (by k_is) rfl rfl ?_ rfl rfl rfl (by decide)
  intro h₁ hn hk env B
  have S := St.enter1 hn hk (fun x v e => e) (ls_of hl)
  have kb := kp_hide_of k₀ hd₀
  have G : GN w (h.hide d) := G₀.keeps kb
  dsimp only [List.reverse, List.reverseAux] at S
  have hlen := hr.length
  rw [List.length_map] at hlen
  walk_at "ss"
  refine ev_len_list S.list0 (by (first | lia | omega)) fun te => ?_
  rw [hlen]
  walk_at "ss"
  refine ev_for ?_ (by intro _; rfl)
  walk_at "ss"
  rename St _ _ _ _ _ => S₁
  have e2 : (its.length : Int) / 2 = ((its.length / 2 : Nat) : Int) := by (first | lia | omega)
  rw [e2]
  refine ev_range1 fun h₂ r t₁ u₁ hR kR => ?_
  walk_at "ss"
  refine ev_reversed_range hR (by (first | lia | omega)) (by (first | lia | omega)) fun h₃ I hI gI => ?_
  have S₃ := gI _ _ _ _ (S₁.grown kR)
  refine ev_iter_ri hI ?_
  refine loop_range (C := List (List Int) × List Value) (n := its.length / 2) (fun _ => [("x", .ref d)]) (fun c => [(d, LS c.2)])
    (fun i c _ => Rds g₀ c.2 (itDs c.1) ∧ c.1.length = its.length ∧ (∀ r ∈ c.1, r.length = 4) ∧ hfy (its.length / 2 - i) c.1 = heapifyF its)
    R.han (its, vs) (S₃.locals (by walk_at "loc")) hI rfl ⟨hr, rfl, h4, rfl⟩ ?_ ?_ rfl rfl
  · rintro i ⟨cur, vsC⟩ tv g₁ PI h₂ hi kg ⟨hr', hcl, h4', hres⟩ S'
    try dsimp only at hr' hcl h4' hres S'
    have G' : GN w g₁ := G.keeps kg
    have e3 : ((its.length / 2 : Nat) : Int) - 1 + (i : Nat) * (-1) = ((its.length / 2 - 1 - i : Nat) : Int) := by (first | lia | omega)
    rw [e3] at S'
    walk_at "ss"
    have hd₁ : g₁.get? d = none := (S'.new (d, LS vsC) (.tail _ (.head _))).2.2
    refine (siftup_spec (pos := its.length / 2 - 1 - i) G₀ ((kb.trans kg).trans S'.keep) hd₀ R.deeper S'.list1 hr' h4' (by (first | lia | omega)) (by (first | lia | omega))).mono ?_
    rintro v h₆ ⟨rfl, hx, vs', hl', hr₆⟩
    refine ⟨rfl, ?_⟩
    have S₆ := S'.upd 1 rfl hx (ls_of hl')
    walk_at "ss"
    refine ⟨(siftupF cur (its.length / 2 - 1 - i), vs'), S₆.locals (by walk_at "loc"), hr₆, (siftupF_length _ _).trans hcl, len4F _ _ h4' (by (first | lia | omega)), ?_⟩
    have e4 : its.length / 2 - i = (its.length / 2 - 1 - i) + 1 := by (first | lia | omega)
    have e5 : its.length / 2 - (i + 1) = its.length / 2 - 1 - i := by (first | lia | omega)
    rw [e4] at hres
    rw [e5]
    exact hres
  · rintro ⟨cur, vsC⟩ g₁ h₂ kg ⟨hr', hcl, h4', hres⟩ S'
    try dsimp only at hr' hcl h4' hres S'
    walk_at "ss"
    rw [Nat.sub_self] at hres
    refine ⟨rfl, ext_hide (kg.trans S'.keep), vsC, S'.list0, ?_⟩
    rw [← hres]
    exact hr'
end

/-- what a Whitespace holds: the counts of the runs before a tab, the trailing spaces, the tabs, the signs -/
structure WSp where
  cnt : List Int
  tr : Int
  nt : Int
  n : Int
noncomputable def WSm (ats : List (Str × Value)) : Prop := ats.lookup (Str.ofString "longest_run_of_spaces") = none ∧ ats.lookup (Str.ofString "indent_level") = none ∧ ats.lookup (Str.ofString "equal") = none ∧ ats.lookup (Str.ofString "not_equal_witness") = none ∧ ats.lookup (Str.ofString "less") = none ∧ ats.lookup (Str.ofString "not_less_witness") = none
noncomputable def WS (g : Heap) (x : Addr) (W : WSp) : Prop := ∃ dx na ats t₁ t₂, (∃ o, g.get? x = some o ∧ IN 111 dx o) ∧ (∃ o, g.get? dx = some o ∧ DA ats o) ∧ ats.lookup (Str.ofString "norm") = some (.ref na) ∧
  Rd g (.ref na) (.tuple [.tuple (W.cnt.map PyData.int), .int W.tr]) ∧ ats.lookup (Str.ofString "nt") = some (.int W.nt t₁) ∧ ats.lookup (Str.ofString "n") = some (.int W.n t₂) ∧
  ats.lookup (Str.ofString "is_simple") = some (.bool (decide (W.cnt.length ≤ 1))) ∧ WSm ats
noncomputable abbrev WSp.lvl (W : WSp) (ts : Int) : Int := indF W.cnt W.tr W.nt ts
noncomputable abbrev WSp.long (W : WSp) : Int := max ((W.cnt.length : Int) - 1) W.tr
theorem WS.keeps {g h : Heap} {x W} (X : WS g x W) (k : Kp g h) : WS h x W := by
  obtain ⟨dx, na, ats, t₁, t₂, ⟨o1, a1, a2⟩, ⟨o2, b1, b2⟩, c1, c2, c3⟩ := X
  exact ⟨dx, na, ats, t₁, t₂, ⟨o1, k _ _ a1, a2⟩, ⟨o2, k _ _ b1, b2⟩, c1, c2.keeps k, c3⟩
section
variable {prog : Program} {w : World} {A : Around} {s₀ : Shared} {g h : Heap} {env : Env} {x : Addr} {W : WSp} {expr : Bool} {pl : Sem Bool} {pos : Pos} {L : Addr} {ps : List (Str × Value)} {news : List (Addr × (Obj → Prop))}
theorem ev_ws_norm {Q : Value → Heap → Prop} (G : GN w g) (S : St g L ps news h) (X : WS g x W) (q : ∀ na, Rd g (.ref na) (.tuple [.tuple (W.cnt.map PyData.int), .int W.tr]) → Q (.ref na) h) : Ev prog w A s₀ (getAttr (.ref x) (Str.ofString "norm") expr) h Q := by
  obtain ⟨dx, na, ats, t₁, t₂, ⟨o1, a1, a2⟩, ⟨o2, b1, b2⟩, c1, c2, c3, c4, c5, c6⟩ := X
  exact ev_get_attr (G.keeps S.keep).kin ⟨o1, S.keep _ _ a1, a2⟩ ⟨o2, S.keep _ _ b1, b2⟩ c1 (by k_is) (by k_is) (by k_is) (by k_is) rfl (q na c2)
theorem ev_ws_nt {Q : Value → Heap → Prop} (G : GN w g) (S : St g L ps news h) (X : WS g x W) (q : ∀ t, Q (.int W.nt t) h) : Ev prog w A s₀ (getAttr (.ref x) (Str.ofString "nt") expr) h Q := by
  obtain ⟨dx, na, ats, t₁, t₂, ⟨o1, a1, a2⟩, ⟨o2, b1, b2⟩, c1, c2, c3, c4, c5, c6⟩ := X
  exact ev_get_attr (G.keeps S.keep).kin ⟨o1, S.keep _ _ a1, a2⟩ ⟨o2, S.keep _ _ b1, b2⟩ c3 (by k_is) (by k_is) (by k_is) (by k_is) rfl (q _)
theorem ev_ws_n {Q : Value → Heap → Prop} (G : GN w g) (S : St g L ps news h) (X : WS g x W) (q : ∀ t, Q (.int W.n t) h) : Ev prog w A s₀ (getAttr (.ref x) (Str.ofString "n") expr) h Q := by
  obtain ⟨dx, na, ats, t₁, t₂, ⟨o1, a1, a2⟩, ⟨o2, b1, b2⟩, c1, c2, c3, c4, c5, c6⟩ := X
  exact ev_get_attr (G.keeps S.keep).kin ⟨o1, S.keep _ _ a1, a2⟩ ⟨o2, S.keep _ _ b1, b2⟩ c4 (by k_is) (by k_is) (by k_is) (by k_is) rfl (q _)
theorem ev_ws_simple {Q : Value → Heap → Prop} (G : GN w g) (S : St g L ps news h) (X : WS g x W) (q : Q (.bool (decide (W.cnt.length ≤ 1))) h) : Ev prog w A s₀ (getAttr (.ref x) (Str.ofString "is_simple") expr) h Q := by
  obtain ⟨dx, na, ats, t₁, t₂, ⟨o1, a1, a2⟩, ⟨o2, b1, b2⟩, c1, c2, c3, c4, c5, c6⟩ := X
  exact ev_get_attr (G.keeps S.keep).kin ⟨o1, S.keep _ _ a1, a2⟩ ⟨o2, S.keep _ _ b1, b2⟩ c5 (by k_is) (by k_is) (by k_is) (by k_is) rfl q
theorem ev_wm_longest_run_of_spaces {Q : Value × List Value → Heap → Prop} (G : GN w g) (S : St g L ps news h) (X : WS g x W) (q : Q (.ref 73, [.ref x]) h) : Ev prog w A s₀ (getMethod (.ref x) (Str.ofString "longest_run_of_spaces") pl) h Q := by
  obtain ⟨dx, na, ats, t₁, t₂, ⟨o1, a1, a2⟩, ⟨o2, b1, b2⟩, c1, c2, c3, c4, c5, c6⟩ := X
  exact ev_get_method (G.keeps S.keep).kin ⟨o1, S.keep _ _ a1, a2⟩ ⟨o2, S.keep _ _ b1, b2⟩ c6.1 (by k_is) (by k_is) (by k_is) q
theorem k_longest_run_of_spaces (w : World) : keepIn (hd.heap_39 w.params) (.ref 73) = true := by k_is
theorem ev_cwm_longest_run_of_spaces {x : Value} {e rest} {Q : Value → Heap → Prop} (H : Ev prog w A s₀ (spliced (backTo pos (starEach (e :: rest) env))) h (fun vs h₁ => (hd.heap_39 w.params).In h₁ ∧ Ev prog w A s₀ (call (.ref 73) (x :: vs)) h₁ Q))
    (he : starEach (e :: rest) env = (false, eval e env) :: starEach rest env) (hplain : (backTo pos (starEach rest env)).any (·.1) = false) :
    Ev prog w A s₀ (callWith pos (.ref 73) [x] (backTo pos (starEach (e :: rest) env)) []) h Q := ev_cwfm (k_longest_run_of_spaces w) H he hplain
theorem ev_cwm0_longest_run_of_spaces {x : Value} {Q : Value → Heap → Prop} (G : GN w g) (S : St g L ps news h) (H : Ev prog w A s₀ (call (.ref 73) [x]) h Q) :
    Ev prog w A s₀ (callWith pos (.ref 73) [x] (backTo pos (starEach [] env)) []) h Q := ev_cwfm0 (G.keeps S.keep).kin (k_longest_run_of_spaces w) H
theorem ev_wm_indent_level {Q : Value × List Value → Heap → Prop} (G : GN w g) (S : St g L ps news h) (X : WS g x W) (q : Q (.ref 80, [.ref x]) h) : Ev prog w A s₀ (getMethod (.ref x) (Str.ofString "indent_level") pl) h Q := by
  obtain ⟨dx, na, ats, t₁, t₂, ⟨o1, a1, a2⟩, ⟨o2, b1, b2⟩, c1, c2, c3, c4, c5, c6⟩ := X
  exact ev_get_method (G.keeps S.keep).kin ⟨o1, S.keep _ _ a1, a2⟩ ⟨o2, S.keep _ _ b1, b2⟩ c6.2.1 (by k_is) (by k_is) (by k_is) q
theorem k_indent_level (w : World) : keepIn (hd.heap_39 w.params) (.ref 80) = true := by k_is
theorem ev_cwm_indent_level {x : Value} {e rest} {Q : Value → Heap → Prop} (H : Ev prog w A s₀ (spliced (backTo pos (starEach (e :: rest) env))) h (fun vs h₁ => (hd.heap_39 w.params).In h₁ ∧ Ev prog w A s₀ (call (.ref 80) (x :: vs)) h₁ Q))
    (he : starEach (e :: rest) env = (false, eval e env) :: starEach rest env) (hplain : (backTo pos (starEach rest env)).any (·.1) = false) :
    Ev prog w A s₀ (callWith pos (.ref 80) [x] (backTo pos (starEach (e :: rest) env)) []) h Q := ev_cwfm (k_indent_level w) H he hplain
theorem ev_cwm0_indent_level {x : Value} {Q : Value → Heap → Prop} (G : GN w g) (S : St g L ps news h) (H : Ev prog w A s₀ (call (.ref 80) [x]) h Q) :
    Ev prog w A s₀ (callWith pos (.ref 80) [x] (backTo pos (starEach [] env)) []) h Q := ev_cwfm0 (G.keeps S.keep).kin (k_indent_level w) H
theorem ev_wm_equal {Q : Value × List Value → Heap → Prop} (G : GN w g) (S : St g L ps news h) (X : WS g x W) (q : Q (.ref 87, [.ref x]) h) : Ev prog w A s₀ (getMethod (.ref x) (Str.ofString "equal") pl) h Q := by
  obtain ⟨dx, na, ats, t₁, t₂, ⟨o1, a1, a2⟩, ⟨o2, b1, b2⟩, c1, c2, c3, c4, c5, c6⟩ := X
  exact ev_get_method (G.keeps S.keep).kin ⟨o1, S.keep _ _ a1, a2⟩ ⟨o2, S.keep _ _ b1, b2⟩ c6.2.2.1 (by k_is) (by k_is) (by k_is) q
theorem k_equal (w : World) : keepIn (hd.heap_39 w.params) (.ref 87) = true := by k_is
theorem ev_cwm_equal {x : Value} {e rest} {Q : Value → Heap → Prop} (H : Ev prog w A s₀ (spliced (backTo pos (starEach (e :: rest) env))) h (fun vs h₁ => (hd.heap_39 w.params).In h₁ ∧ Ev prog w A s₀ (call (.ref 87) (x :: vs)) h₁ Q))
    (he : starEach (e :: rest) env = (false, eval e env) :: starEach rest env) (hplain : (backTo pos (starEach rest env)).any (·.1) = false) :
    Ev prog w A s₀ (callWith pos (.ref 87) [x] (backTo pos (starEach (e :: rest) env)) []) h Q := ev_cwfm (k_equal w) H he hplain
theorem ev_cwm0_equal {x : Value} {Q : Value → Heap → Prop} (G : GN w g) (S : St g L ps news h) (H : Ev prog w A s₀ (call (.ref 87) [x]) h Q) :
    Ev prog w A s₀ (callWith pos (.ref 87) [x] (backTo pos (starEach [] env)) []) h Q := ev_cwfm0 (G.keeps S.keep).kin (k_equal w) H
theorem ev_wm_not_equal_witness {Q : Value × List Value → Heap → Prop} (G : GN w g) (S : St g L ps news h) (X : WS g x W) (q : Q (.ref 94, [.ref x]) h) : Ev prog w A s₀ (getMethod (.ref x) (Str.ofString "not_equal_witness") pl) h Q := by
  obtain ⟨dx, na, ats, t₁, t₂, ⟨o1, a1, a2⟩, ⟨o2, b1, b2⟩, c1, c2, c3, c4, c5, c6⟩ := X
  exact ev_get_method (G.keeps S.keep).kin ⟨o1, S.keep _ _ a1, a2⟩ ⟨o2, S.keep _ _ b1, b2⟩ c6.2.2.2.1 (by k_is) (by k_is) (by k_is) q
theorem k_not_equal_witness (w : World) : keepIn (hd.heap_39 w.params) (.ref 94) = true := by k_is
theorem ev_cwm_not_equal_witness {x : Value} {e rest} {Q : Value → Heap → Prop} (H : Ev prog w A s₀ (spliced (backTo pos (starEach (e :: rest) env))) h (fun vs h₁ => (hd.heap_39 w.params).In h₁ ∧ Ev prog w A s₀ (call (.ref 94) (x :: vs)) h₁ Q))
    (he : starEach (e :: rest) env = (false, eval e env) :: starEach rest env) (hplain : (backTo pos (starEach rest env)).any (·.1) = false) :
    Ev prog w A s₀ (callWith pos (.ref 94) [x] (backTo pos (starEach (e :: rest) env)) []) h Q := ev_cwfm (k_not_equal_witness w) H he hplain
theorem ev_cwm0_not_equal_witness {x : Value} {Q : Value → Heap → Prop} (G : GN w g) (S : St g L ps news h) (H : Ev prog w A s₀ (call (.ref 94) [x]) h Q) :
    Ev prog w A s₀ (callWith pos (.ref 94) [x] (backTo pos (starEach [] env)) []) h Q := ev_cwfm0 (G.keeps S.keep).kin (k_not_equal_witness w) H
theorem ev_wm_less {Q : Value × List Value → Heap → Prop} (G : GN w g) (S : St g L ps news h) (X : WS g x W) (q : Q (.ref 101, [.ref x]) h) : Ev prog w A s₀ (getMethod (.ref x) (Str.ofString "less") pl) h Q := by
  obtain ⟨dx, na, ats, t₁, t₂, ⟨o1, a1, a2⟩, ⟨o2, b1, b2⟩, c1, c2, c3, c4, c5, c6⟩ := X
  exact ev_get_method (G.keeps S.keep).kin ⟨o1, S.keep _ _ a1, a2⟩ ⟨o2, S.keep _ _ b1, b2⟩ c6.2.2.2.2.1 (by k_is) (by k_is) (by k_is) q
theorem k_less (w : World) : keepIn (hd.heap_39 w.params) (.ref 101) = true := by k_is
theorem ev_cwm_less {x : Value} {e rest} {Q : Value → Heap → Prop} (H : Ev prog w A s₀ (spliced (backTo pos (starEach (e :: rest) env))) h (fun vs h₁ => (hd.heap_39 w.params).In h₁ ∧ Ev prog w A s₀ (call (.ref 101) (x :: vs)) h₁ Q))
    (he : starEach (e :: rest) env = (false, eval e env) :: starEach rest env) (hplain : (backTo pos (starEach rest env)).any (·.1) = false) :
    Ev prog w A s₀ (callWith pos (.ref 101) [x] (backTo pos (starEach (e :: rest) env)) []) h Q := ev_cwfm (k_less w) H he hplain
theorem ev_cwm0_less {x : Value} {Q : Value → Heap → Prop} (G : GN w g) (S : St g L ps news h) (H : Ev prog w A s₀ (call (.ref 101) [x]) h Q) :
    Ev prog w A s₀ (callWith pos (.ref 101) [x] (backTo pos (starEach [] env)) []) h Q := ev_cwfm0 (G.keeps S.keep).kin (k_less w) H
theorem ev_wm_not_less_witness {Q : Value × List Value → Heap → Prop} (G : GN w g) (S : St g L ps news h) (X : WS g x W) (q : Q (.ref 108, [.ref x]) h) : Ev prog w A s₀ (getMethod (.ref x) (Str.ofString "not_less_witness") pl) h Q := by
  obtain ⟨dx, na, ats, t₁, t₂, ⟨o1, a1, a2⟩, ⟨o2, b1, b2⟩, c1, c2, c3, c4, c5, c6⟩ := X
  exact ev_get_method (G.keeps S.keep).kin ⟨o1, S.keep _ _ a1, a2⟩ ⟨o2, S.keep _ _ b1, b2⟩ c6.2.2.2.2.2 (by k_is) (by k_is) (by k_is) q
theorem k_not_less_witness (w : World) : keepIn (hd.heap_39 w.params) (.ref 108) = true := by k_is
theorem ev_cwm_not_less_witness {x : Value} {e rest} {Q : Value → Heap → Prop} (H : Ev prog w A s₀ (spliced (backTo pos (starEach (e :: rest) env))) h (fun vs h₁ => (hd.heap_39 w.params).In h₁ ∧ Ev prog w A s₀ (call (.ref 108) (x :: vs)) h₁ Q))
    (he : starEach (e :: rest) env = (false, eval e env) :: starEach rest env) (hplain : (backTo pos (starEach rest env)).any (·.1) = false) :
    Ev prog w A s₀ (callWith pos (.ref 108) [x] (backTo pos (starEach (e :: rest) env)) []) h Q := ev_cwfm (k_not_less_witness w) H he hplain
theorem ev_cwm0_not_less_witness {x : Value} {Q : Value → Heap → Prop} (G : GN w g) (S : St g L ps news h) (H : Ev prog w A s₀ (call (.ref 108) [x]) h Q) :
    Ev prog w A s₀ (callWith pos (.ref 108) [x] (backTo pos (starEach [] env)) []) h Q := ev_cwfm0 (G.keeps S.keep).kin (k_not_less_witness w) H
end
section
variable {prog : Program} {w : World} {A : Around} {s₀ : Shared}
theorem norm_tup {h : Heap} {na : Addr} {cs : List PyData} {tr : Int} (x : Rd h (.ref na) (.tuple [.tuple cs, .int tr])) : ∃ ca t, IsTup h na [.ref ca, .int tr t].toArray ∧ Rd h (.ref ca) (.tuple cs) := by
  obtain ⟨vs, ht, hr⟩ := x.tup
  match vs, ht, hr with
  | [a, b], ht, hr =>
    obtain ⟨ca, rfl⟩ := hr.uncons.1.tup_ref
    obtain ⟨t, rfl⟩ := hr.uncons.2.uncons.1.int_inv
    exact ⟨ca, t, ht, hr.uncons.1⟩
  | [], _, hr => exact absurd hr.length (by simp)
  | [_], _, hr => exact absurd hr.length (by simp)
  | _ :: _ :: _ :: _, _, hr => exact absurd hr.length (by simp)

theorem longest_spec {h : Heap} {x : Addr} {W : WSp} (G : GN w h) (X : WS h x W) (R : Room A 1) (hc : W.cnt.length < 2 ^ 20) :
    Ev prog w A s₀ (call (.ref 73) [.ref x]) h (fun v h' => Kp h h' ∧ ∃ t, v = .int (max ((W.cnt.length : Int) - 1) W.tr) t) := by
  refine ev_def (binds := [("self", .ref x)]) G R.lim (by k_is) (by k_is) rfl rfl ?_ rfl rfl rfl (by decide)
  intro h₁ hn hk env B
  have S := St.enter hn hk (fun x v e => e)
  dsimp only [List.reverse, List.reverseAux] at S
  walk_at "ss"
  refine ev_ws_norm G S X fun na hna => ?_
  obtain ⟨ca, tt, ht, hca⟩ := norm_tup hna
  refine ev_unpack2 R.han (ht.keeps S.keep) fun h₂ k₂ => ?_
  have S₂ := S.grown k₂
  walk_at "ss"
  rename St _ _ _ _ _ => S₃
  obtain ⟨cs, hcs, hrc⟩ := hca.tup
  have hcl := hrc.length
  rw [List.length_map] at hcl
  refine ev_len_tuple (hcs.keeps S₃.keep) (by (first | lia | omega)) fun te => ?_
  walk_at "ss"
  refine ev_max2 R.han fun h₄ t₄ k₄ => ?_
  walk_at "ss"
  rw [hcl]
  exact ⟨S₃.keep.trans k₄, _, rfl⟩

theorem indent_spec {h : Heap} {x : Addr} {W : WSp} {ts : Int} {t : Tok} (G : GN w h) (X : WS h x W) (R : Room A 1) (hc : W.cnt.length < 2 ^ 20) (hts : 1 ≤ ts) (hnt : W.nt.natAbs < 2 ^ 20) :
    Ev prog w A s₀ (call (.ref 80) [.ref x, .int ts t]) h (fun v h' => Kp h h' ∧ ∃ t, v = .int (indF W.cnt W.tr W.nt ts) t) := by
  refine ev_def (binds := [("self", .ref x), ("tabsize", .int ts t)]) G R.lim (by k_is) (by k_is) rfl rfl ?_ rfl rfl rfl (by decide)
  intro h₁ hn hk env B
  have S := St.enter hn hk (fun x v e => e)
  dsimp only [List.reverse, List.reverseAux] at S
  walk_at "ss"
  refine ev_ws_norm G S X fun na hna => ?_
  obtain ⟨ca, tt, ht, hca⟩ := norm_tup hna
  refine ev_unpack2 R.han (ht.keeps S.keep) fun h₂ k₂ => ?_
  have S₂ := S.grown k₂
  obtain ⟨cs, hcs, hrc⟩ := hca.tup
  have hcl := hrc.length
  rw [List.length_map] at hcl
  walk_at "ss"
  refine ev_for ?_ (by intro _; rfl)
  walk_at "ss"
  rename St _ _ _ _ _ => S₃
  refine ev_len_tuple (hcs.keeps S₃.keep) (by (first | lia | omega)) fun te => ?_
  walk_at "ss"
  refine ev_id ?_
  rw [hcl]
  refine ev_range2 fun h₄ r t₁ hR kR => ?_
  refine ev_iter_any hR rangeSize_up fun h₅ I Wk hW hW0 hob gI => ?_
  have S₅ := gI _ _ _ _ (S₃.grown kR)
  refine loop_walk (C := Int × Tok) (fun c => [("il", .int c.1 c.2), ("tabsize", .int ts t), ("count", .ref ca), ("trailing", .int W.tr tt), ("self", .ref x)]) (fun c => [])
    (fun i c _ => c.1 = ilP W.cnt ts i) (hW _ R.han) hob (fun b hb => .inl (List.mem_singleton.mp hb)) (0, _) (S₅.locals (by walk_at "loc")) hW0 rfl ?_ ?_ rfl rfl (by intro _; rfl)
  · rintro i ⟨il, ti⟩ v g₁ PI h₆ hi ⟨tv, rfl⟩ kg hF S₆
    try dsimp only at hF S₆
    subst hF
    have e1 : ts + (i : Int) * 1 = ts + i := by (first | lia | omega)
    rw [e1] at S₆
    walk_at "ss"
    have hiv : (ts.toNat + i) < W.cnt.length := by (first | lia | omega)
    obtain ⟨cv, hc1, hc2⟩ := hrc.get (i := ts.toNat + i) (d := .int (W.cnt.getD (ts.toNat + i) 0)) (by simp [hiv])
    obtain ⟨tc, rfl⟩ := hc2.int_inv
    refine ev_sub_tuple (hcs.keeps (kg.trans S₆.keep)) (i := ts.toNat + i) (by (first | lia | omega)) (by (first | lia | omega)) hc1 ?_
    refine ev_mul (mulOk_l ?_) fun tm => ?_
    · have d0 : 0 ≤ (ts + (i : Int)) / ts := Int.ediv_nonneg (by (first | lia | omega)) (by (first | lia | omega))
      have d1 : (ts + (i : Int)) / ts ≤ ts + i := Int.ediv_le_self _ (by (first | lia | omega))
      (first | lia | omega)
    walk_at "ss"
    rename St _ _ _ _ _ => S₇
    exact ⟨(_, _), S₇.locals (by walk_at "loc"), rfl⟩
  · rintro ⟨il, ti⟩ g₁ h₆ kg hF S₆
    try dsimp only at hF S₆
    subst hF
    walk_at "ss"
    refine ev_ws_nt (G.keeps kg) S₆ (X.keeps kg) fun tn => ?_
    walk_at "ss"
    refine ev_mul ?_ fun tm => ?_
    · by_cases hb : ts < 2 ^ 60
      · exact mulOk_l (by (first | lia | omega))
      · refine mulOk_r ?_
        have e0 : ((W.cnt.length : Int) - ts).toNat = 0 := by (first | lia | omega)
        rw [e0]
        simp only [ilP]
        (first | lia | omega)
    walk_at "ss"
    exact ⟨kg.trans S₆.keep, _, rfl⟩
end

local macro_rules | `(tactic| walk_at "sg") => `(tactic| ((case S => assumption); (case G => assumption)))
local macro_rules | `(tactic| walk_at "s") => `(tactic| first
  | ((with_reducible first | refine' ev_wm_longest_run_of_spaces ?G ?S ?X ?_ | refine' ev_wm_indent_level ?G ?S ?X ?_ | refine' ev_wm_equal ?G ?S ?X ?_ | refine' ev_wm_not_equal_witness ?G ?S ?X ?_ | refine' ev_wm_less ?G ?S ?X ?_ | refine' ev_wm_not_less_witness ?G ?S ?X ?_); walk_at "sg"; (case X => assumption))
  | ((with_reducible first | refine' ev_cwm0_longest_run_of_spaces ?G ?S ?_ | refine' ev_cwm0_indent_level ?G ?S ?_ | refine' ev_cwm0_equal ?G ?S ?_ | refine' ev_cwm0_not_equal_witness ?G ?S ?_ | refine' ev_cwm0_less ?G ?S ?_ | refine' ev_cwm0_not_less_witness ?G ?S ?_); walk_at "sg")
  | ((with_reducible first | refine' ev_cwm_longest_run_of_spaces ?_ ?h ?h2 | refine' ev_cwm_indent_level ?_ ?h ?h2 | refine' ev_cwm_equal ?_ ?h ?h2 | refine' ev_cwm_not_equal_witness ?_ ?h ?h2 | refine' ev_cwm_less ?_ ?h ?h2 | refine' ev_cwm_not_less_witness ?_ ?h ?h2); walk_at "hh")
  | ((with_reducible first | refine' ev_ws_nt ?G ?S ?X ?_ | refine' ev_ws_n ?G ?S ?X ?_); walk_at "sg"; (case X => assumption); intro _)
  | ((with_reducible refine' ev_ws_simple ?G ?S ?X ?_); walk_at "sg"; (case X => assumption)))

section
variable {prog : Program} {w : World} {A : Around} {s₀ : Shared}
theorem now_fresh {g h h' : Heap} {L a : Addr} {ps : List (Str × Value)} {news news' : List (Addr × (Obj → Prop))} {o : Obj} (S : St g L ps news h) (hf : h.get? a = none) (e : h'.get? a = some o) (hn : news'.map (·.1) = news.map (·.1)) : (now h' L news').get? a = some o := by
  refine now_get e (fun q => ?_) fun q => ?_
  · obtain ⟨m, ⟨oL, _, _, hL, _⟩, _⟩ := S.loc
    rw [q, hL] at hf; cases hf
  · rw [hn] at q
    obtain ⟨p, hp, rfl⟩ := List.mem_map.mp q
    obtain ⟨⟨o', h1, _⟩, _⟩ := S.new p hp
    rw [h1] at hf; cases hf

theorem nlw_spec {h : Heap} {x y : Addr} {W V : WSp} (G : GN w h) (X : WS h x W) (Y : WS h y V) (R : Room A 3) (hc : W.cnt.length < 2 ^ 10) (hc' : V.cnt.length < 2 ^ 10) (hnt : W.nt.natAbs < 2 ^ 20) (hnt' : V.nt.natAbs < 2 ^ 20)
    (ht : W.tr < 2 ^ 10) (ht' : V.tr < 2 ^ 10) :
    Ev prog w A s₀ (call (.ref 108) [.ref x, .ref y]) h (fun v h' => Kp h h' ∧ Rd h' v (.list (itDs (witP (fun a b => decide (a ≥ b)) W.lvl V.lvl (max W.long V.long + 1).toNat)))) := by
  refine ev_def (binds := [("self", .ref x), ("other", .ref y)]) G R.lim (by k_is) (by k_is) rfl rfl ?_ rfl rfl rfl (by decide)
  intro h₁ hn hk env B
  have S := St.enter hn hk (fun x v e => e)
  dsimp only [List.reverse, List.reverseAux] at S
  walk_at "ss"
  refine (longest_spec (G.keeps S.keep) (X.keeps S.keep) (R.deeper.less (by (first | lia | omega))) (by (first | lia | omega))).mono ?_
  rintro v h₂ ⟨k₂, t₂, rfl⟩
  have S₂ := S.grown k₂
  walk_at "ss"
  refine (longest_spec (G.keeps S₂.keep) (Y.keeps S₂.keep) (R.deeper.less (by (first | lia | omega))) (by (first | lia | omega))).mono ?_
  rintro v h₃ ⟨k₃, t₃, rfl⟩
  have S₃ := S₂.grown k₃
  walk_at "ss"
  refine ev_max2 R.han fun h₄ t₄ k₄ => ?_
  have S₄ := S₃.grown k₄
  walk_at "ss"
  rename St _ _ _ _ _ => S₅
  refine ev_nl S₅ (by decide) fun h₅ D S₆ => ?_
  walk_at "ss"
  rename St _ _ _ _ _ => S₇
  refine ev_for ?_ (by intro _; rfl)
  walk_at "ss"
  refine ev_range2 fun h₈ r t₁ hR kR => ?_
  have en : (max W.long V.long + 1 + 1 - 1 : Int).toNat = (max W.long V.long + 1).toNat := by (first | lia | omega)
  refine ev_iter_any (n := (max W.long V.long + 1).toNat) hR (by rw [rangeSize_up, en]) fun h₉ I Wk hW hW0 hob gI => ?_
  have S₈ := gI _ _ _ _ (S₇.grown kR)
  refine loop_walk (C := List Value) (fun c => [("self", .ref x), ("other", .ref y), ("a", .ref D)]) (fun c => [(D, LS c)])
    (fun i c g => Rds g c (itDs (witP (fun a b => decide (a ≥ b)) W.lvl V.lvl i))) (hW _ R.han) hob (fun b hb => .inl (List.mem_singleton.mp hb)) [] (S₈.locals (by walk_at "loc")) hW0 .nil ?_ ?_ rfl rfl (by intro _; rfl)
  · rintro i vsC v g₁ PI ha hi ⟨tv, rfl⟩ kg hF Sa
    try dsimp only at hF Sa
    have G₁ : GN w g₁ := G.keeps kg
    have X₁ := X.keeps kg
    have Y₁ := Y.keeps kg
    have e1 : (1 : Int) + (i : Int) * 1 = 1 + i := by (first | lia | omega)
    rw [e1] at Sa
    walk_at "ss"
    walk_at "i"
    refine (indent_spec (G₁.keeps Sa.keep) (X₁.keeps Sa.keep) (R.deeper.less (by (first | lia | omega))) (by (first | lia | omega)) (by (first | lia | omega)) hnt).mono ?_
    rintro v hb ⟨kb, tb, rfl⟩
    have Sb := Sa.grown kb
    walk_at "ss"
    refine (indent_spec (G₁.keeps Sb.keep) (Y₁.keeps Sb.keep) (R.deeper.less (by (first | lia | omega))) (by (first | lia | omega)) (by (first | lia | omega)) hnt').mono ?_
    rintro v hc₁ ⟨kc, tc, rfl⟩
    have Sc := Sb.grown kc
    walk_at "ss"
    have hlF := hF.length
    rw [List.length_map] at hlF
    have hlW := witP_length (fun a b => decide (a ≥ b)) W.lvl V.lvl i
    have hw1 : W.long ≤ 2 ^ 10 := by show max _ _ ≤ _; (first | lia | omega)
    have hw2 : V.long ≤ 2 ^ 10 := by show max _ _ ≤ _; (first | lia | omega)
    refine ite_bool (fun hp => ?_) fun hp => ?_
    · walk_at "ss"
      refine ev_lm F.slot_list_append F.type_list_append Sc.list1 ?_
      walk_at "ss"
      refine (indent_spec (G₁.keeps Sc.keep) (X₁.keeps Sc.keep) (R.deeper.less (by (first | lia | omega))) (by (first | lia | omega)) (by (first | lia | omega)) hnt).mono ?_
      rintro v hd₁ ⟨kd, td, rfl⟩
      have Sd := Sc.grown kd
      walk_at "ss"
      refine (indent_spec (G₁.keeps Sd.keep) (Y₁.keeps Sd.keep) (R.deeper.less (by (first | lia | omega))) (by (first | lia | omega)) (by (first | lia | omega)) hnt').mono ?_
      rintro v he₁ ⟨ke, te, rfl⟩
      have Se := Sd.grown ke
      walk_at "ss"
      refine ev_nt (by show 3 < 2 ^ 24; decide) fun hf₁ ta kf hta hfa => ?_
      walk_at "ss"
      have Sf := Se.grown kf
      refine ev_append Sf.list1 (by (first | lia | omega)) fun hg₁ hlg hsg => ?_
      have Sg := Sf.upd 1 rfl hsg.extBut (ls_of hlg)
      walk_at "ss"
      refine ⟨rfl, ?_⟩
      walk_at "ss"
      refine ⟨vsC ++ [.ref ta], Sg.locals (by walk_at "loc"), ?_⟩
      unfold witP
      rw [if_pos hp]
      simp only [itDs, List.map_append, List.map_cons, List.map_nil]
      refine (hF.keeps Sg.toNow).append (.cons ?_ .nil)
      have hne : ta ≠ D := by
        intro q
        obtain ⟨⟨o, ho, _⟩, _⟩ := Se.new (D, LS vsC) (.tail _ (.head _))
        rw [← q] at ho
        try dsimp only at ho
        rw [hfa] at ho; cases ho
      obtain ⟨oT, hoT, hcT, nT, hdT⟩ := hta
      exact Rd.of_tup (vs := [.int (1 + (i : Int)) tv, .int (W.lvl (1 + i)) td, .int (V.lvl (1 + i)) te]) ⟨_, now_fresh Se hfa (hsg.extBut _ _ hne hoT) rfl, hcT, nT, hdT⟩ (.cons .int (.cons .int (.cons .int .nil)))
    · walk_at "ss"
      refine ⟨vsC, Sc.locals (by walk_at "loc"), ?_⟩
      unfold witP
      rw [if_neg (by rw [hp]; exact Bool.false_ne_true), List.append_nil]
      exact hF.keeps Sc.toNow
  · rintro vsC g₁ ha kg hF Sa
    try dsimp only at hF Sa
    walk_at "ss"
    exact ⟨kg.trans Sa.keep, Rd.of_list Sa.list0.isList (hF.keeps Sa.keep)⟩
theorem new_spec {h : Heap} {x y : Addr} {W V : WSp} (G : GN w h) (X : WS h x W) (Y : WS h y V) (R : Room A 3) (hc : W.cnt.length < 2 ^ 10) (hc' : V.cnt.length < 2 ^ 10) (hnt : W.nt.natAbs < 2 ^ 20) (hnt' : V.nt.natAbs < 2 ^ 20)
    (ht : W.tr < 2 ^ 10) (ht' : V.tr < 2 ^ 10) :
    Ev prog w A s₀ (call (.ref 94) [.ref x, .ref y]) h (fun v h' => Kp h h' ∧ Rd h' v (.list (itDs (witP (fun a b => a != b) W.lvl V.lvl (max W.long V.long + 1).toNat)))) := by
  refine ev_def (binds := [("self", .ref x), ("other", .ref y)]) G R.lim (by k_is) (by k_is) rfl rfl ?_ rfl rfl rfl (by decide)
  intro h₁ hn hk env B
  have S := St.enter hn hk (fun x v e => e)
  dsimp only [List.reverse, List.reverseAux] at S
  walk_at "ss"
  refine (longest_spec (G.keeps S.keep) (X.keeps S.keep) (R.deeper.less (by (first | lia | omega))) (by (first | lia | omega))).mono ?_
  rintro v h₂ ⟨k₂, t₂, rfl⟩
  have S₂ := S.grown k₂
  walk_at "ss"
  refine (longest_spec (G.keeps S₂.keep) (Y.keeps S₂.keep) (R.deeper.less (by (first | lia | omega))) (by (first | lia | omega))).mono ?_
  rintro v h₃ ⟨k₃, t₃, rfl⟩
  have S₃ := S₂.grown k₃
  walk_at "ss"
  refine ev_max2 R.han fun h₄ t₄ k₄ => ?_
  have S₄ := S₃.grown k₄
  walk_at "ss"
  rename St _ _ _ _ _ => S₅
  refine ev_nl S₅ (by decide) fun h₅ D S₆ => ?_
  walk_at "ss"
  rename St _ _ _ _ _ => S₇
  refine ev_for ?_ (by intro _; rfl)
  walk_at "ss"
  refine ev_range2 fun h₈ r t₁ hR kR => ?_
  have en : (max W.long V.long + 1 + 1 - 1 : Int).toNat = (max W.long V.long + 1).toNat := by (first | lia | omega)
  refine ev_iter_any (n := (max W.long V.long + 1).toNat) hR (by rw [rangeSize_up, en]) fun h₉ I Wk hW hW0 hob gI => ?_
  have S₈ := gI _ _ _ _ (S₇.grown kR)
  refine loop_walk (C := List Value) (fun c => [("self", .ref x), ("other", .ref y), ("a", .ref D)]) (fun c => [(D, LS c)])
    (fun i c g => Rds g c (itDs (witP (fun a b => a != b) W.lvl V.lvl i))) (hW _ R.han) hob (fun b hb => .inl (List.mem_singleton.mp hb)) [] (S₈.locals (by walk_at "loc")) hW0 .nil ?_ ?_ rfl rfl (by intro _; rfl)
  · rintro i vsC v g₁ PI ha hi ⟨tv, rfl⟩ kg hF Sa
    try dsimp only at hF Sa
    have G₁ : GN w g₁ := G.keeps kg
    have X₁ := X.keeps kg
    have Y₁ := Y.keeps kg
    have e1 : (1 : Int) + (i : Int) * 1 = 1 + i := by (first | lia | omega)
    rw [e1] at Sa
    walk_at "ss"
    walk_at "i"
    refine (indent_spec (G₁.keeps Sa.keep) (X₁.keeps Sa.keep) (R.deeper.less (by (first | lia | omega))) (by (first | lia | omega)) (by (first | lia | omega)) hnt).mono ?_
    rintro v hb ⟨kb, tb, rfl⟩
    have Sb := Sa.grown kb
    walk_at "ss"
    refine (indent_spec (G₁.keeps Sb.keep) (Y₁.keeps Sb.keep) (R.deeper.less (by (first | lia | omega))) (by (first | lia | omega)) (by (first | lia | omega)) hnt').mono ?_
    rintro v hc₁ ⟨kc, tc, rfl⟩
    have Sc := Sb.grown kc
    walk_at "ss"
    have hlF := hF.length
    rw [List.length_map] at hlF
    have hlW := witP_length (fun a b => a != b) W.lvl V.lvl i
    have hw1 : W.long ≤ 2 ^ 10 := by show max _ _ ≤ _; (first | lia | omega)
    have hw2 : V.long ≤ 2 ^ 10 := by show max _ _ ≤ _; (first | lia | omega)
    refine ite_bool (fun hp => ?_) fun hp => ?_
    · walk_at "ss"
      refine ev_lm F.slot_list_append F.type_list_append Sc.list1 ?_
      walk_at "ss"
      refine (indent_spec (G₁.keeps Sc.keep) (X₁.keeps Sc.keep) (R.deeper.less (by (first | lia | omega))) (by (first | lia | omega)) (by (first | lia | omega)) hnt).mono ?_
      rintro v hd₁ ⟨kd, td, rfl⟩
      have Sd := Sc.grown kd
      walk_at "ss"
      refine (indent_spec (G₁.keeps Sd.keep) (Y₁.keeps Sd.keep) (R.deeper.less (by (first | lia | omega))) (by (first | lia | omega)) (by (first | lia | omega)) hnt').mono ?_
      rintro v he₁ ⟨ke, te, rfl⟩
      have Se := Sd.grown ke
      walk_at "ss"
      refine ev_nt (by show 3 < 2 ^ 24; decide) fun hf₁ ta kf hta hfa => ?_
      walk_at "ss"
      have Sf := Se.grown kf
      refine ev_append Sf.list1 (by (first | lia | omega)) fun hg₁ hlg hsg => ?_
      have Sg := Sf.upd 1 rfl hsg.extBut (ls_of hlg)
      walk_at "ss"
      refine ⟨rfl, ?_⟩
      walk_at "ss"
      refine ⟨vsC ++ [.ref ta], Sg.locals (by walk_at "loc"), ?_⟩
      unfold witP
      rw [if_pos hp]
      simp only [itDs, List.map_append, List.map_cons, List.map_nil]
      refine (hF.keeps Sg.toNow).append (.cons ?_ .nil)
      have hne : ta ≠ D := by
        intro q
        obtain ⟨⟨o, ho, _⟩, _⟩ := Se.new (D, LS vsC) (.tail _ (.head _))
        rw [← q] at ho
        try dsimp only at ho
        rw [hfa] at ho; cases ho
      obtain ⟨oT, hoT, hcT, nT, hdT⟩ := hta
      exact Rd.of_tup (vs := [.int (1 + (i : Int)) tv, .int (W.lvl (1 + i)) td, .int (V.lvl (1 + i)) te]) ⟨_, now_fresh Se hfa (hsg.extBut _ _ hne hoT) rfl, hcT, nT, hdT⟩ (.cons .int (.cons .int (.cons .int .nil)))
    · walk_at "ss"
      refine ⟨vsC, Sc.locals (by walk_at "loc"), ?_⟩
      unfold witP
      rw [if_neg (by rw [hp]; exact Bool.false_ne_true), List.append_nil]
      exact hF.keeps Sc.toNow
  · rintro vsC g₁ ha kg hF Sa
    try dsimp only at hF Sa
    walk_at "ss"
    exact ⟨kg.trans Sa.keep, Rd.of_list Sa.list0.isList (hF.keeps Sa.keep)⟩
theorem equal_spec {h : Heap} {x y : Addr} {W V : WSp} (G : GN w h) (X : WS h x W) (Y : WS h y V) (R : Room A 1) :
    Ev prog w A s₀ (call (.ref 87) [.ref x, .ref y]) h (fun v h' => Kp h h' ∧ v = .bool (decide (W.cnt = V.cnt) && W.tr == V.tr)) := by
  refine ev_def (binds := [("self", .ref x), ("other", .ref y)]) G R.lim (by k_is) (by k_is) rfl rfl ?_ rfl rfl rfl (by decide)
  intro h₁ hn hk env B
  have S := St.enter hn hk (fun x v e => e)
  dsimp only [List.reverse, List.reverseAux] at S
  walk_at "ss"
  refine ev_ws_norm G S X fun na hna => ?_
  walk_at "ss"
  refine ev_ws_norm G S Y fun nb hnb => ?_
  have hu := R.deeper (env := (default : Env)) |>.uni
  refine ev_eq_data (S.rd hna) (S.rd hnb) ?_ ?_ ?_ ?_
  · simp only [PyData.canLay0, PyData.canLayAll0, canLay_ints]; rfl
  · simp only [PyData.canLay0, PyData.canLayAll0, canLay_ints]; rfl
  · simp only [PyData.depth, PyData.depthAll, depth_ints]
    have : A.units + 3 + 2 < 9900 := by have := R.uni; (first | lia | omega)
    exact this
  · walk_at "ss"
    refine ⟨S.keep, ?_⟩
    simp only [PyData.eqv, PyData.eqvAll, eqvAll_ints, Bool.and_true]

noncomputable def lessF (W V : WSp) : Bool := if W.n ≥ V.n then false else if W.cnt.length ≤ 1 ∧ V.cnt.length ≤ 1 then decide (W.nt ≤ V.nt) else allLess W.lvl V.lvl (max W.long V.long).toNat

theorem less_spec {h : Heap} {x y : Addr} {W V : WSp} (G : GN w h) (X : WS h x W) (Y : WS h y V) (R : Room A 3) (hc : W.cnt.length < 2 ^ 10) (hc' : V.cnt.length < 2 ^ 10) (hnt : W.nt.natAbs < 2 ^ 20) (hnt' : V.nt.natAbs < 2 ^ 20)
    (ht : W.tr < 2 ^ 10) (ht' : V.tr < 2 ^ 10) :
    Ev prog w A s₀ (call (.ref 101) [.ref x, .ref y]) h (fun v h' => Kp h h' ∧ v = .bool (lessF W V)) := by
  refine ev_def (binds := [("self", .ref x), ("other", .ref y)]) G R.lim (by k_is) (by k_is) rfl rfl ?_ rfl rfl rfl (by decide)
  intro h₁ hn hk env B
  have S := St.enter hn hk (fun x v e => e)
  dsimp only [List.reverse, List.reverseAux] at S
  walk_at "ss"
  walk_at "i"
  refine ite_dec (fun c1 => ?_) fun c1 => ?_
  · walk_at "ss"
    refine ⟨S.keep, ?_⟩
    unfold lessF
    rw [if_pos c1]
  walk_at "ss"
  refine ev_if (Ev.mono (Q := fun b h' => h' = h₁ ∧ b = (decide (W.cnt.length ≤ 1) && decide (V.cnt.length ≤ 1))) ?_ ?_)
  · walk_at "ss"
    refine ite_bool (fun c2 => ?_) fun c2 => ?_
    · walk_at "ss"
      refine ite_bool (fun c3 => ?_) fun c3 => ?_
      · walk_at "ss"
        exact ⟨rfl, by rw [c2, c3]; rfl⟩
      · exact ⟨rfl, by rw [c2, c3]; rfl⟩
    · exact ⟨rfl, by rw [c2]; rfl⟩
  rintro b _ ⟨rfl, rfl⟩
  refine ite_bool (fun c2 => ?_) fun c2 => ?_
  · walk_at "ss"
    refine ⟨S.keep, ?_⟩
    unfold lessF
    simp only [Bool.and_eq_true, decide_eq_true_eq] at c2
    rw [if_neg c1, if_pos c2]
  have c2' : ¬ (W.cnt.length ≤ 1 ∧ V.cnt.length ≤ 1) := by
    intro q
    simp [q.1, q.2] at c2
  have hres : lessF W V = allLess W.lvl V.lvl (max W.long V.long).toNat := by
    unfold lessF
    rw [if_neg c1, if_neg c2']
  walk_at "ss"
  refine (longest_spec (G.keeps S.keep) (X.keeps S.keep) (R.deeper.less (by (first | lia | omega))) (by (first | lia | omega))).mono ?_
  rintro v h₂ ⟨k₂, t₂, rfl⟩
  have S₂ := S.grown k₂
  walk_at "ss"
  refine (longest_spec (G.keeps S₂.keep) (Y.keeps S₂.keep) (R.deeper.less (by (first | lia | omega))) (by (first | lia | omega))).mono ?_
  rintro v h₃ ⟨k₃, t₃, rfl⟩
  have S₃ := S₂.grown k₃
  walk_at "ss"
  refine ev_max2 R.han fun h₄ t₄ k₄ => ?_
  have S₄ := S₃.grown k₄
  walk_at "ss"
  rename St _ _ _ _ _ => S₇
  refine ev_for ?_ (by intro _; rfl)
  walk_at "ss"
  refine ev_range2 fun h₈ r t₁ hR kR => ?_
  have en : (max W.long V.long + 1 + 1 - 2 : Int).toNat = (max W.long V.long).toNat := by (first | lia | omega)
  refine ev_iter_any (n := (max W.long V.long).toNat) hR (by rw [rangeSize_up, en]) fun h₉ I Wk hW hW0 hob gI => ?_
  have S₈ := gI _ _ _ _ (S₇.grown kR)
  refine loop_walk (C := Unit) (fun c => [("self", .ref x), ("other", .ref y)]) (fun c => [])
    (fun i c g => allLess W.lvl V.lvl i = true) (hW _ R.han) hob (fun b hb => .inl (List.mem_singleton.mp hb)) () (S₈.locals (by walk_at "loc")) hW0 rfl ?_ ?_ rfl rfl (by intro _; rfl)
  · rintro i _ v g₁ PI ha hi ⟨tv, rfl⟩ kg hF Sa
    try dsimp only at hF Sa
    have G₁ : GN w g₁ := G.keeps kg
    have X₁ := X.keeps kg
    have Y₁ := Y.keeps kg
    have e1 : (2 : Int) + (i : Int) * 1 = 2 + i := by (first | lia | omega)
    rw [e1] at Sa
    walk_at "ss"
    walk_at "i"
    refine (indent_spec (G₁.keeps Sa.keep) (X₁.keeps Sa.keep) (R.deeper.less (by (first | lia | omega))) (by (first | lia | omega)) (by (first | lia | omega)) hnt).mono ?_
    rintro v hb ⟨kb, tb, rfl⟩
    have Sb := Sa.grown kb
    walk_at "ss"
    refine (indent_spec (G₁.keeps Sb.keep) (Y₁.keeps Sb.keep) (R.deeper.less (by (first | lia | omega))) (by (first | lia | omega)) (by (first | lia | omega)) hnt').mono ?_
    rintro v hc₁ ⟨kc, tc, rfl⟩
    have Sc := Sb.grown kc
    walk_at "ss"
    refine ite_dec (fun hp => ?_) fun hp => ?_
    · walk_at "ss"
      exact ⟨kg.trans Sc.keep, by rw [hres, allLess_false hi (Int.not_lt.mpr hp)]⟩
    · walk_at "ss"
      refine ⟨(), Sc.locals (by walk_at "loc"), ?_⟩
      rw [allLess_succ, hF, Bool.true_and, decide_eq_true_eq]
      exact Int.not_le.mp hp
  · rintro _ g₁ ha kg hF Sa
    try dsimp only at hF Sa
    walk_at "ss"
    exact ⟨kg.trans Sa.keep, by rw [hres, hF]⟩
end

section
variable {prog : Program} {w : World} {A : Around} {s₀ : Shared}
theorem sign_eq (c d : Nat) : ((⟨#[c]⟩ : Str) == (⟨#[d]⟩ : Str)) = decide (c = d) := by
  by_cases h : c = d
  · subst h; simp
  · rw [decide_eq_false h]
    simp only [beq_eq_false_iff_ne, ne_eq, Str.mk.injEq]
    intro e
    apply h
    simpa using e
noncomputable def Sc.W (s : Sc) : WSp := ⟨s.cnt, s.b, s.nt, s.n⟩
theorem St.swap {g h : Heap} {L : Addr} {ps : List (Str × Value)} {p q} {r : List (Addr × (Obj → Prop))} (S : St g L ps (p :: q :: r) h) : St g L ps (q :: p :: r) h := S.perm (.swap _ _ _)
theorem ev_tuple_of' {h : Heap} {l : Addr} {vs : List Value} {Q : Value → Heap → Prop} (hl : h.IsList l vs.toArray) (hs : vs.length < 2 ^ 20) (q : ∀ h' a, Kp h h' → IsTup h' a vs.toArray → h.get? a = none → Q (.ref a) h') : Ev prog w A s₀ (call (.type "tuple") [.ref l]) h Q := fun tk => by
  refine call_tuple_list (s := Sh s₀ h tk) hl (fun h' k => ⟨_, _, rfl, q _ _ (Kp.trans k kp_push) tup_push ?_⟩) (by simp [sizeLine]; (first | lia | omega))
  cases e : h.get? h'.objs.size with
  | none => rfl
  | some o => have := k _ _ e; rw [none_size] at this; cases this
theorem init_spec {g₀ h : Heap} {x dx : Addr} {raw : Str} {t : Tok} (G₀ : GN w g₀) (k₀ : Kp g₀ h) (hd₀ : g₀.get? dx = none) (R : Room A 3)
    (hx : h.get? x = some (instObj 111 dx)) (hdx : h.get? dx = some (dictOf [] 0)) (hne : x ≠ dx) (hasc : raw.cps.all (· < 128) = true) (hlen : raw.cps.size < 150) :
    EvC prog w A s₀ (.call (.ref 66) ⟨[.ref x, .str raw t], []⟩) h (fun v h' => v = .none ∧ Heap.ExtBut dx h h' ∧ WS h' x (scanF raw.cps.toList ⟨[], 0, 0, 0⟩).W) := by
  refine evc_def (binds := [("self", .ref x), ("ws", .str raw t)]) (G₀.keeps k₀) R.lim (by k_is) (by k_is) rfl rfl ?_ rfl rfl rfl (by decide)
  intro h₁ hn hk env B
  have S := St.enter1 (P := DA []) hn hk (fun x v e => e) ⟨_, hdx, da_nil⟩
  have kb := kp_hide_of k₀ hd₀
  have G : GN w (h.hide dx) := G₀.keeps kb
  have hxb : (h.hide dx).get? x = some (instObj 111 dx) := (Heap.hide_ne h hne).trans hx
  dsimp only [List.reverse, List.reverseAux] at S
  walk_at "ss"
  refine ev_set_attr 0 (G.keeps S.keep).kin S rfl ⟨_, S.keep _ _ hxb, rfl⟩ (by k_is) (by k_is) (by k_is) (by k_is) (by decide) fun h₂ S₂ => ?_
  dsimp only [List.set] at S₂
  walk_at "ss"
  refine ev_asg_swap2 (x₁ := "S") (x₂ := "T") R.han ?_ (by with_unfolding_all rfl) (by with_unfolding_all rfl)
  walk_at "ss"
  refine ev_cls_val (mc := .type "type") (G.keeps S₂.keep).kin (by k_is) (by k_is) (by rfl) ?_
  walk_at "ss"
  refine ev_cls_val (mc := .type "type") (G.keeps S₂.keep).kin (by k_is) (by k_is) (by rfl) ?_
  walk_at "ss"
  refine ev_nt (by decide) fun h₃ ta k₃ hta _ => ⟨ta, _, _, rfl, hta, fun h₄ k₄ => ?_⟩
  have S₄ := S₂.grown (k₃.trans k₄)
  walk_at "ss"
  rename St _ _ _ _ _ => S₅
  refine ev_nl S₅ (by decide) fun h₆ ca S₆ => ?_
  walk_at "ss"
  rename St _ _ _ _ _ => S₇
  have e32 : Str.ofString " " = ⟨#[32]⟩ := by decide +kernel
  have e9 : Str.ofString "\t" = ⟨#[9]⟩ := by decide +kernel
  rw [e32, e9] at S₇
  refine Ev.mono (Q := fun f h' => f = .next ∧ ∃ g₁ s ca cvs tb tn tnt, Kp (h.hide dx) g₁ ∧ St g₁ h.objs.size [("b", .int (s : Sc).b tb), ("n", .int s.n tn), ("nt", .int s.nt tnt), ("count", .ref ca), ("self", .ref x)] [(ca, LS cvs), (dx, DA [("raw", .str raw t)])] h' ∧ IntsV cvs s.cnt ∧ s.cnt.length ≤ 151 ∧ s = scanF raw.cps.toList ⟨[], 0, 0, 0⟩) ?_ ?_
  · refine ev_for ?_ (by intro _; rfl)
    walk_at "ss"
    refine ev_get_attr (G.keeps S₇.keep).kin ⟨_, S₇.keep _ _ hxb, rfl⟩ (S₇.at (.tail _ (.head _))) rfl (by k_is) (by k_is) (by k_is) (by k_is) rfl ?_
    refine ev_iter_str hasc fun h₈ I hI gI => ?_
    have S₈ := gI _ _ _ _ S₇
    refine loop_walk (W := fun i h => h.IsStrIter I "str_ascii_iterator" raw t i) (C := Sc × Addr × List Value × Tok × Tok × Tok)
      (fun c => [("b", .int c.1.b c.2.2.2.1), ("n", .int c.1.n c.2.2.2.2.1), ("nt", .int c.1.nt c.2.2.2.2.2), ("count", .ref c.2.1), ("S", .str ⟨#[32]⟩ 256), ("T", .str ⟨#[9]⟩ 257), ("self", .ref x)])
      (fun c => [(c.2.1, LS c.2.2.1), (dx, DA [("raw", .str raw t)])])
      (fun i c _ => IntsV c.2.2.1 c.1.cnt ∧ c.1.b ≤ i ∧ c.1.cnt.length ≤ i + 1 ∧ scanF (raw.cps.toList.drop i) c.1 = scanF raw.cps.toList ⟨[], 0, 0, 0⟩)
      (Walks.strAscii (R.deeper (env := _)).han I raw t) (fun i h e => let ⟨o, ho, _⟩ := e; ⟨o, ho⟩) (fun b hb => .inl (List.mem_singleton.mp hb)) (⟨[], 0, 0, 0⟩, ca, [], _, _, _) (S₈.locals (by walk_at "loc")) hI ⟨.nil, Nat.le_refl _, Nat.zero_le _, rfl⟩ ?_ ?_ rfl rfl (by intro _; rfl)
    · rintro i ⟨s, ca, cvs, tb, tn, tnt⟩ v g₁ PI ha hi ⟨c, u, hc, rfl⟩ kg ⟨hF1, hF2, hF3, hF4⟩ Sa
      try dsimp only at hF1 hF2 hF3 hF4 Sa
      have G₁ : GN w g₁ := G.keeps kg
      have hdrop : raw.cps.toList.drop i = c :: raw.cps.toList.drop (i + 1) := by
        have hl : i < raw.cps.toList.length := by simpa using hi
        rw [List.drop_eq_getElem_cons hl]
        congr 1
        have := Array.getElem?_eq_getElem hi
        rw [hc] at this
        simpa using (Option.some.inj this).symm
      rw [hdrop] at hF4
      have hvl := hF1.length
      walk_at "ss"
      walk_at "i"
      rw [sign_eq]
      refine ite_dec (fun c1 => ?_) fun c1 => ?_
      · subst c1
        rw [scanF, if_pos rfl] at hF4
        walk_at "ss"
        rename St _ _ _ _ _ => Sb
        have e1 : (s.n : Int) + 1 = ((s.n + 1 : Nat) : Int) := by (first | lia | omega)
        have e2 : (s.b : Int) + 1 = ((s.b + 1 : Nat) : Int) := by (first | lia | omega)
        rw [e1, e2] at Sb
        exact ⟨(s.space, ca, cvs, _, _, tnt), Sb.locals (by walk_at "loc"), hF1, Nat.succ_le_succ hF2, Nat.le_succ_of_le hF3, hF4⟩
      · rw [scanF, if_neg c1] at hF4
        walk_at "ss"
        walk_at "i"
        rw [sign_eq]
        refine ite_dec (fun c2 => ?_) fun c2 => ?_
        · subst c2
          rw [if_pos rfl] at hF4
          walk_at "ss"
          rename St _ _ _ _ _ => Sb
          have e1 : (s.n : Int) + 1 = ((s.n + 1 : Nat) : Int) := by (first | lia | omega)
          have e2 : (s.nt : Int) + 1 = ((s.nt + 1 : Nat) : Int) := by (first | lia | omega)
          rw [e1, e2] at Sb
          refine Ev.mono (Q := fun f h' => f = .next ∧ ∃ ca' cvs' t1 t2, St g₁ h.objs.size [("b", .int s.b tb), ("n", .int ((s.n + 1 : Nat) : Int) t1), ("nt", .int ((s.nt + 1 : Nat) : Int) t2), ("count", .ref ca'), ("S", .str ⟨#[32]⟩ 256), ("T", .str ⟨#[9]⟩ 257), ("self", .ref x)] [(I, PI), (ca', LS cvs'), (dx, DA [("raw", .str raw t)])] h' ∧ IntsV cvs' s.padded) ?_ ?_
          · walk_at "i"
            refine ev_len_list Sb.list1 (by (first | lia | omega)) fun tl => ?_
            walk_at "ss"
            refine ite_dec (fun c3 => ?_) fun c3 => ?_
            · walk_at "ss"
              refine ev_nl Sb (by show 1 < _; decide) fun hc D Sc' => ?_
              walk_at "ss"
              refine ev_len_list Sc'.list2 (by (first | lia | omega)) fun tl => ?_
              walk_at "ss"
              refine ev_rep_list Sc' Sc'.list0.isList (by (first | lia | omega)) (by (first | lia | omega)) fun he E Se => ?_
              have e3 : ((s.b : Int) - (cvs.length : Int) + 1).toNat = s.b - s.cnt.length + 1 := by (first | lia | omega)
              rw [e3] at Se
              refine ev_add_lists Se (pl_of (Se.at (.tail _ (.tail _ (.tail _ (.head _)))))).isList Se.list0.isList (by rw [List.length_replicate]; (first | lia | omega)) fun hf₁ D' Sf => ?_
              walk_at "ss"
              rename St _ _ _ _ _ => Sg
              have Sh := (Sg.sub (.cons_cons _ (.cons _ (.cons _ (.cons_cons _ (.cons _ (.cons_cons _ .slnil))))))).swap
              refine ⟨rfl, D', _, _, _, Sh.locals (by walk_at "loc"), ?_⟩
              unfold Sc.padded
              rw [if_pos (by (first | lia | omega))]
              exact hF1.append (IntsV.rep _)
            · walk_at "ss"
              refine ⟨rfl, ca, cvs, _, _, Sb.locals (by walk_at "loc"), ?_⟩
              unfold Sc.padded
              rw [if_neg (by (first | lia | omega))]
              exact hF1
          · rintro f hz ⟨rfl, ca', cvs', t1, t2, Sz, hz1⟩
            have pl := s.padded_length
            have hzl := hz1.length
            obtain ⟨tc, hct⟩ := hz1.get pl.1
            walk_at "ss"
            refine ev_sub_list Sz.list1 (i := s.b) rfl (by (first | lia | omega)) hct ?_
            walk_at "ss"
            refine ev_set_list Sz.list1 (i := s.b) rfl (by (first | lia | omega)) (by (first | lia | omega)) fun hy hly hsy => ?_
            have Sy := Sz.upd 1 rfl hsy.extBut (ls_of hly)
            walk_at "ss"
            rename St _ _ _ _ _ => Sx
            refine ⟨(s.tab, ca', _, _, _, _), Sx.locals (by walk_at "loc"), hz1.set, Nat.zero_le _, ?_, hF4⟩
            show (s.padded.set _ _).length ≤ _
            rw [List.length_set]
            (first | lia | omega)
        · rw [if_neg c2] at hF4
          walk_at "ss"
          exact ⟨rfl, g₁, s, ca, cvs, _, _, _, kg, (Sa.sub (List.sublist_cons_self _ _)).locals (by walk_at "loc"), hF1, by (first | lia | omega), hF4⟩
    · rintro ⟨s, ca, cvs, tb, tn, tnt⟩ g₁ ha kg ⟨hF1, hF2, hF3, hF4⟩ Sa
      try dsimp only at hF1 hF2 hF3 hF4 Sa
      have e0 : raw.cps.toList.drop raw.cps.size = [] := by simp
      rw [e0, scanF] at hF4
      exact ⟨rfl, g₁, s, ca, cvs, _, _, _, kg, Sa.locals (by walk_at "loc"), hF1, by (first | lia | omega), hF4⟩
  · rintro f hz ⟨rfl, g₁, s, ca, cvs, tb, tn, tnt, kg, Sz, hz1, hz2, rfl⟩
    have hzl := hz1.length
    walk_at "ss"
    have hxz : g₁.get? x = some (instObj 111 dx) := kg _ _ hxb
    have G₁ : GN w g₁ := G.keeps kg
    refine ev_set_attr 1 (G₁.keeps Sz.keep).kin Sz rfl ⟨_, Sz.keep _ _ hxz, rfl⟩ (by k_is) (by k_is) (by k_is) (by k_is) (by show 1 < _; decide) fun hy Sy => ?_
    dsimp only [List.set] at Sy
    walk_at "ss"
    refine ev_set_attr 1 (G₁.keeps Sy.keep).kin Sy rfl ⟨_, Sy.keep _ _ hxz, rfl⟩ (by k_is) (by k_is) (by k_is) (by k_is) (by show 2 < _; decide) fun hx₁ Sx => ?_
    dsimp only [List.set] at Sx
    walk_at "ss"
    refine ev_tuple_of' Sx.list0.isList (by (first | lia | omega)) fun hv ta kv hta fta => ?_
    have Sv := Sx.grown kv
    walk_at "ss"
    refine ev_nt (by show 2 < _; decide) fun hu na ku hna fna => ?_
    have Su := (Sv.grown ku).atNow
    walk_at "ss"
    have kn : Kp g₁ (now hu h.objs.size [(ca, LS cvs), (dx, DA [("nt", .int (scanF raw.cps.toList ⟨[], 0, 0, 0⟩).nt tnt), ("n", .int (scanF raw.cps.toList ⟨[], 0, 0, 0⟩).n tn), ("raw", .str raw t)])]) := (Sv.grown ku).toNow
    have hrd : Rd (now hu h.objs.size [(ca, LS cvs), (dx, DA [("nt", .int (scanF raw.cps.toList ⟨[], 0, 0, 0⟩).nt tnt), ("n", .int (scanF raw.cps.toList ⟨[], 0, 0, 0⟩).n tn), ("raw", .str raw t)])]) (.ref na) (.tuple [.tuple ((scanF raw.cps.toList ⟨[], 0, 0, 0⟩).cnt.map PyData.int), .int (scanF raw.cps.toList ⟨[], 0, 0, 0⟩).b]) := by
      obtain ⟨oA, a1, a2, nA, a3⟩ := hta
      obtain ⟨oB, b1, b2, nB, b3⟩ := hna
      refine Rd.of_tup (vs := [.ref ta, .int (scanF raw.cps.toList ⟨[], 0, 0, 0⟩).b tb]) ⟨_, now_fresh Sv fna b1 rfl, b2, nB, b3⟩ (.cons (Rd.of_tup (vs := cvs) ⟨_, now_fresh Sx fta (ku _ _ a1) rfl, a2, nA, a3⟩ hz1.rds) (.cons .int .nil))
    have hxz' := kn _ _ hxz
    have G₂ := G₁.keeps kn
    refine ev_set_attr 1 ((G₁.keeps kn).keeps Su.keep).kin Su rfl ⟨_, Su.keep _ _ hxz', rfl⟩ (by k_is) (by k_is) (by k_is) (by k_is) (by show 3 < _; decide) fun ht₁ St₁ => ?_
    dsimp only [List.set] at St₁
    walk_at "ss"
    refine ev_len_list St₁.list0 (by (first | lia | omega)) fun tl => ?_
    walk_at "ss"
    refine ev_set_attr 1 ((G₁.keeps kn).keeps St₁.keep).kin St₁ rfl ⟨_, St₁.keep _ _ hxz', rfl⟩ (by k_is) (by k_is) (by k_is) (by k_is) (by show 4 < _; decide) fun hs₁ Ss => ?_
    dsimp only [List.set] at Ss
    walk_at "ss"
    refine ⟨rfl, ext_hide (kg.trans (kn.trans Ss.keep)), dx, na, _, _, _, ⟨_, Ss.keep _ _ hxz', rfl⟩, Ss.at (.tail _ (.head _)), rfl, Ss.rd hrd, rfl, rfl, ?_, rfl, rfl, rfl, rfl, rfl, rfl⟩
    rw [hzl]
    show some (Value.bool (decide (((scanF raw.cps.toList ⟨[], 0, 0, 0⟩).cnt.length : Int) ≤ 1))) = some (Value.bool (decide ((scanF raw.cps.toList ⟨[], 0, 0, 0⟩).cnt.length ≤ 1)))
    congr 2
    exact decide_eq_decide.mpr (by (first | lia | omega))
end

section
variable {prog : Program} {w : World} {A : Around} {s₀ : Shared}
theorem row3 {h : Heap} {v : Value} {r : List Int} (x : Rd h v (itD r)) (hr : r.length = 3) : ∃ ta t₀ t₁ t₂, v = .ref ta ∧ IsTup h ta [.int (r.getD 0 0) t₀, .int (r.getD 1 0) t₁, .int (r.getD 2 0) t₂].toArray := by
  obtain ⟨ta, rfl⟩ := x.tup_ref
  obtain ⟨vs, ht, hvs⟩ := x.tup
  have hi := hvs.ints
  match r, hr with
  | [a, b, c], _ =>
    cases hi with
    | cons hi => cases hi with
      | cons hi => cases hi with
        | cons hi => cases hi with
          | nil => exact ⟨ta, _, _, _, rfl, ht⟩

/-- a filter over rows of three -/
theorem comp_w {env : Env} {scope : Scope} {g₀ h₁ : Heap} {vs : List Value} {rows : List (List Int)} (k₀ : Kp g₀ h₁) (P : Int → Int → Bool) {c : Expr} {px pe : Pos} {x : Str}
    (hr : Rds g₀ vs (itDs rows)) (h3 : ∀ r ∈ rows, r.length = 3) (hx : scope.names.lookup x = some .local) (hk : scope.kind = .function) (hd : (x == ("__debug__" : Str)) = false)
    (hc : ∀ g₁ C h ta a b t₀ t₁ t₂ r0 news, St g₁ C [(x, .ref ta)] news h → IsTup h ta [.int r0 t₀, .int a t₁, .int b t₂].toArray →
      Ev prog w A s₀ (isTrue c (compEnvC scope [] C env) (eval c (compEnvC scope [] C env))) h (fun ok h' => h' = h ∧ ok = P a b)) :
    CTurn prog w A s₀ env scope [] (.Name x px) [c] (.Name x pe) h₁ vs (fun i ys _ => Rds g₀ ys (itDs ((rows.take i).filter fun r => P (r.getD 1 0) (r.getD 2 0)))) where
  few := .inr ⟨c, rfl⟩
  go := fun _ _ _ _ _ _ _ _ _ _ q => wpAny_of_eq (a := ()) rfl q
  mono := fun _ _ _ _ _ q => q
  init := .nil
  turn := by
    intro i v ys g₁ C D I PI h hv kg hF S
    have hil : i < rows.length := by
      have := hr.length
      rw [List.length_map] at this
      rw [← this]
      exact (List.getElem?_eq_some_iff.mp hv).1
    obtain ⟨v', hv', hrd⟩ := hr.get (i := i) (d := itD (rows[i])) (by simp [hil])
    rw [hv] at hv'
    cases hv'
    obtain ⟨ta, t₀, t₁, t₂, rfl, ht⟩ := row3 hrd (h3 _ (List.getElem_mem hil))
    refine ev_asg_name (ev_store (env := compEnvC scope [] C env) S (fun h₂ S₂ => ?_) hk (lookup_relabel_local hx))
    refine (hc g₁ C h₂ ta _ _ _ _ _ _ _ S₂ (ht.keeps (k₀.trans (kg.trans S₂.keep)))).mono ?_
    rintro ok _ ⟨rfl, rfl⟩
    have hi1 : (rows.take (i + 1)).filter (fun r => P (r.getD 1 0) (r.getD 2 0)) = _ := take_succ_filter _ rows i rows[i] (List.getElem?_eq_getElem hil)
    refine ite_bool (fun hp => ?_) fun hp => ?_
    · refine ev_name (env := compEnvC scope [] C env) S₂ (v := .ref ta) (by simp [List.lookup]) ⟨S₂.locals .nil, ?_⟩ hk (lookup_relabel_local hx) hd
      rw [hi1, if_pos hp, itDs, List.map_append]
      exact hF.append (.cons hrd .nil)
    · refine ⟨S₂.locals .nil, ?_⟩
      rw [hi1, if_neg (by rw [hp]; exact Bool.false_ne_true), List.append_nil]
      exact hF

theorem agree_spec {h : Heap} {x y l : Addr} {W V : WSp} {rows : List (List Int)} (G : GN w h) (X : WS h x W) (Y : WS h y V) (R : Room A 5) (hc : W.cnt.length < 2 ^ 10) (hc' : V.cnt.length < 2 ^ 10) (hnt : W.nt.natAbs < 2 ^ 20) (hnt' : V.nt.natAbs < 2 ^ 20)
    (ht : W.tr < 2 ^ 10) (ht' : V.tr < 2 ^ 10) (hl : Rd h (.ref l) (.list (itDs rows))) (h3 : ∀ r ∈ rows, r.length = 3) (hlen : rows.length < 2 ^ 10)
    (p1 : witP (fun a b => decide (a ≥ b)) W.lvl V.lvl (max W.long V.long + 1).toNat = rows.filter fun r => decide (r.getD 1 0 ≥ r.getD 2 0))
    (p2 : witP (fun a b => a != b) W.lvl V.lvl (max W.long V.long + 1).toNat = rows.filter fun r => r.getD 1 0 != r.getD 2 0)
    (p3 : lessF W V = decide ((rows.filter fun r => decide (r.getD 1 0 ≥ r.getD 2 0)) = []))
    (p4 : (decide (W.cnt = V.cnt) && W.tr == V.tr) = decide ((rows.filter fun r => r.getD 1 0 != r.getD 2 0) = [])) :
    Ev prog w A s₀ (call (.ref 125) [.ref x, .ref y, .ref l]) h (fun v h' => Kp h h' ∧ v = .bool true) := by
  refine ev_def (binds := [("one", .ref x), ("other", .ref y), ("due", .ref l)]) G R.lim (by k_is) (by k_is) rfl rfl ?_ rfl rfl rfl (by decide)
  intro h₁ hn hk env B
  have S := St.enter hn hk (fun x v e => e)
  dsimp only [List.reverse, List.reverseAux] at S
  obtain ⟨vs, hvl, hvs⟩ := hl.lst
  have hvlen := hvs.length
  rw [List.length_map] at hvlen
  walk_at "ss"
  refine ev_assign_comp (cl := []) S R.han (by rfl) (by rfl) (by decide) rfl (by decide) ?_ (by intro _; rfl) rfl rfl
  walk_at "ss"
  refine ⟨l, vs, _, rfl, hvl.at fun o e => S.keep _ _ e, by (first | lia | omega), comp_w S.keep (fun a b => decide (a ≥ b)) hvs h3 (by rfl) rfl (by rfl) ?_, S, ?_⟩
  · intro g₁ C h ta a b t₀ t₁ t₂ r0 news S' ht
    walk_at "ss"
    refine ev_sub_tuple ht (i := 1) rfl (by show 3 < _; decide) rfl ?_
    walk_at "ss"
    refine ev_sub_tuple ht (i := 2) rfl (by show 3 < _; decide) rfl ?_
    walk_at "ss"
    exact ⟨rfl, rfl⟩
  intro D₁ ys₁ g₁ h₂ hF₁ kg gD kh S₂
  rw [List.take_of_length_le (by (first | lia | omega))] at hF₁
  walk_at "ss"
  refine ev_assign_comp (cl := []) S₂ R.han (by rfl) (by rfl) (by decide) rfl (by decide) ?_ (by intro _; rfl) rfl rfl
  walk_at "ss"
  refine ⟨l, vs, _, rfl, hvl.at fun o e => S₂.keep _ _ e, by (first | lia | omega), comp_w S₂.keep (fun a b => a != b) hvs h3 (by rfl) rfl (by rfl) ?_, S₂, ?_⟩
  · intro g₁ C h ta a b t₀ t₁ t₂ r0 news S' ht
    walk_at "ss"
    refine ev_sub_tuple ht (i := 1) rfl (by show 3 < _; decide) rfl ?_
    walk_at "ss"
    refine ev_sub_tuple ht (i := 2) rfl (by show 3 < _; decide) rfl ?_
    walk_at "ss"
    exact ⟨rfl, rfl⟩
  intro D₂ ys₂ g₂ h₃ hF₂ kg₂ gD₂ kh₂ S₃
  rw [List.take_of_length_le (by (first | lia | omega))] at hF₂
  have hu : A.units + 10 < 9900 := by have := R.uni; (first | lia | omega)
  have hcl : ∀ rs : List (List Int), PyData.canLay0 (.list (itDs rs)) = true := fun rs => by
    have := canLay_rows rs
    simp only [PyData.canLay0] at this ⊢
    exact this
  have hdp : ∀ rs : List (List Int), PyData.depth (.list (itDs rs)) ≤ 2 := fun rs => by
    have := depth_rows rs
    simp only [PyData.depth] at this ⊢
    (first | lia | omega)
  walk_at "ss"
  walk_at "i"
  have heq : ∀ rs : List (List Int), PyData.eqv (.list (itDs rs)) (.list (itDs rs)) = true := fun rs => by
    simp only [PyData.eqv, eqvAll_rows, decide_true]
  have heq0 : ∀ rs : List (List Int), PyData.eqv (.list (itDs rs)) (.list []) = decide (rs = []) := fun rs => by
    have := eqvAll_rows rs []
    simp only [PyData.eqv] at this ⊢
    exact this
  refine (nlw_spec (G.keeps S₃.keep) (X.keeps S₃.keep) (Y.keeps S₃.keep) (R.deeper.less (by (first | lia | omega))) hc hc' hnt hnt' ht ht').mono ?_
  rintro v h₄ ⟨k₄, hv₄⟩
  have S₄ := S₃.grown k₄
  rw [p1] at hv₄
  walk_at "ss"
  refine ev_ne_data hv₄ (Rd.of_list S₄.list1.isList (S₄.rds hF₁)) (hcl _) (hcl _) (by have := hdp (rows.filter fun r => decide (r.getD 1 0 ≥ r.getD 2 0)); show A.units + 3 + _ < 9900; (first | lia | omega)) ?_
  rw [heq]
  walk_at "ss"
  rw [if_neg (by decide)]
  walk_at "ss"
  refine (new_spec (G.keeps S₄.keep) (X.keeps S₄.keep) (Y.keeps S₄.keep) (R.deeper.less (by (first | lia | omega))) hc hc' hnt hnt' ht ht').mono ?_
  rintro v h₅ ⟨k₅, hv₅⟩
  have S₅ := S₄.grown k₅
  rw [p2] at hv₅
  walk_at "ss"
  refine ev_ne_data hv₅ (Rd.of_list S₅.list0.isList (S₅.rds hF₂)) (hcl _) (hcl _) (by have := hdp (rows.filter fun r => r.getD 1 0 != r.getD 2 0); show A.units + 3 + _ < 9900; (first | lia | omega)) ?_
  rw [heq]
  walk_at "ss"
  rw [if_neg (by decide)]
  walk_at "ss"
  rw [if_neg (by decide)]
  walk_at "ss"
  refine ev_and ?_
  walk_at "ss"
  refine (less_spec (G.keeps S₅.keep) (X.keeps S₅.keep) (Y.keeps S₅.keep) (R.deeper.less (by (first | lia | omega))) hc hc' hnt hnt' ht ht').mono ?_
  rintro v h₆ ⟨k₆, rfl⟩
  have S₆ := S₅.grown k₆
  rw [p3]
  walk_at "ss"
  refine ev_nl S₆ (by decide) fun h₇ D₃ S₇ => ?_
  refine ev_eq_data (Rd.of_list (S₇.list2).isList (S₇.rds hF₁)) (Rd.of_list S₇.list0.isList .nil) (hcl _) rfl (by have := hdp (rows.filter fun r => decide (r.getD 1 0 ≥ r.getD 2 0)); show A.units + 3 + _ < 9900; (first | lia | omega)) ?_
  rw [heq0]
  walk_at "ss"
  rw [beq_self_eq_true, if_pos rfl]
  refine ev_and_one ?_
  walk_at "ss"
  refine (equal_spec (G.keeps S₇.keep) (X.keeps S₇.keep) (Y.keeps S₇.keep) (R.deeper.less (by (first | lia | omega)))).mono ?_
  rintro v h₈ ⟨k₈, rfl⟩
  have S₈ := S₇.grown k₈
  rw [p4]
  walk_at "ss"
  refine ev_nl S₈ (by decide) fun h₉ D₄ S₉ => ?_
  refine ev_eq_data (Rd.of_list (S₉.list2).isList (S₉.rds hF₂)) (Rd.of_list S₉.list0.isList .nil) (hcl _) rfl (by have := hdp (rows.filter fun r => r.getD 1 0 != r.getD 2 0); show A.units + 3 + _ < 9900; (first | lia | omega)) ?_
  rw [heq0]
  walk_at "ss"
  exact ⟨S₉.keep, by rw [beq_self_eq_true]⟩
end

section
variable {prog : Program} {w : World} {A : Around} {s₀ : Shared}
theorem St.down {g g' h : Heap} {L : Addr} {ps : List (Str × Value)} {news : List (Addr × (Obj → Prop))} (S : St g L ps news h) (k : Kp g' g) : St g' L ps news h := by
  have no : ∀ a, g.get? a = none → g'.get? a = none := fun a e => by
    cases q : g'.get? a with
    | none => rfl
    | some o => rw [k _ _ q] at e; cases e
  exact S.rebase (k.trans S.keep) (no _ S.off) fun p hp => no _ (S.new p hp).2.2
theorem yr_new {h₁ g₁ hb hc : Heap} {C ta : Addr} {ps : List (Str × Value)} {news news' : List (Addr × (Obj → Prop))} {vals : List Value} {α : Type} {f : α → List Int} {a : α} (S : St g₁ C ps news hb) (kg : Kp h₁ g₁) (fta : hb.get? ta = none)
    (hta : IsTup hc ta vals.toArray) (hi : IntsV vals (f a)) (hn : news'.map (·.1) = news.map (·.1)) : YR h₁ f (now hc C news') (.ref ta) a := by
  obtain ⟨o, ho, ht⟩ := hta
  refine ⟨ta, vals, rfl, ⟨o, now_fresh S fta ho hn, ht⟩, hi, ?_⟩
  cases q : h₁.get? ta with
  | none => rfl
  | some o => rw [S.keep _ _ (kg _ _ q)] at fta; cases fta
theorem mem_sdL {x r : List Int} {s : Nat} : ∀ (p : Nat) (l : List (List Int)), p < l.length → r ∈ sdL x s p l → r = x ∨ r ∈ l := by
  intro p
  induction p using Nat.strongRecOn with
  | ind p ih =>
    intro l hp hr
    have fin : r ∈ l.set p x → r = x ∨ r ∈ l := fun h => (List.mem_or_eq_of_mem_set h).elim .inr .inl
    unfold sdL at hr
    split at hr
    · rename_i hs
      split at hr
      · rcases ih ((p - 1) / 2) (by (first | lia | omega)) _ (by rw [List.length_set]; (first | lia | omega)) hr with h | h
        · exact .inl h
        · rcases List.mem_or_eq_of_mem_set h with h | h
          · exact .inr h
          · rw [h]; exact .inr (at_mem (by (first | lia | omega)))
      · exact fin hr
    · exact fin hr
theorem mem_suL {r : List Int} : ∀ (k p : Nat) (l : List (List Int)), l.length - p = k → p < l.length → r ∈ (suL l.length p l).2 → r ∈ l := by
  intro k
  induction k using Nat.strongRecOn with
  | ind k ih =>
    intro p l hk hp hr
    by_cases hc : 2 * p + 1 < l.length
    · obtain ⟨c1, c2, c3, _⟩ := childOf_ok hc
      have hlen : (l.set p (at' l (childOf l l.length p))).length = l.length := List.length_set
      rw [suL, dif_pos hc] at hr
      have := ih (l.length - childOf l l.length p) (by (first | lia | omega)) (childOf l l.length p) (l.set p (at' l (childOf l l.length p))) (by rw [hlen]) (by rw [hlen]; exact c1) (by rw [hlen]; exact hr)
      rcases List.mem_or_eq_of_mem_set this with h | h
      · exact h
      · rw [h]; exact at_mem c1
    · rw [suL, dif_neg hc] at hr
      exact hr
theorem mem_siftupF {l : List (List Int)} {i : Nat} {r : List Int} (hi : i < l.length) (hr : r ∈ siftupF l i) : r ∈ l := by
  unfold siftupF siftdownF at hr
  have h1 := suL_lt l.length i l hi
  have h2 := suL_length l.length i l
  have key : r ∈ (suL l.length i l).2.set (suL l.length i l).1 (l.getD i []) → r ∈ l := fun h => by
    rcases List.mem_or_eq_of_mem_set h with h | h
    · exact mem_suL _ i l rfl hi h
    · rw [h]; exact at_mem hi
  rcases mem_sdL _ _ (by rw [List.length_set]; (first | lia | omega)) hr with h | h
  · rw [h]
    have : ((suL l.length i l).2.set (suL l.length i l).1 (l.getD i [])).getD (suL l.length i l).1 [] = l.getD i [] := by
      have := at_set (l := (suL l.length i l).2) (p := (suL l.length i l).1) (j := (suL l.length i l).1) (v := l.getD i []) (by (first | lia | omega))
      rw [if_pos rfl] at this
      exact this
    rw [this]; exact at_mem hi
  · exact key h
theorem ents_take {ls : List Int} {n k} (h : ls.length ≤ n) : ((ls.take n).filter fun r => decide (r > 0)).map (ent k) = ents k ls := by
  rw [List.take_of_length_le h]; rfl

theorem row4 {h : Heap} {v : Value} {a b c d : Int} (x : Rd h v (itD [a, b, c, d])) : ∃ ta t₀ t₁ t₂ t₃, v = .ref ta ∧ IsTup h ta [.int a t₀, .int b t₁, .int c t₂, .int d t₃].toArray := by
  obtain ⟨ta, rfl⟩ := x.tup_ref
  obtain ⟨vs, ht, hvs⟩ := x.tup
  have hi := hvs.ints
  cases hi with
  | cons hi => cases hi with
    | cons hi => cases hi with
      | cons hi => cases hi with
        | cons hi => cases hi with
          | nil => exact ⟨ta, _, _, _, _, rfl, ht⟩
theorem fl_le {ls : List Int} (h : ∀ r ∈ ls, 0 ≤ r ∧ r ≤ 7) : fl 1 ls ≤ 7 * ls.length := by
  induction ls with
  | nil => exact Nat.zero_le _
  | cons r ls ih =>
    have := ih fun r hr => h r (.tail _ hr)
    have h0 := h r (.head _)
    unfold fl at this ⊢
    rw [List.map_cons, List.sum_cons, Nat.div_one, List.length_cons]
    (first | lia | omega)
theorem ts_ge : ∀ {H : List (List Int)}, (∀ e ∈ H, EOk e) → H.length ≤ TS H
  | [], _ => Nat.le_refl _
  | e :: H, h => by
    have := ts_ge fun e he => h e (.tail _ he)
    obtain ⟨d, row, k, h1, h2, h3, _, ee⟩ := h e (.head _)
    rw [TS_cons, List.length_cons, ee]
    simp only [totE, List.getD_cons_zero, List.getD_cons_succ, Int.toNat_natCast]
    (first | lia | omega)

theorem seats_spec {h : Heap} {l r : Addr} {lv rv : List Value} {ls rs : List Int} {most : Nat} {tm : Tok} (G : GN w h) (R : Room A 5) (hl : h.IsList l lv.toArray) (hr : h.IsList r rv.toArray) (hil : IntsV lv ls) (hir : IntsV rv rs)
    (h7 : ∀ r ∈ ls, 0 ≤ r ∧ r ≤ 7) (h7' : ∀ r ∈ rs, 0 ≤ r ∧ r ≤ 7) (hll : ls.length ≤ 100) (hrl : rs.length ≤ 100) (hm : 1 ≤ most) (hm' : most ≤ 100) :
    Ev prog w A s₀ (call (.ref 120) [.ref l, .ref r, .int most tm]) h (fun v h' => Kp h h' ∧ Rd h' v (.tuple [.list (itDs (toldF ls rs 1 most)), .list []])) := by
  refine ev_def (binds := [("left", .ref l), ("right", .ref r), ("most", .int most tm)]) G R.lim (by k_is) (by k_is) rfl rfl ?_ rfl rfl rfl (by decide)
  intro h₁ hn hk env B
  have S := St.enter hn hk (fun x v e => e)
  dsimp only [List.reverse, List.reverseAux] at S
  have hlv := hil.length
  have hrv := hir.length
  walk_at "ss"
  refine ev_assign_comp (cl := []) S R.han (by rfl) (by rfl) (by decide) rfl (by decide) ?_ (by intro _; rfl) rfl rfl
  walk_at "ss"
  refine ⟨l, lv, _, rfl, hl.at fun o e => S.keep _ _ e, by (first | lia | omega), comp_gen ls VI (fun r => decide (r > 0)) (YR h₁ (ent 0)) hlv hil.vi yr_mono (fun a v s I l j Q E _ _ q => go_name q) ?_, S, ?_⟩
  · rintro a v g₁ C D I PI ys ha ⟨t, rfl⟩ kg Sa
    walk_at "ss"
    rename St _ _ _ _ _ => Sb
    refine tst_one ?_
    walk_at "ss"
    refine ⟨rfl, fun _ => ?_, fun _ => Sb.locals .nil⟩
    walk_at "ss"
    refine ev_nt (by show 4 < _; decide) fun hc ta kc hta fta => ?_
    exact ⟨(Sb.grown kc).locals .nil, yr_new Sb kg fta hta (.cons (.cons (.cons (.cons .nil)))) rfl⟩
  intro D₁ ys₁ g₁ h₂ hF₁ kg₁ gD₁ kh₁ S₂
  have T₁ := (paired_rows hF₁).rdsNow S kh₁ (news' := [(D₁, LS ys₁)]) (fun p hp => .inr (by rw [List.mem_singleton.mp hp]; exact gD₁))
  rw [ents_take (by (first | lia | omega))] at T₁
  have S₂' := S₂.atNow
  have k₂ := S₂.toNow
  have G₂ : GN w _ := G.keeps k₂
  walk_at "ss"
  refine ev_comp (cl := []) R.han (by rfl) (by decide) rfl (by decide) ?_ (by intro _; rfl)
  walk_at "ss"
  refine ⟨r, rv, _, rfl, hr.at fun o e => S₂.keep _ _ e, by (first | lia | omega), comp_gen rs VI (fun r => decide (r > 0)) (YR h₂ (ent 1)) hrv hir.vi yr_mono (fun a v s I l j Q E _ _ q => go_name q) ?_, ?_⟩
  · rintro a v g₁ C D I PI ys ha ⟨t, rfl⟩ kg Sa
    walk_at "ss"
    rename St _ _ _ _ _ => Sb
    refine tst_one ?_
    walk_at "ss"
    refine ⟨rfl, fun _ => ?_, fun _ => Sb.locals .nil⟩
    walk_at "ss"
    refine ev_nt (by show 4 < _; decide) fun hc ta kc hta fta => ?_
    exact ⟨(Sb.grown kc).locals .nil, yr_new Sb kg fta hta (.cons (.cons (.cons (.cons .nil)))) rfl⟩
  intro D₂ ys₂ g₃ h₃ hF₂ kg₂ kg₃ gD₂ hD₂
  have T₂ := (paired_rows hF₂).rdsNow S₂' (fun b o _ e => kg₃ b o e) (news' := [(D₁, LS ys₁)]) (fun p hp => .inl (by rw [List.mem_singleton.mp hp]; exact .head _))
  rw [ents_take (by (first | lia | omega))] at T₂
  have S₃ := (S₂'.grown (kg₂.trans kg₃)).atNow
  have k₃ := (S₂'.grown (kg₂.trans kg₃)).toNow
  have T₁' := T₁.keeps k₃
  have hl1 := T₁'.length
  have hl2 := T₂.length
  have hle : ∀ k (ls : List Int), (ents k ls).length ≤ ls.length := fun k ls => by unfold ents; rw [List.length_map]; exact List.length_filter_le _ _
  have hle1 := hle 0 ls
  have hle2 := hle 1 rs
  rw [List.length_map] at hl1 hl2
  refine ev_add_lists S₃ S₃.list0.isList hD₂.isList (by (first | lia | omega)) fun h₄ D₃ S₄ => ?_
  have G₃ : GN w _ := G₂.keeps k₃
  walk_at "ss"
  rename St _ _ _ _ _ => S₅
  have S₅' := S₅.sub (.cons_cons _ (.cons _ .slnil))
  clear S₄
  have T₃ : Rds (now h₃ h.objs.size [(D₁, LS ys₁)]) (ys₁ ++ ys₂) (itDs (ents 0 ls ++ ents 1 rs)) := by
    rw [itDs, List.map_append]
    exact T₁'.append T₂
  have ok : ∀ e ∈ ents 0 ls ++ ents 1 rs, e.length = 4 := fun e he => by
    rcases List.mem_append.mp he with h | h
    · exact (ents_ok (.inl rfl) h7 e h).len
    · exact (ents_ok (.inr rfl) h7' e h).len
  refine (heapify_spec G₃ S₅'.keep (S₅'.new _ (.head _)).2.2 (R.deeper.less (by (first | lia | omega))) S₅'.list0 T₃ ok (by simp; (first | lia | omega)) ?_).mono ?_
  · exact fun l i h4 hi r hr => h4 r (mem_siftupF hi hr)
  rintro v h₆ ⟨rfl, hx₆, vs₆, hl₆, T₆⟩
  have S₆ := S₅'.upd 0 rfl hx₆ (ls_of hl₆)
  dsimp only [List.set] at S₆
  have I₆ := SInv.start (size := most) h7 h7'
  refine ⟨rfl, ?_⟩
  walk_at "ss"
  refine ev_nl S₆ (by decide) fun h₇ Dg S₇ => ?_
  walk_at "ss"
  rename St _ _ _ _ _ => S₈
  refine ev_nl S₈ (by decide) fun h₉ Dt S₉ => ?_
  walk_at "ss"
  rename St _ _ _ _ _ => S₁₀
  have kB : Kp h (now h₃ h.objs.size [(D₁, LS ys₁)]) := k₂.trans k₃
  change GN w (now h₃ h.objs.size [(D₁, LS ys₁)]) at G₃
  have S₁₁ : St (now h₃ h.objs.size [(D₁, LS ys₁)]) h.objs.size [("told", .ref Dt), ("given", .ref Dg), ("heap", .ref D₃), ("most", .int most tm), ("right", .ref r), ("left", .ref l)] [(Dt, LS []), (Dg, LS []), (D₃, LS vs₆)] _ := S₁₀.locals (by walk_at "loc")
  clear S₁₀
  generalize now h₃ h.objs.size [(D₁, LS ys₁)] = B at kB G₃ T₆ S₁₁
  clear S₉ S₈ S₇ S₆ hx₆ hl₆
  refine ev_for ?_ (by intro _; rfl)
  walk_at "ss"
  refine ev_range3 (by decide) (by decide) fun hR rr hR1 kR => ?_
  refine ev_iter_any (n := most) hR1 (by rw [rangeSize_down]; (first | lia | omega)) fun hI I Wk hW hW0 hob gI => ?_
  have S₁₂ := gI _ _ _ _ (S₁₁.grown kR)
  refine loop_walk (C := Addr × List Value × List Value × List Value) (fun c => [("told", .ref c.1), ("given", .ref Dg), ("heap", .ref D₃), ("right", .ref r), ("left", .ref l)])
    (fun c => [(c.1, LS c.2.1), (Dg, LS c.2.2.1), (D₃, LS c.2.2.2)])
    (fun i c g => ∃ H given, Rds g c.2.2.2 (itDs H) ∧ IntsV c.2.2.1 given ∧ SInv ls rs (most - i) H given ∧ Rds g c.2.1 (itDs (toldF ls rs (most - i + 1) i)) ∧ (i = most → H = []))
    (hW _ R.han) hob (fun b hb => .inl (List.mem_singleton.mp hb)) (Dt, [], [], vs₆) (S₁₂.locals (by walk_at "loc")) hW0 ⟨_, [], T₆, .nil, I₆, .nil, fun e => absurd e (by (first | lia | omega))⟩ ?_ ?_ rfl rfl (by intro _; rfl)
  · rintro i ⟨td, tv, gv, hv⟩ v g₁ PI ha hi ⟨tz, rfl⟩ kg ⟨H, given, hF1, hF2, hF3, hF4, _⟩ Sa
    try dsimp only at hF1 hF2 hF3 hF4 Sa
    have G₁ : GN w g₁ := G₃.keeps kg
    have esz : (most : Int) + (i : Int) * -1 = ((most - i : Nat) : Int) := by (first | lia | omega)
    rw [esz] at Sa
    walk_at "ss"
    refine Ev.mono (Q := fun f h' => f = .next ∧ ∃ g₂ hv gv H given, Kp g₁ g₂ ∧ St g₂ h.objs.size [("size", .int ((most - i : Nat) : Int) tz), ("told", .ref td), ("given", .ref Dg), ("heap", .ref D₃), ("right", .ref r), ("left", .ref l)] [(I, PI), (td, LS tv), (Dg, LS gv), (D₃, LS hv)] h' ∧
      Rds g₂ hv (itDs H) ∧ IntsV gv given ∧ SInv ls rs (most - i) H given ∧ (0 < H.length → ¬ (at' H 0).getD 0 0 ≤ -420 * ((most - i : Nat) : Int))) ?_ ?_
    · refine ev_while (fun n h' => ∃ g₂ hv gv H given, Kp g₁ g₂ ∧ St g₂ h.objs.size [("size", .int ((most - i : Nat) : Int) tz), ("told", .ref td), ("given", .ref Dg), ("heap", .ref D₃), ("right", .ref r), ("left", .ref l)] [(I, PI), (td, LS tv), (Dg, LS gv), (D₃, LS hv)] h' ∧
        Rds g₂ hv (itDs H) ∧ IntsV gv given ∧ SInv ls rs (most - i) H given ∧ n = TS H) ?_ (TS H) ⟨g₁, hv, gv, H, given, Kp.refl, Sa, hF1, hF2, hF3, rfl⟩
      rintro n hb ⟨g₂, hv, gv, H, given, kg₂, Sb, hH, hG, hS, rfl⟩
      have G₂ : GN w g₂ := G₁.keeps kg₂
      have hTS := hS.tot
      have hHl := hH.length
      rw [List.length_map] at hHl
      have hTge := ts_ge hS.ok
      have hfl1 := fl_le h7
      have hfl2 := fl_le h7'
      have hgl := hG.length
      have hPL : PL hb D₃ hv := pl_of (Sb.at (.tail _ (.tail _ (.tail _ (.head _)))))
      walk_at "ss"
      refine ev_truthy_list hPL (by (first | lia | omega)) ?_
      refine ite_bool (fun ce => ?_) fun ce => ?_
      rotate_left
      · have hv0 : hv = [] := by cases hv with | nil => rfl | cons => cases ce
        refine ⟨rfl, g₂, hv, gv, H, given, kg₂, Sb, hH, hG, hS, fun q => ?_⟩
        rw [← hHl, hv0] at q
        exact absurd q (Nat.lt_irrefl _)
      have hH0 : 0 < H.length := by
        rw [← hHl]
        cases hv with
        | nil => cases ce
        | cons => exact Nat.succ_pos _
      obtain ⟨d, row, k, hd1, hd2, hd3, hk, etop⟩ := hS.top hH0
      obtain ⟨v0, hv0, hr0⟩ := hH.get (i := 0) (d := itD (at' H 0)) (by
        rw [itDs, List.getElem?_map, List.getElem?_eq_getElem hH0]
        unfold at'
        rw [List.getD_eq_getElem?_getD, List.getElem?_eq_getElem hH0]
        rfl)
      have hr0' := hr0
      rw [etop] at hr0
      obtain ⟨ta, t₀, t₁, t₂, t₃, rfl, hta⟩ := row4 hr0
      walk_at "ss"
      refine ev_sub_list hPL (i := 0) rfl (by (first | lia | omega)) hv0 ?_
      walk_at "ss"
      refine ev_sub_tuple (hta.keeps Sb.keep) (i := 0) rfl (by show 4 < _; decide) rfl ?_
      walk_at "ss"
      refine ite_dec (fun cw => ?_) fun cw => ?_
      rotate_left
      · refine ⟨rfl, g₂, hv, gv, H, given, kg₂, Sb, hH, hG, hS, fun _ q => cw ?_⟩
        rw [etop] at q
        exact q
      have cs : (most - i) * d ≤ row := (worth_le hd1 hd2 hd3).mp cw
      have hgd := hS.guard hH0
      walk_at "ss"
      refine ev_len_list (pl_of (Sb.at (.tail _ (.tail _ (.head _))))) (by (first | lia | omega)) fun tl => ?_
      walk_at "ss"
      refine ev_sum R.han (hl.at fun o e => Sb.keep _ _ (kg₂ _ _ (kg _ _ (kB _ _ e)))) hil fun hc tc kc => ?_
      have Sc := Sb.grown kc
      walk_at "ss"
      refine ev_sum R.han (hr.at fun o e => Sc.keep _ _ (kg₂ _ _ (kg _ _ (kB _ _ e)))) hir fun hd tq kd => ?_
      have Sd := Sc.grown kd
      walk_at "ss"
      have ef1 := fl_one h7
      have ef2 := fl_one h7'
      refine ite_dec (fun _ => ?_) fun cg => absurd ?_ cg
      rotate_left
      · (first | lia | omega)
      walk_at "ss"
      rw [if_pos rfl]
      walk_at "ss"
      have hPL' : PL hd D₃ hv := pl_of (Sd.at (.tail _ (.tail _ (.tail _ (.head _)))))
      refine ev_sub_list hPL' (i := 0) rfl (by (first | lia | omega)) hv0 ?_
      refine ev_unpack4 R.han (hta.keeps Sd.keep) fun he ke => ?_
      have Se := Sd.grown ke
      walk_at "ss"
      rename St _ _ _ _ _ => Sf
      refine Ev.mono (Q := fun f h' => f = .next ∧ ∃ g₃ hv' H' vo, Kp g₂ g₃ ∧ St g₃ h.objs.size [("out", vo), ("size", .int ((most - i : Nat) : Int) tz), ("told", .ref td), ("given", .ref Dg), ("heap", .ref D₃), ("right", .ref r), ("left", .ref l)] [(I, PI), (td, LS tv), (Dg, LS gv), (D₃, LS hv')] h' ∧
        Rds g₃ hv' (itDs H') ∧ Rd g₃ vo (itD [-((420 / d * row : Nat) : Int), (d : Int), (row : Int), k]) ∧ SInv ls rs (most - i) H' (given ++ [k]) ∧ TS H' < TS H) ?_ ?_
      · walk_at "i"
        refine ite_dec (fun cd => ?_) fun cd => ?_
        · have cd' : d < row := by (first | lia | omega)
          walk_at "ss"
          have e1 : (d : Int) + 1 = ((d + 1 : Nat) : Int) := by (first | lia | omega)
          rw [worth_next hd1 cd' hd3, e1]
          refine ev_nt (by show 4 < _; decide) fun hg tn kn htn ftn => ?_
          have Sg := (Sf.grown kn).atNow
          have kn' := (Sf.grown kn).toNow
          have G₄ : GN w _ := G₂.keeps kn'
          have hrn : Rd (now hg h.objs.size [(I, PI), (td, LS tv), (Dg, LS gv), (D₃, LS hv)]) (.ref tn) (itD [-((420 / (d + 1) * row : Nat) : Int), ((d + 1 : Nat) : Int), (row : Int), k]) := by
            obtain ⟨o, ho, ht⟩ := htn
            exact Rd.of_tup ⟨o, now_fresh Sf ftn ho rfl, ht⟩ (.cons .int (.cons .int (.cons .int (.cons .int .nil))))
          walk_at "ss"
          have hst := hS.replace hH0 hd1 cd' hd3 hk etop cs
          refine (heapreplace_spec G₄ Sg.keep (Sg.new _ (.tail _ (.tail _ (.tail _ (.head _))))).2.2 (R.deeper.less (by (first | lia | omega))) (pl_of (Sg.at (.tail _ (.tail _ (.tail _ (.head _)))))) (hH.keeps kn') hS.len4 (by (first | lia | omega)) hH0 hrn rfl).mono ?_
          rintro v hh₁ ⟨hrv, hxh, vs', hlv', hrs'⟩
          have Sh₁ := Sg.upd 3 rfl hxh (ls_of hlv')
          dsimp only [List.set] at Sh₁
          walk_at "ss"
          rename St _ _ _ _ _ => Sj
          refine ⟨rfl, _, vs', _, v, kn', Sj.locals (by walk_at "loc"), hrs', ?_, hst.1, hst.2⟩
          rw [← etop]
          exact hrv
        · have cd' : d = row := by (first | lia | omega)
          walk_at "ss"
          have hst := hS.pop hH0 hd1 cd' hd3 hk etop cs
          refine (heappop_spec G₂ Sf.keep (Sf.new _ (.tail _ (.tail _ (.tail _ (.head _))))).2.2 (R.deeper.less (by (first | lia | omega))) (pl_of (Sf.at (.tail _ (.tail _ (.tail _ (.head _)))))) hH hS.len4 (by (first | lia | omega)) hH0).mono ?_
          rintro v hh₁ ⟨hrv, hxh, vs', hlv', hrs'⟩
          have Sh₁ := Sf.upd 3 rfl hxh (ls_of hlv')
          dsimp only [List.set] at Sh₁
          walk_at "ss"
          rename St _ _ _ _ _ => Sj
          refine ⟨rfl, g₂, vs', _, v, Kp.refl, Sj.locals (by walk_at "loc"), hrs', ?_, hst.1, hst.2⟩
          rw [← etop]
          exact hrv
      · rintro f hg ⟨rfl, g₃, hv', H', vo, kg₃, Sg, hH', hvo, hS', hlt⟩
        have G₃' : GN w g₃ := G₂.keeps kg₃
        obtain ⟨to, u₀, u₁, u₂, u₃, rfl, hto⟩ := row4 hvo
        walk_at "ss"
        refine ev_lm F.slot_list_append F.type_list_append Sg.list2 ?_
        walk_at "ss"
        refine ev_sub_tuple (hto.keeps Sg.keep) (i := 3) rfl (by show 4 < _; decide) rfl ?_
        walk_at "ss"
        refine ev_append Sg.list2 (by (first | lia | omega)) fun hi₁ hli hsi => ?_
        have Si := Sg.upd 2 rfl hsi.extBut (ls_of hli)
        dsimp only [List.set] at Si
        refine ⟨rfl, ?_⟩
        walk_at "ss"
        exact ⟨TS H', hlt, g₃, hv', _, H', _, kg₂.trans kg₃, Si.locals (by walk_at "loc"), hH', hG.append (.cons .nil), hS', rfl⟩
    · rintro f hb ⟨rfl, g₂, hv, gv, H, given, kg₂, Sb, hH, hG, hS, hend⟩
      obtain ⟨c0, c1, c2⟩ := hS.done (by (first | lia | omega)) hend
      have G₂ : GN w g₂ := G₁.keeps kg₂
      walk_at "ss"
      refine ev_lm F.slot_list_count F.type_list_count Sb.list2 ?_
      walk_at "ss"
      refine ev_count Sb.list2.isList hG fun tc0 => ?_
      rw [c0]
      walk_at "ss"
      refine ev_lm F.slot_list_count F.type_list_count Sb.list2 ?_
      walk_at "ss"
      refine ev_count Sb.list2.isList hG fun tc1 => ?_
      rw [c1]
      walk_at "ss"
      refine ev_nt (by show 3 < _; decide) fun hc ta kc hta fta => ?_
      have Sc := (Sb.grown kc).atNow
      have kc' := (Sb.grown kc).toNow
      have hrow : Rd (now hc h.objs.size [(I, PI), (td, LS tv), (Dg, LS gv), (D₃, LS hv)]) (.ref ta) (itD [((most - i : Nat) : Int), (fl (most - i) ls : Int), (fl (most - i) rs : Int)]) := by
        obtain ⟨o, ho, ht⟩ := hta
        exact Rd.of_tup ⟨o, now_fresh Sb fta ho rfl, ht⟩ (.cons .int (.cons .int (.cons .int .nil)))
      have G₄ : GN w _ := G₂.keeps kc'
      walk_at "ss"
      refine ev_nl Sc (by show 1 < _; decide) fun hd D' Sd => ?_
      walk_at "ss"
      have htv := hF4.length
      rw [List.length_map, toldF_len] at htv
      refine ev_add_lists Sd Sd.list0.isList Sd.list2.isList (by simp; (first | lia | omega)) fun he D'' Se => ?_
      walk_at "ss"
      rename St _ _ _ _ _ => Sf
      have Sg := (Sf.sub (.cons_cons _ (.cons _ (.cons_cons _ (.cons _ (.cons_cons _ (.cons_cons _ .slnil))))))).swap
      refine ⟨(D'', _, gv, hv), (Sg.down (kg₂.trans kc')).locals (by walk_at "loc"), H, given, (hH.keeps kc').keeps Sg.toNow, hG, hS.less (by (first | lia | omega)), ?_, fun e => c2 (by (first | lia | omega))⟩
      have e1 : most - (i + 1) + 1 = most - i := by (first | lia | omega)
      rw [e1, toldF]
      exact .cons (hrow.keeps Sg.toNow) (((hF4.keeps kg₂).keeps kc').keeps Sg.toNow)
  · rintro ⟨td, tv, gv, hv⟩ g₁ ha kg ⟨H, given, hF1, hF2, hF3, hF4, hF5⟩ Sa
    try dsimp only at hF1 hF2 hF3 hF4 Sa
    obtain rfl := hF5 rfl
    have G₁ : GN w g₁ := G₃.keeps kg
    walk_at "ss"
    refine ev_nt (by show 2 < _; decide) fun hb na kb hna _ => ?_
    have Sb := Sa.grown kb
    walk_at "ss"
    refine ⟨(kB.trans kg).trans Sb.keep, Rd.of_tup hna (.cons (Rd.of_list Sb.list0.isList (Sb.rds ?_)) (.cons (Rd.of_list Sb.list2.isList (Sb.rds hF1)) .nil))⟩
    have e0 : most - most + 1 = 1 := by (first | lia | omega)
    rw [e0] at hF4
    exact hF4
end

noncomputable def wsOf (ns : List Nat) (tr : Nat) : WSp := ⟨cntOf ns, tr, ns.length, (ns.sum + ns.length + tr : Nat)⟩
theorem ws_scan (ns : List Nat) (tr : Nat) : (scanF (textT ns tr) ⟨[], 0, 0, 0⟩).W = wsOf ns tr := by rw [scan_text]; rfl
theorem lvl_eq (ns : List Nat) (tr t : Nat) : (wsOf ns tr).lvl (t : Int) = ((tr + t * (ns.length + fN t ns) : Nat) : Int) := by
  show indF (cntOf ns) tr ns.length t = _
  rw [ind_eq]
  simp
theorem lvl_j (ns : List Nat) (tr j : Nat) : (wsOf ns tr).lvl (1 + (j : Int)) = ((tr + (1 + j) * (ns.length + fN (1 + j) ns) : Nat) : Int) := by
  rw [show (1 : Int) + (j : Int) = ((1 + j : Nat) : Int) by omega, lvl_eq]
theorem lvl_j2 (ns : List Nat) (tr j : Nat) : (wsOf ns tr).lvl (2 + (j : Int)) = ((tr + (2 + j) * (ns.length + fN (2 + j) ns) : Nat) : Int) := by
  rw [show (2 : Int) + (j : Int) = ((2 + j : Nat) : Int) by omega, lvl_eq]
section
variable {ns ms : List Nat} {tr tr' k : Nat} (hk : max (wsOf ns tr).long (wsOf ms tr').long + 1 = (k : Int))
include hk
theorem k_facts : tr < k ∧ tr' < k ∧ (∀ r ∈ ns, r < k) ∧ (∀ r ∈ ms, r < k) ∧ 1 ≤ k := by
  have e1 : (wsOf ns tr).long = max (((cntOf ns).length : Int) - 1) (tr : Int) := rfl
  have e2 : (wsOf ms tr').long = max (((cntOf ms).length : Int) - 1) (tr' : Int) := rfl
  rw [e1, e2] at hk
  refine ⟨by omega, by omega, fun r hr => ?_, fun r hr => ?_, by omega⟩
  · have := cnt_lt ns r hr; omega
  · have := cnt_lt ms r hr; omega
theorem pure1 (p : Int → Int → Bool) : witP p (wsOf ns tr).lvl (wsOf ms tr').lvl (max (wsOf ns tr).long (wsOf ms tr').long + 1).toNat = (rowsF (wsOf ns tr).lvl (wsOf ms tr').lvl k).filter fun r => p (r.getD 1 0) (r.getD 2 0) := by
  rw [hk, Int.toNat_natCast, wit_eq]
theorem pure3 : lessF (wsOf ns tr) (wsOf ms tr') = decide (((rowsF (wsOf ns tr).lvl (wsOf ms tr').lvl k).filter fun r => decide (r.getD 1 0 ≥ r.getD 2 0)) = []) := by
  obtain ⟨k1, k2, k3, k4, k5⟩ := k_facts hk
  have hn := rows_nil (fun a b => decide (a ≥ b)) (wsOf ns tr).lvl (wsOf ms tr').lvl k
  have hn' : (((rowsF (wsOf ns tr).lvl (wsOf ms tr').lvl k).filter fun r => decide (r.getD 1 0 ≥ r.getD 2 0)) = []) ↔ ∀ j, j < k → tr + (1 + j) * (ns.length + fN (1 + j) ns) < tr' + (1 + j) * (ms.length + fN (1 + j) ms) := by
    rw [hn]
    constructor
    · intro a j hj
      have := a j hj
      rw [lvl_j, lvl_j] at this
      have := of_decide_eq_false this
      omega
    · intro a j hj
      have := a j hj
      show decide _ = false
      rw [lvl_j, lvl_j]
      exact decide_eq_false (by omega)
  have e1 : (wsOf ns tr).n = ((ns.sum + ns.length + tr : Nat) : Int) := rfl
  have e2 : (wsOf ms tr').n = ((ms.sum + ms.length + tr' : Nat) : Int) := rfl
  unfold lessF
  by_cases c1 : (wsOf ns tr).n ≥ (wsOf ms tr').n
  · rw [if_pos c1]
    symm
    refine decide_eq_false fun q => ?_
    have := hn'.mp q 0 (by omega)
    rw [Nat.add_zero, fN_one, fN_one] at this
    rw [e1, e2] at c1
    omega
  · rw [if_neg c1]
    rw [e1, e2] at c1
    by_cases c2 : (wsOf ns tr).cnt.length ≤ 1 ∧ (wsOf ms tr').cnt.length ≤ 1
    · rw [if_pos c2]
      have z : ∀ t, 1 ≤ t → fN t ns = 0 ∧ fN t ms = 0 := fun t ht =>
        ⟨fN_big fun r hr => by have := cnt_lt ns r hr; have := c2.1; change (cntOf ns).length ≤ 1 at this; omega,
         fN_big fun r hr => by have := cnt_lt ms r hr; have := c2.2; change (cntOf ms).length ≤ 1 at this; omega⟩
      have z1 := z 1 (Nat.le_refl _)
      rw [fN_one, fN_one] at z1
      apply decide_eq_decide.mpr
      rw [hn']
      have e3 : ((wsOf ns tr).nt ≤ (wsOf ms tr').nt) ↔ ns.length ≤ ms.length := Int.ofNat_le
      rw [e3]
      constructor
      · intro a j hj
        rw [(z (1 + j) (by omega)).1, (z (1 + j) (by omega)).2, Nat.add_zero, Nat.add_zero, Nat.add_mul, Nat.add_mul, Nat.one_mul, Nat.one_mul]
        have := Nat.mul_le_mul_left j a
        omega
      · intro a
        have := a (k - 1) (by omega)
        rw [show 1 + (k - 1) = k by omega, (z k k5).1, (z k k5).2, Nat.add_zero, Nat.add_zero] at this
        refine Nat.le_of_not_lt fun q => ?_
        have := Nat.mul_le_mul_left k (show ms.length + 1 ≤ ns.length from q)
        rw [Nat.mul_add, Nat.mul_one] at this
        omega
    · rw [if_neg c2]
      have e3 : (max (wsOf ns tr).long (wsOf ms tr').long).toNat = k - 1 := by omega
      rw [e3]
      have e4 : allLess (wsOf ns tr).lvl (wsOf ms tr').lvl (k - 1) = true ↔ ∀ j, j < k - 1 → tr + (2 + j) * (ns.length + fN (2 + j) ns) < tr' + (2 + j) * (ms.length + fN (2 + j) ms) := by
        unfold allLess
        rw [List.all_eq_true]
        constructor
        · intro a j hj
          have := of_decide_eq_true (a j (List.mem_range.mpr hj))
          rw [lvl_j2, lvl_j2] at this
          omega
        · intro a j hj
          have := a j (List.mem_range.mp hj)
          refine decide_eq_true ?_
          rw [lvl_j2, lvl_j2]
          omega
      rw [Bool.eq_iff_iff, decide_eq_true_iff, hn', e4]
      constructor
      · intro a j hj
        cases j with
        | zero => rw [Nat.add_zero, fN_one, fN_one]; omega
        | succ j =>
          have := a j (by omega)
          rw [show 1 + (j + 1) = 2 + j by omega]
          exact this
      · intro a j hj
        have := a (j + 1) (by omega)
        rw [show 1 + (j + 1) = 2 + j by omega] at this
        exact this
theorem pure4 : (decide ((wsOf ns tr).cnt = (wsOf ms tr').cnt) && (wsOf ns tr).tr == (wsOf ms tr').tr) = decide (((rowsF (wsOf ns tr).lvl (wsOf ms tr').lvl k).filter fun r => r.getD 1 0 != r.getD 2 0) = []) := by
  obtain ⟨k1, k2, k3, k4, k5⟩ := k_facts hk
  have hn := rows_nil (fun a b => a != b) (wsOf ns tr).lvl (wsOf ms tr').lvl k
  have hn' : (((rowsF (wsOf ns tr).lvl (wsOf ms tr').lvl k).filter fun r => r.getD 1 0 != r.getD 2 0) = []) ↔ ∀ j, j < k → tr + (1 + j) * (ns.length + fN (1 + j) ns) = tr' + (1 + j) * (ms.length + fN (1 + j) ms) := by
    rw [hn]
    constructor
    · intro a j hj
      have := a j hj
      rw [lvl_j, lvl_j] at this
      simp only [bne_eq_false_iff_eq] at this
      omega
    · intro a j hj
      have := a j hj
      rw [lvl_j, lvl_j]
      simp only [bne_eq_false_iff_eq]
      omega
  rw [Bool.eq_iff_iff, decide_eq_true_iff, hn', Bool.and_eq_true, decide_eq_true_iff, beq_iff_eq]
  constructor
  · rintro ⟨a, b⟩
    have b' : tr = tr' := Int.ofNat_inj.mp b
    have p : ns.Perm ms := by
      rw [List.perm_iff_count]
      intro i
      have x := cnt_get ns i
      have y := cnt_get ms i
      rw [show cntOf ns = cntOf ms from a, y] at x
      exact (Int.ofNat_inj.mp x).symm
    intro j hj
    rw [b', p.length_eq, fN_perm p]
  · intro a
    have top := a (k - 1) (by omega)
    rw [show 1 + (k - 1) = k by omega, fN_big k3, fN_big k4, Nat.add_zero, Nat.add_zero] at top
    have m1 := congrArg (· % k) top
    simp only [Nat.add_mul_mod_self_left] at m1
    rw [Nat.mod_eq_of_lt k1, Nat.mod_eq_of_lt k2] at m1
    have hlen : ns.length = ms.length := by
      rw [m1] at top
      exact Nat.eq_of_mul_eq_mul_left (show 0 < k by omega) (by omega)
    have p : ns.Perm ms := perm_of k3 k4 hlen fun t h1 h2 => by
      have := a (t - 1) (by omega)
      rw [show 1 + (t - 1) = t by omega, m1, hlen] at this
      have := Nat.eq_of_mul_eq_mul_left (show 0 < t by omega) (show t * (ms.length + fN t ns) = t * (ms.length + fN t ms) by omega)
      omega
    exact ⟨cnt_perm p, by rw [show (wsOf ns tr).tr = (tr : Int) from rfl, m1]; rfl⟩
end

theorem tc_weight (C : Addr) (a : List Value) : (Code.builtin "type.__call__" ⟨.ref C :: a, []⟩).weight = 1 := rfl
theorem tc_units (C : Addr) (a : List Value) : (Code.builtin "type.__call__" ⟨.ref C :: a, []⟩).cUnits = 1 := rfl
theorem Room.make {A n} {C : Addr} {a : List Value} (R : Room A (n + 1)) : Room (A.under (.builtin "type.__call__" ⟨.ref C :: a, []⟩)) n := by
  have h1 := tc_weight C a
  have h2 := tc_units C a
  have r1 := R.dep
  have r2 := R.uni
  refine ⟨?_, ?_, R.han⟩
  · show A.depth + (Code.builtin "type.__call__" ⟨.ref C :: a, []⟩).weight + n ≤ 800
    (first | lia | omega)
  · show A.units + (Code.builtin "type.__call__" ⟨.ref C :: a, []⟩).cUnits + 8 * n ≤ 8000
    (first | lia | omega)
section
variable {prog : Program} {w : World} {A : Around} {s₀ : Shared}
theorem make_spec {h : Heap} {raw : Str} {t : Tok} (G : GN w h) (R : Room A 4) (hasc : raw.cps.all (· < 128) = true) (hlen : raw.cps.size < 150) :
    Ev prog w A s₀ (call (.ref 111) [.str raw t]) h (fun v h' => Kp h h' ∧ ∃ x, v = .ref x ∧ ∀ L m, h.Ns L m → WS (now h' L []) x (scanF raw.cps.toList ⟨[], 0, 0, 0⟩).W) := by
  refine ev_make (f := 66) G.kin (by k_is) (by k_is) (by k_is) ?_
  intro h' x dx kh hx hdx nx ndx hne
  refine fun tk => codeAny_mono ((init_spec (prog := prog) (s₀ := s₀) (t := t) G kh ndx R.make hx hdx hne hasc hlen) tk) ?_
  intro r s' z
  rcases r with e | f
  · exact z
  cases f with
  | next => exact z
  | brk => exact z
  | cont => exact z
  | ret v =>
    obtain ⟨h'', tk', e, hv, hext, X⟩ := z
    refine ⟨h'', tk', e, hv, fun b o e => hext b o (fun q => by rw [q, ndx] at e; cases e) (kh b o e), x, rfl, fun L m hL => ?_⟩
    obtain ⟨oL, es, ep, hoL, hdL, _⟩ := hL
    have hL'' : h''.get? L = some oL := hext L oL (fun q => by rw [q, ndx] at hoL; cases hoL) (kh _ _ hoL)
    have hxL : x ≠ L := fun q => by rw [← q, nx] at hoL; cases hoL
    have hdxL : dx ≠ L := fun q => by rw [← q, ndx] at hoL; cases hoL
    obtain ⟨dx', na, ats, t₁, t₂, ⟨o1, a1, a2⟩, ⟨o2, b1, b2⟩, c1, c2, c3⟩ := X
    have hx'' : h''.get? x = some (instObj 111 dx) := hext x _ hne hx
    have ed : dx' = dx := by
      rw [hx''] at a1
      have a3 := Option.some.inj a1
      rw [show o1 = instObj 111 dx' from a2] at a3
      have := congrArg Obj.dict a3
      exact (Option.some.inj this).symm
    subst ed
    have off : ∀ a o, h''.get? a = some o → a ≠ L → (now h'' L []).get? a = some o := fun a o e ha => now_get e ha (fun q => nomatch q)
    have tp : ∀ a vs, IsTup h'' a vs → IsTup (now h'' L []) a vs := by
      rintro a vs ⟨o, ho, hc, n, hd⟩
      refine ⟨o, off a o ho (fun q => ?_), hc, n, hd⟩
      rw [q, hL''] at ho; cases ho
      rw [hdL] at hd; cases hd
    obtain ⟨ca, tt, ht, hca⟩ := norm_tup c2
    obtain ⟨cs, hcs, hrc⟩ := hca.tup
    refine ⟨dx', na, ats, t₁, t₂, ⟨o1, off _ _ a1 hxL, a2⟩, ⟨o2, off _ _ b1 hdxL, b2⟩, c1, ?_, c3⟩
    exact Rd.of_tup (tp _ _ ht) (.cons (Rd.of_tup (tp _ _ hcs) (hrc.ints).rds) (.cons .int .nil))
end

local macro_rules | `(tactic| walk_at "s") => `(tactic| first
  | ((with_reducible refine' ev_cell ?S ?hc ?X ?_ ?hk ?hl ?hd); walk_at "kl"; (case hc => rfl); (case X => assumption); (case hd => decide))
  | (with_reducible refine' ev_sm_join ?_)
  | ((with_reducible refine' ev_str ?_); intro _))

theorem law_inj {K : Frag} {f : Addr} {name qual name' qual' : Str} {params params' : Arguments} {body body' : List Stmt} {scope scope' : Scope} {dV kV doc pm cdv ct oc dV' kV' doc' pm' cdv' ct' oc' : Value} {an od an' od' : Option Addr} {osl osl' : Array (Option Value)}
    (h1 : K.lookup f = some ⟨oc, od, .func (fnOf name qual params body scope dV kV doc pm an cdv ct), osl⟩) (h2 : K.lookup f = some ⟨oc', od', .func (fnOf name' qual' params' body' scope' dV' kV' doc' pm' an' cdv' ct'), osl'⟩) : body = body' ∧ scope = scope' := by
  rw [h1] at h2
  have e := congrArg Obj.data (Option.some.inj h2)
  try dsimp only at e
  have e2 := Data.func.inj e
  exact ⟨FuncBody.stmts.inj (congrArg FuncData.body e2), congrArg FuncData.scope e2⟩
/-- what the law has built -/
structure LF (g : Heap) (c1 c2 c3 nl : Addr) (ns : List Int) : Prop where
  nums : ∃ nv : List Value, g.IsList nl nv.toArray ∧ IntsV nv ns
  left : ∃ (ll : Addr) (lv : List Value), g.IsCell c1 (some (.ref ll)) ∧ g.IsList ll lv.toArray ∧ IntsV lv (leftI ns)
  right : ∃ (rl : Addr) (rv : List Value), g.IsCell c2 (some (.ref rl)) ∧ g.IsList rl rv.toArray ∧ IntsV rv (rightI ns)
  last : ∃ (tl : Addr) (tv : List Value), g.IsCell c3 (some (.ref tl)) ∧ g.IsList tl tv.toArray ∧ IntsV tv [ns.sum % 6, ns.sum / 6 % 6]
/-- the law's body and scope -/
noncomputable def LawIs (w : World) (body : List Stmt) (scope : Scope) : Prop := ∃ name qual params dV kV doc pm cdv ct oc an od osl, (hd.heap_39 w.params).lookup 130 = some ⟨oc, od, .func (fnOf name qual params body scope dV kV doc pm an cdv ct), osl⟩
theorem IntsV.take {vs is} (h : IntsV vs is) : ∀ k, IntsV (vs.take k) (is.take k) := by
  induction h with
  | nil => intro k; simp; exact .nil
  | cons h ih =>
    intro k
    cases k with
    | zero => exact .nil
    | succ k => exact .cons (ih k)
theorem ev_nl2 {prog : Program} {w : World} {A : Around} {s₀ : Shared} {g h : Heap} {L : Addr} {ps : List (Str × Value)} {news : List (Addr × (Obj → Prop))} {vs : List Value} {is : List Int} {Q : Value → Heap → Prop} (S : St g L ps news h) (hi : IntsV vs is) (hs : is.length < 2 ^ 20)
    (q : ∀ h' D vs', IntsV vs' is → vs'.length = is.length → St g L ps ((D, LS vs') :: news) h' → Q (.ref D) h') : Ev prog w A s₀ (newList vs) h Q :=
  ev_nl S (by rw [hi.length]; exact Nat.lt_trans hs (by decide)) fun h' D S' => q h' D vs hi hi.length S'
section
variable {prog : Program} {w : World} {A : Around} {s₀ : Shared} {g h : Heap} {body : List Stmt} {scope : Scope} {nm : Str} {L fa c1 c2 c3 : Addr} {cd : Value} {Q : Flow → Heap → Prop}
theorem law_a {l : Addr} {sv : List Value} {script : List Int} (ho : LawIs w body scope) (G : GN w g) (R : Room A 8) (S : St g L [("script", .ref l)] [(c3, CL none), (c2, CL none), (c1, CL none)] h) (hl : g.IsList l sv.toArray) (hi : IntsV sv script) (hlen : script.length ≤ 63)
    (next : ∀ g' h' nl ns, ns.length ≤ 12 → Kp g g' → LF g' c1 c2 c3 nl ns → St g' L [("numbers", .ref nl)] [] h' → Ev prog w A s₀ (execs (body.drop 5) (envX nm scope L fa cd [("last", c3), ("right", c2), ("left", c1)])) h' Q) :
    Ev prog w A s₀ (execs body (envX nm scope L fa cd [("last", c3), ("right", c2), ("left", c1)])) h Q := by
  obtain ⟨name, qual, params, dV, kV, doc, pm, cdv, ct, oc, an, od, osl, ho⟩ := ho
  obtain ⟨rfl, rfl⟩ := law_inj ho (by k_is)
  clear ho
  have hsl := hi.length
  walk_at "ss"
  refine ev_slice_hi ?_
  walk_at "ss"
  intro h₁ sl k₁ hs₁
  have S₁ := S.grown k₁
  refine ev_sub_slice S₁ (hl.at fun o e => S₁.keep _ _ e) hs₁ .none (.int _ _) (by (first | lia | omega)) (pick_upto (a := 12) rfl) (fun h₂ nl S₂ => ?_) (by with_unfolding_all rfl)
  clear S S₁
  have hn : IntsV (sv.take 12) (script.take 12) := hi.take 12
  have hnl := hn.length
  have hnl' : (script.take 12).length ≤ 12 := by rw [List.length_take]; (first | lia | omega)
  generalize sv.take 12 = nv at hn hnl S₂
  generalize script.take 12 = ns at hn hnl hnl'
  walk_at "ss"
  rename St _ _ _ _ _ => S₃
  refine ev_sum R.han S₃.list0.isList hn fun h₄ t₄ k₄ => ?_
  have S₄ := S₃.grown k₄
  walk_at "ss"
  rename St _ _ _ _ _ => S₅
  have S₆ := S₅.locals (ps' := [("total", .int ns.sum t₄), ("numbers", .ref nl)]) (by walk_at "loc")
  clear S₂ S₃ S₄ S₅
  refine ev_nl2 S₆ (.cons (.cons .nil)) (by show 2 < _; decide) fun h₇ D₇ v52 h52 l52 S₇ => ?_
  refine ev_slice_lo ?_
  walk_at "ss"
  intro h₈ sl₈ k₈ hs₈
  have S₈ := S₇.grown k₈
  refine ev_sub_slice S₈ S₈.list0.isList hs₈ (.int _ _) .none (by rw [l52]; show 2 < _; decide) (pick_from (a := (ns.sum % 3).toNat) (by (first | lia | omega))) (fun h₉ D₉ S₉ => ?_) (by with_unfolding_all rfl)
  clear S₆ S₇ S₈
  refine ev_comp (cl := []) R.han (by rfl) (by decide) rfl (by decide) ?_ (by intro _; rfl)
  walk_at "ss"
  refine ⟨nl, nv, _, rfl, S₉.list2.isList, by (first | lia | omega), comp_gen ns VI (fun x => x / 8 % 4 != 1) (fun _ y a => VI (a % 8) y) hnl hn.vi (fun _ _ _ _ _ q => q) (fun a v s I l j Q E _ _ q => go_name q) ?_, ?_⟩
  · rintro a v g₁ C D I PI ys ha ⟨t, rfl⟩ kg Sa
    walk_at "ss"
    rename St _ C _ _ _ => Sb
    refine tst_one ?_
    walk_at "ss"
    refine ⟨rfl, fun _ => ?_, fun _ => Sb.locals .nil⟩
    walk_at "ss"
    exact ⟨Sb.locals .nil, _, rfl⟩
  intro Da va ga ha hFa ka₁ ka₂ gDa hDa
  rw [List.take_of_length_le (by (first | lia | omega))] at hFa
  have hia := paired_ints hFa
  have S₁₀ := S₉.grown (ka₁.trans ka₂)
  have hla : IntsV (v52.drop (ns.sum % 3).toNat ++ va) (leftI ns) := IntsV.append (h52.drop _) hia
  have lla := hla.length
  have lla' := leftI_len ns
  rw [List.length_append] at lla
  refine ev_add_lists S₁₀ S₁₀.list0.isList hDa.isList (by (first | lia | omega)) fun h₁₁ ll S₁₁ => ?_
  refine ev_cell_store 6 S₁₁ rfl (fun h₁₂ S₁₂ => ?_) rfl rfl rfl
  dsimp only [List.set] at S₁₂
  have S₁₃ := S₁₂.sub (.cons_cons _ (.cons _ (.cons _ (.cons_cons _ (.cons_cons _ (.cons_cons _ (.cons_cons _ .slnil)))))))
  clear S₉ S₁₀ S₁₁ S₁₂
  generalize v52.drop (ns.sum % 3).toNat ++ va = lv at hla S₁₃
  walk_at "ss"
  refine ev_nl2 S₁₃ (.cons (.cons .nil)) (by show 2 < _; decide) fun h₁₄ D₁₄ v33 h33 l33 S₁₄ => ?_
  refine ev_slice_lo ?_
  walk_at "ss"
  intro h₁₅ sl₁₅ k₁₅ hs₁₅
  have S₁₅ := S₁₄.grown k₁₅
  refine ev_sub_slice S₁₅ S₁₅.list0.isList hs₁₅ (.int _ _) .none (by rw [l33]; show 2 < _; decide) (pick_from (a := (ns.sum % 3).toNat) (by (first | lia | omega))) (fun h₁₆ D₁₆ S₁₆ => ?_) (by with_unfolding_all rfl)
  clear S₁₃ S₁₄ S₁₅
  refine ev_comp (cl := []) R.han (by rfl) (by decide) rfl (by decide) ?_ (by intro _; rfl)
  walk_at "ss"
  refine ⟨nl, nv, _, rfl, (pl_of (S₁₆.at (.tail _ (.tail _ (.tail _ (.head _)))))).isList, by (first | lia | omega), comp_gen ns VI (fun x => x / 8 % 4 != 0) (fun _ y a => VI (if a / 8 % 4 = 3 then 7 - a % 8 else a % 8) y) hnl hn.vi (fun _ _ _ _ _ q => q) (fun a v s I l j Q E _ _ q => go_name q) ?_, ?_⟩
  · rintro a v g₁ C D I PI ys ha ⟨t, rfl⟩ kg Sa
    walk_at "ss"
    rename St _ C _ _ _ => Sb
    refine tst_one ?_
    walk_at "ss"
    refine ⟨rfl, fun _ => ?_, fun _ => Sb.locals .nil⟩
    refine ev_ifexp ?_
    walk_at "ss"
    refine ite_bool (fun hc => ?_) fun hc => ?_
    · walk_at "ss"
      exact ⟨Sb.locals .nil, by rw [if_pos (beq_iff_eq.mp hc)]; exact ⟨_, rfl⟩⟩
    · walk_at "ss"
      exact ⟨Sb.locals .nil, by rw [if_neg (beq_eq_false_iff_ne.mp hc)]; exact ⟨_, rfl⟩⟩
  intro Db vb gb hb hFb kb₁ kb₂ gDb hDb
  rw [List.take_of_length_le (by (first | lia | omega))] at hFb
  have hib := paired_ints hFb
  have S₁₇ := S₁₆.grown (kb₁.trans kb₂)
  have hra : IntsV (v33.drop (ns.sum % 3).toNat ++ vb) (rightI ns) := IntsV.append (h33.drop _) hib
  have lra := hra.length
  have lra' := rightI_len ns
  rw [List.length_append] at lra
  refine ev_add_lists S₁₇ S₁₇.list0.isList hDb.isList (by (first | lia | omega)) fun h₁₈ rl S₁₈ => ?_
  refine ev_cell_store 6 S₁₈ rfl (fun h₁₉ S₁₉ => ?_) rfl rfl rfl
  dsimp only [List.set] at S₁₉
  have S₂₀ := S₁₉.sub (.cons_cons _ (.cons _ (.cons _ (.cons_cons _ (.cons_cons _ (.cons_cons _ (.cons_cons _ (.cons_cons _ .slnil))))))))
  clear S₁₆ S₁₇ S₁₈ S₁₉
  generalize v33.drop (ns.sum % 3).toNat ++ vb = rv at hra S₂₀
  walk_at "ss"
  refine ev_nl2 S₂₀ (.cons (.cons .nil)) (by show 2 < _; decide) fun h₂₁ tl tv htv ltv S₂₁ => ?_
  refine ev_cell_store 4 S₂₁ rfl (fun h₂₂ S₂₂ => ?_) rfl rfl rfl
  dsimp only [List.set] at S₂₂
  clear S₂₀ S₂₁
  have Z := (S₂₂.sub (List.nil_sublist _)).locals (ps' := [("numbers", .ref nl)]) (by walk_at "loc")
  have X : LF (now h₂₂ L []) c1 c2 c3 nl ns := by
    refine ⟨⟨nv, list_now Z (pl_of (S₂₂.at (.tail _ (.tail _ (.tail _ (.head _)))))).isList, hn⟩, ⟨ll, lv, cell_now Z ?_, list_now Z S₂₂.list2.isList, hla⟩, ⟨rl, rv, cell_now Z ?_, list_now Z S₂₂.list1.isList, hra⟩, ⟨tl, tv, cell_now Z ?_, list_now Z S₂₂.list0.isList, htv⟩⟩
    · exact S₂₂.at (.tail _ (.tail _ (.tail _ (.tail _ (.tail _ (.tail _ (.head _)))))))
    · exact S₂₂.at (.tail _ (.tail _ (.tail _ (.tail _ (.tail _ (.head _))))))
    · exact S₂₂.at (.tail _ (.tail _ (.tail _ (.tail _ (.head _)))))
  exact nx_next (next _ _ nl ns hnl' Z.toNow X Z.atNow)
end

theorem LF.keeps {g g' : Heap} {c1 c2 c3 nl : Addr} {ns : List Int} (X : LF g c1 c2 c3 nl ns) (k : Kp g g') : LF g' c1 c2 c3 nl ns := by
  obtain ⟨⟨nv, a1, a2⟩, ⟨ll, lv, b1, b2, b3⟩, ⟨rl, rv, d1, d2, d3⟩, ⟨tl, tv, e1, e2, e3⟩⟩ := X
  exact ⟨⟨nv, a1.at fun o e => k _ _ e, a2⟩, ⟨ll, lv, b1.keeps k, b2.at fun o e => k _ _ e, b3⟩, ⟨rl, rv, d1.keeps k, d2.at fun o e => k _ _ e, d3⟩, ⟨tl, tv, e1.keeps k, e2.at fun o e => k _ _ e, e3⟩⟩
structure LG (c1 c2 c3 nl ll rl tl : Addr) (nv lv rv tv : List Value) (g : Heap) : Prop where
  cl : g.IsCell c1 (some (.ref ll))
  cr : g.IsCell c2 (some (.ref rl))
  ct : g.IsCell c3 (some (.ref tl))
  hnv : g.IsList nl nv.toArray
  hll : g.IsList ll lv.toArray
  hrl : g.IsList rl rv.toArray
  htl : g.IsList tl tv.toArray
theorem LG.keeps {g g' : Heap} {c1 c2 c3 nl ll rl tl : Addr} {nv lv rv tv : List Value} (X : LG c1 c2 c3 nl ll rl tl nv lv rv tv g) (k : Kp g g') : LG c1 c2 c3 nl ll rl tl nv lv rv tv g' :=
  ⟨X.cl.keeps k, X.cr.keeps k, X.ct.keeps k, X.hnv.at fun o e => k _ _ e, X.hll.at fun o e => k _ _ e, X.hrl.at fun o e => k _ _ e, X.htl.at fun o e => k _ _ e⟩
section
variable {prog : Program} {w : World} {A : Around} {s₀ : Shared} {g h : Heap} {env : Env} {ps : List (Str × Value)} {news : List (Addr × (Obj → Prop))} {L l sl : Addr} {vs zs : List Value}
theorem ev_sub_il {value slice : Expr} {k : Int} {t : Tok} {v : Value} {i : Nat} {Q : Value → Heap → Prop} (hl : h.IsList l vs.toArray) (hki : k = (i : Int)) (hs : vs.length < 2 ^ 24) (hx : vs[i]? = some v) (q : Q v h)
    (he : subscripted slice false (.ref l) (.int k t) = operate [.ref l, .int k t] (getItem (.ref l) (.int k t)) := by with_unfolding_all rfl) :
    Ev prog w A s₀ (subscriptTail value slice (.ref l) (.int k t)) h Q := fun tk => by
  have : i < vs.length := (List.getElem?_eq_some_iff.mp hx).1
  exact tail_any (s := Sh s₀ h tk) hl.typeIs slot_list_getitem.lookup (wpAny_getItem_list hl (by (first | lia | omega)) (by (first | lia | omega)) (by subst hki; simpa using hx) ⟨_, _, rfl, q⟩) he
theorem ev_len_il {Q : Value → Heap → Prop} (hl : h.IsList l vs.toArray) (hs : vs.length < 2 ^ 24) (q : ∀ t, Q (.int vs.length t) h) : Ev prog w A s₀ (call (.builtin "len") [.ref l]) h Q := fun tk =>
  call_len_list hl (by simp; (first | lia | omega)) ⟨_, _, rfl, by simpa using q _⟩
theorem ev_add_str' {x y : Str} {a b : List Nat} {t u : Tok} {Q : Value → Heap → Prop} (hx : x = TX a) (hy : y = TX b) (hs : a.length + b.length < 2 ^ 20) (q : ∀ t, Q (.str (TX (a ++ b)) t) h) : Ev prog w A s₀ (binaryOp .Add (.str x t) (.str y u)) h Q := by
  subst hx hy; exact ev_add_str hs q
theorem ev_mul_str' {x : Str} {c : Nat} {n : Int} {t u : Tok} {Q : Value → Heap → Prop} (hx : x = TX [c]) (h1 : n < 1000) (h0 : 0 ≤ n) (q : ∀ t, Q (.str (TX (List.replicate n.toNat c)) t) h) : Ev prog w A s₀ (binaryOp .Mult (.str x t) (.int n u)) h Q := by
  subst hx; exact ev_mul_str h1 h0 q
theorem ev_join' {x : Str} {ls : List (List Nat)} {t : Tok} {Q : Value → Heap → Prop} (hx : x = TX []) (hl : h.IsList l vs.toArray) (hi : StrsAre vs (ls.map TX)) (hs : ls.flatten.length < 2 ^ 20) (q : ∀ t, Q (.str (TX ls.flatten) t) h) :
    Ev prog w A s₀ (call (.builtin "str.join") [.str x t, .ref l]) h Q := by
  subst hx; exact ev_join hl hi hs q
end
theorem e32 : Str.ofString " " = TX [32] := by decide +kernel
theorem e9 : Str.ofString "\t" = TX [9] := by decide +kernel
theorem e0 : Str.ofString "" = TX [] := by decide +kernel
theorem eX : Str.ofString "x\t" = TX [120, 9] := by decide +kernel
abbrev VR (a : Int) (v : Value) : Prop := VI a v ∧ 0 ≤ a ∧ a ≤ 7
theorem IntsV.vr {vs is} (x : IntsV vs is) (h : ∀ r ∈ is, 0 ≤ r ∧ r ≤ 7) : ∀ (i : Nat) (v : Value), vs[i]? = some v → ∃ a, is[i]? = some a ∧ VR a v := fun i v e => by
  obtain ⟨a, h1, h2⟩ := x.vi i v e
  exact ⟨a, h1, h2, h a (List.mem_of_getElem? h1)⟩
abbrev rowT (r : Int) : List Nat := List.replicate r.toNat 32 ++ [9]
theorem paired_strs {α : Type} {f : α → List Nat} {l : List α} {ys : List Value} (x : Paired (fun a y => ∃ t, y = .str (TX (f a)) t) l ys) : StrsAre ys ((l.map f).map TX) := by
  induction x with
  | nil => exact .nil
  | cons h _ ih => obtain ⟨t, rfl⟩ := h; exact .cons _ _ ih
theorem rows_lead (ns : List Nat) : (((ns.map fun (r : Nat) => (r : Int))).map rowT).flatten = leadT ns := by
  unfold leadT
  rw [List.map_map]
  congr 1
theorem filter_true {α : Type} (l : List α) : l.filter (fun _ => true) = l := by simp
structure LP (ns : List Int) (nL nR : List Nat) (t0 t1 : Nat) (nv lv rv tv : List Value) : Prop where
  enL : leftI ns = nL.map fun (r : Nat) => (r : Int)
  enR : rightI ns = nR.map fun (r : Nat) => (r : Int)
  lnL : nL.length ≤ 14
  lnR : nR.length ≤ 14
  h7L : ∀ r ∈ nL, r ≤ 7
  h7R : ∀ r ∈ nR, r ≤ 7
  hin : IntsV nv ns
  hil : IntsV lv (leftI ns)
  hir : IntsV rv (rightI ns)
  hit : IntsV tv [(t0 : Int), (t1 : Int)]
  ht0 : t0 < 6
  ht1 : t1 < 6
  hns : ns.length ≤ 12
theorem lf_open {g : Heap} {c1 c2 c3 nl : Addr} {ns : List Int} (X : LF g c1 c2 c3 nl ns) (hns : ns.length ≤ 12) : ∃ ll rl tl nv lv rv tv nL nR t0 t1, LG c1 c2 c3 nl ll rl tl nv lv rv tv g ∧ LP ns nL nR t0 t1 nv lv rv tv := by
  obtain ⟨nL, enL, lnL, h7L⟩ := nats_of (leftI_ok ns)
  obtain ⟨nR, enR, lnR, h7R⟩ := nats_of (rightI_ok ns)
  have lL := leftI_len ns
  have lR := rightI_len ns
  obtain ⟨⟨nv, hnv, hin⟩, ⟨ll, lv, cl, hll, hil⟩, ⟨rl, rv, cr, hrl, hir⟩, ⟨tl, tv, ct, htl, hit⟩⟩ := X
  have e1 : (((ns.sum % 6).toNat : Nat) : Int) = ns.sum % 6 := by (first | lia | omega)
  have e2 : (((ns.sum / 6 % 6).toNat : Nat) : Int) = ns.sum / 6 % 6 := by (first | lia | omega)
  exact ⟨ll, rl, tl, nv, lv, rv, tv, nL, nR, (ns.sum % 6).toNat, (ns.sum / 6 % 6).toNat, ⟨cl, cr, ct, hnv, hll, hrl, htl⟩, ⟨enL, enR, by (first | lia | omega), by (first | lia | omega), h7L, h7R, hin, hil, hir, by rw [e1, e2]; exact hit, by (first | lia | omega), by (first | lia | omega), hns⟩⟩
theorem lead_ok {n : List Nat} {ls : List Int} (e : ls = n.map (fun (r : Nat) => (r : Int))) (h1 : n.length ≤ 14) (h2 : ∀ r ∈ n, r ≤ 7) : (ls.map rowT).flatten = leadT n ∧ (leadT n).length ≤ 112 := by
  subst e
  refine ⟨rows_lead n, ?_⟩
  rw [leadT_len]
  have := sum7 h2
  (first | lia | omega)
section
variable {prog : Program} {w : World} {A : Around} {s₀ : Shared} {g h : Heap} {body : List Stmt} {scope : Scope} {nm : Str} {L fa c1 c2 c3 : Addr} {cd : Value} {Q : Flow → Heap → Prop}
variable {nl ll rl tl : Addr} {nv lv rv tv : List Value} {ns : List Int} {nL nR : List Nat} {t0 t1 : Nat}
theorem law_b (ho : LawIs w body scope) (G : GN w g) (R : Room A 8) (P : LP ns nL nR t0 t1 nv lv rv tv) (Y : LG c1 c2 c3 nl ll rl tl nv lv rv tv g) (S : St g L [("numbers", .ref nl)] [] h)
    (next : ∀ g' h' x, Kp g g' → LG c1 c2 c3 nl ll rl tl nv lv rv tv g' → WS g' x (wsOf nL t0) → St g' L [("one", .ref x), ("numbers", .ref nl)] [] h' → Ev prog w A s₀ (execs (body.drop 6) (envX nm scope L fa cd [("last", c3), ("right", c2), ("left", c1)])) h' Q) :
    Ev prog w A s₀ (execs (body.drop 5) (envX nm scope L fa cd [("last", c3), ("right", c2), ("left", c1)])) h Q := by
  obtain ⟨name, qual, params, dV, kV, doc, pm, cdv, ct, oc, an, od, osl, ho⟩ := ho
  obtain ⟨rfl, rfl⟩ := law_inj ho (by k_is)
  clear ho
  dsimp only [List.drop] at next ⊢
  obtain ⟨enL, enR, lnL, lnR, h7L, h7R, hin, hil, hir, hit, ht0, ht1, hns⟩ := P
  obtain ⟨cl, cr, ct, hnv, hll, hrl, htl⟩ := id Y
  have lvl := hil.length
  rw [enL, List.length_map] at lvl
  have lv3 : tv.length = 2 := hit.length
  obtain ⟨q1, q2⟩ := lead_ok enL lnL h7L
  obtain ⟨tt, hv⟩ := hit.get (i := 0) (by show 0 < 2; decide)
  change tv[0]? = some (.int (t0 : Int) tt) at hv
  walk_at "ss"
  refine ev_comp (cl := []) R.han (by rfl) (by decide) rfl (by decide) ?_ (by intro _; rfl)
  walk_at "ss"
  refine ⟨ll, lv, _, rfl, hll.at fun o e => S.keep _ _ e, by (first | lia | omega), comp_gen (leftI ns) VR (fun _ => true) (fun _ y a => ∃ t, y = .str (TX (rowT a)) t) hil.length (hil.vr (leftI_ok ns)) (fun _ _ _ _ _ q => q) (fun a v s I l j Q E _ _ q => go_name q) ?_, ?_⟩
  · rintro a v g₁ C D I PI ys ha ⟨⟨t, rfl⟩, ha0, ha7⟩ kg Sa
    walk_at "ss"
    rename St _ C _ _ _ => Sb
    refine tst_none ⟨rfl, fun _ => ?_, fun h => nomatch h⟩
    walk_at "ss"
    refine ev_mul_str' e32 (by (first | lia | omega)) ha0 fun _ => ?_
    walk_at "ss"
    refine ev_add_str' rfl e9 (by rw [List.length_replicate, List.length_singleton]; (first | lia | omega)) fun _ => ?_
    exact ⟨Sb.locals .nil, _, rfl⟩
  intro Da va ga ha hFa ka₁ ka₂ gDa hDa
  rw [List.take_of_length_le (by rw [hil.length]; exact Nat.le_refl _), filter_true] at hFa
  have Sj := S.grown (ka₁.trans ka₂)
  clear S
  walk_at "ss"
  refine ev_join' e0 hDa.isList (paired_strs hFa) (by rw [q1]; (first | lia | omega)) fun _ => ?_
  walk_at "ss"
  refine ev_sub_il (htl.at fun o e => Sj.keep _ _ e) (i := 0) rfl (by (first | lia | omega)) hv ?_
  walk_at "ss"
  refine ev_mul_str' e32 (by (first | lia | omega)) (by (first | lia | omega)) fun _ => ?_
  refine ev_add_str' rfl rfl (by rw [q1, List.length_replicate]; (first | lia | omega)) fun _ => ?_
  walk_at "ss"
  refine ev_add_str' rfl eX (by rw [q1, List.length_append, List.length_replicate]; show _ + 2 < _; (first | lia | omega)) fun _ => ?_
  walk_at "ss"
  rw [q1, Int.toNat_natCast]
  change Ev prog w A s₀ (call (.ref 111) [.str (TX (textT nL t0)) _]) _ _
  refine (make_spec (G.keeps Sj.keep) (R.less (by (first | lia | omega))) (textT_asc _ _) (by rw [List.size_toArray]; have := textT_len (tr := t0) h7L; (first | lia | omega))).mono ?_
  rintro v hm ⟨km, x, rfl, Wx⟩
  obtain ⟨mm, hmm, _⟩ := Sj.loc
  have Wx := Wx _ _ hmm
  have Sm := Sj.grown km
  have kk := Sm.toNow
  have Sn := Sm.atNow
  change WS _ x (scanF (textT nL t0) ⟨[], 0, 0, 0⟩).W at Wx
  rw [ws_scan] at Wx
  clear Sm Sj
  walk_at "s"
  rename St _ _ _ _ _ => So
  refine nx_next (next _ _ x kk (Y.keeps kk) Wx So)
theorem law_c (ho : LawIs w body scope) (G : GN w g) (R : Room A 8) (P : LP ns nL nR t0 t1 nv lv rv tv) (Y : LG c1 c2 c3 nl ll rl tl nv lv rv tv g) {x : Addr} (Wx : WS g x (wsOf nL t0)) (S : St g L [("one", .ref x), ("numbers", .ref nl)] [] h)
    (next : ∀ g' h' y, Kp g g' → LG c1 c2 c3 nl ll rl tl nv lv rv tv g' → WS g' x (wsOf nL t0) → WS g' y (wsOf nR t1) → St g' L [("other", .ref y), ("one", .ref x), ("numbers", .ref nl)] [] h' → Ev prog w A s₀ (execs (body.drop 7) (envX nm scope L fa cd [("last", c3), ("right", c2), ("left", c1)])) h' Q) :
    Ev prog w A s₀ (execs (body.drop 6) (envX nm scope L fa cd [("last", c3), ("right", c2), ("left", c1)])) h Q := by
  obtain ⟨name, qual, params, dV, kV, doc, pm, cdv, ct, oc, an, od, osl, ho⟩ := ho
  obtain ⟨rfl, rfl⟩ := law_inj ho (by k_is)
  clear ho
  dsimp only [List.drop] at next ⊢
  obtain ⟨enL, enR, lnL, lnR, h7L, h7R, hin, hil, hir, hit, ht0, ht1, hns⟩ := P
  obtain ⟨cl, cr, ct, hnv, hll, hrl, htl⟩ := id Y
  have lvl := hir.length
  rw [enR, List.length_map] at lvl
  have lv3 : tv.length = 2 := hit.length
  obtain ⟨q1, q2⟩ := lead_ok enR lnR h7R
  obtain ⟨tt, hv⟩ := hit.get (i := 1) (by show 1 < 2; decide)
  change tv[1]? = some (.int (t1 : Int) tt) at hv
  walk_at "ss"
  refine ev_comp (cl := []) R.han (by rfl) (by decide) rfl (by decide) ?_ (by intro _; rfl)
  walk_at "ss"
  refine ⟨rl, rv, _, rfl, hrl.at fun o e => S.keep _ _ e, by (first | lia | omega), comp_gen (rightI ns) VR (fun _ => true) (fun _ y a => ∃ t, y = .str (TX (rowT a)) t) hir.length (hir.vr (rightI_ok ns)) (fun _ _ _ _ _ q => q) (fun a v s I l j Q E _ _ q => go_name q) ?_, ?_⟩
  · rintro a v g₁ C D I PI ys ha ⟨⟨t, rfl⟩, ha0, ha7⟩ kg Sa
    walk_at "ss"
    rename St _ C _ _ _ => Sb
    refine tst_none ⟨rfl, fun _ => ?_, fun h => nomatch h⟩
    walk_at "ss"
    refine ev_mul_str' e32 (by (first | lia | omega)) ha0 fun _ => ?_
    walk_at "ss"
    refine ev_add_str' rfl e9 (by rw [List.length_replicate, List.length_singleton]; (first | lia | omega)) fun _ => ?_
    exact ⟨Sb.locals .nil, _, rfl⟩
  intro Da va ga ha hFa ka₁ ka₂ gDa hDa
  rw [List.take_of_length_le (by rw [hir.length]; exact Nat.le_refl _), filter_true] at hFa
  have Sj := S.grown (ka₁.trans ka₂)
  clear S
  walk_at "ss"
  refine ev_join' e0 hDa.isList (paired_strs hFa) (by rw [q1]; (first | lia | omega)) fun _ => ?_
  walk_at "ss"
  refine ev_sub_il (htl.at fun o e => Sj.keep _ _ e) (i := 1) rfl (by (first | lia | omega)) hv ?_
  walk_at "ss"
  refine ev_mul_str' e32 (by (first | lia | omega)) (by (first | lia | omega)) fun _ => ?_
  refine ev_add_str' rfl rfl (by rw [q1, List.length_replicate]; (first | lia | omega)) fun _ => ?_
  walk_at "ss"
  refine ev_add_str' rfl eX (by rw [q1, List.length_append, List.length_replicate]; show _ + 2 < _; (first | lia | omega)) fun _ => ?_
  walk_at "ss"
  rw [q1, Int.toNat_natCast]
  change Ev prog w A s₀ (call (.ref 111) [.str (TX (textT nR t1)) _]) _ _
  refine (make_spec (G.keeps Sj.keep) (R.less (by (first | lia | omega))) (textT_asc _ _) (by rw [List.size_toArray]; have := textT_len (tr := t1) h7R; (first | lia | omega))).mono ?_
  rintro v hm ⟨km, y, rfl, Wy⟩
  obtain ⟨mm, hmm, _⟩ := Sj.loc
  have Wy := Wy _ _ hmm
  have Sm := Sj.grown km
  have kk := Sm.toNow
  have Sn := Sm.atNow
  change WS _ y (scanF (textT nR t1) ⟨[], 0, 0, 0⟩).W at Wy
  rw [ws_scan] at Wy
  clear Sm Sj
  walk_at "s"
  rename St _ _ _ _ _ => So
  refine nx_next (next _ _ y kk (Y.keeps kk) (Wx.keeps kk) Wy So)
end

theorem cnt_small {ns : List Nat} (h : ∀ r ∈ ns, r ≤ 7) : (cntOf ns).length ≤ 8 := by
  rcases cnt_len ns with e | ⟨r, hr, e⟩
  · (first | lia | omega)
  · have := h r hr; (first | lia | omega)
theorem max_all {ls rs : List Int} {a b M₁ M₂ M₃ : Int} (hM₁ : M₁ ∈ ls ++ [a]) (ha₁ : ∀ x ∈ ls ++ [a], x ≤ M₁) (hM₂ : M₂ ∈ rs ++ [b]) (ha₂ : ∀ x ∈ rs ++ [b], x ≤ M₂) (hM₃ : M₃ ∈ (ls ++ rs) ++ [a, b]) (ha₃ : ∀ x ∈ (ls ++ rs) ++ [a, b], x ≤ M₃) : max M₁ M₂ = M₃ := by
  have m1 : M₁ ≤ M₃ := by
    rcases List.mem_append.mp hM₁ with q | q
    · exact ha₃ _ (List.mem_append_left _ (List.mem_append_left _ q))
    · exact ha₃ _ (List.mem_append_right _ (by rw [List.mem_singleton.mp q]; exact .head _))
  have m2 : M₂ ≤ M₃ := by
    rcases List.mem_append.mp hM₂ with q | q
    · exact ha₃ _ (List.mem_append_left _ (List.mem_append_right _ q))
    · exact ha₃ _ (List.mem_append_right _ (by rw [List.mem_singleton.mp q]; exact .tail _ (.head _)))
  have m3 : M₃ ≤ max M₁ M₂ := by
    rcases List.mem_append.mp hM₃ with q | q
    · rcases List.mem_append.mp q with q | q
      · have := ha₁ M₃ (List.mem_append_left _ q); (first | lia | omega)
      · have := ha₂ M₃ (List.mem_append_left _ q); (first | lia | omega)
    · rcases List.mem_cons.mp q with q | q
      · have := ha₁ M₃ (List.mem_append_right _ (by rw [q]; exact .head _)); (first | lia | omega)
      · have := ha₂ M₃ (List.mem_append_right _ (by rw [List.mem_singleton.mp q]; exact .head _)); (first | lia | omega)
  (first | lia | omega)
section
variable {prog : Program} {w : World} {A : Around} {s₀ : Shared} {g h : Heap} {body : List Stmt} {scope : Scope} {nm : Str} {L fa c1 c2 c3 : Addr} {cd : Value} {Q : Flow → Heap → Prop}
variable {nl ll rl tl : Addr} {nv lv rv tv : List Value} {ns : List Int} {nL nR : List Nat} {t0 t1 : Nat}
theorem law_d (ho : LawIs w body scope) (G : GN w g) (R : Room A 8) (P : LP ns nL nR t0 t1 nv lv rv tv) (Y : LG c1 c2 c3 nl ll rl tl nv lv rv tv g) {x y : Addr} (Wx : WS g x (wsOf nL t0)) (Wy : WS g y (wsOf nR t1)) (S : St g L [("other", .ref y), ("one", .ref x), ("numbers", .ref nl)] [] h)
    (next : ∀ h' (most : Nat) tm, max (wsOf nL t0).long (wsOf nR t1).long + 1 = (most : Int) → most ≤ 100 → St g L [("most", .int most tm), ("other", .ref y), ("one", .ref x), ("numbers", .ref nl)] [] h' → Ev prog w A s₀ (execs (body.drop 10) (envX nm scope L fa cd [("last", c3), ("right", c2), ("left", c1)])) h' Q) :
    Ev prog w A s₀ (execs (body.drop 7) (envX nm scope L fa cd [("last", c3), ("right", c2), ("left", c1)])) h Q := by
  obtain ⟨name, qual, params, dV, kV, doc, pm, cdv, ct, oc, an, od, osl, ho⟩ := ho
  obtain ⟨rfl, rfl⟩ := law_inj ho (by k_is)
  clear ho
  dsimp only [List.drop] at next ⊢
  obtain ⟨enL, enR, lnL, lnR, h7L, h7R, hin, hil, hir, hit, ht0, ht1, hns⟩ := P
  obtain ⟨cl, cr, ct, hnv, hll, hrl, htl⟩ := id Y
  have lvl := hil.length
  rw [enL, List.length_map] at lvl
  have lvr := hir.length
  rw [enR, List.length_map] at lvr
  have lv3 : tv.length = 2 := hit.length
  have csL : (wsOf nL t0).cnt.length ≤ 8 := cnt_small h7L
  have csR : (wsOf nR t1).cnt.length ≤ 8 := cnt_small h7R
  walk_at "ss"
  walk_at "i"
  refine (longest_spec (G.keeps S.keep) (Wx.keeps S.keep) (R.less (by (first | lia | omega))) (by (first | lia | omega))).mono ?_
  rintro v h₁ ⟨k₁, u₁, rfl⟩
  have S₁ := S.grown k₁
  walk_at "ss"
  refine ev_slice_hi ?_
  walk_at "ss"
  intro h₂ sl₂ k₂ hs₂
  have S₂ := S₁.grown k₂
  refine ev_sub_slice S₂ (htl.at fun o e => S₂.keep _ _ e) hs₂ .none (.int _ _) (by (first | lia | omega)) (pick_upto (a := 1) rfl) (fun h₃ D₃ S₃ => ?_) (by with_unfolding_all rfl)
  refine ev_add_lists S₃ (hll.at fun o e => S₃.keep _ _ e) S₃.list0.isList (by rw [List.length_take]; (first | lia | omega)) fun h₄ D₄ S₄ => ?_
  walk_at "ss"
  refine ev_maxl R.han S₄.list0.isList (hil.append (hit.take 1)) (by rw [List.length_append]; show 0 < _ + 1; (first | lia | omega)) fun h₅ M₁ u₅ k₅ hM₁ ha₁ => ?_
  have S₅ := (S₄.grown k₅).sub (List.nil_sublist _)
  walk_at "ss"
  rw [enL] at hM₁ ha₁
  have e₁ := long_eq hM₁ ha₁
  change max (((wsOf nL t0).cnt.length : Int) - 1) (wsOf nL t0).tr = M₁ at e₁
  rw [e₁, bne_self_eq_false, if_neg Bool.false_ne_true]
  clear S S₁ S₂ S₃ S₄
  walk_at "ss"
  walk_at "i"
  refine (longest_spec (G.keeps S₅.keep) (Wy.keeps S₅.keep) (R.less (by (first | lia | omega))) (by (first | lia | omega))).mono ?_
  rintro v h₆ ⟨k₆, u₆, rfl⟩
  have S₆ := S₅.grown k₆
  walk_at "ss"
  refine ev_slice_lo ?_
  walk_at "ss"
  intro h₇ sl₇ k₇ hs₇
  have S₇ := S₆.grown k₇
  refine ev_sub_slice S₇ (htl.at fun o e => S₇.keep _ _ e) hs₇ (.int _ _) .none (by (first | lia | omega)) (pick_from (a := 1) rfl) (fun h₈ D₈ S₈ => ?_) (by with_unfolding_all rfl)
  refine ev_add_lists S₈ (hrl.at fun o e => S₈.keep _ _ e) S₈.list0.isList (by rw [List.length_drop]; (first | lia | omega)) fun h₉ D₉ S₉ => ?_
  walk_at "ss"
  refine ev_maxl R.han S₉.list0.isList (hir.append (hit.drop 1)) (by rw [List.length_append]; show 0 < _ + 1; (first | lia | omega)) fun h₁₀ M₂ u₁₀ k₁₀ hM₂ ha₂ => ?_
  have S₁₀ := (S₉.grown k₁₀).sub (List.nil_sublist _)
  walk_at "ss"
  rw [enR] at hM₂ ha₂
  have e₂ := long_eq hM₂ ha₂
  change max (((wsOf nR t1).cnt.length : Int) - 1) (wsOf nR t1).tr = M₂ at e₂
  rw [e₂, bne_self_eq_false, if_neg Bool.false_ne_true]
  clear S₅ S₆ S₇ S₈ S₉
  walk_at "ss"
  refine ev_add_lists S₁₀ (hll.at fun o e => S₁₀.keep _ _ e) (hrl.at fun o e => S₁₀.keep _ _ e) (by (first | lia | omega)) fun h₁₁ D₁₁ S₁₁ => ?_
  walk_at "ss"
  refine ev_add_lists S₁₁ S₁₁.list0.isList (htl.at fun o e => S₁₁.keep _ _ e) (by rw [List.length_append]; (first | lia | omega)) fun h₁₂ D₁₂ S₁₂ => ?_
  walk_at "ss"
  refine ev_maxl R.han S₁₂.list0.isList ((hil.append hir).append hit) (by rw [List.length_append]; show 0 < _ + 2; (first | lia | omega)) fun h₁₃ M₃ u₁₃ k₁₃ hM₃ ha₃ => ?_
  have S₁₃ := (S₁₂.grown k₁₃).sub (List.nil_sublist _)
  clear S₁₀ S₁₁ S₁₂
  rw [enL, enR] at hM₃ ha₃
  have e₃ := max_all hM₁ ha₁ hM₂ ha₂ hM₃ ha₃
  have e₄ : (wsOf nL t0).long = M₁ := e₁
  have e₅ : (wsOf nR t1).long = M₂ := e₂
  have t5 : (wsOf nL t0).tr = (t0 : Int) := rfl
  have t6 : (wsOf nR t1).tr = (t1 : Int) := rfl
  have hl1 : (M₁ : Int) ≤ 7 := by
    rw [← e₁, t5]
    (first | lia | omega)
  have hl2 : (M₂ : Int) ≤ 7 := by
    rw [← e₂, t6]
    (first | lia | omega)
  have hl0 : 0 ≤ M₁ := by
    rw [← e₁, t5]
    (first | lia | omega)
  have em : M₃ + 1 = ((M₃ + 1).toNat : Int) := by (first | lia | omega)
  walk_at "s"
  walk_at "s"
  walk_at "s"
  clear S₁₃
  rename St _ _ _ _ _ => So
  rw [em] at So
  refine nx_next (next _ _ _ ?_ ?_ So)
  · rw [e₄, e₅, e₃]; exact em
  · (first | lia | omega)
end

theorem Rd.lst_ref {h : Heap} {v : Value} {ds} (x : Rd h v (.list ds)) : ∃ a, v = .ref a := by
  obtain ⟨as, x⟩ := x
  cases x with
  | list ho hc hd r => exact ⟨_, rfl⟩
theorem rds_now {g h : Heap} {L : Addr} {ps : List (Str × Value)} (S : St g L ps [] h) : ∀ {rows : List (List Int)} {vs : List Value}, Rds h vs (itDs rows) → Rds (now h L []) vs (itDs rows)
  | [], [], _ => .nil
  | [], _ :: _, x => absurd x.length (by simp)
  | _ :: _, [], x => absurd x.length (by simp)
  | r :: rows, v :: vs, x => by
    obtain ⟨a, b⟩ := x.uncons
    obtain ⟨ta, rfl⟩ := a.tup_ref
    obtain ⟨ws, ht, hr⟩ := a.tup
    exact .cons (Rd.of_tup (tup_now S ht) hr.ints.rds) (rds_now S b)
theorem rd_now {g h : Heap} {L l : Addr} {ps : List (Str × Value)} {rows : List (List Int)} (S : St g L ps [] h) (x : Rd h (.ref l) (.list (itDs rows))) : Rd (now h L []) (.ref l) (.list (itDs rows)) := by
  obtain ⟨vs, hl, hr⟩ := x.lst
  exact Rd.of_list (list_now S hl) (rds_now S hr)
theorem told_rows (ls rs : List Int) : ∀ n s, ∀ r ∈ toldF ls rs s n, r.length = 3 ∧ 0 ≤ r.getD 0 0 ∧ r.getD 0 0 ≤ s + n
  | 0, _, r, h => nomatch h
  | n + 1, s, r, h => by
    rw [toldF] at h
    rcases List.mem_cons.mp h with rfl | h
    · refine ⟨rfl, ?_, ?_⟩
      · show (0 : Int) ≤ (s : Int); (first | lia | omega)
      · show (s : Int) ≤ _; (first | lia | omega)
    · obtain ⟨a, b, c⟩ := told_rows ls rs n (s + 1) r h
      refine ⟨a, b, ?_⟩
      rw [Int.natCast_add] at c
      (first | lia | omega)
abbrev VW (g : Heap) (b : Int) (r : List Int) (v : Value) : Prop := Rd g v (itD r) ∧ r.length = 3 ∧ 0 ≤ r.getD 0 0 ∧ r.getD 0 0 ≤ b
theorem vw_of {g : Heap} {b : Int} {vs : List Value} {rows : List (List Int)} (x : Rds g vs (itDs rows)) (h : ∀ r ∈ rows, r.length = 3 ∧ 0 ≤ r.getD 0 0 ∧ r.getD 0 0 ≤ b) : ∀ (i : Nat) (v : Value), vs[i]? = some v → ∃ r, rows[i]? = some r ∧ VW g b r v := by
  intro i v e
  have hl := x.length
  rw [List.length_map] at hl
  have hi : i < rows.length := by rw [← hl]; exact (List.getElem?_eq_some_iff.mp e).1
  obtain ⟨v', h1, h2⟩ := x.get (i := i) (d := itD rows[i]) (by simp [hi])
  rw [e] at h1
  cases h1
  exact ⟨_, List.getElem?_eq_getElem hi, h2, h _ (List.getElem_mem hi)⟩
theorem rowsF_head {f g : Int → Int} : ∀ {k} {r}, r ∈ rowsF f g k → 0 ≤ r.getD 0 0 ∧ r.getD 0 0 ≤ k
  | 0, r, h => nomatch h
  | k + 1, r, h => by
    rw [rowsF] at h
    rcases List.mem_append.mp h with h | h
    · have := rowsF_head h; (first | lia | omega)
    · rw [List.mem_singleton.mp h]
      show 0 ≤ 1 + (k : Int) ∧ 1 + (k : Int) ≤ _
      (first | lia | omega)
section
variable {prog : Program} {w : World} {A : Around} {s₀ : Shared} {g h : Heap} {body : List Stmt} {scope : Scope} {nm : Str} {L fa c1 c2 c3 : Addr} {cd : Value} {Q : Flow → Heap → Prop}
variable {nl ll rl tl : Addr} {nv lv rv tv : List Value} {ns : List Int} {nL nR : List Nat} {t0 t1 : Nat}
theorem law_e (ho : LawIs w body scope) (G : GN w g) (R : Room A 8) (P : LP ns nL nR t0 t1 nv lv rv tv) (Y : LG c1 c2 c3 nl ll rl tl nv lv rv tv g) {x y : Addr} (Wx : WS g x (wsOf nL t0)) (Wy : WS g y (wsOf nR t1)) {most : Nat} {tm : Tok}
    (hk : max (wsOf nL t0).long (wsOf nR t1).long + 1 = (most : Int)) (hm : most ≤ 100) (S : St g L [("most", .int most tm), ("other", .ref y), ("one", .ref x), ("numbers", .ref nl)] [] h)
    (next : ∀ g' h' hp dl, Kp g g' → Rd g' (.ref hp) (.list []) → Rd g' (.ref dl) (.list (itDs (rowsF (wsOf nL t0).lvl (wsOf nR t1).lvl most))) → LG c1 c2 c3 nl ll rl tl nv lv rv tv g' → WS g' x (wsOf nL t0) → WS g' y (wsOf nR t1) → St g' L [("due", .ref dl), ("heap", .ref hp), ("most", .int most tm), ("other", .ref y), ("one", .ref x), ("numbers", .ref nl)] [] h' →
      Ev prog w A s₀ (execs (body.drop 12) (envX nm scope L fa cd [("last", c3), ("right", c2), ("left", c1)])) h' Q) :
    Ev prog w A s₀ (execs (body.drop 10) (envX nm scope L fa cd [("last", c3), ("right", c2), ("left", c1)])) h Q := by
  obtain ⟨name, qual, params, dV, kV, doc, pm, cdv, ct, oc, an, od, osl, ho⟩ := ho
  obtain ⟨rfl, rfl⟩ := law_inj ho (by k_is)
  clear ho
  dsimp only [List.drop] at next ⊢
  obtain ⟨enL, enR, lnL, lnR, h7L, h7R, hin, hil, hir, hit, ht0, ht1, hns⟩ := P
  obtain ⟨cl, cr, ct, hnv, hll, hrl, htl⟩ := id Y
  have lvl := hil.length
  have lvl' := lvl
  rw [enL, List.length_map] at lvl
  have lvr := hir.length
  have lvr' := lvr
  rw [enR, List.length_map] at lvr
  have lv3 : tv.length = 2 := hit.length
  have k5 := (k_facts hk).2.2.2.2
  walk_at "ss"
  refine (seats_spec (G.keeps S.keep) (R.less (by (first | lia | omega))) (hll.at fun o e => S.keep _ _ e) (hrl.at fun o e => S.keep _ _ e) hil hir (leftI_ok ns) (rightI_ok ns) (by (first | lia | omega)) (by (first | lia | omega)) k5 hm).mono ?_
  rintro v h₁ ⟨k₁, hv⟩
  obtain ⟨va, rfl⟩ := hv.tup_ref
  obtain ⟨vs, ht, hr⟩ := hv.tup
  match vs, ht, hr with
  | [], _, hr => exact absurd hr.length (by simp)
  | [_], _, hr => exact absurd hr.length (by simp)
  | _ :: _ :: _ :: _, _, hr => exact absurd hr.length (by simp)
  | [v1, v2], ht, hr =>
  obtain ⟨tl', rfl⟩ := hr.uncons.1.lst_ref
  obtain ⟨hp, rfl⟩ := hr.uncons.2.uncons.1.lst_ref
  have r1 := hr.uncons.1
  have r2 := hr.uncons.2.uncons.1
  clear hv hr
  refine ev_unpack2 R.han ht fun h₂ k₂ => ?_
  have S₂ := S.grown (k₁.trans k₂)
  have r1 := rd_now S₂ (r1.keeps k₂)
  have r2 := rd_now (rows := []) S₂ (r2.keeps k₂)
  have kk := S₂.toNow
  have S₃ := S₂.atNow
  have G := G.keeps kk
  have Y := Y.keeps kk
  have Wx := Wx.keeps kk
  have Wy := Wy.keeps kk
  clear S S₂ cl cr ct hnv hll hrl htl
  generalize now h₂ L [] = g₂ at *
  obtain ⟨cl, cr, ct, hnv, hll, hrl, htl⟩ := id Y
  walk_at "ss"
  rename St _ _ _ _ _ => S₄
  rename Heap => hS
  clear S₃
  obtain ⟨tvs, htv, hrt⟩ := r1.lst
  have htl' := hrt.length
  rw [List.length_map, toldF_len] at htl'
  obtain ⟨tt0, hv0⟩ := hit.get (i := 0) (by show 0 < 2; decide)
  obtain ⟨tt1, hv1⟩ := hit.get (i := 1) (by show 1 < 2; decide)
  refine ev_assign_comp (cl := [("right", c2), ("left", c1), ("last", c3)]) S₄ R.han (by rfl) (by rfl) (by decide) rfl (by decide) ?_ (by intro _; rfl) rfl rfl
  walk_at "ss"
  refine ⟨tl', tvs, _, rfl, htv.at fun o e => S₄.keep _ _ e, by (first | lia | omega), comp_gen (toldF (leftI ns) (rightI ns) 1 most) (VW g₂ ((1 : Nat) + most)) (fun _ => true) (YR hS (dueRow t0 t1 nL.length nR.length)) (by rw [toldF_len]; exact htl') (vw_of hrt (told_rows _ _ most 1)) yr_mono ?_ ?_, S₄, ?_⟩
  · rintro r v s I l j Q E ⟨hrd, _⟩ hit q
    obtain ⟨ta, rfl⟩ := hrd.tup_ref
    exact wpAny_letOwnedTupleGo_listiter hit q
  · rintro r v g₁ C D I PI ys ha ⟨hrd, h3, hb0, hb1⟩ kg Sa
    obtain ⟨ta, u₀, u₁, u₂, rfl, hta⟩ := row3 hrd h3
    have kg' : Kp g₂ g₁ := S₄.keep.trans kg
    have G₁ : GN w g₁ := G.keeps kg'
    obtain ⟨cl₁, cr₁, ct₁, _, hll₁, hrl₁, htl₁⟩ := Y.keeps kg'
    refine ev_unpack3 R.han (hta.keeps (kg'.trans Sa.keep)) fun hb kb => ?_
    have Sb := Sa.grown kb
    walk_at "ss"
    rename St _ _ _ _ _ => Sc
    refine tst_none ⟨rfl, fun _ => ?_, fun h => nomatch h⟩
    walk_at "ss"
    refine ev_sub_il (htl₁.at fun o e => Sc.keep _ _ e) (i := 0) rfl (by (first | lia | omega)) hv0 ?_
    walk_at "ss"
    refine ev_len_il (hll₁.at fun o e => Sc.keep _ _ e) (by (first | lia | omega)) fun _ => ?_
    rw [lvl]
    walk_at "ss"
    refine ev_sub_il (htl₁.at fun o e => Sc.keep _ _ e) (i := 1) rfl (by (first | lia | omega)) hv1 ?_
    walk_at "ss"
    refine ev_len_il (hrl₁.at fun o e => Sc.keep _ _ e) (by (first | lia | omega)) fun _ => ?_
    rw [lvr]
    walk_at "ss"
    refine ev_nt (by show 3 < _; decide) fun hc ta' kc hta' fta => ?_
    exact ⟨(Sc.grown kc).locals .nil, yr_new Sc kg fta hta' (.cons (.cons (.cons .nil))) rfl⟩
  · intro D ys g₅ h₅ hF kg gD kh S₅
    rw [List.take_of_length_le (by rw [toldF_len]; (first | lia | omega)), filter_true] at hF
    have T := (paired_rows hF).rdsNow S₄ kh (news' := []) (fun p hp => nomatch hp)
    rw [enL, enR, due_eq] at T
    have S₆ := S₅.sub (List.nil_sublist _)
    have dl := list_now S₆ S₅.list0.isList
    have kk₂ := S₆.toNow
    exact nx_next (next _ _ hp D (kk.trans kk₂) (r2.keeps kk₂) (Rd.of_list dl T) (Y.keeps kk₂) (Wx.keeps kk₂) (Wy.keeps kk₂) (S₆.atNow.locals (by walk_at "loc")))
end

theorem lvl_big {ns : List Nat} {tr k : Nat} {a : Int} (h : ∀ r ∈ ns, r < k) : indF (wsOf ns tr).cnt (wsOf ns tr).tr (wsOf ns tr).nt ((k : Int) + (a.natAbs : Int)) = (tr : Int) + ((k : Int) + (a.natAbs : Int)) * (ns.length : Int) := by
  have e : (k : Int) + (a.natAbs : Int) = ((k + a.natAbs : Nat) : Int) := by (first | lia | omega)
  rw [e]
  have := lvl_eq ns tr (k + a.natAbs)
  change indF (wsOf ns tr).cnt (wsOf ns tr).tr (wsOf ns tr).nt ((k + a.natAbs : Nat) : Int) = _ at this
  rw [this, fN_big fun r hr => by have := h r hr; (first | lia | omega), Nat.add_zero, Int.natCast_add, Int.natCast_mul]
section
variable {prog : Program} {w : World} {A : Around} {s₀ : Shared} {g h : Heap} {body : List Stmt} {scope : Scope} {nm : Str} {L fa c1 c2 c3 : Addr} {cd : Value} {Q : Flow → Heap → Prop}
variable {nl ll rl tl : Addr} {nv lv rv tv : List Value} {ns : List Int} {nL nR : List Nat} {t0 t1 : Nat}
theorem law_f (ho : LawIs w body scope) (G : GN w g) (R : Room A 8) (P : LP ns nL nR t0 t1 nv lv rv tv) (Y : LG c1 c2 c3 nl ll rl tl nv lv rv tv g) {x y hp dl : Addr} (Wx : WS g x (wsOf nL t0)) (Wy : WS g y (wsOf nR t1)) {most : Nat} {tm : Tok}
    (hk : max (wsOf nL t0).long (wsOf nR t1).long + 1 = (most : Int)) (hm : most ≤ 100) (r2 : Rd g (.ref hp) (.list [])) (rd : Rd g (.ref dl) (.list (itDs (rowsF (wsOf nL t0).lvl (wsOf nR t1).lvl most))))
    (S : St g L [("due", .ref dl), ("heap", .ref hp), ("most", .int most tm), ("other", .ref y), ("one", .ref x), ("numbers", .ref nl)] [] h) (fin : ∀ h', Kp g h' → Q (.ret (.bool true)) h') :
    Ev prog w A s₀ (execs (body.drop 12) (envX nm scope L fa cd [("last", c3), ("right", c2), ("left", c1)])) h Q := by
  obtain ⟨name, qual, params, dV, kV, doc, pm, cdv, ct, oc, an, od, osl, ho⟩ := ho
  obtain ⟨rfl, rfl⟩ := law_inj ho (by k_is)
  clear ho
  dsimp only [List.drop]
  obtain ⟨enL, enR, lnL, lnR, h7L, h7R, hin, hil, hir, hit, ht0, ht1, hns⟩ := P
  obtain ⟨cl, cr, ct, hnv, hll, hrl, htl⟩ := id Y
  have lvl := hil.length
  rw [enL, List.length_map] at lvl
  have lvr := hir.length
  rw [enR, List.length_map] at lvr
  have lv3 : tv.length = 2 := hit.length
  have lvn := hin.length
  obtain ⟨kf1, kf2, kf3, kf4, k5⟩ := k_facts hk
  have csL : (wsOf nL t0).cnt.length ≤ 8 := cnt_small h7L
  have csR : (wsOf nR t1).cnt.length ≤ 8 := cnt_small h7R
  have cnL : (wsOf nL t0).nt.natAbs < 2 ^ 20 := by show ((nL.length : Nat) : Int).natAbs < _; (first | lia | omega)
  have cnR : (wsOf nR t1).nt.natAbs < 2 ^ 20 := by show ((nR.length : Nat) : Int).natAbs < _; (first | lia | omega)
  have ctL : (wsOf nL t0).tr < 2 ^ 10 := by show ((t0 : Nat) : Int) < _; (first | lia | omega)
  have ctR : (wsOf nR t1).tr < 2 ^ 10 := by show ((t1 : Nat) : Int) < _; (first | lia | omega)
  have hk' : max (wsOf nR t1).long (wsOf nL t0).long + 1 = (most : Int) := by rw [Int.max_comm]; exact hk
  obtain ⟨tt0, hv0⟩ := hit.get (i := 0) (by show 0 < 2; decide)
  obtain ⟨tt1, hv1⟩ := hit.get (i := 1) (by show 1 < 2; decide)
  obtain ⟨dvs, hdl, hdr⟩ := rd.lst
  have ldv := hdr.length
  rw [List.length_map, rowsF_len] at ldv
  walk_at "ss"
  walk_at "i"
  refine (agree_spec (G.keeps S.keep) (Wx.keeps S.keep) (Wy.keeps S.keep) (R.less (by (first | lia | omega))) (by (first | lia | omega)) (by (first | lia | omega)) cnL cnR ctL ctR (S.rd rd) (fun r => rowsF_three) (by rw [rowsF_len]; (first | lia | omega)) (pure1 hk _) (pure1 hk _) (pure3 hk) (pure4 hk)).mono ?_
  rintro v h₁ ⟨k₁, rfl⟩
  have S₁ := S.grown k₁
  clear S
  walk_at "ss"
  rw [if_neg (by decide)]
  walk_at "ss"
  walk_at "i"
  refine ev_comp (cl := []) R.han (by rfl) (by decide) rfl (by decide) ?_ (by intro _; rfl)
  walk_at "ss"
  refine ⟨dl, dvs, _, rfl, hdl.at fun o e => S₁.keep _ _ e, by (first | lia | omega), comp_gen (rowsF (wsOf nL t0).lvl (wsOf nR t1).lvl most) (VW g most) (fun _ => true) (YR h₁ swapRow) (by rw [rowsF_len]; exact ldv) (vw_of hdr fun r hr => ⟨rowsF_three hr, rowsF_head hr⟩) yr_mono ?_ ?_, ?_⟩
  · rintro r v s I l j Q E ⟨hrd, _⟩ hit q
    obtain ⟨ta, rfl⟩ := hrd.tup_ref
    exact wpAny_letOwnedTupleGo_listiter hit q
  · rintro r v g₁ C D I PI ys ha ⟨hrd, h3, hb0, hb1⟩ kg Sa
    obtain ⟨ta, u₀, u₁, u₂, rfl, hta⟩ := row3 hrd h3
    have kg' : Kp g g₁ := S₁.keep.trans kg
    refine ev_unpack3 R.han (hta.keeps (kg'.trans Sa.keep)) fun hb kb => ?_
    have Sb := Sa.grown kb
    walk_at "ss"
    rename St _ _ _ _ _ => Sc
    refine tst_none ⟨rfl, fun _ => ?_, fun h => nomatch h⟩
    walk_at "ss"
    refine ev_nt (by show 3 < _; decide) fun hc ta' kc hta' fta => ?_
    exact ⟨(Sc.grown kc).locals .nil, yr_new Sc kg fta hta' (.cons (.cons (.cons .nil))) rfl⟩
  intro D ys g₂ h₂ hF kg₁ kg₂ gD hD
  rw [List.take_of_length_le (by rw [rowsF_len]; (first | lia | omega)), filter_true] at hF
  have T := ((paired_rows hF).rds).keeps kg₂
  rw [swap_eq] at T
  have S₂ := S₁.grown (kg₁.trans kg₂)
  clear S₁
  walk_at "ss"
  refine (agree_spec (G.keeps S₂.keep) (Wy.keeps S₂.keep) (Wx.keeps S₂.keep) (R.less (by (first | lia | omega))) (by (first | lia | omega)) (by (first | lia | omega)) cnR cnL ctR ctL (Rd.of_list hD.isList T) (fun r => rowsF_three) (by rw [rowsF_len]; (first | lia | omega)) (pure1 hk' _) (pure1 hk' _) (pure3 hk') (pure4 hk')).mono ?_
  rintro v h₃ ⟨k₃, rfl⟩
  have S₃ := S₂.grown k₃
  clear S₂
  walk_at "ss"
  rw [if_neg (by decide)]
  walk_at "ss"
  refine ev_for ?_ (by intro _; rfl)
  walk_at "ss"
  refine ev_iter_list (hnv.at fun o e => S₃.keep _ _ e) fun h₄ I hI k₄ hne gI => ?_
  have S₄ := gI _ _ _ _ S₃
  refine loop_walk (W := fun i h => h.IsListIter I nl i ∧ h.IsList nl nv.toArray) (C := Unit)
    (fun _ => [("heap", .ref hp), ("most", .int most tm), ("other", .ref y), ("one", .ref x)]) (fun _ => []) (fun _ _ _ => True)
    (Walks.list R.han I nl hne.symm nv.toArray) (fun i h e => let ⟨o, ho, _⟩ := e.1; ⟨o, ho⟩) (fun b hb => ?_) () (S₄.locals (by walk_at "loc")) ⟨hI, hnv.at fun o e => S₄.keep _ _ e⟩ trivial ?_ ?_ rfl rfl (by intro _; rfl)
  · rcases List.mem_cons.mp hb with rfl | hb
    · exact .inl rfl
    · rw [List.mem_singleton.mp hb]
      obtain ⟨o, ho, _⟩ := hnv
      exact .inr ⟨o, ho⟩
  · rintro i ⟨⟩ v g₁ PI ha hi hv kg _ Sa
    obtain ⟨a, _, t, rfl⟩ := hin.vi i v (by simpa using hv)
    have G₁ : GN w g₁ := G.keeps kg
    obtain ⟨cl₁, cr₁, ct₁, _, hll₁, hrl₁, htl₁⟩ := Y.keeps kg
    have Wx₁ := Wx.keeps kg
    have Wy₁ := Wy.keeps kg
    walk_at "ss"
    refine ev_abs fun _ => ?_
    walk_at "ss"
    rename St _ _ _ _ _ => Sb
    walk_at "i"
    refine (indent_spec (G₁.keeps Sb.keep) (Wx₁.keeps Sb.keep) (R.less (by (first | lia | omega))) (by (first | lia | omega)) (by (first | lia | omega)) cnL).mono ?_
    rintro v hc ⟨kc, u, rfl⟩
    have Sc := Sb.grown kc
    walk_at "ss"
    refine ev_sub_il (htl₁.at fun o e => Sc.keep _ _ e) (i := 0) rfl (by (first | lia | omega)) hv0 ?_
    walk_at "ss"
    refine ev_len_il (hll₁.at fun o e => Sc.keep _ _ e) (by (first | lia | omega)) fun _ => ?_
    rw [lvl]
    walk_at "ss"
    rw [lvl_big kf3, if_neg (by rw [show [(t0 : Int), (t1 : Int)].getD 0 0 = (t0 : Int) from rfl, bne_self_eq_false]; exact Bool.false_ne_true)]
    clear Sb
    walk_at "ss"
    walk_at "i"
    refine (indent_spec (G₁.keeps Sc.keep) (Wy₁.keeps Sc.keep) (R.less (by (first | lia | omega))) (by (first | lia | omega)) (by (first | lia | omega)) cnR).mono ?_
    rintro v hd ⟨kd, u', rfl⟩
    have Sd := Sc.grown kd
    clear Sc
    walk_at "ss"
    refine ev_sub_il (htl₁.at fun o e => Sd.keep _ _ e) (i := 1) rfl (by (first | lia | omega)) hv1 ?_
    walk_at "ss"
    refine ev_len_il (hrl₁.at fun o e => Sd.keep _ _ e) (by (first | lia | omega)) fun _ => ?_
    rw [lvr]
    walk_at "ss"
    rw [lvl_big kf4, if_neg (by rw [show [(t0 : Int), (t1 : Int)].getD 1 0 = (t1 : Int) from rfl, bne_self_eq_false]; exact Bool.false_ne_true)]
    walk_at "ss"
    exact ⟨(), Sd.locals (by walk_at "loc"), trivial⟩
  · rintro ⟨⟩ g₁ ha kg _ Sa
    walk_at "ss"
    refine ev_nl Sa (by decide) fun hb Db Sb => ?_
    refine ev_eq_data (Sb.rd (r2.keeps kg)) (Rd.of_list Sb.list0.isList .nil) rfl rfl (by have := R.uni; show A.units + 1 < 9900; (first | lia | omega)) ?_
    walk_at "ss"
    exact fin _ (kg.trans Sb.keep)
end

section
variable {prog : Program} {w : World} {A : Around} {s₀ : Shared} {g h : Heap} {body : List Stmt} {scope : Scope} {nm : Str} {L fa c1 c2 c3 : Addr} {cd : Value} {Q : Flow → Heap → Prop}
theorem law_all {l : Addr} {sv : List Value} {script : List Int} (ho : LawIs w body scope) (G : GN w g) (R : Room A 8) (S : St g L [("script", .ref l)] [(c3, CL none), (c2, CL none), (c1, CL none)] h) (hl : g.IsList l sv.toArray) (hi : IntsV sv script) (hlen : script.length ≤ 63)
    (fin : ∀ h', Kp g h' → Q (.ret (.bool true)) h') : Ev prog w A s₀ (execs body (envX nm scope L fa cd [("last", c3), ("right", c2), ("left", c1)])) h Q := by
  refine law_a ho G R S hl hi hlen fun g1 h1 nl ns hns k1 X S1 => ?_
  obtain ⟨ll, rl, tl, nv, lv, rv, tv, nL, nR, t0, t1, Y, P⟩ := lf_open X hns
  refine law_b ho (G.keeps k1) R P Y S1 fun g2 h2 x k2 Y2 Wx S2 => ?_
  refine law_c ho (G.keeps (k1.trans k2)) R P Y2 Wx S2 fun g3 h3 y k3 Y3 Wx3 Wy S3 => ?_
  have G3 : GN w g3 := G.keeps (k1.trans (k2.trans k3))
  refine law_d ho G3 R P Y3 Wx3 Wy S3 fun h4 most tm hk hm S4 => ?_
  refine law_e ho G3 R P Y3 Wx3 Wy hk hm S4 fun g5 h5 hp dl k5 r2 rd Y5 Wx5 Wy5 S5 => ?_
  exact law_f ho (G3.keeps k5) R P Y5 Wx5 Wy5 hk hm r2 rd S5 fun h' k' => fin h' (k1.trans (k2.trans (k3.trans (k5.trans k'))))
theorem ints_of {vs : List Value} {is : List Int} (x : IntsAre vs is) : IntsV vs is := by
  induction x with
  | nil => exact .nil
  | cons _ _ _ ih => exact .cons ih
/-- from the head's frame to the law's end -/
theorem law_end {c : ClaimW} {cl : Str → Option Addr} {mean : ExcName → Option Value} {args : List WData} {s₁ : Shared} {E : Value → Shared → Prop} {tk : Nat} {m : Str → Option Value} {o1 o2 o3 : Obj} {l : Addr} {sv : List Value} {script : List Int}
    {loose : List Str} {mean' : ExcName → Option Value} {mg mb : Str → Option Value} {cells : List (Str × Addr)}
    (ho : LawIs w body scope) (KX : (hd.heap_39 w.params).In s₁.heap) (T : Top hd.view_39 loose mean' mg mb s₁.heap) (F : Fr s₁.heap L h m) (N : News s₁.heap L h [(c3, o3), (c2, o2), (c1, o1)])
    (h3 : o3.data = .cell none) (h2 : o2.data = .cell none) (h1 : o1.data = .cell none) (hn : c3 ≠ c2 ∧ c3 ≠ c1 ∧ c2 ≠ c1) (hL : s₁.heap.get? L = none) (hs : s₁.heap.get? c3 = none ∧ s₁.heap.get? c2 = none ∧ s₁.heap.get? c1 = none)
    (hm : m "script" = some (.ref l)) (hl : s₁.heap.IsList l sv.toArray) (hi : IntsAre sv script) (hlen : script.length ≤ 63) (hcl : cells = ([("last", c3), ("right", c2), ("left", c1)] : List (Str × Addr))) (hg : s₁.gens = #[])
    (hr : ∀ cls, c.raises args cls = false) (hp : c.post args (ofPy (.bool true)) args = true) (hrd : ∀ h', ReadsW c.records cl h' (.bool true) (ofPy (.bool true)) []) :
    wpAny (model prog w) (callerA.deeper (envX nm scope L fa cd cells)) (execs body (envX nm scope L fa cd cells))
      (fun f s' => GoodW c cl mean args s₁ (.ok (.ret (match f with | .ret v => v | _ => .none))) s') E { heap := h, gens := s₁.gens, drawn := s₁.drawn, toks := tk, os := s₁.os } := by
  subst hcl
  have G : GN w s₁.heap := ⟨KX, loose, mean', mg, mb, T⟩
  have S : St s₁.heap L [("script", .ref l)] [(c3, CL none), (c2, CL none), (c1, CL none)] h := by
    refine ⟨⟨m, F.ns, fun x v e => ?_⟩, F.keep, hL, ?_, ?_⟩
    · rw [lookup_cons_if] at e
      split at e
      · rename_i q; rw [q, hm]; exact e
      · cases e
    · intro p hp
      rcases List.mem_cons.mp hp with rfl | hp
      · exact ⟨⟨o3, (N _ (.head _)).1, h3⟩, (N _ (.head _)).2.1, hs.1⟩
      rcases List.mem_cons.mp hp with rfl | hp
      · exact ⟨⟨o2, (N _ (.tail _ (.head _))).1, h2⟩, (N _ (.tail _ (.head _))).2.1, hs.2.1⟩
      · rw [List.mem_singleton.mp hp]
        exact ⟨⟨o1, (N _ (.tail _ (.tail _ (.head _)))).1, h1⟩, (N _ (.tail _ (.tail _ (.head _)))).2.1, hs.2.2⟩
    · simp [hn.1, hn.2.1, hn.2.2]
  refine (law_all (s₀ := s₁) (Q := fun f h' => f = .ret (.bool true) ∧ Kp s₁.heap h') ho G (show Room callerA 9 from ⟨by decide +kernel, by decide +kernel, rfl⟩).deeper S hl (ints_of hi) hlen fun h' k => ⟨rfl, k⟩).use ?_
  rintro f h' tk' ⟨rfl, k⟩
  exact ⟨.inl ⟨.bool true, _, [], rfl, hr, hrd h', hp, fun _ => ⟨.nil, fun _ ha => nomatch ha⟩⟩, k, rfl, hg⟩
end

end Mine
set_option maxHeartbeats 8000000 in
theorem PySem.Challenge.cw_mq0286_01_holds : PySem.Challenge.rw_mq0286_01.Holds := by
  refine Mine.hd ?_
  k_go0
  (with_reducible rename CellsAre _ _ _ => X0)
  obtain ⟨o3, o2, o1, hE, d3, d2, d1⟩ := CellsAre.three X0
  clear X0
  injection hE with e3 hE
  injection hE with e2 hE
  injection hE with e1 hE
  injection e3 with _ e3
  injection e2 with _ e2
  injection e1 with _ e1
  subst e3 e2 e1
  (with_reducible rename News _ _ _ _ => N0)
  (with_reducible rename Fr _ _ _ _ => F0)
  (with_reducible rename Top _ _ _ _ _ _ => T0)
  (with_reducible rename Frag.In _ _ => KX)
  (with_reducible rename IntsAre _ _ => hI)
  (with_reducible rename Heap.IsList _ _ _ => hL)
  refine Mine.law_end ?ho KX T0 F0 N0 ?h3 ?h2 ?h1 ?hn ?hL ?hs ?hm hL hI ?hlen ?hcl ?hg ?hr ?hp ?hrd
  case ho => exact ⟨_, _, _, _, _, _, _, _, _, _, _, _, _, by k_is⟩
  case h3 => exact d3
  case h2 => exact d2
  case h1 => exact d1
  case hn => exact (fun n : Nat => (⟨by omega, by omega, by omega⟩ : n + 1 + 1 + 1 ≠ n + 1 + 1 ∧ n + 1 + 1 + 1 ≠ n + 1 ∧ n + 1 + 1 ≠ n + 1)) _
  case hL => exact Heap.get?_none_of_le (Nat.le_refl _)
  case hs => exact ⟨Heap.get?_none_of_le (by first | exact Nat.le_add_right _ 3 | exact Nat.le_add_right _ 2 | exact Nat.le_add_right _ 1), Heap.get?_none_of_le (by first | exact Nat.le_add_right _ 3 | exact Nat.le_add_right _ 2 | exact Nat.le_add_right _ 1), Heap.get?_none_of_le (by first | exact Nat.le_add_right _ 3 | exact Nat.le_add_right _ 2 | exact Nat.le_add_right _ 1)⟩
  case hm => exact rfl
  case hlen => omega
  case hcl => exact rfl
  case hg => assumption
  case hr => intro cls; rfl
  case hp => wrow_post
  case hrd => intro h'; exact ReadsW.bool _
